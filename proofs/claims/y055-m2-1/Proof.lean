import JvmDerived
import JvmDerived.Pilot.@@N@@Statement
import JvmDerived.Pilot.@@N@@Code
set_option linter.unusedVariables false
set_option linter.unusedSimpArgs false
namespace Jvm.Pilot.@@N@@
open Jvm Jvm.ClassFile Sem Op Lib Jvm.Free Jvm.Stand Jvm.LawKit Jvm.RoadKit Bundle Jvm.Pilot.@@N@@.Jvm.D
/-! the run comes to an end that answers Q -/
def Go (p : Program) (e : Env) (below : List Frame) (Q : Outcome → State → Prop) (T : State) (g : JFrame) : Prop :=
  ∃ s₂ o, Steps p.tables e below (T.setTop g) s₂ ∧ s₂.status = .running ∧ Ended s₂ below o ∧ Q o s₂
section Own
variable {p : Program} {l : Launch} {e : Env} {R : Room} {s : State} {m : MethodId} {args : Array Value} {below : List Frame} {meth : Method} {c : Code} {T T' : State} {locs : List Loc} {cells slots : Nat} {Q : Outcome → State → Prop} {g g' : JFrame}
theorem Go.of (k : ∀ t, Steps p.tables e below (T'.setTop g') t → Steps p.tables e below (T.setTop g) t) (h : Go p e below Q T' g') : Go p e below Q T g := by
  obtain ⟨u, o, h1, h2⟩ := h
  exact ⟨u, o, k _ h1, h2⟩
theorem Go.via (k : Steps p.tables e below (T.setTop g) (T'.setTop g')) (h : Go p e below Q T' g') : Go p e below Q T g := by
  obtain ⟨u, o, h1, h2⟩ := h
  exact ⟨u, o, k.trans h1, h2⟩
theorem Go.cast (q : g = g') (h : Go p e below Q T g') : Go p e below Q T g := q ▸ h
theorem own_out (X : Stand p l e R s m args below meth c T locs cells slots) {v : Option Value} (hv : meth.sig.returnType = none → v = none) (hlocks : meth.locks = false)
    (k : ∀ fs : List Frame, (∀ (f : JFrame) (acts : List Action), f.method = m → f.locked = none → f.entered = [] → (doReturn e (T.setTop f) acts v).1 = T.setFrames fs) → Steps p.tables e below (T.setTop g) (T.setFrames fs))
    (hQ : ∀ u : State, u.heap = T.heap → FrameEnd s (.returned v) u locs cells slots → Q (.returned v) u) : Go p e below Q T g := by
  obtain ⟨fs, hr, hrun, hended, hW, hsame⟩ := X.leave hv hlocks
  exact ⟨_, _, k fs hr, hrun, hended, hQ _ rfl ⟨⟨_, rfl⟩, hW, hsame⟩⟩
theorem own_retN (X : Stand p l e R s m args below meth c T locs cells slots) (hx : p.tables.exec = Jvm.exec) (hlocks : meth.locks = false) {pc : Nat} {Ls : Array Slot} {z : Int32} {t : FieldType} {rest : List Value} (hret : meth.sig.returnType = some t) (ht : t = .boolean ∨ t = .byte ∨ t = .char ∨ t = .short)
    (hd : decode c.code pc = .ok (.ireturn, 1)) (hQ : ∀ u : State, u.heap = T.heap → FrameEnd s (.returned (some (.int (nar t z)))) u locs cells slots → Q (.returned (some (.int (nar t z)))) u) : Go p e below Q T (mkF m pc Ls (.int z :: rest)) :=
  own_out X (fun h => by rw [hret] at h; cases h) hlocks (fun fs hr => retN X hx hret ht hd hr) hQ
theorem own_retW (X : Stand p l e R s m args below meth c T locs cells slots) (hx : p.tables.exec = Jvm.exec) (hlocks : meth.locks = false) {pc : Nat} {Ls : Array Slot} {w : Value} {t : FieldType} {i : Instr} {rest : List Value} (hret : meth.sig.returnType = some t) (hn : narrow t w = w)
    (hi : (i = .ireturn ∧ (t = .int ∨ t = .boolean ∨ t = .byte ∨ t = .char ∨ t = .short) ∧ ∃ z, w = .int z) ∨ (i = .lreturn ∧ t = .long ∧ ∃ z, w = .long z) ∨ (i = .dreturn ∧ t = .double ∧ ∃ z, w = .double z) ∨ (i = .freturn ∧ t = .float ∧ ∃ z, w = .float z) ∨ (i = .areturn ∧ t.isReference = true ∧ w.isRef = true))
    (hd : decode c.code pc = .ok (i, 1)) (hQ : ∀ u : State, u.heap = T.heap → FrameEnd s (.returned (some w)) u locs cells slots → Q (.returned (some w)) u) : Go p e below Q T (mkF m pc Ls (w :: rest)) :=
  own_out X (fun h => by rw [hret] at h; cases h) hlocks (fun fs hr => retOut X hx hret hn hi hd hr) hQ
theorem own_ret0 (X : Stand p l e R s m args below meth c T locs cells slots) (hx : p.tables.exec = Jvm.exec) (hlocks : meth.locks = false) {pc : Nat} {Ls : Array Slot} (hret : meth.sig.returnType = none)
    (hd : decode c.code pc = .ok (.return_, 1)) (hQ : ∀ u : State, u.heap = T.heap → FrameEnd s (.returned none) u locs cells slots → Q (.returned none) u) : Go p e below Q T (mkF m pc Ls []) :=
  own_out X (fun _ => rfl) hlocks (fun fs hr => X.returnOut hx hret hd hr) hQ
theorem own_mono {o : Outcome} {u : State} {k n k' n' : Nat} (h : FrameEnd s o u locs k n) (hk : k ≤ k') (hn : n ≤ n') : FrameEnd s o u locs k' n' := ⟨h.1, h.2.1, h.2.2.mono hk hn⟩
end Own
theorem d8_0 : decode jdk_29_method_69_code 0 = .ok (.iload_n 0, 1) := by decide +kernel
theorem d8_1 : decode jdk_29_method_69_code 1 = .ok (.iload_n 1, 1) := by decide +kernel
theorem d8_2 : decode jdk_29_method_69_code 2 = .ok (.if_icmp .gt 7, 3) := by decide +kernel
theorem d8_5 : decode jdk_29_method_69_code 5 = .ok (.iload_n 0, 1) := by decide +kernel
theorem d8_6 : decode jdk_29_method_69_code 6 = .ok (.goto 4, 3) := by decide +kernel
theorem d8_9 : decode jdk_29_method_69_code 9 = .ok (.iload_n 1, 1) := by decide +kernel
theorem d8_10 : decode jdk_29_method_69_code 10 = .ok (.ireturn, 1) := by decide +kernel
theorem ef_8 (m : MethodId) (i1 : Int32) (i2 : Int32)  : entryFrame m #[(.int i1), (.int i2)] 2 = mkF m 0 #[.val (.int i1), .val (.int i2)] [] := by
  first | (simp [entryFrame, mkF, argsToLocals, Value.category]; done) | rfl
def F8 (i1 : Int32) (i2 : Int32) : Int32 := (if i2 < i1 then i2 else i1)
def Q8 (Z : State) (i1 : Int32) (i2 : Int32) (h0 : Heap) (n0 : Nat) (v : Option Value) (h : Heap) (L : List Loc) : Prop := v = some (.int (F8 i1 i2)) ∧ Fr n0 L ∧ h = h0
set_option maxRecDepth 65536 in
set_option maxHeartbeats 40000000 in
theorem rm8 (l : Launch) (Z : State) (a0 : Array Value) (hw : ∀ d ∈ tables_1, d.before a0 Z = true) (ws : List Jvm.Cond) (i1 : Int32) (i2 : Int32) (h0 : Heap) (n0 : Nat) (Z0 : n0 ≤ h0.size)  :
    MetFree l (⟨"java/lang/Math", "min", "(II)I"⟩ : MethodName) (head1 (Jvm.Cond.code (⟨"java/lang/Math", "min", "(II)I"⟩ : MethodName) jdk_29_method_69_code 2 (some .int) :: ws) ({ frames := 0, cells := 0, slots := 0, locals := 0 } : Room)) (fun a U => a = #[(.int i1), (.int i2)] ∧ Z.Warmed39 U.vm ∧ U.heap = h0) (fun _ _ _ _ _ => True) (fun _ U o U' => ∃ v L, o = .returned v ∧ Q8 Z i1 i2 h0 n0 v U'.heap L ∧ FrameEnd U o U' L ({ frames := 0, cells := 0, slots := 0, locals := 0 } : Room).cells ({ frames := 0, cells := 0, slots := 0, locals := 0 } : Room).slots) := by
  refine MetFree.of_bodySF (Jvm.Free.JP.mathPlain rfl (by decide +kernel)) hisR ?_
  intro p e s m args below meth c s₁ Bd hml0 hP hK
  obtain ⟨rfl, hZ, hh⟩ := hP
  have hx := Bd.exec
  have hby := Bd.bytes
  have hml : c.maxLocals = 2 := hml0
  have hown : s.vm.findClass "java/lang/Math" = some m.cls := findClass_of_methodNamed Bd.named
  have hnm := (name_of_methodNamed Bd.named Bd.method).1
  have X0 : Stand p l e ({ frames := 0, cells := 0, slots := 0, locals := 0 } : Room) s m #[(.int i1), (.int i2)] below meth c s₁ [] 0 0 := Stand.of_body Bd
  have e0 : s₁.heap = h0 := by rw [← hh, Bd.state]; rfl
  have N0 := Fr.nil n0
  suffices H : ∀ Qo : Outcome → State → Prop, (∀ (v : Option Value) (u : State) (L : List Loc), Q8 Z i1 i2 h0 n0 v u.heap L → FrameEnd s (.returned v) u L ({ frames := 0, cells := 0, slots := 0, locals := 0 } : Room).cells ({ frames := 0, cells := 0, slots := 0, locals := 0 } : Room).slots → Qo (.returned v) u) → Go p e below Qo s₁ (mkF m 0 #[.val (.int i1), .val (.int i2)] []) from
    Go.cast (ef_8 m i1 i2) (H _ fun v u L h1 h2 => ⟨v, L, rfl, h1, h2⟩)
  intro Qo hQo
  show Go p e below Qo s₁ (mkF m 0 #[.val (.int i1), .val (.int i2)] [])
  refine Go.of (fun t k => XS.iloadN X0.here hx rfl (hb hby d8_0) rfl  k) ?_
  show Go p e below Qo s₁ (mkF m 1 #[.val (.int i1), .val (.int i2)] [(.int i1)])
  refine Go.of (fun t k => XS.iloadN X0.here hx rfl (hb hby d8_1) rfl  k) ?_
  show Go p e below Qo s₁ (mkF m 2 #[.val (.int i1), .val (.int i2)] [(.int i2), (.int i1)])
  by_cases hc2_1 : i2 < i1
  · refine Go.of (fun t k => XS.icmpYes X0.here hx rfl (pc0 := 2) (pc' := 9) rfl (hb hby d8_2) rfl (tlt hc2_1).2.2.1 (by decide) (by decide) k) ?_
    show Go p e below Qo s₁ (mkF m 9 #[.val (.int i1), .val (.int i2)] [])
    refine Go.of (fun t k => XS.iloadN X0.here hx rfl (hb hby d8_9) rfl  k) ?_
    show Go p e below Qo s₁ (mkF m 10 #[.val (.int i1), .val (.int i2)] [(.int i2)])
    exact own_retW X0 hx Bd.notSynchronized Bd.returns rfl (Or.inl ⟨rfl, Or.inl rfl, _, rfl⟩) (hb hby d8_10) (fun u hu hF => hQo _ _ _ ⟨by rw [show (F8 i1 i2) = i2 from by rw [F8, if_pos hc2_1]], N0, by rw [hu, e0]⟩ (own_mono hF (by decide) (by decide)))
  · refine Go.of (fun t k => XS.icmpNo X0.here hx rfl (hb hby d8_2) rfl (flt hc2_1).2.2.1 k) ?_
    show Go p e below Qo s₁ (mkF m 5 #[.val (.int i1), .val (.int i2)] [])
    refine Go.of (fun t k => XS.iloadN X0.here hx rfl (hb hby d8_5) rfl  k) ?_
    show Go p e below Qo s₁ (mkF m 6 #[.val (.int i1), .val (.int i2)] [(.int i1)])
    refine Go.of (fun t k => XS.goto X0.here hx rfl (pc0 := 6) (pc' := 10) rfl (hb hby d8_6) (by decide) (by decide) k) ?_
    show Go p e below Qo s₁ (mkF m 10 #[.val (.int i1), .val (.int i2)] [(.int i1)])
    exact own_retW X0 hx Bd.notSynchronized Bd.returns rfl (Or.inl ⟨rfl, Or.inl rfl, _, rfl⟩) (hb hby d8_10) (fun u hu hF => hQo _ _ _ ⟨by rw [show (F8 i1 i2) = i1 from by rw [F8, if_neg hc2_1]], N0, by rw [hu, e0]⟩ (own_mono hF (by decide) (by decide)))
theorem pd_0 : parseMethodDescriptor "(II)I" = some ⟨[.int, .int], some .int⟩ := by decide +kernel
theorem d70_0 : decode jdk_65_method_123_code 0 = .ok (.iload_n 1, 1) := by decide +kernel
theorem d70_1 : decode jdk_65_method_123_code 1 = .ok (.aload_n 0, 1) := by decide +kernel
theorem d70_2 : decode jdk_65_method_123_code 2 = .ok (.arraylength, 1) := by decide +kernel
theorem d70_3 : decode jdk_65_method_123_code 3 = .ok (.if_icmp .ne 11, 3) := by decide +kernel
theorem d70_14 : decode jdk_65_method_123_code 14 = .ok (.iload_n 1, 1) := by decide +kernel
theorem d70_15 : decode jdk_65_method_123_code 15 = .ok (.newarray .int, 2) := by decide +kernel
theorem d70_17 : decode jdk_65_method_123_code 17 = .ok (.astore_n 2, 1) := by decide +kernel
theorem d70_18 : decode jdk_65_method_123_code 18 = .ok (.aload_n 0, 1) := by decide +kernel
theorem d70_19 : decode jdk_65_method_123_code 19 = .ok (.iconst 0, 1) := by decide +kernel
theorem d70_20 : decode jdk_65_method_123_code 20 = .ok (.aload_n 2, 1) := by decide +kernel
theorem d70_21 : decode jdk_65_method_123_code 21 = .ok (.iconst 0, 1) := by decide +kernel
theorem d70_22 : decode jdk_65_method_123_code 22 = .ok (.aload_n 0, 1) := by decide +kernel
theorem d70_23 : decode jdk_65_method_123_code 23 = .ok (.arraylength, 1) := by decide +kernel
theorem d70_24 : decode jdk_65_method_123_code 24 = .ok (.iload_n 1, 1) := by decide +kernel
theorem d70_25 : decode jdk_65_method_123_code 25 = .ok (.invokestatic 304, 3) := by decide +kernel
theorem d70_28 : decode jdk_65_method_123_code 28 = .ok (.invokestatic 150, 3) := by decide +kernel
theorem d70_31 : decode jdk_65_method_123_code 31 = .ok (.aload_n 2, 1) := by decide +kernel
theorem d70_32 : decode jdk_65_method_123_code 32 = .ok (.areturn, 1) := by decide +kernel
theorem pn_0 : plainName "java/util/Arrays" = true := by first | (simp [plainName, overriddenIn]; done) | decide +kernel
theorem ef_70 (m : MethodId) (r1 : Addr) (i1 : Int32)  : entryFrame m #[(.ref r1), (.int i1)] 3 = mkF m 0 #[.val (.ref r1), .val (.int i1), .unset] [] := by
  first | (simp [entryFrame, mkF, argsToLocals, Value.category]; done) | rfl
def Q70 (Z : State) (r1 : Addr) (i1 : Int32) (k_1 : ClassId) (x0 : Int32) (x1 : Int32) (h0 : Heap) (n0 : Nat) (v : Option Value) (h : Heap) (L : List Loc) : Prop := ∃ rb : Addr, ∃ kb : ClassId, v = some (.ref rb) ∧ Fr n0 L ∧ Keep h0 h [] ∧ h0.size ≤ rb ∧ Arv Z h rb kb .int (4 : Int32) [(.int x0), (.int x1), (.int (0 : Int32)), (.int (0 : Int32))] (.int (0 : Int32))
set_option maxRecDepth 65536 in
set_option maxHeartbeats 40000000 in
theorem rm70 (l : Launch) (Z : State) (a0 : Array Value) (hw : ∀ d ∈ tables_1, d.before a0 Z = true) (ws : List Jvm.Cond) (r1 : Addr) (i1 : Int32) (k_1 : ClassId) (x0 : Int32) (x1 : Int32) (h0 : Heap) (n0 : Nat) (Z0 : n0 ≤ h0.size) (f0 : Arv Z h0 r1 k_1 .int (2 : Int32) [(.int x0), (.int x1)] (.int (0 : Int32))) (ho : i1 = (4 : Int32)) :
    MetFree l (⟨"java/util/Arrays", "copyOf", "([II)[I"⟩ : MethodName) (head1 (Jvm.Cond.code (⟨"java/util/Arrays", "copyOf", "([II)[I"⟩ : MethodName) jdk_65_method_123_code 3 (some (.array .int)) :: ws) ({ frames := 1, cells := 1, slots := 4, locals := 18 } : Room)) (fun a U => a = #[(.ref r1), (.int i1)] ∧ Z.Warmed39 U.vm ∧ U.heap = h0) (fun _ _ _ _ _ => True) (fun _ U o U' => ∃ v L, o = .returned v ∧ Q70 Z r1 i1 k_1 x0 x1 h0 n0 v U'.heap L ∧ FrameEnd U o U' L ({ frames := 1, cells := 1, slots := 4, locals := 18 } : Room).cells ({ frames := 1, cells := 1, slots := 4, locals := 18 } : Room).slots) := by
  refine MetFree.of_bodySF (plainFor_of_name pn_0) hisR ?_
  intro p e s m args below meth c s₁ Bd hml0 hP hK
  obtain ⟨rfl, hZ, hh⟩ := hP
  have hx := Bd.exec
  have hby := Bd.bytes
  have hml : c.maxLocals = 3 := hml0
  have hown : s.vm.findClass "java/util/Arrays" = some m.cls := findClass_of_methodNamed Bd.named
  have hnm := (name_of_methodNamed Bd.named Bd.method).1
  have X0 : Stand p l e ({ frames := 1, cells := 1, slots := 4, locals := 18 } : Room) s m #[(.ref r1), (.int i1)] below meth c s₁ [] 0 0 := Stand.of_body Bd
  have e0 : s₁.heap = h0 := by rw [← hh, Bd.state]; rfl
  have N0 := Fr.nil n0
  suffices H : ∀ Qo : Outcome → State → Prop, (∀ (v : Option Value) (u : State) (L : List Loc), Q70 Z r1 i1 k_1 x0 x1 h0 n0 v u.heap L → FrameEnd s (.returned v) u L ({ frames := 1, cells := 1, slots := 4, locals := 18 } : Room).cells ({ frames := 1, cells := 1, slots := 4, locals := 18 } : Room).slots → Qo (.returned v) u) → Go p e below Qo s₁ (mkF m 0 #[.val (.ref r1), .val (.int i1), .unset] []) from
    Go.cast (ef_70 m r1 i1) (H _ fun v u L h1 h2 => ⟨v, L, rfl, h1, h2⟩)
  intro Qo hQo
  subst ho
  show Go p e below Qo s₁ (mkF m 0 #[.val (.ref r1), .val (.int (4 : Int32)), .unset] [])
  refine Go.of (fun t k => XS.iloadN X0.here hx rfl (hb hby d70_0) rfl  k) ?_
  show Go p e below Qo s₁ (mkF m 1 #[.val (.ref r1), .val (.int (4 : Int32)), .unset] [(.int (4 : Int32))])
  refine Go.of (fun t k => XS.aloadN X0.here hx rfl (hb hby d70_1) rfl rfl k) ?_
  show Go p e below Qo s₁ (mkF m 2 #[.val (.ref r1), .val (.int (4 : Int32)), .unset] [(.ref r1), (.int (4 : Int32))])
  have cpo1 := f0
  obtain ⟨clo1, Aro1, qco1, So1, Mo1, Ho1, Go1⟩ := cpo1
  refine Go.of (fun t k => X0.arraylength hx (cell := clo1) (by rw [e0]; exact Aro1.1) (State.isArrayOf_alike hZ.alike Aro1.2.1) (g := (mkF m 2 #[.val (.ref r1), .val (.int (4 : Int32)), .unset] [(.ref r1), (.int (4 : Int32))])) rfl rfl (hb hby d70_2) t k) ?_
  rw [len_of So1 Mo1]
  show Go p e below Qo s₁ (mkF m 3 #[.val (.ref r1), .val (.int (4 : Int32)), .unset] [(.int (2 : Int32)), (.int (4 : Int32))])
  refine Go.of (fun t k => XS.icmpYes X0.here hx rfl (pc0 := 3) (pc' := 14) rfl (hb hby d70_3) rfl (feq (by decide : ¬ ((4 : Int32) = (2 : Int32)))).2 (by decide) (by decide) k) ?_
  show Go p e below Qo s₁ (mkF m 14 #[.val (.ref r1), .val (.int (4 : Int32)), .unset] [])
  refine Go.of (fun t k => XS.iloadN X0.here hx rfl (hb hby d70_14) rfl  k) ?_
  show Go p e below Qo s₁ (mkF m 15 #[.val (.ref r1), .val (.int (4 : Int32)), .unset] [(.int (4 : Int32))])
  obtain ⟨T2, h2, k2, X2, e2, E2, A2, st2⟩ := newP X0 hx hZ (hw _ (List.mem_of_getElem? (i := 9) rfl)) e0 (g := (mkF m 15 #[.val (.ref r1), .val (.int (4 : Int32)), .unset] [(.int (4 : Int32))])) rfl (hb hby d70_15) rfl (by decide) (cap := 4) (by decide) (by decide) (by decide) (by decide)
  obtain ⟨b2, g2⟩ : ∃ z, z = h0.size := ⟨_, rfl⟩
  rw [← g2] at A2 st2
  have ne3 : r1 ≠ b2 := Nat.ne_of_lt (Nat.lt_of_lt_of_le f0.lt (Nat.le_of_eq g2.symm))
  have g4 : n0 ≤ b2 := Nat.le_trans Z0 (Nat.le_of_eq g2.symm)
  have sz5 : h0.size ≤ b2 := Nat.le_trans (Keep.refl h0 []).1 (Nat.le_of_eq g2.symm)
  have q6 : Arv Z h2 r1 k_1 .int (2 : Int32) [(.int x0), (.int x1)] (.int (0 : Int32)) := f0.ext E2
  have Z7 : n0 ≤ h2.size := Nat.le_trans Z0 E2.1
  have K8 : Keep h0 h2 [] := (Keep.refl h0 []).ext E2
  have q9 : Arv Z h2 b2 k2 .int (4 : Int32) [(.int (0 : Int32)), (.int (0 : Int32)), (.int (0 : Int32)), (.int (0 : Int32))] (.int (0 : Int32)) := (Arv.new A2 (by decide)).pad (pad_rep [] (.int (0 : Int32)) 4)
  refine Go.of st2 ?_
  show Go p e below Qo T2 (mkF m 17 #[.val (.ref r1), .val (.int (4 : Int32)), .unset] [(.ref b2)])
  refine Go.of (fun t k => XS.astoreN X2.here hx rfl (hb hby d70_17) rfl rfl (l' := #[.val (.ref r1), .val (.int (4 : Int32)), .val (.ref b2)]) rfl k) ?_
  show Go p e below Qo T2 (mkF m 18 #[.val (.ref r1), .val (.int (4 : Int32)), .val (.ref b2)] [])
  refine Go.of (fun t k => XS.aloadN X2.here hx rfl (hb hby d70_18) rfl rfl k) ?_
  show Go p e below Qo T2 (mkF m 19 #[.val (.ref r1), .val (.int (4 : Int32)), .val (.ref b2)] [(.ref r1)])
  refine Go.of (fun t k => XS.iconst X2.here hx rfl (hb hby d70_19) k) ?_
  show Go p e below Qo T2 (mkF m 20 #[.val (.ref r1), .val (.int (4 : Int32)), .val (.ref b2)] [(.int (0 : Int32)), (.ref r1)])
  refine Go.of (fun t k => XS.aloadN X2.here hx rfl (hb hby d70_20) rfl rfl k) ?_
  show Go p e below Qo T2 (mkF m 21 #[.val (.ref r1), .val (.int (4 : Int32)), .val (.ref b2)] [(.ref b2), (.int (0 : Int32)), (.ref r1)])
  refine Go.of (fun t k => XS.iconst X2.here hx rfl (hb hby d70_21) k) ?_
  show Go p e below Qo T2 (mkF m 22 #[.val (.ref r1), .val (.int (4 : Int32)), .val (.ref b2)] [(.int (0 : Int32)), (.ref b2), (.int (0 : Int32)), (.ref r1)])
  refine Go.of (fun t k => XS.aloadN X2.here hx rfl (hb hby d70_22) rfl rfl k) ?_
  show Go p e below Qo T2 (mkF m 23 #[.val (.ref r1), .val (.int (4 : Int32)), .val (.ref b2)] [(.ref r1), (.int (0 : Int32)), (.ref b2), (.int (0 : Int32)), (.ref r1)])
  have cpo10 := q6
  obtain ⟨clo10, Aro10, qco10, So10, Mo10, Ho10, Go10⟩ := cpo10
  refine Go.of (fun t k => X2.arraylength hx (cell := clo10) (by rw [e2]; exact Aro10.1) (State.isArrayOf_alike hZ.alike Aro10.2.1) (g := (mkF m 23 #[.val (.ref r1), .val (.int (4 : Int32)), .val (.ref b2)] [(.ref r1), (.int (0 : Int32)), (.ref b2), (.int (0 : Int32)), (.ref r1)])) rfl rfl (hb hby d70_23) t k) ?_
  rw [len_of So10 Mo10]
  show Go p e below Qo T2 (mkF m 24 #[.val (.ref r1), .val (.int (4 : Int32)), .val (.ref b2)] [(.int (2 : Int32)), (.int (0 : Int32)), (.ref b2), (.int (0 : Int32)), (.ref r1)])
  refine Go.of (fun t k => XS.iloadN X2.here hx rfl (hb hby d70_24) rfl  k) ?_
  show Go p e below Qo T2 (mkF m 25 #[.val (.ref r1), .val (.int (4 : Int32)), .val (.ref b2)] [(.int (4 : Int32)), (.int (2 : Int32)), (.int (0 : Int32)), (.ref b2), (.int (0 : Int32)), (.ref r1)])
  obtain ⟨_, _, ⟨T11, L11, k11, n11⟩, -, X11, ⟨Lc11, hQ11, l11, y11, z11⟩, st11⟩ := Jvm.LawKit.callS X2 hx (y := (⟨"java/lang/Math", "min", "(II)I"⟩ : MethodName)) hown (mvT hZ (hw _ (List.mem_of_getElem? (i := 38) rfl))) (mvT hZ (hw _ (List.mem_of_getElem? (i := 39) rfl))) (mvT hZ (hw _ (List.mem_of_getElem? (i := 40) rfl))) (mvT hZ (hw _ (List.mem_of_getElem? (i := 41) rfl))) (by decide) (backOf (W := 4) (rm8 l Z a0 hw [] (2 : Int32) (4 : Int32) h2 n0 Z7 ) hZ (hw _ (List.mem_of_getElem? (i := 41) rfl)) (hw _ (List.mem_of_getElem? (i := 40) rfl)) (by decide) (by decide)) (g := (mkF m 25 #[.val (.ref r1), .val (.int (4 : Int32)), .val (.ref b2)] [(.int (4 : Int32)), (.int (2 : Int32)), (.int (0 : Int32)), (.ref b2), (.int (0 : Int32)), (.ref r1)])) rfl (by rw [hml]; rfl) (argsL := [(.int (2 : Int32)), (.int (4 : Int32))]) (rest := [(.int (0 : Int32)), (.ref b2), (.int (0 : Int32)), (.ref r1)]) (lenOf pd_0 rfl) rfl (by show 2 * 0 + _ ≤ _; exact Nat.le_of_eq rfl) (hb hby d70_25) (fun _ _ => ⟨rfl, e2, (by decide : 1 + 0 ≤ _), (by decide : 4 + 0 ≤ _)⟩)
  dsimp only [Pt.U, Pt.locs, Pt.cells, Pt.slots] at X11 l11 y11 z11 st11 hQ11
  subst l11 y11 z11
  obtain ⟨rfl, N12, eh13⟩ := hQ11
  have N14 := Fr.app N0 N12
  refine Go.of st11 ?_
  show Go p e below Qo T11 (mkF m 28 #[.val (.ref r1), .val (.int (4 : Int32)), .val (.ref b2)] [(.int (F8 (2 : Int32) (4 : Int32))), (.int (0 : Int32)), (.ref b2), (.int (0 : Int32)), (.ref r1)])
  rw [show F8 (2 : Int32) (4 : Int32) = (2 : Int32) from by first | rfl | decide]
  show Go p e below Qo T11 (mkF m 28 #[.val (.ref r1), .val (.int (4 : Int32)), .val (.ref b2)] [(.int (2 : Int32)), (.int (0 : Int32)), (.ref b2), (.int (0 : Int32)), (.ref r1)])
  obtain ⟨T15, h15, L15, X15, e15, N18, Kc16, q17, st15⟩ := cpA X11 hx hZ hown (hw _ (List.mem_of_getElem? (i := 42) rfl)) (hw _ (List.mem_of_getElem? (i := 45) rfl)) (hw _ (List.mem_of_getElem? (i := 43) rfl)) (hw _ (List.mem_of_getElem? (i := 44) rfl)) eh13 q6 q9 (us := [(.int x0), (.int x1)]) (Or.inl ⟨rfl, rfl⟩) (by decide) (by decide) (by decide) (by decide) (by decide) rfl (Nat.le_of_ble_eq_true rfl) N14 g4 (g := (mkF m 28 #[.val (.ref r1), .val (.int (4 : Int32)), .val (.ref b2)] [(.int (2 : Int32)), (.int (0 : Int32)), (.ref b2), (.int (0 : Int32)), (.ref r1)])) rfl (by rw [hml]; rfl) (rest := []) rfl (hb hby d70_28) (by decide) (W := 0) (by show 2 * 0 + _ ≤ _; exact Nat.le_of_eq rfl) (by decide)
  have q19 : Arv Z h15 r1 k_1 .int (2 : Int32) [(.int x0), (.int x1)] (.int (0 : Int32)) := q6.keep Kc16 (ninS ne3 nin0)
  have q20 : Arv Z h15 b2 k2 .int (4 : Int32) [(.int x0), (.int x1), (.int (0 : Int32)), (.int (0 : Int32))] (.int (0 : Int32)) := q17
  have Z21 : n0 ≤ h15.size := Nat.le_trans Z7 Kc16.1
  have K22 : Keep h0 h15 [] := K8.trans Kc16 (allS (Or.inr sz5) all0)
  refine Go.of st15 ?_
  show Go p e below Qo T15 (mkF m 31 #[.val (.ref r1), .val (.int (4 : Int32)), .val (.ref b2)] [])
  refine Go.of (fun t k => XS.aloadN X15.here hx rfl (hb hby d70_31) rfl rfl k) ?_
  show Go p e below Qo T15 (mkF m 32 #[.val (.ref r1), .val (.int (4 : Int32)), .val (.ref b2)] [(.ref b2)])
  exact own_retW X15 hx Bd.notSynchronized Bd.returns rfl (Or.inr (Or.inr (Or.inr (Or.inr ⟨rfl, rfl, rfl⟩)))) (hb hby d70_32) (fun u hu hF => hQo _ _ _ ⟨b2, k2, rfl, N18, by rw [hu, e15]; exact K22, sz5, by rw [hu, e15]; exact q20⟩ (own_mono hF (by decide) (by decide)))
theorem d71_0 : decode jdk_65_method_123_code 0 = .ok (.iload_n 1, 1) := by decide +kernel
theorem d71_1 : decode jdk_65_method_123_code 1 = .ok (.aload_n 0, 1) := by decide +kernel
theorem d71_2 : decode jdk_65_method_123_code 2 = .ok (.arraylength, 1) := by decide +kernel
theorem d71_3 : decode jdk_65_method_123_code 3 = .ok (.if_icmp .ne 11, 3) := by decide +kernel
theorem d71_14 : decode jdk_65_method_123_code 14 = .ok (.iload_n 1, 1) := by decide +kernel
theorem d71_15 : decode jdk_65_method_123_code 15 = .ok (.newarray .int, 2) := by decide +kernel
theorem d71_17 : decode jdk_65_method_123_code 17 = .ok (.astore_n 2, 1) := by decide +kernel
theorem d71_18 : decode jdk_65_method_123_code 18 = .ok (.aload_n 0, 1) := by decide +kernel
theorem d71_19 : decode jdk_65_method_123_code 19 = .ok (.iconst 0, 1) := by decide +kernel
theorem d71_20 : decode jdk_65_method_123_code 20 = .ok (.aload_n 2, 1) := by decide +kernel
theorem d71_21 : decode jdk_65_method_123_code 21 = .ok (.iconst 0, 1) := by decide +kernel
theorem d71_22 : decode jdk_65_method_123_code 22 = .ok (.aload_n 0, 1) := by decide +kernel
theorem d71_23 : decode jdk_65_method_123_code 23 = .ok (.arraylength, 1) := by decide +kernel
theorem d71_24 : decode jdk_65_method_123_code 24 = .ok (.iload_n 1, 1) := by decide +kernel
theorem d71_25 : decode jdk_65_method_123_code 25 = .ok (.invokestatic 304, 3) := by decide +kernel
theorem d71_28 : decode jdk_65_method_123_code 28 = .ok (.invokestatic 150, 3) := by decide +kernel
theorem d71_31 : decode jdk_65_method_123_code 31 = .ok (.aload_n 2, 1) := by decide +kernel
theorem d71_32 : decode jdk_65_method_123_code 32 = .ok (.areturn, 1) := by decide +kernel
theorem ef_71 (m : MethodId) (r1 : Addr) (i1 : Int32)  : entryFrame m #[(.ref r1), (.int i1)] 3 = mkF m 0 #[.val (.ref r1), .val (.int i1), .unset] [] := by
  first | (simp [entryFrame, mkF, argsToLocals, Value.category]; done) | rfl
def Q71 (Z : State) (r1 : Addr) (i1 : Int32) (k_1 : ClassId) (x0 : Int32) (x1 : Int32) (h0 : Heap) (n0 : Nat) (v : Option Value) (h : Heap) (L : List Loc) : Prop := ∃ rb : Addr, ∃ kb : ClassId, v = some (.ref rb) ∧ Fr n0 L ∧ Keep h0 h [] ∧ h0.size ≤ rb ∧ Arv Z h rb kb .int (0 : Int32) [] (.int (0 : Int32))
set_option maxRecDepth 65536 in
set_option maxHeartbeats 40000000 in
theorem rm71 (l : Launch) (Z : State) (a0 : Array Value) (hw : ∀ d ∈ tables_1, d.before a0 Z = true) (ws : List Jvm.Cond) (r1 : Addr) (i1 : Int32) (k_1 : ClassId) (x0 : Int32) (x1 : Int32) (h0 : Heap) (n0 : Nat) (Z0 : n0 ≤ h0.size) (f0 : Arv Z h0 r1 k_1 .int (2 : Int32) [(.int x0), (.int x1)] (.int (0 : Int32))) (ho : i1 = (0 : Int32)) :
    MetFree l (⟨"java/util/Arrays", "copyOf", "([II)[I"⟩ : MethodName) (head1 (Jvm.Cond.code (⟨"java/util/Arrays", "copyOf", "([II)[I"⟩ : MethodName) jdk_65_method_123_code 3 (some (.array .int)) :: ws) ({ frames := 1, cells := 1, slots := 0, locals := 18 } : Room)) (fun a U => a = #[(.ref r1), (.int i1)] ∧ Z.Warmed39 U.vm ∧ U.heap = h0) (fun _ _ _ _ _ => True) (fun _ U o U' => ∃ v L, o = .returned v ∧ Q71 Z r1 i1 k_1 x0 x1 h0 n0 v U'.heap L ∧ FrameEnd U o U' L ({ frames := 1, cells := 1, slots := 0, locals := 18 } : Room).cells ({ frames := 1, cells := 1, slots := 0, locals := 18 } : Room).slots) := by
  refine MetFree.of_bodySF (plainFor_of_name pn_0) hisR ?_
  intro p e s m args below meth c s₁ Bd hml0 hP hK
  obtain ⟨rfl, hZ, hh⟩ := hP
  have hx := Bd.exec
  have hby := Bd.bytes
  have hml : c.maxLocals = 3 := hml0
  have hown : s.vm.findClass "java/util/Arrays" = some m.cls := findClass_of_methodNamed Bd.named
  have hnm := (name_of_methodNamed Bd.named Bd.method).1
  have X0 : Stand p l e ({ frames := 1, cells := 1, slots := 0, locals := 18 } : Room) s m #[(.ref r1), (.int i1)] below meth c s₁ [] 0 0 := Stand.of_body Bd
  have e0 : s₁.heap = h0 := by rw [← hh, Bd.state]; rfl
  have N0 := Fr.nil n0
  suffices H : ∀ Qo : Outcome → State → Prop, (∀ (v : Option Value) (u : State) (L : List Loc), Q71 Z r1 i1 k_1 x0 x1 h0 n0 v u.heap L → FrameEnd s (.returned v) u L ({ frames := 1, cells := 1, slots := 0, locals := 18 } : Room).cells ({ frames := 1, cells := 1, slots := 0, locals := 18 } : Room).slots → Qo (.returned v) u) → Go p e below Qo s₁ (mkF m 0 #[.val (.ref r1), .val (.int i1), .unset] []) from
    Go.cast (ef_71 m r1 i1) (H _ fun v u L h1 h2 => ⟨v, L, rfl, h1, h2⟩)
  intro Qo hQo
  subst ho
  show Go p e below Qo s₁ (mkF m 0 #[.val (.ref r1), .val (.int (0 : Int32)), .unset] [])
  refine Go.of (fun t k => XS.iloadN X0.here hx rfl (hb hby d71_0) rfl  k) ?_
  show Go p e below Qo s₁ (mkF m 1 #[.val (.ref r1), .val (.int (0 : Int32)), .unset] [(.int (0 : Int32))])
  refine Go.of (fun t k => XS.aloadN X0.here hx rfl (hb hby d71_1) rfl rfl k) ?_
  show Go p e below Qo s₁ (mkF m 2 #[.val (.ref r1), .val (.int (0 : Int32)), .unset] [(.ref r1), (.int (0 : Int32))])
  have cpo1 := f0
  obtain ⟨clo1, Aro1, qco1, So1, Mo1, Ho1, Go1⟩ := cpo1
  refine Go.of (fun t k => X0.arraylength hx (cell := clo1) (by rw [e0]; exact Aro1.1) (State.isArrayOf_alike hZ.alike Aro1.2.1) (g := (mkF m 2 #[.val (.ref r1), .val (.int (0 : Int32)), .unset] [(.ref r1), (.int (0 : Int32))])) rfl rfl (hb hby d71_2) t k) ?_
  rw [len_of So1 Mo1]
  show Go p e below Qo s₁ (mkF m 3 #[.val (.ref r1), .val (.int (0 : Int32)), .unset] [(.int (2 : Int32)), (.int (0 : Int32))])
  refine Go.of (fun t k => XS.icmpYes X0.here hx rfl (pc0 := 3) (pc' := 14) rfl (hb hby d71_3) rfl (feq (by decide : ¬ ((0 : Int32) = (2 : Int32)))).2 (by decide) (by decide) k) ?_
  show Go p e below Qo s₁ (mkF m 14 #[.val (.ref r1), .val (.int (0 : Int32)), .unset] [])
  refine Go.of (fun t k => XS.iloadN X0.here hx rfl (hb hby d71_14) rfl  k) ?_
  show Go p e below Qo s₁ (mkF m 15 #[.val (.ref r1), .val (.int (0 : Int32)), .unset] [(.int (0 : Int32))])
  obtain ⟨T2, h2, k2, X2, e2, E2, A2, st2⟩ := newP X0 hx hZ (hw _ (List.mem_of_getElem? (i := 9) rfl)) e0 (g := (mkF m 15 #[.val (.ref r1), .val (.int (0 : Int32)), .unset] [(.int (0 : Int32))])) rfl (hb hby d71_15) rfl (by decide) (cap := 0) (by decide) (by decide) (by decide) (by decide)
  obtain ⟨b2, g2⟩ : ∃ z, z = h0.size := ⟨_, rfl⟩
  rw [← g2] at A2 st2
  have ne3 : r1 ≠ b2 := Nat.ne_of_lt (Nat.lt_of_lt_of_le f0.lt (Nat.le_of_eq g2.symm))
  have g4 : n0 ≤ b2 := Nat.le_trans Z0 (Nat.le_of_eq g2.symm)
  have sz5 : h0.size ≤ b2 := Nat.le_trans (Keep.refl h0 []).1 (Nat.le_of_eq g2.symm)
  have q6 : Arv Z h2 r1 k_1 .int (2 : Int32) [(.int x0), (.int x1)] (.int (0 : Int32)) := f0.ext E2
  have Z7 : n0 ≤ h2.size := Nat.le_trans Z0 E2.1
  have K8 : Keep h0 h2 [] := (Keep.refl h0 []).ext E2
  have q9 : Arv Z h2 b2 k2 .int (0 : Int32) [] (.int (0 : Int32)) := (Arv.new A2 (by decide)).pad (pad_rep [] (.int (0 : Int32)) 0)
  refine Go.of st2 ?_
  show Go p e below Qo T2 (mkF m 17 #[.val (.ref r1), .val (.int (0 : Int32)), .unset] [(.ref b2)])
  refine Go.of (fun t k => XS.astoreN X2.here hx rfl (hb hby d71_17) rfl rfl (l' := #[.val (.ref r1), .val (.int (0 : Int32)), .val (.ref b2)]) rfl k) ?_
  show Go p e below Qo T2 (mkF m 18 #[.val (.ref r1), .val (.int (0 : Int32)), .val (.ref b2)] [])
  refine Go.of (fun t k => XS.aloadN X2.here hx rfl (hb hby d71_18) rfl rfl k) ?_
  show Go p e below Qo T2 (mkF m 19 #[.val (.ref r1), .val (.int (0 : Int32)), .val (.ref b2)] [(.ref r1)])
  refine Go.of (fun t k => XS.iconst X2.here hx rfl (hb hby d71_19) k) ?_
  show Go p e below Qo T2 (mkF m 20 #[.val (.ref r1), .val (.int (0 : Int32)), .val (.ref b2)] [(.int (0 : Int32)), (.ref r1)])
  refine Go.of (fun t k => XS.aloadN X2.here hx rfl (hb hby d71_20) rfl rfl k) ?_
  show Go p e below Qo T2 (mkF m 21 #[.val (.ref r1), .val (.int (0 : Int32)), .val (.ref b2)] [(.ref b2), (.int (0 : Int32)), (.ref r1)])
  refine Go.of (fun t k => XS.iconst X2.here hx rfl (hb hby d71_21) k) ?_
  show Go p e below Qo T2 (mkF m 22 #[.val (.ref r1), .val (.int (0 : Int32)), .val (.ref b2)] [(.int (0 : Int32)), (.ref b2), (.int (0 : Int32)), (.ref r1)])
  refine Go.of (fun t k => XS.aloadN X2.here hx rfl (hb hby d71_22) rfl rfl k) ?_
  show Go p e below Qo T2 (mkF m 23 #[.val (.ref r1), .val (.int (0 : Int32)), .val (.ref b2)] [(.ref r1), (.int (0 : Int32)), (.ref b2), (.int (0 : Int32)), (.ref r1)])
  have cpo10 := q6
  obtain ⟨clo10, Aro10, qco10, So10, Mo10, Ho10, Go10⟩ := cpo10
  refine Go.of (fun t k => X2.arraylength hx (cell := clo10) (by rw [e2]; exact Aro10.1) (State.isArrayOf_alike hZ.alike Aro10.2.1) (g := (mkF m 23 #[.val (.ref r1), .val (.int (0 : Int32)), .val (.ref b2)] [(.ref r1), (.int (0 : Int32)), (.ref b2), (.int (0 : Int32)), (.ref r1)])) rfl rfl (hb hby d71_23) t k) ?_
  rw [len_of So10 Mo10]
  show Go p e below Qo T2 (mkF m 24 #[.val (.ref r1), .val (.int (0 : Int32)), .val (.ref b2)] [(.int (2 : Int32)), (.int (0 : Int32)), (.ref b2), (.int (0 : Int32)), (.ref r1)])
  refine Go.of (fun t k => XS.iloadN X2.here hx rfl (hb hby d71_24) rfl  k) ?_
  show Go p e below Qo T2 (mkF m 25 #[.val (.ref r1), .val (.int (0 : Int32)), .val (.ref b2)] [(.int (0 : Int32)), (.int (2 : Int32)), (.int (0 : Int32)), (.ref b2), (.int (0 : Int32)), (.ref r1)])
  obtain ⟨_, _, ⟨T11, L11, k11, n11⟩, -, X11, ⟨Lc11, hQ11, l11, y11, z11⟩, st11⟩ := Jvm.LawKit.callS X2 hx (y := (⟨"java/lang/Math", "min", "(II)I"⟩ : MethodName)) hown (mvT hZ (hw _ (List.mem_of_getElem? (i := 38) rfl))) (mvT hZ (hw _ (List.mem_of_getElem? (i := 39) rfl))) (mvT hZ (hw _ (List.mem_of_getElem? (i := 40) rfl))) (mvT hZ (hw _ (List.mem_of_getElem? (i := 41) rfl))) (by decide) (backOf (W := 4) (rm8 l Z a0 hw [] (2 : Int32) (0 : Int32) h2 n0 Z7 ) hZ (hw _ (List.mem_of_getElem? (i := 41) rfl)) (hw _ (List.mem_of_getElem? (i := 40) rfl)) (by decide) (by decide)) (g := (mkF m 25 #[.val (.ref r1), .val (.int (0 : Int32)), .val (.ref b2)] [(.int (0 : Int32)), (.int (2 : Int32)), (.int (0 : Int32)), (.ref b2), (.int (0 : Int32)), (.ref r1)])) rfl (by rw [hml]; rfl) (argsL := [(.int (2 : Int32)), (.int (0 : Int32))]) (rest := [(.int (0 : Int32)), (.ref b2), (.int (0 : Int32)), (.ref r1)]) (lenOf pd_0 rfl) rfl (by show 2 * 0 + _ ≤ _; exact Nat.le_of_eq rfl) (hb hby d71_25) (fun _ _ => ⟨rfl, e2, (by decide : 1 + 0 ≤ _), (by decide : 0 + 0 ≤ _)⟩)
  dsimp only [Pt.U, Pt.locs, Pt.cells, Pt.slots] at X11 l11 y11 z11 st11 hQ11
  subst l11 y11 z11
  obtain ⟨rfl, N12, eh13⟩ := hQ11
  have N14 := Fr.app N0 N12
  refine Go.of st11 ?_
  show Go p e below Qo T11 (mkF m 28 #[.val (.ref r1), .val (.int (0 : Int32)), .val (.ref b2)] [(.int (F8 (2 : Int32) (0 : Int32))), (.int (0 : Int32)), (.ref b2), (.int (0 : Int32)), (.ref r1)])
  rw [show F8 (2 : Int32) (0 : Int32) = (0 : Int32) from by first | rfl | decide]
  show Go p e below Qo T11 (mkF m 28 #[.val (.ref r1), .val (.int (0 : Int32)), .val (.ref b2)] [(.int (0 : Int32)), (.int (0 : Int32)), (.ref b2), (.int (0 : Int32)), (.ref r1)])
  obtain ⟨T15, h15, L15, X15, e15, N18, Kc16, q17, st15⟩ := cpA X11 hx hZ hown (hw _ (List.mem_of_getElem? (i := 42) rfl)) (hw _ (List.mem_of_getElem? (i := 45) rfl)) (hw _ (List.mem_of_getElem? (i := 43) rfl)) (hw _ (List.mem_of_getElem? (i := 44) rfl)) eh13 q6 q9 (us := []) (Or.inl ⟨rfl, rfl⟩) (by decide) (by decide) (by decide) (by decide) (by decide) rfl (Nat.le_of_ble_eq_true rfl) N14 g4 (g := (mkF m 28 #[.val (.ref r1), .val (.int (0 : Int32)), .val (.ref b2)] [(.int (0 : Int32)), (.int (0 : Int32)), (.ref b2), (.int (0 : Int32)), (.ref r1)])) rfl (by rw [hml]; rfl) (rest := []) rfl (hb hby d71_28) (by decide) (W := 0) (by show 2 * 0 + _ ≤ _; exact Nat.le_of_eq rfl) (by decide)
  have q19 : Arv Z h15 r1 k_1 .int (2 : Int32) [(.int x0), (.int x1)] (.int (0 : Int32)) := q6.keep Kc16 (ninS ne3 nin0)
  have q20 : Arv Z h15 b2 k2 .int (0 : Int32) [] (.int (0 : Int32)) := q17
  have Z21 : n0 ≤ h15.size := Nat.le_trans Z7 Kc16.1
  have K22 : Keep h0 h15 [] := K8.trans Kc16 (allS (Or.inr sz5) all0)
  refine Go.of st15 ?_
  show Go p e below Qo T15 (mkF m 31 #[.val (.ref r1), .val (.int (0 : Int32)), .val (.ref b2)] [])
  refine Go.of (fun t k => XS.aloadN X15.here hx rfl (hb hby d71_31) rfl rfl k) ?_
  show Go p e below Qo T15 (mkF m 32 #[.val (.ref r1), .val (.int (0 : Int32)), .val (.ref b2)] [(.ref b2)])
  exact own_retW X15 hx Bd.notSynchronized Bd.returns rfl (Or.inr (Or.inr (Or.inr (Or.inr ⟨rfl, rfl, rfl⟩)))) (hb hby d71_32) (fun u hu hF => hQo _ _ _ ⟨b2, k2, rfl, N18, by rw [hu, e15]; exact K22, sz5, by rw [hu, e15]; exact q20⟩ (own_mono hF (by decide) (by decide)))
theorem d72_0 : decode jdk_65_method_123_code 0 = .ok (.iload_n 1, 1) := by decide +kernel
theorem d72_1 : decode jdk_65_method_123_code 1 = .ok (.aload_n 0, 1) := by decide +kernel
theorem d72_2 : decode jdk_65_method_123_code 2 = .ok (.arraylength, 1) := by decide +kernel
theorem d72_3 : decode jdk_65_method_123_code 3 = .ok (.if_icmp .ne 11, 3) := by decide +kernel
theorem d72_14 : decode jdk_65_method_123_code 14 = .ok (.iload_n 1, 1) := by decide +kernel
theorem d72_15 : decode jdk_65_method_123_code 15 = .ok (.newarray .int, 2) := by decide +kernel
theorem d72_17 : decode jdk_65_method_123_code 17 = .ok (.astore_n 2, 1) := by decide +kernel
theorem d72_18 : decode jdk_65_method_123_code 18 = .ok (.aload_n 0, 1) := by decide +kernel
theorem d72_19 : decode jdk_65_method_123_code 19 = .ok (.iconst 0, 1) := by decide +kernel
theorem d72_20 : decode jdk_65_method_123_code 20 = .ok (.aload_n 2, 1) := by decide +kernel
theorem d72_21 : decode jdk_65_method_123_code 21 = .ok (.iconst 0, 1) := by decide +kernel
theorem d72_22 : decode jdk_65_method_123_code 22 = .ok (.aload_n 0, 1) := by decide +kernel
theorem d72_23 : decode jdk_65_method_123_code 23 = .ok (.arraylength, 1) := by decide +kernel
theorem d72_24 : decode jdk_65_method_123_code 24 = .ok (.iload_n 1, 1) := by decide +kernel
theorem d72_25 : decode jdk_65_method_123_code 25 = .ok (.invokestatic 304, 3) := by decide +kernel
theorem d72_28 : decode jdk_65_method_123_code 28 = .ok (.invokestatic 150, 3) := by decide +kernel
theorem d72_31 : decode jdk_65_method_123_code 31 = .ok (.aload_n 2, 1) := by decide +kernel
theorem d72_32 : decode jdk_65_method_123_code 32 = .ok (.areturn, 1) := by decide +kernel
theorem ef_72 (m : MethodId) (r1 : Addr) (i1 : Int32)  : entryFrame m #[(.ref r1), (.int i1)] 3 = mkF m 0 #[.val (.ref r1), .val (.int i1), .unset] [] := by
  first | (simp [entryFrame, mkF, argsToLocals, Value.category]; done) | rfl
def Q72 (Z : State) (r1 : Addr) (i1 : Int32) (k_1 : ClassId) (x0 : Int32) (x1 : Int32) (h0 : Heap) (n0 : Nat) (v : Option Value) (h : Heap) (L : List Loc) : Prop := ∃ rb : Addr, ∃ kb : ClassId, v = some (.ref rb) ∧ Fr n0 L ∧ Keep h0 h [] ∧ h0.size ≤ rb ∧ Arv Z h rb kb .int (1 : Int32) [(.int x0)] (.int (0 : Int32))
set_option maxRecDepth 65536 in
set_option maxHeartbeats 40000000 in
theorem rm72 (l : Launch) (Z : State) (a0 : Array Value) (hw : ∀ d ∈ tables_1, d.before a0 Z = true) (ws : List Jvm.Cond) (r1 : Addr) (i1 : Int32) (k_1 : ClassId) (x0 : Int32) (x1 : Int32) (h0 : Heap) (n0 : Nat) (Z0 : n0 ≤ h0.size) (f0 : Arv Z h0 r1 k_1 .int (2 : Int32) [(.int x0), (.int x1)] (.int (0 : Int32))) (ho : i1 = (1 : Int32)) :
    MetFree l (⟨"java/util/Arrays", "copyOf", "([II)[I"⟩ : MethodName) (head1 (Jvm.Cond.code (⟨"java/util/Arrays", "copyOf", "([II)[I"⟩ : MethodName) jdk_65_method_123_code 3 (some (.array .int)) :: ws) ({ frames := 1, cells := 1, slots := 1, locals := 18 } : Room)) (fun a U => a = #[(.ref r1), (.int i1)] ∧ Z.Warmed39 U.vm ∧ U.heap = h0) (fun _ _ _ _ _ => True) (fun _ U o U' => ∃ v L, o = .returned v ∧ Q72 Z r1 i1 k_1 x0 x1 h0 n0 v U'.heap L ∧ FrameEnd U o U' L ({ frames := 1, cells := 1, slots := 1, locals := 18 } : Room).cells ({ frames := 1, cells := 1, slots := 1, locals := 18 } : Room).slots) := by
  refine MetFree.of_bodySF (plainFor_of_name pn_0) hisR ?_
  intro p e s m args below meth c s₁ Bd hml0 hP hK
  obtain ⟨rfl, hZ, hh⟩ := hP
  have hx := Bd.exec
  have hby := Bd.bytes
  have hml : c.maxLocals = 3 := hml0
  have hown : s.vm.findClass "java/util/Arrays" = some m.cls := findClass_of_methodNamed Bd.named
  have hnm := (name_of_methodNamed Bd.named Bd.method).1
  have X0 : Stand p l e ({ frames := 1, cells := 1, slots := 1, locals := 18 } : Room) s m #[(.ref r1), (.int i1)] below meth c s₁ [] 0 0 := Stand.of_body Bd
  have e0 : s₁.heap = h0 := by rw [← hh, Bd.state]; rfl
  have N0 := Fr.nil n0
  suffices H : ∀ Qo : Outcome → State → Prop, (∀ (v : Option Value) (u : State) (L : List Loc), Q72 Z r1 i1 k_1 x0 x1 h0 n0 v u.heap L → FrameEnd s (.returned v) u L ({ frames := 1, cells := 1, slots := 1, locals := 18 } : Room).cells ({ frames := 1, cells := 1, slots := 1, locals := 18 } : Room).slots → Qo (.returned v) u) → Go p e below Qo s₁ (mkF m 0 #[.val (.ref r1), .val (.int i1), .unset] []) from
    Go.cast (ef_72 m r1 i1) (H _ fun v u L h1 h2 => ⟨v, L, rfl, h1, h2⟩)
  intro Qo hQo
  subst ho
  show Go p e below Qo s₁ (mkF m 0 #[.val (.ref r1), .val (.int (1 : Int32)), .unset] [])
  refine Go.of (fun t k => XS.iloadN X0.here hx rfl (hb hby d72_0) rfl  k) ?_
  show Go p e below Qo s₁ (mkF m 1 #[.val (.ref r1), .val (.int (1 : Int32)), .unset] [(.int (1 : Int32))])
  refine Go.of (fun t k => XS.aloadN X0.here hx rfl (hb hby d72_1) rfl rfl k) ?_
  show Go p e below Qo s₁ (mkF m 2 #[.val (.ref r1), .val (.int (1 : Int32)), .unset] [(.ref r1), (.int (1 : Int32))])
  have cpo1 := f0
  obtain ⟨clo1, Aro1, qco1, So1, Mo1, Ho1, Go1⟩ := cpo1
  refine Go.of (fun t k => X0.arraylength hx (cell := clo1) (by rw [e0]; exact Aro1.1) (State.isArrayOf_alike hZ.alike Aro1.2.1) (g := (mkF m 2 #[.val (.ref r1), .val (.int (1 : Int32)), .unset] [(.ref r1), (.int (1 : Int32))])) rfl rfl (hb hby d72_2) t k) ?_
  rw [len_of So1 Mo1]
  show Go p e below Qo s₁ (mkF m 3 #[.val (.ref r1), .val (.int (1 : Int32)), .unset] [(.int (2 : Int32)), (.int (1 : Int32))])
  refine Go.of (fun t k => XS.icmpYes X0.here hx rfl (pc0 := 3) (pc' := 14) rfl (hb hby d72_3) rfl (feq (by decide : ¬ ((1 : Int32) = (2 : Int32)))).2 (by decide) (by decide) k) ?_
  show Go p e below Qo s₁ (mkF m 14 #[.val (.ref r1), .val (.int (1 : Int32)), .unset] [])
  refine Go.of (fun t k => XS.iloadN X0.here hx rfl (hb hby d72_14) rfl  k) ?_
  show Go p e below Qo s₁ (mkF m 15 #[.val (.ref r1), .val (.int (1 : Int32)), .unset] [(.int (1 : Int32))])
  obtain ⟨T2, h2, k2, X2, e2, E2, A2, st2⟩ := newP X0 hx hZ (hw _ (List.mem_of_getElem? (i := 9) rfl)) e0 (g := (mkF m 15 #[.val (.ref r1), .val (.int (1 : Int32)), .unset] [(.int (1 : Int32))])) rfl (hb hby d72_15) rfl (by decide) (cap := 1) (by decide) (by decide) (by decide) (by decide)
  obtain ⟨b2, g2⟩ : ∃ z, z = h0.size := ⟨_, rfl⟩
  rw [← g2] at A2 st2
  have ne3 : r1 ≠ b2 := Nat.ne_of_lt (Nat.lt_of_lt_of_le f0.lt (Nat.le_of_eq g2.symm))
  have g4 : n0 ≤ b2 := Nat.le_trans Z0 (Nat.le_of_eq g2.symm)
  have sz5 : h0.size ≤ b2 := Nat.le_trans (Keep.refl h0 []).1 (Nat.le_of_eq g2.symm)
  have q6 : Arv Z h2 r1 k_1 .int (2 : Int32) [(.int x0), (.int x1)] (.int (0 : Int32)) := f0.ext E2
  have Z7 : n0 ≤ h2.size := Nat.le_trans Z0 E2.1
  have K8 : Keep h0 h2 [] := (Keep.refl h0 []).ext E2
  have q9 : Arv Z h2 b2 k2 .int (1 : Int32) [(.int (0 : Int32))] (.int (0 : Int32)) := (Arv.new A2 (by decide)).pad (pad_rep [] (.int (0 : Int32)) 1)
  refine Go.of st2 ?_
  show Go p e below Qo T2 (mkF m 17 #[.val (.ref r1), .val (.int (1 : Int32)), .unset] [(.ref b2)])
  refine Go.of (fun t k => XS.astoreN X2.here hx rfl (hb hby d72_17) rfl rfl (l' := #[.val (.ref r1), .val (.int (1 : Int32)), .val (.ref b2)]) rfl k) ?_
  show Go p e below Qo T2 (mkF m 18 #[.val (.ref r1), .val (.int (1 : Int32)), .val (.ref b2)] [])
  refine Go.of (fun t k => XS.aloadN X2.here hx rfl (hb hby d72_18) rfl rfl k) ?_
  show Go p e below Qo T2 (mkF m 19 #[.val (.ref r1), .val (.int (1 : Int32)), .val (.ref b2)] [(.ref r1)])
  refine Go.of (fun t k => XS.iconst X2.here hx rfl (hb hby d72_19) k) ?_
  show Go p e below Qo T2 (mkF m 20 #[.val (.ref r1), .val (.int (1 : Int32)), .val (.ref b2)] [(.int (0 : Int32)), (.ref r1)])
  refine Go.of (fun t k => XS.aloadN X2.here hx rfl (hb hby d72_20) rfl rfl k) ?_
  show Go p e below Qo T2 (mkF m 21 #[.val (.ref r1), .val (.int (1 : Int32)), .val (.ref b2)] [(.ref b2), (.int (0 : Int32)), (.ref r1)])
  refine Go.of (fun t k => XS.iconst X2.here hx rfl (hb hby d72_21) k) ?_
  show Go p e below Qo T2 (mkF m 22 #[.val (.ref r1), .val (.int (1 : Int32)), .val (.ref b2)] [(.int (0 : Int32)), (.ref b2), (.int (0 : Int32)), (.ref r1)])
  refine Go.of (fun t k => XS.aloadN X2.here hx rfl (hb hby d72_22) rfl rfl k) ?_
  show Go p e below Qo T2 (mkF m 23 #[.val (.ref r1), .val (.int (1 : Int32)), .val (.ref b2)] [(.ref r1), (.int (0 : Int32)), (.ref b2), (.int (0 : Int32)), (.ref r1)])
  have cpo10 := q6
  obtain ⟨clo10, Aro10, qco10, So10, Mo10, Ho10, Go10⟩ := cpo10
  refine Go.of (fun t k => X2.arraylength hx (cell := clo10) (by rw [e2]; exact Aro10.1) (State.isArrayOf_alike hZ.alike Aro10.2.1) (g := (mkF m 23 #[.val (.ref r1), .val (.int (1 : Int32)), .val (.ref b2)] [(.ref r1), (.int (0 : Int32)), (.ref b2), (.int (0 : Int32)), (.ref r1)])) rfl rfl (hb hby d72_23) t k) ?_
  rw [len_of So10 Mo10]
  show Go p e below Qo T2 (mkF m 24 #[.val (.ref r1), .val (.int (1 : Int32)), .val (.ref b2)] [(.int (2 : Int32)), (.int (0 : Int32)), (.ref b2), (.int (0 : Int32)), (.ref r1)])
  refine Go.of (fun t k => XS.iloadN X2.here hx rfl (hb hby d72_24) rfl  k) ?_
  show Go p e below Qo T2 (mkF m 25 #[.val (.ref r1), .val (.int (1 : Int32)), .val (.ref b2)] [(.int (1 : Int32)), (.int (2 : Int32)), (.int (0 : Int32)), (.ref b2), (.int (0 : Int32)), (.ref r1)])
  obtain ⟨_, _, ⟨T11, L11, k11, n11⟩, -, X11, ⟨Lc11, hQ11, l11, y11, z11⟩, st11⟩ := Jvm.LawKit.callS X2 hx (y := (⟨"java/lang/Math", "min", "(II)I"⟩ : MethodName)) hown (mvT hZ (hw _ (List.mem_of_getElem? (i := 38) rfl))) (mvT hZ (hw _ (List.mem_of_getElem? (i := 39) rfl))) (mvT hZ (hw _ (List.mem_of_getElem? (i := 40) rfl))) (mvT hZ (hw _ (List.mem_of_getElem? (i := 41) rfl))) (by decide) (backOf (W := 4) (rm8 l Z a0 hw [] (2 : Int32) (1 : Int32) h2 n0 Z7 ) hZ (hw _ (List.mem_of_getElem? (i := 41) rfl)) (hw _ (List.mem_of_getElem? (i := 40) rfl)) (by decide) (by decide)) (g := (mkF m 25 #[.val (.ref r1), .val (.int (1 : Int32)), .val (.ref b2)] [(.int (1 : Int32)), (.int (2 : Int32)), (.int (0 : Int32)), (.ref b2), (.int (0 : Int32)), (.ref r1)])) rfl (by rw [hml]; rfl) (argsL := [(.int (2 : Int32)), (.int (1 : Int32))]) (rest := [(.int (0 : Int32)), (.ref b2), (.int (0 : Int32)), (.ref r1)]) (lenOf pd_0 rfl) rfl (by show 2 * 0 + _ ≤ _; exact Nat.le_of_eq rfl) (hb hby d72_25) (fun _ _ => ⟨rfl, e2, (by decide : 1 + 0 ≤ _), (by decide : 1 + 0 ≤ _)⟩)
  dsimp only [Pt.U, Pt.locs, Pt.cells, Pt.slots] at X11 l11 y11 z11 st11 hQ11
  subst l11 y11 z11
  obtain ⟨rfl, N12, eh13⟩ := hQ11
  have N14 := Fr.app N0 N12
  refine Go.of st11 ?_
  show Go p e below Qo T11 (mkF m 28 #[.val (.ref r1), .val (.int (1 : Int32)), .val (.ref b2)] [(.int (F8 (2 : Int32) (1 : Int32))), (.int (0 : Int32)), (.ref b2), (.int (0 : Int32)), (.ref r1)])
  rw [show F8 (2 : Int32) (1 : Int32) = (1 : Int32) from by first | rfl | decide]
  show Go p e below Qo T11 (mkF m 28 #[.val (.ref r1), .val (.int (1 : Int32)), .val (.ref b2)] [(.int (1 : Int32)), (.int (0 : Int32)), (.ref b2), (.int (0 : Int32)), (.ref r1)])
  obtain ⟨T15, h15, L15, X15, e15, N18, Kc16, q17, st15⟩ := cpA X11 hx hZ hown (hw _ (List.mem_of_getElem? (i := 42) rfl)) (hw _ (List.mem_of_getElem? (i := 45) rfl)) (hw _ (List.mem_of_getElem? (i := 43) rfl)) (hw _ (List.mem_of_getElem? (i := 44) rfl)) eh13 q6 q9 (us := [(.int x0)]) (Or.inl ⟨rfl, rfl⟩) (by decide) (by decide) (by decide) (by decide) (by decide) rfl (Nat.le_of_ble_eq_true rfl) N14 g4 (g := (mkF m 28 #[.val (.ref r1), .val (.int (1 : Int32)), .val (.ref b2)] [(.int (1 : Int32)), (.int (0 : Int32)), (.ref b2), (.int (0 : Int32)), (.ref r1)])) rfl (by rw [hml]; rfl) (rest := []) rfl (hb hby d72_28) (by decide) (W := 0) (by show 2 * 0 + _ ≤ _; exact Nat.le_of_eq rfl) (by decide)
  have q19 : Arv Z h15 r1 k_1 .int (2 : Int32) [(.int x0), (.int x1)] (.int (0 : Int32)) := q6.keep Kc16 (ninS ne3 nin0)
  have q20 : Arv Z h15 b2 k2 .int (1 : Int32) [(.int x0)] (.int (0 : Int32)) := q17
  have Z21 : n0 ≤ h15.size := Nat.le_trans Z7 Kc16.1
  have K22 : Keep h0 h15 [] := K8.trans Kc16 (allS (Or.inr sz5) all0)
  refine Go.of st15 ?_
  show Go p e below Qo T15 (mkF m 31 #[.val (.ref r1), .val (.int (1 : Int32)), .val (.ref b2)] [])
  refine Go.of (fun t k => XS.aloadN X15.here hx rfl (hb hby d72_31) rfl rfl k) ?_
  show Go p e below Qo T15 (mkF m 32 #[.val (.ref r1), .val (.int (1 : Int32)), .val (.ref b2)] [(.ref b2)])
  exact own_retW X15 hx Bd.notSynchronized Bd.returns rfl (Or.inr (Or.inr (Or.inr (Or.inr ⟨rfl, rfl, rfl⟩)))) (hb hby d72_32) (fun u hu hF => hQo _ _ _ ⟨b2, k2, rfl, N18, by rw [hu, e15]; exact K22, sz5, by rw [hu, e15]; exact q20⟩ (own_mono hF (by decide) (by decide)))
theorem d73_0 : decode jdk_65_method_123_code 0 = .ok (.iload_n 1, 1) := by decide +kernel
theorem d73_1 : decode jdk_65_method_123_code 1 = .ok (.aload_n 0, 1) := by decide +kernel
theorem d73_2 : decode jdk_65_method_123_code 2 = .ok (.arraylength, 1) := by decide +kernel
theorem d73_3 : decode jdk_65_method_123_code 3 = .ok (.if_icmp .ne 11, 3) := by decide +kernel
theorem d73_14 : decode jdk_65_method_123_code 14 = .ok (.iload_n 1, 1) := by decide +kernel
theorem d73_15 : decode jdk_65_method_123_code 15 = .ok (.newarray .int, 2) := by decide +kernel
theorem d73_17 : decode jdk_65_method_123_code 17 = .ok (.astore_n 2, 1) := by decide +kernel
theorem d73_18 : decode jdk_65_method_123_code 18 = .ok (.aload_n 0, 1) := by decide +kernel
theorem d73_19 : decode jdk_65_method_123_code 19 = .ok (.iconst 0, 1) := by decide +kernel
theorem d73_20 : decode jdk_65_method_123_code 20 = .ok (.aload_n 2, 1) := by decide +kernel
theorem d73_21 : decode jdk_65_method_123_code 21 = .ok (.iconst 0, 1) := by decide +kernel
theorem d73_22 : decode jdk_65_method_123_code 22 = .ok (.aload_n 0, 1) := by decide +kernel
theorem d73_23 : decode jdk_65_method_123_code 23 = .ok (.arraylength, 1) := by decide +kernel
theorem d73_24 : decode jdk_65_method_123_code 24 = .ok (.iload_n 1, 1) := by decide +kernel
theorem d73_25 : decode jdk_65_method_123_code 25 = .ok (.invokestatic 304, 3) := by decide +kernel
theorem d73_28 : decode jdk_65_method_123_code 28 = .ok (.invokestatic 150, 3) := by decide +kernel
theorem d73_31 : decode jdk_65_method_123_code 31 = .ok (.aload_n 2, 1) := by decide +kernel
theorem d73_32 : decode jdk_65_method_123_code 32 = .ok (.areturn, 1) := by decide +kernel
theorem ef_73 (m : MethodId) (r1 : Addr) (i1 : Int32)  : entryFrame m #[(.ref r1), (.int i1)] 3 = mkF m 0 #[.val (.ref r1), .val (.int i1), .unset] [] := by
  first | (simp [entryFrame, mkF, argsToLocals, Value.category]; done) | rfl
def Q73 (Z : State) (r1 : Addr) (i1 : Int32) (k_1 : ClassId) (x0 : Int32) (x1 : Int32) (x2 : Int32) (x3 : Int32) (h0 : Heap) (n0 : Nat) (v : Option Value) (h : Heap) (L : List Loc) : Prop := ∃ rb : Addr, ∃ kb : ClassId, v = some (.ref rb) ∧ Fr n0 L ∧ Keep h0 h [] ∧ h0.size ≤ rb ∧ Arv Z h rb kb .int (2 : Int32) [(.int x0), (.int x1)] (.int (0 : Int32))
set_option maxRecDepth 65536 in
set_option maxHeartbeats 40000000 in
theorem rm73 (l : Launch) (Z : State) (a0 : Array Value) (hw : ∀ d ∈ tables_1, d.before a0 Z = true) (ws : List Jvm.Cond) (r1 : Addr) (i1 : Int32) (k_1 : ClassId) (x0 : Int32) (x1 : Int32) (x2 : Int32) (x3 : Int32) (h0 : Heap) (n0 : Nat) (Z0 : n0 ≤ h0.size) (f0 : Arv Z h0 r1 k_1 .int (4 : Int32) [(.int x0), (.int x1), (.int x2), (.int x3)] (.int (0 : Int32))) (ho : i1 = (2 : Int32)) :
    MetFree l (⟨"java/util/Arrays", "copyOf", "([II)[I"⟩ : MethodName) (head1 (Jvm.Cond.code (⟨"java/util/Arrays", "copyOf", "([II)[I"⟩ : MethodName) jdk_65_method_123_code 3 (some (.array .int)) :: ws) ({ frames := 1, cells := 1, slots := 2, locals := 18 } : Room)) (fun a U => a = #[(.ref r1), (.int i1)] ∧ Z.Warmed39 U.vm ∧ U.heap = h0) (fun _ _ _ _ _ => True) (fun _ U o U' => ∃ v L, o = .returned v ∧ Q73 Z r1 i1 k_1 x0 x1 x2 x3 h0 n0 v U'.heap L ∧ FrameEnd U o U' L ({ frames := 1, cells := 1, slots := 2, locals := 18 } : Room).cells ({ frames := 1, cells := 1, slots := 2, locals := 18 } : Room).slots) := by
  refine MetFree.of_bodySF (plainFor_of_name pn_0) hisR ?_
  intro p e s m args below meth c s₁ Bd hml0 hP hK
  obtain ⟨rfl, hZ, hh⟩ := hP
  have hx := Bd.exec
  have hby := Bd.bytes
  have hml : c.maxLocals = 3 := hml0
  have hown : s.vm.findClass "java/util/Arrays" = some m.cls := findClass_of_methodNamed Bd.named
  have hnm := (name_of_methodNamed Bd.named Bd.method).1
  have X0 : Stand p l e ({ frames := 1, cells := 1, slots := 2, locals := 18 } : Room) s m #[(.ref r1), (.int i1)] below meth c s₁ [] 0 0 := Stand.of_body Bd
  have e0 : s₁.heap = h0 := by rw [← hh, Bd.state]; rfl
  have N0 := Fr.nil n0
  suffices H : ∀ Qo : Outcome → State → Prop, (∀ (v : Option Value) (u : State) (L : List Loc), Q73 Z r1 i1 k_1 x0 x1 x2 x3 h0 n0 v u.heap L → FrameEnd s (.returned v) u L ({ frames := 1, cells := 1, slots := 2, locals := 18 } : Room).cells ({ frames := 1, cells := 1, slots := 2, locals := 18 } : Room).slots → Qo (.returned v) u) → Go p e below Qo s₁ (mkF m 0 #[.val (.ref r1), .val (.int i1), .unset] []) from
    Go.cast (ef_73 m r1 i1) (H _ fun v u L h1 h2 => ⟨v, L, rfl, h1, h2⟩)
  intro Qo hQo
  subst ho
  show Go p e below Qo s₁ (mkF m 0 #[.val (.ref r1), .val (.int (2 : Int32)), .unset] [])
  refine Go.of (fun t k => XS.iloadN X0.here hx rfl (hb hby d73_0) rfl  k) ?_
  show Go p e below Qo s₁ (mkF m 1 #[.val (.ref r1), .val (.int (2 : Int32)), .unset] [(.int (2 : Int32))])
  refine Go.of (fun t k => XS.aloadN X0.here hx rfl (hb hby d73_1) rfl rfl k) ?_
  show Go p e below Qo s₁ (mkF m 2 #[.val (.ref r1), .val (.int (2 : Int32)), .unset] [(.ref r1), (.int (2 : Int32))])
  have cpo1 := f0
  obtain ⟨clo1, Aro1, qco1, So1, Mo1, Ho1, Go1⟩ := cpo1
  refine Go.of (fun t k => X0.arraylength hx (cell := clo1) (by rw [e0]; exact Aro1.1) (State.isArrayOf_alike hZ.alike Aro1.2.1) (g := (mkF m 2 #[.val (.ref r1), .val (.int (2 : Int32)), .unset] [(.ref r1), (.int (2 : Int32))])) rfl rfl (hb hby d73_2) t k) ?_
  rw [len_of So1 Mo1]
  show Go p e below Qo s₁ (mkF m 3 #[.val (.ref r1), .val (.int (2 : Int32)), .unset] [(.int (4 : Int32)), (.int (2 : Int32))])
  refine Go.of (fun t k => XS.icmpYes X0.here hx rfl (pc0 := 3) (pc' := 14) rfl (hb hby d73_3) rfl (feq (by decide : ¬ ((2 : Int32) = (4 : Int32)))).2 (by decide) (by decide) k) ?_
  show Go p e below Qo s₁ (mkF m 14 #[.val (.ref r1), .val (.int (2 : Int32)), .unset] [])
  refine Go.of (fun t k => XS.iloadN X0.here hx rfl (hb hby d73_14) rfl  k) ?_
  show Go p e below Qo s₁ (mkF m 15 #[.val (.ref r1), .val (.int (2 : Int32)), .unset] [(.int (2 : Int32))])
  obtain ⟨T2, h2, k2, X2, e2, E2, A2, st2⟩ := newP X0 hx hZ (hw _ (List.mem_of_getElem? (i := 9) rfl)) e0 (g := (mkF m 15 #[.val (.ref r1), .val (.int (2 : Int32)), .unset] [(.int (2 : Int32))])) rfl (hb hby d73_15) rfl (by decide) (cap := 2) (by decide) (by decide) (by decide) (by decide)
  obtain ⟨b2, g2⟩ : ∃ z, z = h0.size := ⟨_, rfl⟩
  rw [← g2] at A2 st2
  have ne3 : r1 ≠ b2 := Nat.ne_of_lt (Nat.lt_of_lt_of_le f0.lt (Nat.le_of_eq g2.symm))
  have g4 : n0 ≤ b2 := Nat.le_trans Z0 (Nat.le_of_eq g2.symm)
  have sz5 : h0.size ≤ b2 := Nat.le_trans (Keep.refl h0 []).1 (Nat.le_of_eq g2.symm)
  have q6 : Arv Z h2 r1 k_1 .int (4 : Int32) [(.int x0), (.int x1), (.int x2), (.int x3)] (.int (0 : Int32)) := f0.ext E2
  have Z7 : n0 ≤ h2.size := Nat.le_trans Z0 E2.1
  have K8 : Keep h0 h2 [] := (Keep.refl h0 []).ext E2
  have q9 : Arv Z h2 b2 k2 .int (2 : Int32) [(.int (0 : Int32)), (.int (0 : Int32))] (.int (0 : Int32)) := (Arv.new A2 (by decide)).pad (pad_rep [] (.int (0 : Int32)) 2)
  refine Go.of st2 ?_
  show Go p e below Qo T2 (mkF m 17 #[.val (.ref r1), .val (.int (2 : Int32)), .unset] [(.ref b2)])
  refine Go.of (fun t k => XS.astoreN X2.here hx rfl (hb hby d73_17) rfl rfl (l' := #[.val (.ref r1), .val (.int (2 : Int32)), .val (.ref b2)]) rfl k) ?_
  show Go p e below Qo T2 (mkF m 18 #[.val (.ref r1), .val (.int (2 : Int32)), .val (.ref b2)] [])
  refine Go.of (fun t k => XS.aloadN X2.here hx rfl (hb hby d73_18) rfl rfl k) ?_
  show Go p e below Qo T2 (mkF m 19 #[.val (.ref r1), .val (.int (2 : Int32)), .val (.ref b2)] [(.ref r1)])
  refine Go.of (fun t k => XS.iconst X2.here hx rfl (hb hby d73_19) k) ?_
  show Go p e below Qo T2 (mkF m 20 #[.val (.ref r1), .val (.int (2 : Int32)), .val (.ref b2)] [(.int (0 : Int32)), (.ref r1)])
  refine Go.of (fun t k => XS.aloadN X2.here hx rfl (hb hby d73_20) rfl rfl k) ?_
  show Go p e below Qo T2 (mkF m 21 #[.val (.ref r1), .val (.int (2 : Int32)), .val (.ref b2)] [(.ref b2), (.int (0 : Int32)), (.ref r1)])
  refine Go.of (fun t k => XS.iconst X2.here hx rfl (hb hby d73_21) k) ?_
  show Go p e below Qo T2 (mkF m 22 #[.val (.ref r1), .val (.int (2 : Int32)), .val (.ref b2)] [(.int (0 : Int32)), (.ref b2), (.int (0 : Int32)), (.ref r1)])
  refine Go.of (fun t k => XS.aloadN X2.here hx rfl (hb hby d73_22) rfl rfl k) ?_
  show Go p e below Qo T2 (mkF m 23 #[.val (.ref r1), .val (.int (2 : Int32)), .val (.ref b2)] [(.ref r1), (.int (0 : Int32)), (.ref b2), (.int (0 : Int32)), (.ref r1)])
  have cpo10 := q6
  obtain ⟨clo10, Aro10, qco10, So10, Mo10, Ho10, Go10⟩ := cpo10
  refine Go.of (fun t k => X2.arraylength hx (cell := clo10) (by rw [e2]; exact Aro10.1) (State.isArrayOf_alike hZ.alike Aro10.2.1) (g := (mkF m 23 #[.val (.ref r1), .val (.int (2 : Int32)), .val (.ref b2)] [(.ref r1), (.int (0 : Int32)), (.ref b2), (.int (0 : Int32)), (.ref r1)])) rfl rfl (hb hby d73_23) t k) ?_
  rw [len_of So10 Mo10]
  show Go p e below Qo T2 (mkF m 24 #[.val (.ref r1), .val (.int (2 : Int32)), .val (.ref b2)] [(.int (4 : Int32)), (.int (0 : Int32)), (.ref b2), (.int (0 : Int32)), (.ref r1)])
  refine Go.of (fun t k => XS.iloadN X2.here hx rfl (hb hby d73_24) rfl  k) ?_
  show Go p e below Qo T2 (mkF m 25 #[.val (.ref r1), .val (.int (2 : Int32)), .val (.ref b2)] [(.int (2 : Int32)), (.int (4 : Int32)), (.int (0 : Int32)), (.ref b2), (.int (0 : Int32)), (.ref r1)])
  obtain ⟨_, _, ⟨T11, L11, k11, n11⟩, -, X11, ⟨Lc11, hQ11, l11, y11, z11⟩, st11⟩ := Jvm.LawKit.callS X2 hx (y := (⟨"java/lang/Math", "min", "(II)I"⟩ : MethodName)) hown (mvT hZ (hw _ (List.mem_of_getElem? (i := 38) rfl))) (mvT hZ (hw _ (List.mem_of_getElem? (i := 39) rfl))) (mvT hZ (hw _ (List.mem_of_getElem? (i := 40) rfl))) (mvT hZ (hw _ (List.mem_of_getElem? (i := 41) rfl))) (by decide) (backOf (W := 4) (rm8 l Z a0 hw [] (4 : Int32) (2 : Int32) h2 n0 Z7 ) hZ (hw _ (List.mem_of_getElem? (i := 41) rfl)) (hw _ (List.mem_of_getElem? (i := 40) rfl)) (by decide) (by decide)) (g := (mkF m 25 #[.val (.ref r1), .val (.int (2 : Int32)), .val (.ref b2)] [(.int (2 : Int32)), (.int (4 : Int32)), (.int (0 : Int32)), (.ref b2), (.int (0 : Int32)), (.ref r1)])) rfl (by rw [hml]; rfl) (argsL := [(.int (4 : Int32)), (.int (2 : Int32))]) (rest := [(.int (0 : Int32)), (.ref b2), (.int (0 : Int32)), (.ref r1)]) (lenOf pd_0 rfl) rfl (by show 2 * 0 + _ ≤ _; exact Nat.le_of_eq rfl) (hb hby d73_25) (fun _ _ => ⟨rfl, e2, (by decide : 1 + 0 ≤ _), (by decide : 2 + 0 ≤ _)⟩)
  dsimp only [Pt.U, Pt.locs, Pt.cells, Pt.slots] at X11 l11 y11 z11 st11 hQ11
  subst l11 y11 z11
  obtain ⟨rfl, N12, eh13⟩ := hQ11
  have N14 := Fr.app N0 N12
  refine Go.of st11 ?_
  show Go p e below Qo T11 (mkF m 28 #[.val (.ref r1), .val (.int (2 : Int32)), .val (.ref b2)] [(.int (F8 (4 : Int32) (2 : Int32))), (.int (0 : Int32)), (.ref b2), (.int (0 : Int32)), (.ref r1)])
  rw [show F8 (4 : Int32) (2 : Int32) = (2 : Int32) from by first | rfl | decide]
  show Go p e below Qo T11 (mkF m 28 #[.val (.ref r1), .val (.int (2 : Int32)), .val (.ref b2)] [(.int (2 : Int32)), (.int (0 : Int32)), (.ref b2), (.int (0 : Int32)), (.ref r1)])
  obtain ⟨T15, h15, L15, X15, e15, N18, Kc16, q17, st15⟩ := cpA X11 hx hZ hown (hw _ (List.mem_of_getElem? (i := 42) rfl)) (hw _ (List.mem_of_getElem? (i := 45) rfl)) (hw _ (List.mem_of_getElem? (i := 43) rfl)) (hw _ (List.mem_of_getElem? (i := 44) rfl)) eh13 q6 q9 (us := [(.int x0), (.int x1)]) (Or.inl ⟨rfl, rfl⟩) (by decide) (by decide) (by decide) (by decide) (by decide) rfl (Nat.le_of_ble_eq_true rfl) N14 g4 (g := (mkF m 28 #[.val (.ref r1), .val (.int (2 : Int32)), .val (.ref b2)] [(.int (2 : Int32)), (.int (0 : Int32)), (.ref b2), (.int (0 : Int32)), (.ref r1)])) rfl (by rw [hml]; rfl) (rest := []) rfl (hb hby d73_28) (by decide) (W := 0) (by show 2 * 0 + _ ≤ _; exact Nat.le_of_eq rfl) (by decide)
  have q19 : Arv Z h15 r1 k_1 .int (4 : Int32) [(.int x0), (.int x1), (.int x2), (.int x3)] (.int (0 : Int32)) := q6.keep Kc16 (ninS ne3 nin0)
  have q20 : Arv Z h15 b2 k2 .int (2 : Int32) [(.int x0), (.int x1)] (.int (0 : Int32)) := q17
  have Z21 : n0 ≤ h15.size := Nat.le_trans Z7 Kc16.1
  have K22 : Keep h0 h15 [] := K8.trans Kc16 (allS (Or.inr sz5) all0)
  refine Go.of st15 ?_
  show Go p e below Qo T15 (mkF m 31 #[.val (.ref r1), .val (.int (2 : Int32)), .val (.ref b2)] [])
  refine Go.of (fun t k => XS.aloadN X15.here hx rfl (hb hby d73_31) rfl rfl k) ?_
  show Go p e below Qo T15 (mkF m 32 #[.val (.ref r1), .val (.int (2 : Int32)), .val (.ref b2)] [(.ref b2)])
  exact own_retW X15 hx Bd.notSynchronized Bd.returns rfl (Or.inr (Or.inr (Or.inr (Or.inr ⟨rfl, rfl, rfl⟩)))) (hb hby d73_32) (fun u hu hF => hQo _ _ _ ⟨b2, k2, rfl, N18, by rw [hu, e15]; exact K22, sz5, by rw [hu, e15]; exact q20⟩ (own_mono hF (by decide) (by decide)))
theorem d74_0 : decode jdk_65_method_123_code 0 = .ok (.iload_n 1, 1) := by decide +kernel
theorem d74_1 : decode jdk_65_method_123_code 1 = .ok (.aload_n 0, 1) := by decide +kernel
theorem d74_2 : decode jdk_65_method_123_code 2 = .ok (.arraylength, 1) := by decide +kernel
theorem d74_3 : decode jdk_65_method_123_code 3 = .ok (.if_icmp .ne 11, 3) := by decide +kernel
theorem d74_14 : decode jdk_65_method_123_code 14 = .ok (.iload_n 1, 1) := by decide +kernel
theorem d74_15 : decode jdk_65_method_123_code 15 = .ok (.newarray .int, 2) := by decide +kernel
theorem d74_17 : decode jdk_65_method_123_code 17 = .ok (.astore_n 2, 1) := by decide +kernel
theorem d74_18 : decode jdk_65_method_123_code 18 = .ok (.aload_n 0, 1) := by decide +kernel
theorem d74_19 : decode jdk_65_method_123_code 19 = .ok (.iconst 0, 1) := by decide +kernel
theorem d74_20 : decode jdk_65_method_123_code 20 = .ok (.aload_n 2, 1) := by decide +kernel
theorem d74_21 : decode jdk_65_method_123_code 21 = .ok (.iconst 0, 1) := by decide +kernel
theorem d74_22 : decode jdk_65_method_123_code 22 = .ok (.aload_n 0, 1) := by decide +kernel
theorem d74_23 : decode jdk_65_method_123_code 23 = .ok (.arraylength, 1) := by decide +kernel
theorem d74_24 : decode jdk_65_method_123_code 24 = .ok (.iload_n 1, 1) := by decide +kernel
theorem d74_25 : decode jdk_65_method_123_code 25 = .ok (.invokestatic 304, 3) := by decide +kernel
theorem d74_28 : decode jdk_65_method_123_code 28 = .ok (.invokestatic 150, 3) := by decide +kernel
theorem d74_31 : decode jdk_65_method_123_code 31 = .ok (.aload_n 2, 1) := by decide +kernel
theorem d74_32 : decode jdk_65_method_123_code 32 = .ok (.areturn, 1) := by decide +kernel
theorem ef_74 (m : MethodId) (r1 : Addr) (i1 : Int32)  : entryFrame m #[(.ref r1), (.int i1)] 3 = mkF m 0 #[.val (.ref r1), .val (.int i1), .unset] [] := by
  first | (simp [entryFrame, mkF, argsToLocals, Value.category]; done) | rfl
def Q74 (Z : State) (r1 : Addr) (i1 : Int32) (k_1 : ClassId) (x0 : Int32) (x1 : Int32) (x2 : Int32) (x3 : Int32) (h0 : Heap) (n0 : Nat) (v : Option Value) (h : Heap) (L : List Loc) : Prop := ∃ rb : Addr, ∃ kb : ClassId, v = some (.ref rb) ∧ Fr n0 L ∧ Keep h0 h [] ∧ h0.size ≤ rb ∧ Arv Z h rb kb .int (3 : Int32) [(.int x0), (.int x1), (.int x2)] (.int (0 : Int32))
set_option maxRecDepth 65536 in
set_option maxHeartbeats 40000000 in
theorem rm74 (l : Launch) (Z : State) (a0 : Array Value) (hw : ∀ d ∈ tables_1, d.before a0 Z = true) (ws : List Jvm.Cond) (r1 : Addr) (i1 : Int32) (k_1 : ClassId) (x0 : Int32) (x1 : Int32) (x2 : Int32) (x3 : Int32) (h0 : Heap) (n0 : Nat) (Z0 : n0 ≤ h0.size) (f0 : Arv Z h0 r1 k_1 .int (4 : Int32) [(.int x0), (.int x1), (.int x2), (.int x3)] (.int (0 : Int32))) (ho : i1 = (3 : Int32)) :
    MetFree l (⟨"java/util/Arrays", "copyOf", "([II)[I"⟩ : MethodName) (head1 (Jvm.Cond.code (⟨"java/util/Arrays", "copyOf", "([II)[I"⟩ : MethodName) jdk_65_method_123_code 3 (some (.array .int)) :: ws) ({ frames := 1, cells := 1, slots := 3, locals := 18 } : Room)) (fun a U => a = #[(.ref r1), (.int i1)] ∧ Z.Warmed39 U.vm ∧ U.heap = h0) (fun _ _ _ _ _ => True) (fun _ U o U' => ∃ v L, o = .returned v ∧ Q74 Z r1 i1 k_1 x0 x1 x2 x3 h0 n0 v U'.heap L ∧ FrameEnd U o U' L ({ frames := 1, cells := 1, slots := 3, locals := 18 } : Room).cells ({ frames := 1, cells := 1, slots := 3, locals := 18 } : Room).slots) := by
  refine MetFree.of_bodySF (plainFor_of_name pn_0) hisR ?_
  intro p e s m args below meth c s₁ Bd hml0 hP hK
  obtain ⟨rfl, hZ, hh⟩ := hP
  have hx := Bd.exec
  have hby := Bd.bytes
  have hml : c.maxLocals = 3 := hml0
  have hown : s.vm.findClass "java/util/Arrays" = some m.cls := findClass_of_methodNamed Bd.named
  have hnm := (name_of_methodNamed Bd.named Bd.method).1
  have X0 : Stand p l e ({ frames := 1, cells := 1, slots := 3, locals := 18 } : Room) s m #[(.ref r1), (.int i1)] below meth c s₁ [] 0 0 := Stand.of_body Bd
  have e0 : s₁.heap = h0 := by rw [← hh, Bd.state]; rfl
  have N0 := Fr.nil n0
  suffices H : ∀ Qo : Outcome → State → Prop, (∀ (v : Option Value) (u : State) (L : List Loc), Q74 Z r1 i1 k_1 x0 x1 x2 x3 h0 n0 v u.heap L → FrameEnd s (.returned v) u L ({ frames := 1, cells := 1, slots := 3, locals := 18 } : Room).cells ({ frames := 1, cells := 1, slots := 3, locals := 18 } : Room).slots → Qo (.returned v) u) → Go p e below Qo s₁ (mkF m 0 #[.val (.ref r1), .val (.int i1), .unset] []) from
    Go.cast (ef_74 m r1 i1) (H _ fun v u L h1 h2 => ⟨v, L, rfl, h1, h2⟩)
  intro Qo hQo
  subst ho
  show Go p e below Qo s₁ (mkF m 0 #[.val (.ref r1), .val (.int (3 : Int32)), .unset] [])
  refine Go.of (fun t k => XS.iloadN X0.here hx rfl (hb hby d74_0) rfl  k) ?_
  show Go p e below Qo s₁ (mkF m 1 #[.val (.ref r1), .val (.int (3 : Int32)), .unset] [(.int (3 : Int32))])
  refine Go.of (fun t k => XS.aloadN X0.here hx rfl (hb hby d74_1) rfl rfl k) ?_
  show Go p e below Qo s₁ (mkF m 2 #[.val (.ref r1), .val (.int (3 : Int32)), .unset] [(.ref r1), (.int (3 : Int32))])
  have cpo1 := f0
  obtain ⟨clo1, Aro1, qco1, So1, Mo1, Ho1, Go1⟩ := cpo1
  refine Go.of (fun t k => X0.arraylength hx (cell := clo1) (by rw [e0]; exact Aro1.1) (State.isArrayOf_alike hZ.alike Aro1.2.1) (g := (mkF m 2 #[.val (.ref r1), .val (.int (3 : Int32)), .unset] [(.ref r1), (.int (3 : Int32))])) rfl rfl (hb hby d74_2) t k) ?_
  rw [len_of So1 Mo1]
  show Go p e below Qo s₁ (mkF m 3 #[.val (.ref r1), .val (.int (3 : Int32)), .unset] [(.int (4 : Int32)), (.int (3 : Int32))])
  refine Go.of (fun t k => XS.icmpYes X0.here hx rfl (pc0 := 3) (pc' := 14) rfl (hb hby d74_3) rfl (feq (by decide : ¬ ((3 : Int32) = (4 : Int32)))).2 (by decide) (by decide) k) ?_
  show Go p e below Qo s₁ (mkF m 14 #[.val (.ref r1), .val (.int (3 : Int32)), .unset] [])
  refine Go.of (fun t k => XS.iloadN X0.here hx rfl (hb hby d74_14) rfl  k) ?_
  show Go p e below Qo s₁ (mkF m 15 #[.val (.ref r1), .val (.int (3 : Int32)), .unset] [(.int (3 : Int32))])
  obtain ⟨T2, h2, k2, X2, e2, E2, A2, st2⟩ := newP X0 hx hZ (hw _ (List.mem_of_getElem? (i := 9) rfl)) e0 (g := (mkF m 15 #[.val (.ref r1), .val (.int (3 : Int32)), .unset] [(.int (3 : Int32))])) rfl (hb hby d74_15) rfl (by decide) (cap := 3) (by decide) (by decide) (by decide) (by decide)
  obtain ⟨b2, g2⟩ : ∃ z, z = h0.size := ⟨_, rfl⟩
  rw [← g2] at A2 st2
  have ne3 : r1 ≠ b2 := Nat.ne_of_lt (Nat.lt_of_lt_of_le f0.lt (Nat.le_of_eq g2.symm))
  have g4 : n0 ≤ b2 := Nat.le_trans Z0 (Nat.le_of_eq g2.symm)
  have sz5 : h0.size ≤ b2 := Nat.le_trans (Keep.refl h0 []).1 (Nat.le_of_eq g2.symm)
  have q6 : Arv Z h2 r1 k_1 .int (4 : Int32) [(.int x0), (.int x1), (.int x2), (.int x3)] (.int (0 : Int32)) := f0.ext E2
  have Z7 : n0 ≤ h2.size := Nat.le_trans Z0 E2.1
  have K8 : Keep h0 h2 [] := (Keep.refl h0 []).ext E2
  have q9 : Arv Z h2 b2 k2 .int (3 : Int32) [(.int (0 : Int32)), (.int (0 : Int32)), (.int (0 : Int32))] (.int (0 : Int32)) := (Arv.new A2 (by decide)).pad (pad_rep [] (.int (0 : Int32)) 3)
  refine Go.of st2 ?_
  show Go p e below Qo T2 (mkF m 17 #[.val (.ref r1), .val (.int (3 : Int32)), .unset] [(.ref b2)])
  refine Go.of (fun t k => XS.astoreN X2.here hx rfl (hb hby d74_17) rfl rfl (l' := #[.val (.ref r1), .val (.int (3 : Int32)), .val (.ref b2)]) rfl k) ?_
  show Go p e below Qo T2 (mkF m 18 #[.val (.ref r1), .val (.int (3 : Int32)), .val (.ref b2)] [])
  refine Go.of (fun t k => XS.aloadN X2.here hx rfl (hb hby d74_18) rfl rfl k) ?_
  show Go p e below Qo T2 (mkF m 19 #[.val (.ref r1), .val (.int (3 : Int32)), .val (.ref b2)] [(.ref r1)])
  refine Go.of (fun t k => XS.iconst X2.here hx rfl (hb hby d74_19) k) ?_
  show Go p e below Qo T2 (mkF m 20 #[.val (.ref r1), .val (.int (3 : Int32)), .val (.ref b2)] [(.int (0 : Int32)), (.ref r1)])
  refine Go.of (fun t k => XS.aloadN X2.here hx rfl (hb hby d74_20) rfl rfl k) ?_
  show Go p e below Qo T2 (mkF m 21 #[.val (.ref r1), .val (.int (3 : Int32)), .val (.ref b2)] [(.ref b2), (.int (0 : Int32)), (.ref r1)])
  refine Go.of (fun t k => XS.iconst X2.here hx rfl (hb hby d74_21) k) ?_
  show Go p e below Qo T2 (mkF m 22 #[.val (.ref r1), .val (.int (3 : Int32)), .val (.ref b2)] [(.int (0 : Int32)), (.ref b2), (.int (0 : Int32)), (.ref r1)])
  refine Go.of (fun t k => XS.aloadN X2.here hx rfl (hb hby d74_22) rfl rfl k) ?_
  show Go p e below Qo T2 (mkF m 23 #[.val (.ref r1), .val (.int (3 : Int32)), .val (.ref b2)] [(.ref r1), (.int (0 : Int32)), (.ref b2), (.int (0 : Int32)), (.ref r1)])
  have cpo10 := q6
  obtain ⟨clo10, Aro10, qco10, So10, Mo10, Ho10, Go10⟩ := cpo10
  refine Go.of (fun t k => X2.arraylength hx (cell := clo10) (by rw [e2]; exact Aro10.1) (State.isArrayOf_alike hZ.alike Aro10.2.1) (g := (mkF m 23 #[.val (.ref r1), .val (.int (3 : Int32)), .val (.ref b2)] [(.ref r1), (.int (0 : Int32)), (.ref b2), (.int (0 : Int32)), (.ref r1)])) rfl rfl (hb hby d74_23) t k) ?_
  rw [len_of So10 Mo10]
  show Go p e below Qo T2 (mkF m 24 #[.val (.ref r1), .val (.int (3 : Int32)), .val (.ref b2)] [(.int (4 : Int32)), (.int (0 : Int32)), (.ref b2), (.int (0 : Int32)), (.ref r1)])
  refine Go.of (fun t k => XS.iloadN X2.here hx rfl (hb hby d74_24) rfl  k) ?_
  show Go p e below Qo T2 (mkF m 25 #[.val (.ref r1), .val (.int (3 : Int32)), .val (.ref b2)] [(.int (3 : Int32)), (.int (4 : Int32)), (.int (0 : Int32)), (.ref b2), (.int (0 : Int32)), (.ref r1)])
  obtain ⟨_, _, ⟨T11, L11, k11, n11⟩, -, X11, ⟨Lc11, hQ11, l11, y11, z11⟩, st11⟩ := Jvm.LawKit.callS X2 hx (y := (⟨"java/lang/Math", "min", "(II)I"⟩ : MethodName)) hown (mvT hZ (hw _ (List.mem_of_getElem? (i := 38) rfl))) (mvT hZ (hw _ (List.mem_of_getElem? (i := 39) rfl))) (mvT hZ (hw _ (List.mem_of_getElem? (i := 40) rfl))) (mvT hZ (hw _ (List.mem_of_getElem? (i := 41) rfl))) (by decide) (backOf (W := 4) (rm8 l Z a0 hw [] (4 : Int32) (3 : Int32) h2 n0 Z7 ) hZ (hw _ (List.mem_of_getElem? (i := 41) rfl)) (hw _ (List.mem_of_getElem? (i := 40) rfl)) (by decide) (by decide)) (g := (mkF m 25 #[.val (.ref r1), .val (.int (3 : Int32)), .val (.ref b2)] [(.int (3 : Int32)), (.int (4 : Int32)), (.int (0 : Int32)), (.ref b2), (.int (0 : Int32)), (.ref r1)])) rfl (by rw [hml]; rfl) (argsL := [(.int (4 : Int32)), (.int (3 : Int32))]) (rest := [(.int (0 : Int32)), (.ref b2), (.int (0 : Int32)), (.ref r1)]) (lenOf pd_0 rfl) rfl (by show 2 * 0 + _ ≤ _; exact Nat.le_of_eq rfl) (hb hby d74_25) (fun _ _ => ⟨rfl, e2, (by decide : 1 + 0 ≤ _), (by decide : 3 + 0 ≤ _)⟩)
  dsimp only [Pt.U, Pt.locs, Pt.cells, Pt.slots] at X11 l11 y11 z11 st11 hQ11
  subst l11 y11 z11
  obtain ⟨rfl, N12, eh13⟩ := hQ11
  have N14 := Fr.app N0 N12
  refine Go.of st11 ?_
  show Go p e below Qo T11 (mkF m 28 #[.val (.ref r1), .val (.int (3 : Int32)), .val (.ref b2)] [(.int (F8 (4 : Int32) (3 : Int32))), (.int (0 : Int32)), (.ref b2), (.int (0 : Int32)), (.ref r1)])
  rw [show F8 (4 : Int32) (3 : Int32) = (3 : Int32) from by first | rfl | decide]
  show Go p e below Qo T11 (mkF m 28 #[.val (.ref r1), .val (.int (3 : Int32)), .val (.ref b2)] [(.int (3 : Int32)), (.int (0 : Int32)), (.ref b2), (.int (0 : Int32)), (.ref r1)])
  obtain ⟨T15, h15, L15, X15, e15, N18, Kc16, q17, st15⟩ := cpA X11 hx hZ hown (hw _ (List.mem_of_getElem? (i := 42) rfl)) (hw _ (List.mem_of_getElem? (i := 45) rfl)) (hw _ (List.mem_of_getElem? (i := 43) rfl)) (hw _ (List.mem_of_getElem? (i := 44) rfl)) eh13 q6 q9 (us := [(.int x0), (.int x1), (.int x2)]) (Or.inl ⟨rfl, rfl⟩) (by decide) (by decide) (by decide) (by decide) (by decide) rfl (Nat.le_of_ble_eq_true rfl) N14 g4 (g := (mkF m 28 #[.val (.ref r1), .val (.int (3 : Int32)), .val (.ref b2)] [(.int (3 : Int32)), (.int (0 : Int32)), (.ref b2), (.int (0 : Int32)), (.ref r1)])) rfl (by rw [hml]; rfl) (rest := []) rfl (hb hby d74_28) (by decide) (W := 0) (by show 2 * 0 + _ ≤ _; exact Nat.le_of_eq rfl) (by decide)
  have q19 : Arv Z h15 r1 k_1 .int (4 : Int32) [(.int x0), (.int x1), (.int x2), (.int x3)] (.int (0 : Int32)) := q6.keep Kc16 (ninS ne3 nin0)
  have q20 : Arv Z h15 b2 k2 .int (3 : Int32) [(.int x0), (.int x1), (.int x2)] (.int (0 : Int32)) := q17
  have Z21 : n0 ≤ h15.size := Nat.le_trans Z7 Kc16.1
  have K22 : Keep h0 h15 [] := K8.trans Kc16 (allS (Or.inr sz5) all0)
  refine Go.of st15 ?_
  show Go p e below Qo T15 (mkF m 31 #[.val (.ref r1), .val (.int (3 : Int32)), .val (.ref b2)] [])
  refine Go.of (fun t k => XS.aloadN X15.here hx rfl (hb hby d74_31) rfl rfl k) ?_
  show Go p e below Qo T15 (mkF m 32 #[.val (.ref r1), .val (.int (3 : Int32)), .val (.ref b2)] [(.ref b2)])
  exact own_retW X15 hx Bd.notSynchronized Bd.returns rfl (Or.inr (Or.inr (Or.inr (Or.inr ⟨rfl, rfl, rfl⟩)))) (hb hby d74_32) (fun u hu hF => hQo _ _ _ ⟨b2, k2, rfl, N18, by rw [hu, e15]; exact K22, sz5, by rw [hu, e15]; exact q20⟩ (own_mono hF (by decide) (by decide)))
theorem d1_0 : decode prog_12_method_1_code 0 = .ok (.aload_n 0, 1) := by decide +kernel
theorem d1_1 : decode prog_12_method_1_code 1 = .ok (.invokespecial 1, 3) := by decide +kernel
theorem d1_4 : decode prog_12_method_1_code 4 = .ok (.aload_n 0, 1) := by decide +kernel
theorem d1_5 : decode prog_12_method_1_code 5 = .ok (.iconst 2, 1) := by decide +kernel
theorem d1_6 : decode prog_12_method_1_code 6 = .ok (.newarray .int, 2) := by decide +kernel
theorem d1_8 : decode prog_12_method_1_code 8 = .ok (.putfield 7, 3) := by decide +kernel
theorem d1_11 : decode prog_12_method_1_code 11 = .ok (.return_, 1) := by decide +kernel
theorem pn_1 : plainName "com/example/prompter/prompter/index/Ints" = true := by first | (simp [plainName, overriddenIn]; done) | decide +kernel
theorem ef_1 (m : MethodId) (r1 : Addr)  : entryFrame m #[(.ref r1)] 1 = mkF m 0 #[.val (.ref r1)] [] := by
  first | (simp [entryFrame, mkF, argsToLocals, Value.category]; done) | rfl
def Q1 (Z : State) (r1 : Addr) (u_0 : Value) (w1 : Int32) (h0 : Heap) (n0 : Nat) (v : Option Value) (h : Heap) (L : List Loc) : Prop := ∃ rb : Addr, ∃ kb : ClassId, v = none ∧ Fr n0 L ∧ Keep h0 h [r1] ∧ h0.size ≤ rb ∧ Exa Z h r1 "com/example/prompter/prompter/index/Ints" ∧ Fld Z h r1 "com/example/prompter/prompter/index/Ints" "values" "[I" (.ref rb) ∧ Fld Z h r1 "com/example/prompter/prompter/index/Ints" "size" "I" (.int w1) ∧ Arv Z h rb kb .int (2 : Int32) [(.int (0 : Int32)), (.int (0 : Int32))] (.int (0 : Int32))
set_option maxRecDepth 65536 in
set_option maxHeartbeats 40000000 in
theorem rm1 (l : Launch) (Z : State) (a0 : Array Value) (hw : ∀ d ∈ tables_1, d.before a0 Z = true) (ws : List Jvm.Cond) (r1 : Addr) (u_0 : Value) (w1 : Int32) (h0 : Heap) (n0 : Nat) (Z0 : n0 ≤ h0.size) (f0 : Exa Z h0 r1 "com/example/prompter/prompter/index/Ints") (f1 : Fld Z h0 r1 "com/example/prompter/prompter/index/Ints" "values" "[I" u_0) (f2 : Fld Z h0 r1 "com/example/prompter/prompter/index/Ints" "size" "I" (.int w1)) (g_r1 : n0 ≤ r1) :
    MetFree l (⟨"com/example/prompter/prompter/index/Ints", "<init>", "()V"⟩ : MethodName) (head1 (Jvm.Cond.code (⟨"com/example/prompter/prompter/index/Ints", "<init>", "()V"⟩ : MethodName) prog_12_method_1_code 1 none :: ws) ({ frames := 1, cells := 1, slots := 2, locals := 12 } : Room)) (fun a U => a = #[(.ref r1)] ∧ Z.Warmed39 U.vm ∧ U.heap = h0) (fun _ _ _ _ _ => True) (fun _ U o U' => ∃ v L, o = .returned v ∧ Q1 Z r1 u_0 w1 h0 n0 v U'.heap L ∧ FrameEnd U o U' L ({ frames := 1, cells := 1, slots := 2, locals := 12 } : Room).cells ({ frames := 1, cells := 1, slots := 2, locals := 12 } : Room).slots) := by
  refine MetFree.of_bodySF (plainFor_of_name pn_1) hisR ?_
  intro p e s m args below meth c s₁ Bd hml0 hP hK
  obtain ⟨rfl, hZ, hh⟩ := hP
  have hx := Bd.exec
  have hby := Bd.bytes
  have hml : c.maxLocals = 1 := hml0
  have hown : s.vm.findClass "com/example/prompter/prompter/index/Ints" = some m.cls := findClass_of_methodNamed Bd.named
  have hnm := (name_of_methodNamed Bd.named Bd.method).1
  have X0 : Stand p l e ({ frames := 1, cells := 1, slots := 2, locals := 12 } : Room) s m #[(.ref r1)] below meth c s₁ [] 0 0 := Stand.of_body Bd
  have e0 : s₁.heap = h0 := by rw [← hh, Bd.state]; rfl
  have N0 := Fr.nil n0
  suffices H : ∀ Qo : Outcome → State → Prop, (∀ (v : Option Value) (u : State) (L : List Loc), Q1 Z r1 u_0 w1 h0 n0 v u.heap L → FrameEnd s (.returned v) u L ({ frames := 1, cells := 1, slots := 2, locals := 12 } : Room).cells ({ frames := 1, cells := 1, slots := 2, locals := 12 } : Room).slots → Qo (.returned v) u) → Go p e below Qo s₁ (mkF m 0 #[.val (.ref r1)] []) from
    Go.cast (ef_1 m r1) (H _ fun v u L h1 h2 => ⟨v, L, rfl, h1, h2⟩)
  intro Qo hQo
  show Go p e below Qo s₁ (mkF m 0 #[.val (.ref r1)] [])
  refine Go.of (fun t k => XS.aloadN X0.here hx rfl (hb hby d1_0) rfl rfl k) ?_
  show Go p e below Qo s₁ (mkF m 1 #[.val (.ref r1)] [(.ref r1)])
  obtain ⟨T1, X1, e1, st1⟩ := initO X0 hx hZ hown (hw _ (List.mem_of_getElem? (i := 6) rfl)) (hw _ (List.mem_of_getElem? (i := 7) rfl)) (hw _ (List.mem_of_getElem? (i := 8) rfl)) e0 (g := (mkF m 1 #[.val (.ref r1)] [(.ref r1)])) rfl (by rw [hml]; rfl) rfl (hb hby d1_1) (by decide) (W := 0) (by show 2 * 0 + _ ≤ _; exact Nat.le_of_eq rfl) (by decide)
  refine Go.of st1 ?_
  show Go p e below Qo T1 (mkF m 4 #[.val (.ref r1)] [])
  refine Go.of (fun t k => XS.aloadN X1.here hx rfl (hb hby d1_4) rfl rfl k) ?_
  show Go p e below Qo T1 (mkF m 5 #[.val (.ref r1)] [(.ref r1)])
  refine Go.of (fun t k => XS.iconst X1.here hx rfl (hb hby d1_5) k) ?_
  show Go p e below Qo T1 (mkF m 6 #[.val (.ref r1)] [(.int (2 : Int32)), (.ref r1)])
  obtain ⟨T2, h2, k2, X2, e2, E2, A2, st2⟩ := newP X1 hx hZ (hw _ (List.mem_of_getElem? (i := 9) rfl)) e1 (g := (mkF m 6 #[.val (.ref r1)] [(.int (2 : Int32)), (.ref r1)])) rfl (hb hby d1_6) rfl (by decide) (cap := 2) (by decide) (by decide) (by decide) (by decide)
  obtain ⟨b2, g2⟩ : ∃ z, z = h0.size := ⟨_, rfl⟩
  rw [← g2] at A2 st2
  have ne3 : r1 ≠ b2 := Nat.ne_of_lt (Nat.lt_of_lt_of_le f0.lt (Nat.le_of_eq g2.symm))
  have g4 : n0 ≤ b2 := Nat.le_trans Z0 (Nat.le_of_eq g2.symm)
  have sz5 : h0.size ≤ b2 := Nat.le_trans (Keep.refl h0 [r1]).1 (Nat.le_of_eq g2.symm)
  have q6 : Exa Z h2 r1 "com/example/prompter/prompter/index/Ints" := f0.ext E2
  have q7 : Fld Z h2 r1 "com/example/prompter/prompter/index/Ints" "values" "[I" u_0 := f1.ext E2
  have q8 : Fld Z h2 r1 "com/example/prompter/prompter/index/Ints" "size" "I" (.int w1) := f2.ext E2
  have Z9 : n0 ≤ h2.size := Nat.le_trans Z0 E2.1
  have K10 : Keep h0 h2 [r1] := (Keep.refl h0 [r1]).ext E2
  have q11 : Arv Z h2 b2 k2 .int (2 : Int32) [(.int (0 : Int32)), (.int (0 : Int32))] (.int (0 : Int32)) := (Arv.new A2 (by decide)).pad (pad_rep [] (.int (0 : Int32)) 2)
  refine Go.of st2 ?_
  show Go p e below Qo T2 (mkF m 8 #[.val (.ref r1)] [(.ref b2), (.ref r1)])
  obtain ⟨T12, h12, X12, e12, W12, st12⟩ := putF X2 hx hZ hown (host := "") (Or.inl (hw _ (List.mem_of_getElem? (i := 10) rfl))) Via.refl e2 q7 q6 (Or.inl (hw _ (List.mem_of_getElem? (i := 11) rfl))) (hw _ (List.mem_of_getElem? (i := 1) rfl)) (ty := (.array .int)) (by decide) rfl rfl (g := (mkF m 8 #[.val (.ref r1)] [(.ref b2), (.ref r1)])) rfl rfl (hb hby d1_8)
  have q13 : Exa Z h12 r1 "com/example/prompter/prompter/index/Ints" := q6.wr W12
  have q14 : Fld Z h12 r1 "com/example/prompter/prompter/index/Ints" "values" "[I" (.ref b2) := q7.same W12
  have q15 : Fld Z h12 r1 "com/example/prompter/prompter/index/Ints" "size" "I" (.int w1) := q8.other W12 (Or.inr (slot_ne (Or.inl (hw _ (List.mem_of_getElem? (i := 18) rfl))) (Or.inl (hw _ (List.mem_of_getElem? (i := 11) rfl))) (by decide) (t := .int) (t' := (.array .int)) (by decide) (by decide)))
  have q16 : Arv Z h12 b2 k2 .int (2 : Int32) [(.int (0 : Int32)), (.int (0 : Int32))] (.int (0 : Int32)) := q11.other W12 (Ne.symm ne3)
  have Z17 : n0 ≤ h12.size := Nat.le_trans Z9 (Keep.of_wr W12).1
  have K18 : Keep h0 h12 [r1] := K10.wr W12 (Or.inl (List.mem_of_getElem? (i := 0) rfl))
  have N19 := Fr.snoc X12 N0 g_r1
  refine Go.of st12 ?_
  show Go p e below Qo T12 (mkF m 11 #[.val (.ref r1)] [])
  exact own_ret0 X12 hx Bd.notSynchronized Bd.returns (hb hby d1_11) (fun u hu hF => hQo _ _ _ ⟨b2, k2, rfl, N19, by rw [hu, e12]; exact K18, sz5, by rw [hu, e12]; exact q13, by rw [hu, e12]; exact q14, by rw [hu, e12]; exact q15, by rw [hu, e12]; exact q16⟩ (own_mono hF (by decide) (by decide)))
theorem d30_0 : decode prog_12_method_2_code 0 = .ok (.aload_n 0, 1) := by decide +kernel
theorem d30_1 : decode prog_12_method_2_code 1 = .ok (.getfield 13, 3) := by decide +kernel
theorem d30_4 : decode prog_12_method_2_code 4 = .ok (.aload_n 0, 1) := by decide +kernel
theorem d30_5 : decode prog_12_method_2_code 5 = .ok (.getfield 7, 3) := by decide +kernel
theorem d30_8 : decode prog_12_method_2_code 8 = .ok (.arraylength, 1) := by decide +kernel
theorem d30_9 : decode prog_12_method_2_code 9 = .ok (.if_icmp .ne 20, 3) := by decide +kernel
theorem d30_29 : decode prog_12_method_2_code 29 = .ok (.aload_n 0, 1) := by decide +kernel
theorem d30_30 : decode prog_12_method_2_code 30 = .ok (.getfield 7, 3) := by decide +kernel
theorem d30_33 : decode prog_12_method_2_code 33 = .ok (.aload_n 0, 1) := by decide +kernel
theorem d30_34 : decode prog_12_method_2_code 34 = .ok (.dup, 1) := by decide +kernel
theorem d30_35 : decode prog_12_method_2_code 35 = .ok (.getfield 13, 3) := by decide +kernel
theorem d30_38 : decode prog_12_method_2_code 38 = .ok (.dup_x1, 1) := by decide +kernel
theorem d30_39 : decode prog_12_method_2_code 39 = .ok (.iconst 1, 1) := by decide +kernel
theorem d30_40 : decode prog_12_method_2_code 40 = .ok (.iadd, 1) := by decide +kernel
theorem d30_41 : decode prog_12_method_2_code 41 = .ok (.putfield 13, 3) := by decide +kernel
theorem d30_44 : decode prog_12_method_2_code 44 = .ok (.iload_n 1, 1) := by decide +kernel
theorem d30_45 : decode prog_12_method_2_code 45 = .ok (.iastore, 1) := by decide +kernel
theorem d30_46 : decode prog_12_method_2_code 46 = .ok (.return_, 1) := by decide +kernel
theorem ef_30 (m : MethodId) (r1 : Addr) (i1 : Int32)  : entryFrame m #[(.ref r1), (.int i1)] 2 = mkF m 0 #[.val (.ref r1), .val (.int i1)] [] := by
  first | (simp [entryFrame, mkF, argsToLocals, Value.category]; done) | rfl
def Q30 (Z : State) (r1 : Addr) (i1 : Int32) (r2 : Addr) (k_2 : ClassId) (x0 : Int32) (x1 : Int32) (h0 : Heap) (n0 : Nat) (v : Option Value) (h : Heap) (L : List Loc) : Prop := v = none ∧ Fr n0 L ∧ Keep h0 h [r1, r2] ∧ Exa Z h r1 "com/example/prompter/prompter/index/Ints" ∧ Fld Z h r1 "com/example/prompter/prompter/index/Ints" "size" "I" (.int (1 : Int32)) ∧ Fld Z h r1 "com/example/prompter/prompter/index/Ints" "values" "[I" (.ref r2) ∧ Arv Z h r2 k_2 .int (2 : Int32) [(.int i1), (.int x1)] (.int (0 : Int32))
set_option maxRecDepth 65536 in
set_option maxHeartbeats 40000000 in
theorem rm30 (l : Launch) (Z : State) (a0 : Array Value) (hw : ∀ d ∈ tables_1, d.before a0 Z = true) (ws : List Jvm.Cond) (r1 : Addr) (i1 : Int32) (r2 : Addr) (k_2 : ClassId) (x0 : Int32) (x1 : Int32) (h0 : Heap) (n0 : Nat) (Z0 : n0 ≤ h0.size) (f0 : Exa Z h0 r1 "com/example/prompter/prompter/index/Ints") (f1 : Fld Z h0 r1 "com/example/prompter/prompter/index/Ints" "size" "I" (.int (0 : Int32))) (f2 : Fld Z h0 r1 "com/example/prompter/prompter/index/Ints" "values" "[I" (.ref r2)) (f3 : Arv Z h0 r2 k_2 .int (2 : Int32) [(.int x0), (.int x1)] (.int (0 : Int32))) (g_r1 : n0 ≤ r1) (g_r2 : n0 ≤ r2) (ne_r2_r1 : r2 ≠ r1) :
    MetFree l (⟨"com/example/prompter/prompter/index/Ints", "add", "(I)V"⟩ : MethodName) (head1 (Jvm.Cond.code (⟨"com/example/prompter/prompter/index/Ints", "add", "(I)V"⟩ : MethodName) prog_12_method_2_code 2 none :: ws) ({ frames := 0, cells := 0, slots := 0, locals := 0 } : Room)) (fun a U => a = #[(.ref r1), (.int i1)] ∧ Z.Warmed39 U.vm ∧ U.heap = h0) (fun _ _ _ _ _ => True) (fun _ U o U' => ∃ v L, o = .returned v ∧ Q30 Z r1 i1 r2 k_2 x0 x1 h0 n0 v U'.heap L ∧ FrameEnd U o U' L ({ frames := 0, cells := 0, slots := 0, locals := 0 } : Room).cells ({ frames := 0, cells := 0, slots := 0, locals := 0 } : Room).slots) := by
  refine MetFree.of_bodySF (plainFor_of_name pn_1) hisR ?_
  intro p e s m args below meth c s₁ Bd hml0 hP hK
  obtain ⟨rfl, hZ, hh⟩ := hP
  have hx := Bd.exec
  have hby := Bd.bytes
  have hml : c.maxLocals = 2 := hml0
  have hown : s.vm.findClass "com/example/prompter/prompter/index/Ints" = some m.cls := findClass_of_methodNamed Bd.named
  have hnm := (name_of_methodNamed Bd.named Bd.method).1
  have X0 : Stand p l e ({ frames := 0, cells := 0, slots := 0, locals := 0 } : Room) s m #[(.ref r1), (.int i1)] below meth c s₁ [] 0 0 := Stand.of_body Bd
  have e0 : s₁.heap = h0 := by rw [← hh, Bd.state]; rfl
  have N0 := Fr.nil n0
  suffices H : ∀ Qo : Outcome → State → Prop, (∀ (v : Option Value) (u : State) (L : List Loc), Q30 Z r1 i1 r2 k_2 x0 x1 h0 n0 v u.heap L → FrameEnd s (.returned v) u L ({ frames := 0, cells := 0, slots := 0, locals := 0 } : Room).cells ({ frames := 0, cells := 0, slots := 0, locals := 0 } : Room).slots → Qo (.returned v) u) → Go p e below Qo s₁ (mkF m 0 #[.val (.ref r1), .val (.int i1)] []) from
    Go.cast (ef_30 m r1 i1) (H _ fun v u L h1 h2 => ⟨v, L, rfl, h1, h2⟩)
  intro Qo hQo
  show Go p e below Qo s₁ (mkF m 0 #[.val (.ref r1), .val (.int i1)] [])
  refine Go.of (fun t k => XS.aloadN X0.here hx rfl (hb hby d30_0) rfl rfl k) ?_
  show Go p e below Qo s₁ (mkF m 1 #[.val (.ref r1), .val (.int i1)] [(.ref r1)])
  obtain ⟨T1, X1, e1, st1⟩ := getF X0 hx hZ hown (host := "") (Or.inl (hw _ (List.mem_of_getElem? (i := 17) rfl))) Via.refl e0 f1 (g := (mkF m 1 #[.val (.ref r1), .val (.int i1)] [(.ref r1)])) rfl rfl (hb hby d30_1)
  refine Go.of st1 ?_
  show Go p e below Qo T1 (mkF m 4 #[.val (.ref r1), .val (.int i1)] [(.int (0 : Int32))])
  refine Go.of (fun t k => XS.aloadN X1.here hx rfl (hb hby d30_4) rfl rfl k) ?_
  show Go p e below Qo T1 (mkF m 5 #[.val (.ref r1), .val (.int i1)] [(.ref r1), (.int (0 : Int32))])
  obtain ⟨T2, X2, e2, st2⟩ := getF X1 hx hZ hown (host := "") (Or.inl (hw _ (List.mem_of_getElem? (i := 10) rfl))) Via.refl e1 f2 (g := (mkF m 5 #[.val (.ref r1), .val (.int i1)] [(.ref r1), (.int (0 : Int32))])) rfl rfl (hb hby d30_5)
  refine Go.of st2 ?_
  show Go p e below Qo T2 (mkF m 8 #[.val (.ref r1), .val (.int i1)] [(.ref r2), (.int (0 : Int32))])
  have cpo3 := f3
  obtain ⟨clo3, Aro3, qco3, So3, Mo3, Ho3, Go3⟩ := cpo3
  refine Go.of (fun t k => X2.arraylength hx (cell := clo3) (by rw [e2]; exact Aro3.1) (State.isArrayOf_alike hZ.alike Aro3.2.1) (g := (mkF m 8 #[.val (.ref r1), .val (.int i1)] [(.ref r2), (.int (0 : Int32))])) rfl rfl (hb hby d30_8) t k) ?_
  rw [len_of So3 Mo3]
  show Go p e below Qo T2 (mkF m 9 #[.val (.ref r1), .val (.int i1)] [(.int (2 : Int32)), (.int (0 : Int32))])
  refine Go.of (fun t k => XS.icmpYes X2.here hx rfl (pc0 := 9) (pc' := 29) rfl (hb hby d30_9) rfl (feq (by decide : ¬ ((0 : Int32) = (2 : Int32)))).2 (by decide) (by decide) k) ?_
  show Go p e below Qo T2 (mkF m 29 #[.val (.ref r1), .val (.int i1)] [])
  refine Go.of (fun t k => XS.aloadN X2.here hx rfl (hb hby d30_29) rfl rfl k) ?_
  show Go p e below Qo T2 (mkF m 30 #[.val (.ref r1), .val (.int i1)] [(.ref r1)])
  obtain ⟨T4, X4, e4, st4⟩ := getF X2 hx hZ hown (host := "") (Or.inl (hw _ (List.mem_of_getElem? (i := 10) rfl))) Via.refl e2 f2 (g := (mkF m 30 #[.val (.ref r1), .val (.int i1)] [(.ref r1)])) rfl rfl (hb hby d30_30)
  refine Go.of st4 ?_
  show Go p e below Qo T4 (mkF m 33 #[.val (.ref r1), .val (.int i1)] [(.ref r2)])
  refine Go.of (fun t k => XS.aloadN X4.here hx rfl (hb hby d30_33) rfl rfl k) ?_
  show Go p e below Qo T4 (mkF m 34 #[.val (.ref r1), .val (.int i1)] [(.ref r1), (.ref r2)])
  refine Go.of (fun t k => XS.dup X4.here hx rfl (hb hby d30_34) rfl rfl k) ?_
  show Go p e below Qo T4 (mkF m 35 #[.val (.ref r1), .val (.int i1)] [(.ref r1), (.ref r1), (.ref r2)])
  obtain ⟨T5, X5, e5, st5⟩ := getF X4 hx hZ hown (host := "") (Or.inl (hw _ (List.mem_of_getElem? (i := 17) rfl))) Via.refl e4 f1 (g := (mkF m 35 #[.val (.ref r1), .val (.int i1)] [(.ref r1), (.ref r1), (.ref r2)])) rfl rfl (hb hby d30_35)
  refine Go.of st5 ?_
  show Go p e below Qo T5 (mkF m 38 #[.val (.ref r1), .val (.int i1)] [(.int (0 : Int32)), (.ref r1), (.ref r2)])
  refine Go.of (fun t k => XS.dupX1 X5.here hx rfl (hb hby d30_38) rfl rfl rfl k) ?_
  show Go p e below Qo T5 (mkF m 39 #[.val (.ref r1), .val (.int i1)] [(.int (0 : Int32)), (.ref r1), (.int (0 : Int32)), (.ref r2)])
  refine Go.of (fun t k => XS.iconst X5.here hx rfl (hb hby d30_39) k) ?_
  show Go p e below Qo T5 (mkF m 40 #[.val (.ref r1), .val (.int i1)] [(.int (1 : Int32)), (.int (0 : Int32)), (.ref r1), (.int (0 : Int32)), (.ref r2)])
  refine Go.of (fun t k => XS.iadd X5.here hx rfl (hb hby d30_40) rfl k) ?_
  show Go p e below Qo T5 (mkF m 41 #[.val (.ref r1), .val (.int i1)] [(.int (1 : Int32)), (.ref r1), (.int (0 : Int32)), (.ref r2)])
  obtain ⟨T6, h6, X6, e6, W6, st6⟩ := putF X5 hx hZ hown (host := "") (Or.inl (hw _ (List.mem_of_getElem? (i := 17) rfl))) Via.refl e5 f1 f0 (Or.inl (hw _ (List.mem_of_getElem? (i := 18) rfl))) (hw _ (List.mem_of_getElem? (i := 1) rfl)) (ty := .int) (by decide) rfl rfl (g := (mkF m 41 #[.val (.ref r1), .val (.int i1)] [(.int (1 : Int32)), (.ref r1), (.int (0 : Int32)), (.ref r2)])) rfl rfl (hb hby d30_41)
  have q7 : Exa Z h6 r1 "com/example/prompter/prompter/index/Ints" := f0.wr W6
  have q8 : Fld Z h6 r1 "com/example/prompter/prompter/index/Ints" "size" "I" (.int (1 : Int32)) := f1.same W6
  have q9 : Fld Z h6 r1 "com/example/prompter/prompter/index/Ints" "values" "[I" (.ref r2) := f2.other W6 (Or.inr (slot_ne (Or.inl (hw _ (List.mem_of_getElem? (i := 11) rfl))) (Or.inl (hw _ (List.mem_of_getElem? (i := 18) rfl))) (by decide) (t := (.array .int)) (t' := .int) (by decide) (by decide)))
  have q10 : Arv Z h6 r2 k_2 .int (2 : Int32) [(.int x0), (.int x1)] (.int (0 : Int32)) := f3.other W6 ne_r2_r1
  have Z11 : n0 ≤ h6.size := Nat.le_trans Z0 (Keep.of_wr W6).1
  have K12 : Keep h0 h6 [r1, r2] := (Keep.refl h0 [r1, r2]).wr W6 (Or.inl (List.mem_of_getElem? (i := 0) rfl))
  have N13 := Fr.snoc X6 N0 g_r1
  refine Go.of st6 ?_
  show Go p e below Qo T6 (mkF m 44 #[.val (.ref r1), .val (.int i1)] [(.int (0 : Int32)), (.ref r2)])
  refine Go.of (fun t k => XS.iloadN X6.here hx rfl (hb hby d30_44) rfl  k) ?_
  show Go p e below Qo T6 (mkF m 45 #[.val (.ref r1), .val (.int i1)] [(.int i1), (.int (0 : Int32)), (.ref r2)])
  have cpo14 := q10
  obtain ⟨clo14, Aro14, qco14, So14, Mo14, Ho14, Go14⟩ := cpo14
  have hin15 : ¬ ((0 : Int32) < 0 ∨ clo14.slots.size ≤ (0 : Int32).toNatClampNeg) := (inb_of So14 ⟨by decide, by decide⟩)
  obtain ⟨T16, h16, X16, e16, W16, st16⟩ := stI X6 hx hZ e6 Aro14 (j := (0 : Int32)) hin15 (g := (mkF m 45 #[.val (.ref r1), .val (.int i1)] [(.int i1), (.int (0 : Int32)), (.ref r2)])) rfl rfl (hb hby d30_45)
  have q17 : Exa Z h16 r1 "com/example/prompter/prompter/index/Ints" := q7.wr W16
  have q18 : Fld Z h16 r1 "com/example/prompter/prompter/index/Ints" "size" "I" (.int (1 : Int32)) := q8.other W16 (Or.inl (Ne.symm ne_r2_r1))
  have q19 : Fld Z h16 r1 "com/example/prompter/prompter/index/Ints" "values" "[I" (.ref r2) := q9.other W16 (Or.inl (Ne.symm ne_r2_r1))
  have q20 : Arv Z h16 r2 k_2 .int (2 : Int32) [(.int i1), (.int x1)] (.int (0 : Int32)) := Arv.set Aro14 qco14 So14 Mo14 Ho14 Go14 rfl W16 0 rfl (Nat.le_of_ble_eq_true rfl)
  have Z21 : n0 ≤ h16.size := Nat.le_trans Z11 (Keep.of_wr W16).1
  have K22 : Keep h0 h16 [r1, r2] := K12.wr W16 (Or.inl (List.mem_of_getElem? (i := 1) rfl))
  have N23 := Fr.snoc X16 N13 g_r2
  refine Go.of st16 ?_
  show Go p e below Qo T16 (mkF m 46 #[.val (.ref r1), .val (.int i1)] [])
  exact own_ret0 X16 hx Bd.notSynchronized Bd.returns (hb hby d30_46) (fun u hu hF => hQo _ _ _ ⟨rfl, N23, by rw [hu, e16]; exact K22, by rw [hu, e16]; exact q17, by rw [hu, e16]; exact q18, by rw [hu, e16]; exact q19, by rw [hu, e16]; exact q20⟩ (own_mono hF (by decide) (by decide)))
theorem d31_0 : decode prog_12_method_2_code 0 = .ok (.aload_n 0, 1) := by decide +kernel
theorem d31_1 : decode prog_12_method_2_code 1 = .ok (.getfield 13, 3) := by decide +kernel
theorem d31_4 : decode prog_12_method_2_code 4 = .ok (.aload_n 0, 1) := by decide +kernel
theorem d31_5 : decode prog_12_method_2_code 5 = .ok (.getfield 7, 3) := by decide +kernel
theorem d31_8 : decode prog_12_method_2_code 8 = .ok (.arraylength, 1) := by decide +kernel
theorem d31_9 : decode prog_12_method_2_code 9 = .ok (.if_icmp .ne 20, 3) := by decide +kernel
theorem d31_29 : decode prog_12_method_2_code 29 = .ok (.aload_n 0, 1) := by decide +kernel
theorem d31_30 : decode prog_12_method_2_code 30 = .ok (.getfield 7, 3) := by decide +kernel
theorem d31_33 : decode prog_12_method_2_code 33 = .ok (.aload_n 0, 1) := by decide +kernel
theorem d31_34 : decode prog_12_method_2_code 34 = .ok (.dup, 1) := by decide +kernel
theorem d31_35 : decode prog_12_method_2_code 35 = .ok (.getfield 13, 3) := by decide +kernel
theorem d31_38 : decode prog_12_method_2_code 38 = .ok (.dup_x1, 1) := by decide +kernel
theorem d31_39 : decode prog_12_method_2_code 39 = .ok (.iconst 1, 1) := by decide +kernel
theorem d31_40 : decode prog_12_method_2_code 40 = .ok (.iadd, 1) := by decide +kernel
theorem d31_41 : decode prog_12_method_2_code 41 = .ok (.putfield 13, 3) := by decide +kernel
theorem d31_44 : decode prog_12_method_2_code 44 = .ok (.iload_n 1, 1) := by decide +kernel
theorem d31_45 : decode prog_12_method_2_code 45 = .ok (.iastore, 1) := by decide +kernel
theorem d31_46 : decode prog_12_method_2_code 46 = .ok (.return_, 1) := by decide +kernel
theorem ef_31 (m : MethodId) (r1 : Addr) (i1 : Int32)  : entryFrame m #[(.ref r1), (.int i1)] 2 = mkF m 0 #[.val (.ref r1), .val (.int i1)] [] := by
  first | (simp [entryFrame, mkF, argsToLocals, Value.category]; done) | rfl
def Q31 (Z : State) (r1 : Addr) (i1 : Int32) (r2 : Addr) (k_2 : ClassId) (x0 : Int32) (x1 : Int32) (h0 : Heap) (n0 : Nat) (v : Option Value) (h : Heap) (L : List Loc) : Prop := v = none ∧ Fr n0 L ∧ Keep h0 h [r1, r2] ∧ Exa Z h r1 "com/example/prompter/prompter/index/Ints" ∧ Fld Z h r1 "com/example/prompter/prompter/index/Ints" "size" "I" (.int (2 : Int32)) ∧ Fld Z h r1 "com/example/prompter/prompter/index/Ints" "values" "[I" (.ref r2) ∧ Arv Z h r2 k_2 .int (2 : Int32) [(.int x0), (.int i1)] (.int (0 : Int32))
set_option maxRecDepth 65536 in
set_option maxHeartbeats 40000000 in
theorem rm31 (l : Launch) (Z : State) (a0 : Array Value) (hw : ∀ d ∈ tables_1, d.before a0 Z = true) (ws : List Jvm.Cond) (r1 : Addr) (i1 : Int32) (r2 : Addr) (k_2 : ClassId) (x0 : Int32) (x1 : Int32) (h0 : Heap) (n0 : Nat) (Z0 : n0 ≤ h0.size) (f0 : Exa Z h0 r1 "com/example/prompter/prompter/index/Ints") (f1 : Fld Z h0 r1 "com/example/prompter/prompter/index/Ints" "size" "I" (.int (1 : Int32))) (f2 : Fld Z h0 r1 "com/example/prompter/prompter/index/Ints" "values" "[I" (.ref r2)) (f3 : Arv Z h0 r2 k_2 .int (2 : Int32) [(.int x0), (.int x1)] (.int (0 : Int32))) (g_r1 : n0 ≤ r1) (g_r2 : n0 ≤ r2) (ne_r2_r1 : r2 ≠ r1) :
    MetFree l (⟨"com/example/prompter/prompter/index/Ints", "add", "(I)V"⟩ : MethodName) (head1 (Jvm.Cond.code (⟨"com/example/prompter/prompter/index/Ints", "add", "(I)V"⟩ : MethodName) prog_12_method_2_code 2 none :: ws) ({ frames := 0, cells := 0, slots := 0, locals := 0 } : Room)) (fun a U => a = #[(.ref r1), (.int i1)] ∧ Z.Warmed39 U.vm ∧ U.heap = h0) (fun _ _ _ _ _ => True) (fun _ U o U' => ∃ v L, o = .returned v ∧ Q31 Z r1 i1 r2 k_2 x0 x1 h0 n0 v U'.heap L ∧ FrameEnd U o U' L ({ frames := 0, cells := 0, slots := 0, locals := 0 } : Room).cells ({ frames := 0, cells := 0, slots := 0, locals := 0 } : Room).slots) := by
  refine MetFree.of_bodySF (plainFor_of_name pn_1) hisR ?_
  intro p e s m args below meth c s₁ Bd hml0 hP hK
  obtain ⟨rfl, hZ, hh⟩ := hP
  have hx := Bd.exec
  have hby := Bd.bytes
  have hml : c.maxLocals = 2 := hml0
  have hown : s.vm.findClass "com/example/prompter/prompter/index/Ints" = some m.cls := findClass_of_methodNamed Bd.named
  have hnm := (name_of_methodNamed Bd.named Bd.method).1
  have X0 : Stand p l e ({ frames := 0, cells := 0, slots := 0, locals := 0 } : Room) s m #[(.ref r1), (.int i1)] below meth c s₁ [] 0 0 := Stand.of_body Bd
  have e0 : s₁.heap = h0 := by rw [← hh, Bd.state]; rfl
  have N0 := Fr.nil n0
  suffices H : ∀ Qo : Outcome → State → Prop, (∀ (v : Option Value) (u : State) (L : List Loc), Q31 Z r1 i1 r2 k_2 x0 x1 h0 n0 v u.heap L → FrameEnd s (.returned v) u L ({ frames := 0, cells := 0, slots := 0, locals := 0 } : Room).cells ({ frames := 0, cells := 0, slots := 0, locals := 0 } : Room).slots → Qo (.returned v) u) → Go p e below Qo s₁ (mkF m 0 #[.val (.ref r1), .val (.int i1)] []) from
    Go.cast (ef_31 m r1 i1) (H _ fun v u L h1 h2 => ⟨v, L, rfl, h1, h2⟩)
  intro Qo hQo
  show Go p e below Qo s₁ (mkF m 0 #[.val (.ref r1), .val (.int i1)] [])
  refine Go.of (fun t k => XS.aloadN X0.here hx rfl (hb hby d31_0) rfl rfl k) ?_
  show Go p e below Qo s₁ (mkF m 1 #[.val (.ref r1), .val (.int i1)] [(.ref r1)])
  obtain ⟨T1, X1, e1, st1⟩ := getF X0 hx hZ hown (host := "") (Or.inl (hw _ (List.mem_of_getElem? (i := 17) rfl))) Via.refl e0 f1 (g := (mkF m 1 #[.val (.ref r1), .val (.int i1)] [(.ref r1)])) rfl rfl (hb hby d31_1)
  refine Go.of st1 ?_
  show Go p e below Qo T1 (mkF m 4 #[.val (.ref r1), .val (.int i1)] [(.int (1 : Int32))])
  refine Go.of (fun t k => XS.aloadN X1.here hx rfl (hb hby d31_4) rfl rfl k) ?_
  show Go p e below Qo T1 (mkF m 5 #[.val (.ref r1), .val (.int i1)] [(.ref r1), (.int (1 : Int32))])
  obtain ⟨T2, X2, e2, st2⟩ := getF X1 hx hZ hown (host := "") (Or.inl (hw _ (List.mem_of_getElem? (i := 10) rfl))) Via.refl e1 f2 (g := (mkF m 5 #[.val (.ref r1), .val (.int i1)] [(.ref r1), (.int (1 : Int32))])) rfl rfl (hb hby d31_5)
  refine Go.of st2 ?_
  show Go p e below Qo T2 (mkF m 8 #[.val (.ref r1), .val (.int i1)] [(.ref r2), (.int (1 : Int32))])
  have cpo3 := f3
  obtain ⟨clo3, Aro3, qco3, So3, Mo3, Ho3, Go3⟩ := cpo3
  refine Go.of (fun t k => X2.arraylength hx (cell := clo3) (by rw [e2]; exact Aro3.1) (State.isArrayOf_alike hZ.alike Aro3.2.1) (g := (mkF m 8 #[.val (.ref r1), .val (.int i1)] [(.ref r2), (.int (1 : Int32))])) rfl rfl (hb hby d31_8) t k) ?_
  rw [len_of So3 Mo3]
  show Go p e below Qo T2 (mkF m 9 #[.val (.ref r1), .val (.int i1)] [(.int (2 : Int32)), (.int (1 : Int32))])
  refine Go.of (fun t k => XS.icmpYes X2.here hx rfl (pc0 := 9) (pc' := 29) rfl (hb hby d31_9) rfl (feq (by decide : ¬ ((1 : Int32) = (2 : Int32)))).2 (by decide) (by decide) k) ?_
  show Go p e below Qo T2 (mkF m 29 #[.val (.ref r1), .val (.int i1)] [])
  refine Go.of (fun t k => XS.aloadN X2.here hx rfl (hb hby d31_29) rfl rfl k) ?_
  show Go p e below Qo T2 (mkF m 30 #[.val (.ref r1), .val (.int i1)] [(.ref r1)])
  obtain ⟨T4, X4, e4, st4⟩ := getF X2 hx hZ hown (host := "") (Or.inl (hw _ (List.mem_of_getElem? (i := 10) rfl))) Via.refl e2 f2 (g := (mkF m 30 #[.val (.ref r1), .val (.int i1)] [(.ref r1)])) rfl rfl (hb hby d31_30)
  refine Go.of st4 ?_
  show Go p e below Qo T4 (mkF m 33 #[.val (.ref r1), .val (.int i1)] [(.ref r2)])
  refine Go.of (fun t k => XS.aloadN X4.here hx rfl (hb hby d31_33) rfl rfl k) ?_
  show Go p e below Qo T4 (mkF m 34 #[.val (.ref r1), .val (.int i1)] [(.ref r1), (.ref r2)])
  refine Go.of (fun t k => XS.dup X4.here hx rfl (hb hby d31_34) rfl rfl k) ?_
  show Go p e below Qo T4 (mkF m 35 #[.val (.ref r1), .val (.int i1)] [(.ref r1), (.ref r1), (.ref r2)])
  obtain ⟨T5, X5, e5, st5⟩ := getF X4 hx hZ hown (host := "") (Or.inl (hw _ (List.mem_of_getElem? (i := 17) rfl))) Via.refl e4 f1 (g := (mkF m 35 #[.val (.ref r1), .val (.int i1)] [(.ref r1), (.ref r1), (.ref r2)])) rfl rfl (hb hby d31_35)
  refine Go.of st5 ?_
  show Go p e below Qo T5 (mkF m 38 #[.val (.ref r1), .val (.int i1)] [(.int (1 : Int32)), (.ref r1), (.ref r2)])
  refine Go.of (fun t k => XS.dupX1 X5.here hx rfl (hb hby d31_38) rfl rfl rfl k) ?_
  show Go p e below Qo T5 (mkF m 39 #[.val (.ref r1), .val (.int i1)] [(.int (1 : Int32)), (.ref r1), (.int (1 : Int32)), (.ref r2)])
  refine Go.of (fun t k => XS.iconst X5.here hx rfl (hb hby d31_39) k) ?_
  show Go p e below Qo T5 (mkF m 40 #[.val (.ref r1), .val (.int i1)] [(.int (1 : Int32)), (.int (1 : Int32)), (.ref r1), (.int (1 : Int32)), (.ref r2)])
  refine Go.of (fun t k => XS.iadd X5.here hx rfl (hb hby d31_40) rfl k) ?_
  show Go p e below Qo T5 (mkF m 41 #[.val (.ref r1), .val (.int i1)] [(.int (2 : Int32)), (.ref r1), (.int (1 : Int32)), (.ref r2)])
  obtain ⟨T6, h6, X6, e6, W6, st6⟩ := putF X5 hx hZ hown (host := "") (Or.inl (hw _ (List.mem_of_getElem? (i := 17) rfl))) Via.refl e5 f1 f0 (Or.inl (hw _ (List.mem_of_getElem? (i := 18) rfl))) (hw _ (List.mem_of_getElem? (i := 1) rfl)) (ty := .int) (by decide) rfl rfl (g := (mkF m 41 #[.val (.ref r1), .val (.int i1)] [(.int (2 : Int32)), (.ref r1), (.int (1 : Int32)), (.ref r2)])) rfl rfl (hb hby d31_41)
  have q7 : Exa Z h6 r1 "com/example/prompter/prompter/index/Ints" := f0.wr W6
  have q8 : Fld Z h6 r1 "com/example/prompter/prompter/index/Ints" "size" "I" (.int (2 : Int32)) := f1.same W6
  have q9 : Fld Z h6 r1 "com/example/prompter/prompter/index/Ints" "values" "[I" (.ref r2) := f2.other W6 (Or.inr (slot_ne (Or.inl (hw _ (List.mem_of_getElem? (i := 11) rfl))) (Or.inl (hw _ (List.mem_of_getElem? (i := 18) rfl))) (by decide) (t := (.array .int)) (t' := .int) (by decide) (by decide)))
  have q10 : Arv Z h6 r2 k_2 .int (2 : Int32) [(.int x0), (.int x1)] (.int (0 : Int32)) := f3.other W6 ne_r2_r1
  have Z11 : n0 ≤ h6.size := Nat.le_trans Z0 (Keep.of_wr W6).1
  have K12 : Keep h0 h6 [r1, r2] := (Keep.refl h0 [r1, r2]).wr W6 (Or.inl (List.mem_of_getElem? (i := 0) rfl))
  have N13 := Fr.snoc X6 N0 g_r1
  refine Go.of st6 ?_
  show Go p e below Qo T6 (mkF m 44 #[.val (.ref r1), .val (.int i1)] [(.int (1 : Int32)), (.ref r2)])
  refine Go.of (fun t k => XS.iloadN X6.here hx rfl (hb hby d31_44) rfl  k) ?_
  show Go p e below Qo T6 (mkF m 45 #[.val (.ref r1), .val (.int i1)] [(.int i1), (.int (1 : Int32)), (.ref r2)])
  have cpo14 := q10
  obtain ⟨clo14, Aro14, qco14, So14, Mo14, Ho14, Go14⟩ := cpo14
  have hin15 : ¬ ((1 : Int32) < 0 ∨ clo14.slots.size ≤ (1 : Int32).toNatClampNeg) := (inb_of So14 ⟨by decide, by decide⟩)
  obtain ⟨T16, h16, X16, e16, W16, st16⟩ := stI X6 hx hZ e6 Aro14 (j := (1 : Int32)) hin15 (g := (mkF m 45 #[.val (.ref r1), .val (.int i1)] [(.int i1), (.int (1 : Int32)), (.ref r2)])) rfl rfl (hb hby d31_45)
  have q17 : Exa Z h16 r1 "com/example/prompter/prompter/index/Ints" := q7.wr W16
  have q18 : Fld Z h16 r1 "com/example/prompter/prompter/index/Ints" "size" "I" (.int (2 : Int32)) := q8.other W16 (Or.inl (Ne.symm ne_r2_r1))
  have q19 : Fld Z h16 r1 "com/example/prompter/prompter/index/Ints" "values" "[I" (.ref r2) := q9.other W16 (Or.inl (Ne.symm ne_r2_r1))
  have q20 : Arv Z h16 r2 k_2 .int (2 : Int32) [(.int x0), (.int i1)] (.int (0 : Int32)) := Arv.set Aro14 qco14 So14 Mo14 Ho14 Go14 rfl W16 1 rfl (Nat.le_of_ble_eq_true rfl)
  have Z21 : n0 ≤ h16.size := Nat.le_trans Z11 (Keep.of_wr W16).1
  have K22 : Keep h0 h16 [r1, r2] := K12.wr W16 (Or.inl (List.mem_of_getElem? (i := 1) rfl))
  have N23 := Fr.snoc X16 N13 g_r2
  refine Go.of st16 ?_
  show Go p e below Qo T16 (mkF m 46 #[.val (.ref r1), .val (.int i1)] [])
  exact own_ret0 X16 hx Bd.notSynchronized Bd.returns (hb hby d31_46) (fun u hu hF => hQo _ _ _ ⟨rfl, N23, by rw [hu, e16]; exact K22, by rw [hu, e16]; exact q17, by rw [hu, e16]; exact q18, by rw [hu, e16]; exact q19, by rw [hu, e16]; exact q20⟩ (own_mono hF (by decide) (by decide)))
theorem pd_1 : parseMethodDescriptor "([II)[I" = some ⟨[(.array .int), .int], some (.array .int)⟩ := by decide +kernel
theorem d32_0 : decode prog_12_method_2_code 0 = .ok (.aload_n 0, 1) := by decide +kernel
theorem d32_1 : decode prog_12_method_2_code 1 = .ok (.getfield 13, 3) := by decide +kernel
theorem d32_4 : decode prog_12_method_2_code 4 = .ok (.aload_n 0, 1) := by decide +kernel
theorem d32_5 : decode prog_12_method_2_code 5 = .ok (.getfield 7, 3) := by decide +kernel
theorem d32_8 : decode prog_12_method_2_code 8 = .ok (.arraylength, 1) := by decide +kernel
theorem d32_9 : decode prog_12_method_2_code 9 = .ok (.if_icmp .ne 20, 3) := by decide +kernel
theorem d32_12 : decode prog_12_method_2_code 12 = .ok (.aload_n 0, 1) := by decide +kernel
theorem d32_13 : decode prog_12_method_2_code 13 = .ok (.aload_n 0, 1) := by decide +kernel
theorem d32_14 : decode prog_12_method_2_code 14 = .ok (.getfield 7, 3) := by decide +kernel
theorem d32_17 : decode prog_12_method_2_code 17 = .ok (.aload_n 0, 1) := by decide +kernel
theorem d32_18 : decode prog_12_method_2_code 18 = .ok (.getfield 13, 3) := by decide +kernel
theorem d32_21 : decode prog_12_method_2_code 21 = .ok (.iconst 2, 1) := by decide +kernel
theorem d32_22 : decode prog_12_method_2_code 22 = .ok (.imul, 1) := by decide +kernel
theorem d32_23 : decode prog_12_method_2_code 23 = .ok (.invokestatic 17, 3) := by decide +kernel
theorem d32_26 : decode prog_12_method_2_code 26 = .ok (.putfield 7, 3) := by decide +kernel
theorem d32_29 : decode prog_12_method_2_code 29 = .ok (.aload_n 0, 1) := by decide +kernel
theorem d32_30 : decode prog_12_method_2_code 30 = .ok (.getfield 7, 3) := by decide +kernel
theorem d32_33 : decode prog_12_method_2_code 33 = .ok (.aload_n 0, 1) := by decide +kernel
theorem d32_34 : decode prog_12_method_2_code 34 = .ok (.dup, 1) := by decide +kernel
theorem d32_35 : decode prog_12_method_2_code 35 = .ok (.getfield 13, 3) := by decide +kernel
theorem d32_38 : decode prog_12_method_2_code 38 = .ok (.dup_x1, 1) := by decide +kernel
theorem d32_39 : decode prog_12_method_2_code 39 = .ok (.iconst 1, 1) := by decide +kernel
theorem d32_40 : decode prog_12_method_2_code 40 = .ok (.iadd, 1) := by decide +kernel
theorem d32_41 : decode prog_12_method_2_code 41 = .ok (.putfield 13, 3) := by decide +kernel
theorem d32_44 : decode prog_12_method_2_code 44 = .ok (.iload_n 1, 1) := by decide +kernel
theorem d32_45 : decode prog_12_method_2_code 45 = .ok (.iastore, 1) := by decide +kernel
theorem d32_46 : decode prog_12_method_2_code 46 = .ok (.return_, 1) := by decide +kernel
theorem ef_32 (m : MethodId) (r1 : Addr) (i1 : Int32)  : entryFrame m #[(.ref r1), (.int i1)] 2 = mkF m 0 #[.val (.ref r1), .val (.int i1)] [] := by
  first | (simp [entryFrame, mkF, argsToLocals, Value.category]; done) | rfl
def Q32 (Z : State) (r1 : Addr) (i1 : Int32) (r2 : Addr) (k_2 : ClassId) (x0 : Int32) (x1 : Int32) (h0 : Heap) (n0 : Nat) (v : Option Value) (h : Heap) (L : List Loc) : Prop := ∃ rb : Addr, ∃ kb : ClassId, v = none ∧ Fr n0 L ∧ Keep h0 h [r1] ∧ h0.size ≤ rb ∧ Exa Z h r1 "com/example/prompter/prompter/index/Ints" ∧ Fld Z h r1 "com/example/prompter/prompter/index/Ints" "size" "I" (.int (3 : Int32)) ∧ Fld Z h r1 "com/example/prompter/prompter/index/Ints" "values" "[I" (.ref rb) ∧ Arv Z h rb kb .int (4 : Int32) [(.int x0), (.int x1), (.int i1), (.int (0 : Int32))] (.int (0 : Int32))
set_option maxRecDepth 65536 in
set_option maxHeartbeats 40000000 in
theorem rm32 (l : Launch) (Z : State) (a0 : Array Value) (hw : ∀ d ∈ tables_1, d.before a0 Z = true) (ws : List Jvm.Cond) (r1 : Addr) (i1 : Int32) (r2 : Addr) (k_2 : ClassId) (x0 : Int32) (x1 : Int32) (h0 : Heap) (n0 : Nat) (Z0 : n0 ≤ h0.size) (f0 : Exa Z h0 r1 "com/example/prompter/prompter/index/Ints") (f1 : Fld Z h0 r1 "com/example/prompter/prompter/index/Ints" "size" "I" (.int (2 : Int32))) (f2 : Fld Z h0 r1 "com/example/prompter/prompter/index/Ints" "values" "[I" (.ref r2)) (f3 : Arv Z h0 r2 k_2 .int (2 : Int32) [(.int x0), (.int x1)] (.int (0 : Int32))) (g_r1 : n0 ≤ r1) (g_r2 : n0 ≤ r2) (ne_r2_r1 : r2 ≠ r1) :
    MetFree l (⟨"com/example/prompter/prompter/index/Ints", "add", "(I)V"⟩ : MethodName) (head1 (Jvm.Cond.code (⟨"com/example/prompter/prompter/index/Ints", "add", "(I)V"⟩ : MethodName) prog_12_method_2_code 2 none :: ws) ({ frames := 2, cells := 1, slots := 4, locals := 33 } : Room)) (fun a U => a = #[(.ref r1), (.int i1)] ∧ Z.Warmed39 U.vm ∧ U.heap = h0) (fun _ _ _ _ _ => True) (fun _ U o U' => ∃ v L, o = .returned v ∧ Q32 Z r1 i1 r2 k_2 x0 x1 h0 n0 v U'.heap L ∧ FrameEnd U o U' L ({ frames := 2, cells := 1, slots := 4, locals := 33 } : Room).cells ({ frames := 2, cells := 1, slots := 4, locals := 33 } : Room).slots) := by
  refine MetFree.of_bodySF (plainFor_of_name pn_1) hisR ?_
  intro p e s m args below meth c s₁ Bd hml0 hP hK
  obtain ⟨rfl, hZ, hh⟩ := hP
  have hx := Bd.exec
  have hby := Bd.bytes
  have hml : c.maxLocals = 2 := hml0
  have hown : s.vm.findClass "com/example/prompter/prompter/index/Ints" = some m.cls := findClass_of_methodNamed Bd.named
  have hnm := (name_of_methodNamed Bd.named Bd.method).1
  have X0 : Stand p l e ({ frames := 2, cells := 1, slots := 4, locals := 33 } : Room) s m #[(.ref r1), (.int i1)] below meth c s₁ [] 0 0 := Stand.of_body Bd
  have e0 : s₁.heap = h0 := by rw [← hh, Bd.state]; rfl
  have N0 := Fr.nil n0
  suffices H : ∀ Qo : Outcome → State → Prop, (∀ (v : Option Value) (u : State) (L : List Loc), Q32 Z r1 i1 r2 k_2 x0 x1 h0 n0 v u.heap L → FrameEnd s (.returned v) u L ({ frames := 2, cells := 1, slots := 4, locals := 33 } : Room).cells ({ frames := 2, cells := 1, slots := 4, locals := 33 } : Room).slots → Qo (.returned v) u) → Go p e below Qo s₁ (mkF m 0 #[.val (.ref r1), .val (.int i1)] []) from
    Go.cast (ef_32 m r1 i1) (H _ fun v u L h1 h2 => ⟨v, L, rfl, h1, h2⟩)
  intro Qo hQo
  show Go p e below Qo s₁ (mkF m 0 #[.val (.ref r1), .val (.int i1)] [])
  refine Go.of (fun t k => XS.aloadN X0.here hx rfl (hb hby d32_0) rfl rfl k) ?_
  show Go p e below Qo s₁ (mkF m 1 #[.val (.ref r1), .val (.int i1)] [(.ref r1)])
  obtain ⟨T1, X1, e1, st1⟩ := getF X0 hx hZ hown (host := "") (Or.inl (hw _ (List.mem_of_getElem? (i := 17) rfl))) Via.refl e0 f1 (g := (mkF m 1 #[.val (.ref r1), .val (.int i1)] [(.ref r1)])) rfl rfl (hb hby d32_1)
  refine Go.of st1 ?_
  show Go p e below Qo T1 (mkF m 4 #[.val (.ref r1), .val (.int i1)] [(.int (2 : Int32))])
  refine Go.of (fun t k => XS.aloadN X1.here hx rfl (hb hby d32_4) rfl rfl k) ?_
  show Go p e below Qo T1 (mkF m 5 #[.val (.ref r1), .val (.int i1)] [(.ref r1), (.int (2 : Int32))])
  obtain ⟨T2, X2, e2, st2⟩ := getF X1 hx hZ hown (host := "") (Or.inl (hw _ (List.mem_of_getElem? (i := 10) rfl))) Via.refl e1 f2 (g := (mkF m 5 #[.val (.ref r1), .val (.int i1)] [(.ref r1), (.int (2 : Int32))])) rfl rfl (hb hby d32_5)
  refine Go.of st2 ?_
  show Go p e below Qo T2 (mkF m 8 #[.val (.ref r1), .val (.int i1)] [(.ref r2), (.int (2 : Int32))])
  have cpo3 := f3
  obtain ⟨clo3, Aro3, qco3, So3, Mo3, Ho3, Go3⟩ := cpo3
  refine Go.of (fun t k => X2.arraylength hx (cell := clo3) (by rw [e2]; exact Aro3.1) (State.isArrayOf_alike hZ.alike Aro3.2.1) (g := (mkF m 8 #[.val (.ref r1), .val (.int i1)] [(.ref r2), (.int (2 : Int32))])) rfl rfl (hb hby d32_8) t k) ?_
  rw [len_of So3 Mo3]
  show Go p e below Qo T2 (mkF m 9 #[.val (.ref r1), .val (.int i1)] [(.int (2 : Int32)), (.int (2 : Int32))])
  refine Go.of (fun t k => XS.icmpNo X2.here hx rfl (hb hby d32_9) rfl (teq (by decide : (2 : Int32) = (2 : Int32))).2 k) ?_
  show Go p e below Qo T2 (mkF m 12 #[.val (.ref r1), .val (.int i1)] [])
  refine Go.of (fun t k => XS.aloadN X2.here hx rfl (hb hby d32_12) rfl rfl k) ?_
  show Go p e below Qo T2 (mkF m 13 #[.val (.ref r1), .val (.int i1)] [(.ref r1)])
  refine Go.of (fun t k => XS.aloadN X2.here hx rfl (hb hby d32_13) rfl rfl k) ?_
  show Go p e below Qo T2 (mkF m 14 #[.val (.ref r1), .val (.int i1)] [(.ref r1), (.ref r1)])
  obtain ⟨T4, X4, e4, st4⟩ := getF X2 hx hZ hown (host := "") (Or.inl (hw _ (List.mem_of_getElem? (i := 10) rfl))) Via.refl e2 f2 (g := (mkF m 14 #[.val (.ref r1), .val (.int i1)] [(.ref r1), (.ref r1)])) rfl rfl (hb hby d32_14)
  refine Go.of st4 ?_
  show Go p e below Qo T4 (mkF m 17 #[.val (.ref r1), .val (.int i1)] [(.ref r2), (.ref r1)])
  refine Go.of (fun t k => XS.aloadN X4.here hx rfl (hb hby d32_17) rfl rfl k) ?_
  show Go p e below Qo T4 (mkF m 18 #[.val (.ref r1), .val (.int i1)] [(.ref r1), (.ref r2), (.ref r1)])
  obtain ⟨T5, X5, e5, st5⟩ := getF X4 hx hZ hown (host := "") (Or.inl (hw _ (List.mem_of_getElem? (i := 17) rfl))) Via.refl e4 f1 (g := (mkF m 18 #[.val (.ref r1), .val (.int i1)] [(.ref r1), (.ref r2), (.ref r1)])) rfl rfl (hb hby d32_18)
  refine Go.of st5 ?_
  show Go p e below Qo T5 (mkF m 21 #[.val (.ref r1), .val (.int i1)] [(.int (2 : Int32)), (.ref r2), (.ref r1)])
  refine Go.of (fun t k => XS.iconst X5.here hx rfl (hb hby d32_21) k) ?_
  show Go p e below Qo T5 (mkF m 22 #[.val (.ref r1), .val (.int i1)] [(.int (2 : Int32)), (.int (2 : Int32)), (.ref r2), (.ref r1)])
  refine Go.of (fun t k => XS.imul X5.here hx rfl (hb hby d32_22) rfl k) ?_
  show Go p e below Qo T5 (mkF m 23 #[.val (.ref r1), .val (.int i1)] [(.int (4 : Int32)), (.ref r2), (.ref r1)])
  obtain ⟨_, _, ⟨T6, L6, k6, n6⟩, -, X6, ⟨Lc6, hQ6, l6, y6, z6⟩, st6⟩ := Jvm.LawKit.callS X5 hx (y := (⟨"java/util/Arrays", "copyOf", "([II)[I"⟩ : MethodName)) hown (mvT hZ (hw _ (List.mem_of_getElem? (i := 34) rfl))) (mvT hZ (hw _ (List.mem_of_getElem? (i := 35) rfl))) (mvT hZ (hw _ (List.mem_of_getElem? (i := 36) rfl))) (mvT hZ (hw _ (List.mem_of_getElem? (i := 37) rfl))) (by decide) (backOf (W := 1) (rm70 l Z a0 hw [] r2 (4 : Int32) k_2 x0 x1 h0 n0 Z0 f3 (by first | rfl | assumption | decide)) hZ (hw _ (List.mem_of_getElem? (i := 37) rfl)) (hw _ (List.mem_of_getElem? (i := 36) rfl)) (by decide) (by decide)) (g := (mkF m 23 #[.val (.ref r1), .val (.int i1)] [(.int (4 : Int32)), (.ref r2), (.ref r1)])) rfl (by rw [hml]; rfl) (argsL := [(.ref r2), (.int (4 : Int32))]) (rest := [(.ref r1)]) (lenOf pd_1 rfl) rfl (by show 2 * 0 + _ ≤ _; exact Nat.le_of_eq rfl) (hb hby d32_23) (fun _ _ => ⟨rfl, e5, (by decide : 0 + 1 ≤ _), (by decide : 0 + 4 ≤ _)⟩)
  dsimp only [Pt.U, Pt.locs, Pt.cells, Pt.slots] at X6 l6 y6 z6 st6 hQ6
  subst l6 y6 z6
  obtain ⟨x8, x9, rfl, N7, Kc10, g12, q11⟩ := hQ6
  have N13 := Fr.app N0 N7
  have ne14 : r1 ≠ x8 := Nat.ne_of_lt (Nat.lt_of_lt_of_le f0.lt g12)
  have ne15 : r2 ≠ x8 := Nat.ne_of_lt (Nat.lt_of_lt_of_le f3.lt g12)
  have g16 : n0 ≤ x8 := Nat.le_trans Z0 g12
  have sz17 : h0.size ≤ x8 := Nat.le_trans (Keep.refl h0 [r1]).1 g12
  have q18 : Exa Z T6.heap r1 "com/example/prompter/prompter/index/Ints" := f0.keep Kc10
  have q19 : Fld Z T6.heap r1 "com/example/prompter/prompter/index/Ints" "size" "I" (.int (2 : Int32)) := f1.keep Kc10 nin0
  have q20 : Fld Z T6.heap r1 "com/example/prompter/prompter/index/Ints" "values" "[I" (.ref r2) := f2.keep Kc10 nin0
  have q21 : Arv Z T6.heap r2 k_2 .int (2 : Int32) [(.int x0), (.int x1)] (.int (0 : Int32)) := f3.keep Kc10 nin0
  have Z22 : n0 ≤ T6.heap.size := Nat.le_trans Z0 Kc10.1
  have K23 : Keep h0 T6.heap [r1] := (Keep.refl h0 [r1]).trans Kc10 all0
  refine Go.of st6 ?_
  show Go p e below Qo T6 (mkF m 26 #[.val (.ref r1), .val (.int i1)] [(.ref x8), (.ref r1)])
  obtain ⟨T24, h24, X24, e24, W24, st24⟩ := putF X6 hx hZ hown (host := "") (Or.inl (hw _ (List.mem_of_getElem? (i := 10) rfl))) Via.refl rfl q20 q18 (Or.inl (hw _ (List.mem_of_getElem? (i := 11) rfl))) (hw _ (List.mem_of_getElem? (i := 1) rfl)) (ty := (.array .int)) (by decide) rfl rfl (g := (mkF m 26 #[.val (.ref r1), .val (.int i1)] [(.ref x8), (.ref r1)])) rfl rfl (hb hby d32_26)
  have q25 : Exa Z h24 r1 "com/example/prompter/prompter/index/Ints" := q18.wr W24
  have q26 : Fld Z h24 r1 "com/example/prompter/prompter/index/Ints" "size" "I" (.int (2 : Int32)) := q19.other W24 (Or.inr (slot_ne (Or.inl (hw _ (List.mem_of_getElem? (i := 18) rfl))) (Or.inl (hw _ (List.mem_of_getElem? (i := 11) rfl))) (by decide) (t := .int) (t' := (.array .int)) (by decide) (by decide)))
  have q27 : Fld Z h24 r1 "com/example/prompter/prompter/index/Ints" "values" "[I" (.ref x8) := q20.same W24
  have q28 : Arv Z h24 r2 k_2 .int (2 : Int32) [(.int x0), (.int x1)] (.int (0 : Int32)) := q21.other W24 ne_r2_r1
  have q29 : Arv Z h24 x8 x9 .int (4 : Int32) [(.int x0), (.int x1), (.int (0 : Int32)), (.int (0 : Int32))] (.int (0 : Int32)) := q11.other W24 (Ne.symm ne14)
  have Z30 : n0 ≤ h24.size := Nat.le_trans Z22 (Keep.of_wr W24).1
  have K31 : Keep h0 h24 [r1] := K23.wr W24 (Or.inl (List.mem_of_getElem? (i := 0) rfl))
  have N32 := Fr.snoc X24 N13 g_r1
  refine Go.of st24 ?_
  show Go p e below Qo T24 (mkF m 29 #[.val (.ref r1), .val (.int i1)] [])
  refine Go.of (fun t k => XS.aloadN X24.here hx rfl (hb hby d32_29) rfl rfl k) ?_
  show Go p e below Qo T24 (mkF m 30 #[.val (.ref r1), .val (.int i1)] [(.ref r1)])
  obtain ⟨T33, X33, e33, st33⟩ := getF X24 hx hZ hown (host := "") (Or.inl (hw _ (List.mem_of_getElem? (i := 10) rfl))) Via.refl e24 q27 (g := (mkF m 30 #[.val (.ref r1), .val (.int i1)] [(.ref r1)])) rfl rfl (hb hby d32_30)
  refine Go.of st33 ?_
  show Go p e below Qo T33 (mkF m 33 #[.val (.ref r1), .val (.int i1)] [(.ref x8)])
  refine Go.of (fun t k => XS.aloadN X33.here hx rfl (hb hby d32_33) rfl rfl k) ?_
  show Go p e below Qo T33 (mkF m 34 #[.val (.ref r1), .val (.int i1)] [(.ref r1), (.ref x8)])
  refine Go.of (fun t k => XS.dup X33.here hx rfl (hb hby d32_34) rfl rfl k) ?_
  show Go p e below Qo T33 (mkF m 35 #[.val (.ref r1), .val (.int i1)] [(.ref r1), (.ref r1), (.ref x8)])
  obtain ⟨T34, X34, e34, st34⟩ := getF X33 hx hZ hown (host := "") (Or.inl (hw _ (List.mem_of_getElem? (i := 17) rfl))) Via.refl e33 q26 (g := (mkF m 35 #[.val (.ref r1), .val (.int i1)] [(.ref r1), (.ref r1), (.ref x8)])) rfl rfl (hb hby d32_35)
  refine Go.of st34 ?_
  show Go p e below Qo T34 (mkF m 38 #[.val (.ref r1), .val (.int i1)] [(.int (2 : Int32)), (.ref r1), (.ref x8)])
  refine Go.of (fun t k => XS.dupX1 X34.here hx rfl (hb hby d32_38) rfl rfl rfl k) ?_
  show Go p e below Qo T34 (mkF m 39 #[.val (.ref r1), .val (.int i1)] [(.int (2 : Int32)), (.ref r1), (.int (2 : Int32)), (.ref x8)])
  refine Go.of (fun t k => XS.iconst X34.here hx rfl (hb hby d32_39) k) ?_
  show Go p e below Qo T34 (mkF m 40 #[.val (.ref r1), .val (.int i1)] [(.int (1 : Int32)), (.int (2 : Int32)), (.ref r1), (.int (2 : Int32)), (.ref x8)])
  refine Go.of (fun t k => XS.iadd X34.here hx rfl (hb hby d32_40) rfl k) ?_
  show Go p e below Qo T34 (mkF m 41 #[.val (.ref r1), .val (.int i1)] [(.int (3 : Int32)), (.ref r1), (.int (2 : Int32)), (.ref x8)])
  obtain ⟨T35, h35, X35, e35, W35, st35⟩ := putF X34 hx hZ hown (host := "") (Or.inl (hw _ (List.mem_of_getElem? (i := 17) rfl))) Via.refl e34 q26 q25 (Or.inl (hw _ (List.mem_of_getElem? (i := 18) rfl))) (hw _ (List.mem_of_getElem? (i := 1) rfl)) (ty := .int) (by decide) rfl rfl (g := (mkF m 41 #[.val (.ref r1), .val (.int i1)] [(.int (3 : Int32)), (.ref r1), (.int (2 : Int32)), (.ref x8)])) rfl rfl (hb hby d32_41)
  have q36 : Exa Z h35 r1 "com/example/prompter/prompter/index/Ints" := q25.wr W35
  have q37 : Fld Z h35 r1 "com/example/prompter/prompter/index/Ints" "size" "I" (.int (3 : Int32)) := q26.same W35
  have q38 : Fld Z h35 r1 "com/example/prompter/prompter/index/Ints" "values" "[I" (.ref x8) := q27.other W35 (Or.inr (slot_ne (Or.inl (hw _ (List.mem_of_getElem? (i := 11) rfl))) (Or.inl (hw _ (List.mem_of_getElem? (i := 18) rfl))) (by decide) (t := (.array .int)) (t' := .int) (by decide) (by decide)))
  have q39 : Arv Z h35 r2 k_2 .int (2 : Int32) [(.int x0), (.int x1)] (.int (0 : Int32)) := q28.other W35 ne_r2_r1
  have q40 : Arv Z h35 x8 x9 .int (4 : Int32) [(.int x0), (.int x1), (.int (0 : Int32)), (.int (0 : Int32))] (.int (0 : Int32)) := q29.other W35 (Ne.symm ne14)
  have Z41 : n0 ≤ h35.size := Nat.le_trans Z30 (Keep.of_wr W35).1
  have K42 : Keep h0 h35 [r1] := K31.wr W35 (Or.inl (List.mem_of_getElem? (i := 0) rfl))
  have N43 := Fr.snoc X35 N32 g_r1
  refine Go.of st35 ?_
  show Go p e below Qo T35 (mkF m 44 #[.val (.ref r1), .val (.int i1)] [(.int (2 : Int32)), (.ref x8)])
  refine Go.of (fun t k => XS.iloadN X35.here hx rfl (hb hby d32_44) rfl  k) ?_
  show Go p e below Qo T35 (mkF m 45 #[.val (.ref r1), .val (.int i1)] [(.int i1), (.int (2 : Int32)), (.ref x8)])
  have cpo44 := q40
  obtain ⟨clo44, Aro44, qco44, So44, Mo44, Ho44, Go44⟩ := cpo44
  have hin45 : ¬ ((2 : Int32) < 0 ∨ clo44.slots.size ≤ (2 : Int32).toNatClampNeg) := (inb_of So44 ⟨by decide, by decide⟩)
  obtain ⟨T46, h46, X46, e46, W46, st46⟩ := stI X35 hx hZ e35 Aro44 (j := (2 : Int32)) hin45 (g := (mkF m 45 #[.val (.ref r1), .val (.int i1)] [(.int i1), (.int (2 : Int32)), (.ref x8)])) rfl rfl (hb hby d32_45)
  have q47 : Exa Z h46 r1 "com/example/prompter/prompter/index/Ints" := q36.wr W46
  have q48 : Fld Z h46 r1 "com/example/prompter/prompter/index/Ints" "size" "I" (.int (3 : Int32)) := q37.other W46 (Or.inl ne14)
  have q49 : Fld Z h46 r1 "com/example/prompter/prompter/index/Ints" "values" "[I" (.ref x8) := q38.other W46 (Or.inl ne14)
  have q50 : Arv Z h46 r2 k_2 .int (2 : Int32) [(.int x0), (.int x1)] (.int (0 : Int32)) := q39.other W46 ne15
  have q51 : Arv Z h46 x8 x9 .int (4 : Int32) [(.int x0), (.int x1), (.int i1), (.int (0 : Int32))] (.int (0 : Int32)) := Arv.set Aro44 qco44 So44 Mo44 Ho44 Go44 rfl W46 2 rfl (Nat.le_of_ble_eq_true rfl)
  have Z52 : n0 ≤ h46.size := Nat.le_trans Z41 (Keep.of_wr W46).1
  have K53 : Keep h0 h46 [r1] := K42.wr W46 (Or.inr sz17)
  have N54 := Fr.snoc X46 N43 g16
  refine Go.of st46 ?_
  show Go p e below Qo T46 (mkF m 46 #[.val (.ref r1), .val (.int i1)] [])
  exact own_ret0 X46 hx Bd.notSynchronized Bd.returns (hb hby d32_46) (fun u hu hF => hQo _ _ _ ⟨x8, x9, rfl, N54, by rw [hu, e46]; exact K53, sz17, by rw [hu, e46]; exact q47, by rw [hu, e46]; exact q48, by rw [hu, e46]; exact q49, by rw [hu, e46]; exact q51⟩ (own_mono hF (by decide) (by decide)))
theorem d33_0 : decode prog_12_method_2_code 0 = .ok (.aload_n 0, 1) := by decide +kernel
theorem d33_1 : decode prog_12_method_2_code 1 = .ok (.getfield 13, 3) := by decide +kernel
theorem d33_4 : decode prog_12_method_2_code 4 = .ok (.aload_n 0, 1) := by decide +kernel
theorem d33_5 : decode prog_12_method_2_code 5 = .ok (.getfield 7, 3) := by decide +kernel
theorem d33_8 : decode prog_12_method_2_code 8 = .ok (.arraylength, 1) := by decide +kernel
theorem d33_9 : decode prog_12_method_2_code 9 = .ok (.if_icmp .ne 20, 3) := by decide +kernel
theorem d33_29 : decode prog_12_method_2_code 29 = .ok (.aload_n 0, 1) := by decide +kernel
theorem d33_30 : decode prog_12_method_2_code 30 = .ok (.getfield 7, 3) := by decide +kernel
theorem d33_33 : decode prog_12_method_2_code 33 = .ok (.aload_n 0, 1) := by decide +kernel
theorem d33_34 : decode prog_12_method_2_code 34 = .ok (.dup, 1) := by decide +kernel
theorem d33_35 : decode prog_12_method_2_code 35 = .ok (.getfield 13, 3) := by decide +kernel
theorem d33_38 : decode prog_12_method_2_code 38 = .ok (.dup_x1, 1) := by decide +kernel
theorem d33_39 : decode prog_12_method_2_code 39 = .ok (.iconst 1, 1) := by decide +kernel
theorem d33_40 : decode prog_12_method_2_code 40 = .ok (.iadd, 1) := by decide +kernel
theorem d33_41 : decode prog_12_method_2_code 41 = .ok (.putfield 13, 3) := by decide +kernel
theorem d33_44 : decode prog_12_method_2_code 44 = .ok (.iload_n 1, 1) := by decide +kernel
theorem d33_45 : decode prog_12_method_2_code 45 = .ok (.iastore, 1) := by decide +kernel
theorem d33_46 : decode prog_12_method_2_code 46 = .ok (.return_, 1) := by decide +kernel
theorem ef_33 (m : MethodId) (r1 : Addr) (i1 : Int32)  : entryFrame m #[(.ref r1), (.int i1)] 2 = mkF m 0 #[.val (.ref r1), .val (.int i1)] [] := by
  first | (simp [entryFrame, mkF, argsToLocals, Value.category]; done) | rfl
def Q33 (Z : State) (r1 : Addr) (i1 : Int32) (r2 : Addr) (k_2 : ClassId) (x0 : Int32) (x1 : Int32) (x2 : Int32) (x3 : Int32) (h0 : Heap) (n0 : Nat) (v : Option Value) (h : Heap) (L : List Loc) : Prop := v = none ∧ Fr n0 L ∧ Keep h0 h [r1, r2] ∧ Exa Z h r1 "com/example/prompter/prompter/index/Ints" ∧ Fld Z h r1 "com/example/prompter/prompter/index/Ints" "size" "I" (.int (4 : Int32)) ∧ Fld Z h r1 "com/example/prompter/prompter/index/Ints" "values" "[I" (.ref r2) ∧ Arv Z h r2 k_2 .int (4 : Int32) [(.int x0), (.int x1), (.int x2), (.int i1)] (.int (0 : Int32))
set_option maxRecDepth 65536 in
set_option maxHeartbeats 40000000 in
theorem rm33 (l : Launch) (Z : State) (a0 : Array Value) (hw : ∀ d ∈ tables_1, d.before a0 Z = true) (ws : List Jvm.Cond) (r1 : Addr) (i1 : Int32) (r2 : Addr) (k_2 : ClassId) (x0 : Int32) (x1 : Int32) (x2 : Int32) (x3 : Int32) (h0 : Heap) (n0 : Nat) (Z0 : n0 ≤ h0.size) (f0 : Exa Z h0 r1 "com/example/prompter/prompter/index/Ints") (f1 : Fld Z h0 r1 "com/example/prompter/prompter/index/Ints" "size" "I" (.int (3 : Int32))) (f2 : Fld Z h0 r1 "com/example/prompter/prompter/index/Ints" "values" "[I" (.ref r2)) (f3 : Arv Z h0 r2 k_2 .int (4 : Int32) [(.int x0), (.int x1), (.int x2), (.int x3)] (.int (0 : Int32))) (g_r1 : n0 ≤ r1) (g_r2 : n0 ≤ r2) (ne_r2_r1 : r2 ≠ r1) :
    MetFree l (⟨"com/example/prompter/prompter/index/Ints", "add", "(I)V"⟩ : MethodName) (head1 (Jvm.Cond.code (⟨"com/example/prompter/prompter/index/Ints", "add", "(I)V"⟩ : MethodName) prog_12_method_2_code 2 none :: ws) ({ frames := 0, cells := 0, slots := 0, locals := 0 } : Room)) (fun a U => a = #[(.ref r1), (.int i1)] ∧ Z.Warmed39 U.vm ∧ U.heap = h0) (fun _ _ _ _ _ => True) (fun _ U o U' => ∃ v L, o = .returned v ∧ Q33 Z r1 i1 r2 k_2 x0 x1 x2 x3 h0 n0 v U'.heap L ∧ FrameEnd U o U' L ({ frames := 0, cells := 0, slots := 0, locals := 0 } : Room).cells ({ frames := 0, cells := 0, slots := 0, locals := 0 } : Room).slots) := by
  refine MetFree.of_bodySF (plainFor_of_name pn_1) hisR ?_
  intro p e s m args below meth c s₁ Bd hml0 hP hK
  obtain ⟨rfl, hZ, hh⟩ := hP
  have hx := Bd.exec
  have hby := Bd.bytes
  have hml : c.maxLocals = 2 := hml0
  have hown : s.vm.findClass "com/example/prompter/prompter/index/Ints" = some m.cls := findClass_of_methodNamed Bd.named
  have hnm := (name_of_methodNamed Bd.named Bd.method).1
  have X0 : Stand p l e ({ frames := 0, cells := 0, slots := 0, locals := 0 } : Room) s m #[(.ref r1), (.int i1)] below meth c s₁ [] 0 0 := Stand.of_body Bd
  have e0 : s₁.heap = h0 := by rw [← hh, Bd.state]; rfl
  have N0 := Fr.nil n0
  suffices H : ∀ Qo : Outcome → State → Prop, (∀ (v : Option Value) (u : State) (L : List Loc), Q33 Z r1 i1 r2 k_2 x0 x1 x2 x3 h0 n0 v u.heap L → FrameEnd s (.returned v) u L ({ frames := 0, cells := 0, slots := 0, locals := 0 } : Room).cells ({ frames := 0, cells := 0, slots := 0, locals := 0 } : Room).slots → Qo (.returned v) u) → Go p e below Qo s₁ (mkF m 0 #[.val (.ref r1), .val (.int i1)] []) from
    Go.cast (ef_33 m r1 i1) (H _ fun v u L h1 h2 => ⟨v, L, rfl, h1, h2⟩)
  intro Qo hQo
  show Go p e below Qo s₁ (mkF m 0 #[.val (.ref r1), .val (.int i1)] [])
  refine Go.of (fun t k => XS.aloadN X0.here hx rfl (hb hby d33_0) rfl rfl k) ?_
  show Go p e below Qo s₁ (mkF m 1 #[.val (.ref r1), .val (.int i1)] [(.ref r1)])
  obtain ⟨T1, X1, e1, st1⟩ := getF X0 hx hZ hown (host := "") (Or.inl (hw _ (List.mem_of_getElem? (i := 17) rfl))) Via.refl e0 f1 (g := (mkF m 1 #[.val (.ref r1), .val (.int i1)] [(.ref r1)])) rfl rfl (hb hby d33_1)
  refine Go.of st1 ?_
  show Go p e below Qo T1 (mkF m 4 #[.val (.ref r1), .val (.int i1)] [(.int (3 : Int32))])
  refine Go.of (fun t k => XS.aloadN X1.here hx rfl (hb hby d33_4) rfl rfl k) ?_
  show Go p e below Qo T1 (mkF m 5 #[.val (.ref r1), .val (.int i1)] [(.ref r1), (.int (3 : Int32))])
  obtain ⟨T2, X2, e2, st2⟩ := getF X1 hx hZ hown (host := "") (Or.inl (hw _ (List.mem_of_getElem? (i := 10) rfl))) Via.refl e1 f2 (g := (mkF m 5 #[.val (.ref r1), .val (.int i1)] [(.ref r1), (.int (3 : Int32))])) rfl rfl (hb hby d33_5)
  refine Go.of st2 ?_
  show Go p e below Qo T2 (mkF m 8 #[.val (.ref r1), .val (.int i1)] [(.ref r2), (.int (3 : Int32))])
  have cpo3 := f3
  obtain ⟨clo3, Aro3, qco3, So3, Mo3, Ho3, Go3⟩ := cpo3
  refine Go.of (fun t k => X2.arraylength hx (cell := clo3) (by rw [e2]; exact Aro3.1) (State.isArrayOf_alike hZ.alike Aro3.2.1) (g := (mkF m 8 #[.val (.ref r1), .val (.int i1)] [(.ref r2), (.int (3 : Int32))])) rfl rfl (hb hby d33_8) t k) ?_
  rw [len_of So3 Mo3]
  show Go p e below Qo T2 (mkF m 9 #[.val (.ref r1), .val (.int i1)] [(.int (4 : Int32)), (.int (3 : Int32))])
  refine Go.of (fun t k => XS.icmpYes X2.here hx rfl (pc0 := 9) (pc' := 29) rfl (hb hby d33_9) rfl (feq (by decide : ¬ ((3 : Int32) = (4 : Int32)))).2 (by decide) (by decide) k) ?_
  show Go p e below Qo T2 (mkF m 29 #[.val (.ref r1), .val (.int i1)] [])
  refine Go.of (fun t k => XS.aloadN X2.here hx rfl (hb hby d33_29) rfl rfl k) ?_
  show Go p e below Qo T2 (mkF m 30 #[.val (.ref r1), .val (.int i1)] [(.ref r1)])
  obtain ⟨T4, X4, e4, st4⟩ := getF X2 hx hZ hown (host := "") (Or.inl (hw _ (List.mem_of_getElem? (i := 10) rfl))) Via.refl e2 f2 (g := (mkF m 30 #[.val (.ref r1), .val (.int i1)] [(.ref r1)])) rfl rfl (hb hby d33_30)
  refine Go.of st4 ?_
  show Go p e below Qo T4 (mkF m 33 #[.val (.ref r1), .val (.int i1)] [(.ref r2)])
  refine Go.of (fun t k => XS.aloadN X4.here hx rfl (hb hby d33_33) rfl rfl k) ?_
  show Go p e below Qo T4 (mkF m 34 #[.val (.ref r1), .val (.int i1)] [(.ref r1), (.ref r2)])
  refine Go.of (fun t k => XS.dup X4.here hx rfl (hb hby d33_34) rfl rfl k) ?_
  show Go p e below Qo T4 (mkF m 35 #[.val (.ref r1), .val (.int i1)] [(.ref r1), (.ref r1), (.ref r2)])
  obtain ⟨T5, X5, e5, st5⟩ := getF X4 hx hZ hown (host := "") (Or.inl (hw _ (List.mem_of_getElem? (i := 17) rfl))) Via.refl e4 f1 (g := (mkF m 35 #[.val (.ref r1), .val (.int i1)] [(.ref r1), (.ref r1), (.ref r2)])) rfl rfl (hb hby d33_35)
  refine Go.of st5 ?_
  show Go p e below Qo T5 (mkF m 38 #[.val (.ref r1), .val (.int i1)] [(.int (3 : Int32)), (.ref r1), (.ref r2)])
  refine Go.of (fun t k => XS.dupX1 X5.here hx rfl (hb hby d33_38) rfl rfl rfl k) ?_
  show Go p e below Qo T5 (mkF m 39 #[.val (.ref r1), .val (.int i1)] [(.int (3 : Int32)), (.ref r1), (.int (3 : Int32)), (.ref r2)])
  refine Go.of (fun t k => XS.iconst X5.here hx rfl (hb hby d33_39) k) ?_
  show Go p e below Qo T5 (mkF m 40 #[.val (.ref r1), .val (.int i1)] [(.int (1 : Int32)), (.int (3 : Int32)), (.ref r1), (.int (3 : Int32)), (.ref r2)])
  refine Go.of (fun t k => XS.iadd X5.here hx rfl (hb hby d33_40) rfl k) ?_
  show Go p e below Qo T5 (mkF m 41 #[.val (.ref r1), .val (.int i1)] [(.int (4 : Int32)), (.ref r1), (.int (3 : Int32)), (.ref r2)])
  obtain ⟨T6, h6, X6, e6, W6, st6⟩ := putF X5 hx hZ hown (host := "") (Or.inl (hw _ (List.mem_of_getElem? (i := 17) rfl))) Via.refl e5 f1 f0 (Or.inl (hw _ (List.mem_of_getElem? (i := 18) rfl))) (hw _ (List.mem_of_getElem? (i := 1) rfl)) (ty := .int) (by decide) rfl rfl (g := (mkF m 41 #[.val (.ref r1), .val (.int i1)] [(.int (4 : Int32)), (.ref r1), (.int (3 : Int32)), (.ref r2)])) rfl rfl (hb hby d33_41)
  have q7 : Exa Z h6 r1 "com/example/prompter/prompter/index/Ints" := f0.wr W6
  have q8 : Fld Z h6 r1 "com/example/prompter/prompter/index/Ints" "size" "I" (.int (4 : Int32)) := f1.same W6
  have q9 : Fld Z h6 r1 "com/example/prompter/prompter/index/Ints" "values" "[I" (.ref r2) := f2.other W6 (Or.inr (slot_ne (Or.inl (hw _ (List.mem_of_getElem? (i := 11) rfl))) (Or.inl (hw _ (List.mem_of_getElem? (i := 18) rfl))) (by decide) (t := (.array .int)) (t' := .int) (by decide) (by decide)))
  have q10 : Arv Z h6 r2 k_2 .int (4 : Int32) [(.int x0), (.int x1), (.int x2), (.int x3)] (.int (0 : Int32)) := f3.other W6 ne_r2_r1
  have Z11 : n0 ≤ h6.size := Nat.le_trans Z0 (Keep.of_wr W6).1
  have K12 : Keep h0 h6 [r1, r2] := (Keep.refl h0 [r1, r2]).wr W6 (Or.inl (List.mem_of_getElem? (i := 0) rfl))
  have N13 := Fr.snoc X6 N0 g_r1
  refine Go.of st6 ?_
  show Go p e below Qo T6 (mkF m 44 #[.val (.ref r1), .val (.int i1)] [(.int (3 : Int32)), (.ref r2)])
  refine Go.of (fun t k => XS.iloadN X6.here hx rfl (hb hby d33_44) rfl  k) ?_
  show Go p e below Qo T6 (mkF m 45 #[.val (.ref r1), .val (.int i1)] [(.int i1), (.int (3 : Int32)), (.ref r2)])
  have cpo14 := q10
  obtain ⟨clo14, Aro14, qco14, So14, Mo14, Ho14, Go14⟩ := cpo14
  have hin15 : ¬ ((3 : Int32) < 0 ∨ clo14.slots.size ≤ (3 : Int32).toNatClampNeg) := (inb_of So14 ⟨by decide, by decide⟩)
  obtain ⟨T16, h16, X16, e16, W16, st16⟩ := stI X6 hx hZ e6 Aro14 (j := (3 : Int32)) hin15 (g := (mkF m 45 #[.val (.ref r1), .val (.int i1)] [(.int i1), (.int (3 : Int32)), (.ref r2)])) rfl rfl (hb hby d33_45)
  have q17 : Exa Z h16 r1 "com/example/prompter/prompter/index/Ints" := q7.wr W16
  have q18 : Fld Z h16 r1 "com/example/prompter/prompter/index/Ints" "size" "I" (.int (4 : Int32)) := q8.other W16 (Or.inl (Ne.symm ne_r2_r1))
  have q19 : Fld Z h16 r1 "com/example/prompter/prompter/index/Ints" "values" "[I" (.ref r2) := q9.other W16 (Or.inl (Ne.symm ne_r2_r1))
  have q20 : Arv Z h16 r2 k_2 .int (4 : Int32) [(.int x0), (.int x1), (.int x2), (.int i1)] (.int (0 : Int32)) := Arv.set Aro14 qco14 So14 Mo14 Ho14 Go14 rfl W16 3 rfl (Nat.le_of_ble_eq_true rfl)
  have Z21 : n0 ≤ h16.size := Nat.le_trans Z11 (Keep.of_wr W16).1
  have K22 : Keep h0 h16 [r1, r2] := K12.wr W16 (Or.inl (List.mem_of_getElem? (i := 1) rfl))
  have N23 := Fr.snoc X16 N13 g_r2
  refine Go.of st16 ?_
  show Go p e below Qo T16 (mkF m 46 #[.val (.ref r1), .val (.int i1)] [])
  exact own_ret0 X16 hx Bd.notSynchronized Bd.returns (hb hby d33_46) (fun u hu hF => hQo _ _ _ ⟨rfl, N23, by rw [hu, e16]; exact K22, by rw [hu, e16]; exact q17, by rw [hu, e16]; exact q18, by rw [hu, e16]; exact q19, by rw [hu, e16]; exact q20⟩ (own_mono hF (by decide) (by decide)))
theorem d34_0 : decode prog_12_method_2_code 0 = .ok (.aload_n 0, 1) := by decide +kernel
theorem d34_1 : decode prog_12_method_2_code 1 = .ok (.getfield 13, 3) := by decide +kernel
theorem d34_4 : decode prog_12_method_2_code 4 = .ok (.aload_n 0, 1) := by decide +kernel
theorem d34_5 : decode prog_12_method_2_code 5 = .ok (.getfield 7, 3) := by decide +kernel
theorem d34_8 : decode prog_12_method_2_code 8 = .ok (.arraylength, 1) := by decide +kernel
theorem d34_9 : decode prog_12_method_2_code 9 = .ok (.if_icmp .ne 20, 3) := by decide +kernel
theorem d34_29 : decode prog_12_method_2_code 29 = .ok (.aload_n 0, 1) := by decide +kernel
theorem d34_30 : decode prog_12_method_2_code 30 = .ok (.getfield 7, 3) := by decide +kernel
theorem d34_33 : decode prog_12_method_2_code 33 = .ok (.aload_n 0, 1) := by decide +kernel
theorem d34_34 : decode prog_12_method_2_code 34 = .ok (.dup, 1) := by decide +kernel
theorem d34_35 : decode prog_12_method_2_code 35 = .ok (.getfield 13, 3) := by decide +kernel
theorem d34_38 : decode prog_12_method_2_code 38 = .ok (.dup_x1, 1) := by decide +kernel
theorem d34_39 : decode prog_12_method_2_code 39 = .ok (.iconst 1, 1) := by decide +kernel
theorem d34_40 : decode prog_12_method_2_code 40 = .ok (.iadd, 1) := by decide +kernel
theorem d34_41 : decode prog_12_method_2_code 41 = .ok (.putfield 13, 3) := by decide +kernel
theorem d34_44 : decode prog_12_method_2_code 44 = .ok (.iload_n 1, 1) := by decide +kernel
theorem d34_45 : decode prog_12_method_2_code 45 = .ok (.iastore, 1) := by decide +kernel
theorem d34_46 : decode prog_12_method_2_code 46 = .ok (.return_, 1) := by decide +kernel
theorem ef_34 (m : MethodId) (r1 : Addr) (i1 : Int32)  : entryFrame m #[(.ref r1), (.int i1)] 2 = mkF m 0 #[.val (.ref r1), .val (.int i1)] [] := by
  first | (simp [entryFrame, mkF, argsToLocals, Value.category]; done) | rfl
def Q34 (Z : State) (r1 : Addr) (i1 : Int32) (r2 : Addr) (k_2 : ClassId) (x0 : Int32) (x1 : Int32) (x2 : Int32) (x3 : Int32) (h0 : Heap) (n0 : Nat) (v : Option Value) (h : Heap) (L : List Loc) : Prop := v = none ∧ Fr n0 L ∧ Keep h0 h [r1, r2] ∧ Exa Z h r1 "com/example/prompter/prompter/index/Ints" ∧ Fld Z h r1 "com/example/prompter/prompter/index/Ints" "size" "I" (.int (3 : Int32)) ∧ Fld Z h r1 "com/example/prompter/prompter/index/Ints" "values" "[I" (.ref r2) ∧ Arv Z h r2 k_2 .int (4 : Int32) [(.int x0), (.int x1), (.int i1), (.int x3)] (.int (0 : Int32))
set_option maxRecDepth 65536 in
set_option maxHeartbeats 40000000 in
theorem rm34 (l : Launch) (Z : State) (a0 : Array Value) (hw : ∀ d ∈ tables_1, d.before a0 Z = true) (ws : List Jvm.Cond) (r1 : Addr) (i1 : Int32) (r2 : Addr) (k_2 : ClassId) (x0 : Int32) (x1 : Int32) (x2 : Int32) (x3 : Int32) (h0 : Heap) (n0 : Nat) (Z0 : n0 ≤ h0.size) (f0 : Exa Z h0 r1 "com/example/prompter/prompter/index/Ints") (f1 : Fld Z h0 r1 "com/example/prompter/prompter/index/Ints" "size" "I" (.int (2 : Int32))) (f2 : Fld Z h0 r1 "com/example/prompter/prompter/index/Ints" "values" "[I" (.ref r2)) (f3 : Arv Z h0 r2 k_2 .int (4 : Int32) [(.int x0), (.int x1), (.int x2), (.int x3)] (.int (0 : Int32))) (g_r1 : n0 ≤ r1) (g_r2 : n0 ≤ r2) (ne_r2_r1 : r2 ≠ r1) :
    MetFree l (⟨"com/example/prompter/prompter/index/Ints", "add", "(I)V"⟩ : MethodName) (head1 (Jvm.Cond.code (⟨"com/example/prompter/prompter/index/Ints", "add", "(I)V"⟩ : MethodName) prog_12_method_2_code 2 none :: ws) ({ frames := 0, cells := 0, slots := 0, locals := 0 } : Room)) (fun a U => a = #[(.ref r1), (.int i1)] ∧ Z.Warmed39 U.vm ∧ U.heap = h0) (fun _ _ _ _ _ => True) (fun _ U o U' => ∃ v L, o = .returned v ∧ Q34 Z r1 i1 r2 k_2 x0 x1 x2 x3 h0 n0 v U'.heap L ∧ FrameEnd U o U' L ({ frames := 0, cells := 0, slots := 0, locals := 0 } : Room).cells ({ frames := 0, cells := 0, slots := 0, locals := 0 } : Room).slots) := by
  refine MetFree.of_bodySF (plainFor_of_name pn_1) hisR ?_
  intro p e s m args below meth c s₁ Bd hml0 hP hK
  obtain ⟨rfl, hZ, hh⟩ := hP
  have hx := Bd.exec
  have hby := Bd.bytes
  have hml : c.maxLocals = 2 := hml0
  have hown : s.vm.findClass "com/example/prompter/prompter/index/Ints" = some m.cls := findClass_of_methodNamed Bd.named
  have hnm := (name_of_methodNamed Bd.named Bd.method).1
  have X0 : Stand p l e ({ frames := 0, cells := 0, slots := 0, locals := 0 } : Room) s m #[(.ref r1), (.int i1)] below meth c s₁ [] 0 0 := Stand.of_body Bd
  have e0 : s₁.heap = h0 := by rw [← hh, Bd.state]; rfl
  have N0 := Fr.nil n0
  suffices H : ∀ Qo : Outcome → State → Prop, (∀ (v : Option Value) (u : State) (L : List Loc), Q34 Z r1 i1 r2 k_2 x0 x1 x2 x3 h0 n0 v u.heap L → FrameEnd s (.returned v) u L ({ frames := 0, cells := 0, slots := 0, locals := 0 } : Room).cells ({ frames := 0, cells := 0, slots := 0, locals := 0 } : Room).slots → Qo (.returned v) u) → Go p e below Qo s₁ (mkF m 0 #[.val (.ref r1), .val (.int i1)] []) from
    Go.cast (ef_34 m r1 i1) (H _ fun v u L h1 h2 => ⟨v, L, rfl, h1, h2⟩)
  intro Qo hQo
  show Go p e below Qo s₁ (mkF m 0 #[.val (.ref r1), .val (.int i1)] [])
  refine Go.of (fun t k => XS.aloadN X0.here hx rfl (hb hby d34_0) rfl rfl k) ?_
  show Go p e below Qo s₁ (mkF m 1 #[.val (.ref r1), .val (.int i1)] [(.ref r1)])
  obtain ⟨T1, X1, e1, st1⟩ := getF X0 hx hZ hown (host := "") (Or.inl (hw _ (List.mem_of_getElem? (i := 17) rfl))) Via.refl e0 f1 (g := (mkF m 1 #[.val (.ref r1), .val (.int i1)] [(.ref r1)])) rfl rfl (hb hby d34_1)
  refine Go.of st1 ?_
  show Go p e below Qo T1 (mkF m 4 #[.val (.ref r1), .val (.int i1)] [(.int (2 : Int32))])
  refine Go.of (fun t k => XS.aloadN X1.here hx rfl (hb hby d34_4) rfl rfl k) ?_
  show Go p e below Qo T1 (mkF m 5 #[.val (.ref r1), .val (.int i1)] [(.ref r1), (.int (2 : Int32))])
  obtain ⟨T2, X2, e2, st2⟩ := getF X1 hx hZ hown (host := "") (Or.inl (hw _ (List.mem_of_getElem? (i := 10) rfl))) Via.refl e1 f2 (g := (mkF m 5 #[.val (.ref r1), .val (.int i1)] [(.ref r1), (.int (2 : Int32))])) rfl rfl (hb hby d34_5)
  refine Go.of st2 ?_
  show Go p e below Qo T2 (mkF m 8 #[.val (.ref r1), .val (.int i1)] [(.ref r2), (.int (2 : Int32))])
  have cpo3 := f3
  obtain ⟨clo3, Aro3, qco3, So3, Mo3, Ho3, Go3⟩ := cpo3
  refine Go.of (fun t k => X2.arraylength hx (cell := clo3) (by rw [e2]; exact Aro3.1) (State.isArrayOf_alike hZ.alike Aro3.2.1) (g := (mkF m 8 #[.val (.ref r1), .val (.int i1)] [(.ref r2), (.int (2 : Int32))])) rfl rfl (hb hby d34_8) t k) ?_
  rw [len_of So3 Mo3]
  show Go p e below Qo T2 (mkF m 9 #[.val (.ref r1), .val (.int i1)] [(.int (4 : Int32)), (.int (2 : Int32))])
  refine Go.of (fun t k => XS.icmpYes X2.here hx rfl (pc0 := 9) (pc' := 29) rfl (hb hby d34_9) rfl (feq (by decide : ¬ ((2 : Int32) = (4 : Int32)))).2 (by decide) (by decide) k) ?_
  show Go p e below Qo T2 (mkF m 29 #[.val (.ref r1), .val (.int i1)] [])
  refine Go.of (fun t k => XS.aloadN X2.here hx rfl (hb hby d34_29) rfl rfl k) ?_
  show Go p e below Qo T2 (mkF m 30 #[.val (.ref r1), .val (.int i1)] [(.ref r1)])
  obtain ⟨T4, X4, e4, st4⟩ := getF X2 hx hZ hown (host := "") (Or.inl (hw _ (List.mem_of_getElem? (i := 10) rfl))) Via.refl e2 f2 (g := (mkF m 30 #[.val (.ref r1), .val (.int i1)] [(.ref r1)])) rfl rfl (hb hby d34_30)
  refine Go.of st4 ?_
  show Go p e below Qo T4 (mkF m 33 #[.val (.ref r1), .val (.int i1)] [(.ref r2)])
  refine Go.of (fun t k => XS.aloadN X4.here hx rfl (hb hby d34_33) rfl rfl k) ?_
  show Go p e below Qo T4 (mkF m 34 #[.val (.ref r1), .val (.int i1)] [(.ref r1), (.ref r2)])
  refine Go.of (fun t k => XS.dup X4.here hx rfl (hb hby d34_34) rfl rfl k) ?_
  show Go p e below Qo T4 (mkF m 35 #[.val (.ref r1), .val (.int i1)] [(.ref r1), (.ref r1), (.ref r2)])
  obtain ⟨T5, X5, e5, st5⟩ := getF X4 hx hZ hown (host := "") (Or.inl (hw _ (List.mem_of_getElem? (i := 17) rfl))) Via.refl e4 f1 (g := (mkF m 35 #[.val (.ref r1), .val (.int i1)] [(.ref r1), (.ref r1), (.ref r2)])) rfl rfl (hb hby d34_35)
  refine Go.of st5 ?_
  show Go p e below Qo T5 (mkF m 38 #[.val (.ref r1), .val (.int i1)] [(.int (2 : Int32)), (.ref r1), (.ref r2)])
  refine Go.of (fun t k => XS.dupX1 X5.here hx rfl (hb hby d34_38) rfl rfl rfl k) ?_
  show Go p e below Qo T5 (mkF m 39 #[.val (.ref r1), .val (.int i1)] [(.int (2 : Int32)), (.ref r1), (.int (2 : Int32)), (.ref r2)])
  refine Go.of (fun t k => XS.iconst X5.here hx rfl (hb hby d34_39) k) ?_
  show Go p e below Qo T5 (mkF m 40 #[.val (.ref r1), .val (.int i1)] [(.int (1 : Int32)), (.int (2 : Int32)), (.ref r1), (.int (2 : Int32)), (.ref r2)])
  refine Go.of (fun t k => XS.iadd X5.here hx rfl (hb hby d34_40) rfl k) ?_
  show Go p e below Qo T5 (mkF m 41 #[.val (.ref r1), .val (.int i1)] [(.int (3 : Int32)), (.ref r1), (.int (2 : Int32)), (.ref r2)])
  obtain ⟨T6, h6, X6, e6, W6, st6⟩ := putF X5 hx hZ hown (host := "") (Or.inl (hw _ (List.mem_of_getElem? (i := 17) rfl))) Via.refl e5 f1 f0 (Or.inl (hw _ (List.mem_of_getElem? (i := 18) rfl))) (hw _ (List.mem_of_getElem? (i := 1) rfl)) (ty := .int) (by decide) rfl rfl (g := (mkF m 41 #[.val (.ref r1), .val (.int i1)] [(.int (3 : Int32)), (.ref r1), (.int (2 : Int32)), (.ref r2)])) rfl rfl (hb hby d34_41)
  have q7 : Exa Z h6 r1 "com/example/prompter/prompter/index/Ints" := f0.wr W6
  have q8 : Fld Z h6 r1 "com/example/prompter/prompter/index/Ints" "size" "I" (.int (3 : Int32)) := f1.same W6
  have q9 : Fld Z h6 r1 "com/example/prompter/prompter/index/Ints" "values" "[I" (.ref r2) := f2.other W6 (Or.inr (slot_ne (Or.inl (hw _ (List.mem_of_getElem? (i := 11) rfl))) (Or.inl (hw _ (List.mem_of_getElem? (i := 18) rfl))) (by decide) (t := (.array .int)) (t' := .int) (by decide) (by decide)))
  have q10 : Arv Z h6 r2 k_2 .int (4 : Int32) [(.int x0), (.int x1), (.int x2), (.int x3)] (.int (0 : Int32)) := f3.other W6 ne_r2_r1
  have Z11 : n0 ≤ h6.size := Nat.le_trans Z0 (Keep.of_wr W6).1
  have K12 : Keep h0 h6 [r1, r2] := (Keep.refl h0 [r1, r2]).wr W6 (Or.inl (List.mem_of_getElem? (i := 0) rfl))
  have N13 := Fr.snoc X6 N0 g_r1
  refine Go.of st6 ?_
  show Go p e below Qo T6 (mkF m 44 #[.val (.ref r1), .val (.int i1)] [(.int (2 : Int32)), (.ref r2)])
  refine Go.of (fun t k => XS.iloadN X6.here hx rfl (hb hby d34_44) rfl  k) ?_
  show Go p e below Qo T6 (mkF m 45 #[.val (.ref r1), .val (.int i1)] [(.int i1), (.int (2 : Int32)), (.ref r2)])
  have cpo14 := q10
  obtain ⟨clo14, Aro14, qco14, So14, Mo14, Ho14, Go14⟩ := cpo14
  have hin15 : ¬ ((2 : Int32) < 0 ∨ clo14.slots.size ≤ (2 : Int32).toNatClampNeg) := (inb_of So14 ⟨by decide, by decide⟩)
  obtain ⟨T16, h16, X16, e16, W16, st16⟩ := stI X6 hx hZ e6 Aro14 (j := (2 : Int32)) hin15 (g := (mkF m 45 #[.val (.ref r1), .val (.int i1)] [(.int i1), (.int (2 : Int32)), (.ref r2)])) rfl rfl (hb hby d34_45)
  have q17 : Exa Z h16 r1 "com/example/prompter/prompter/index/Ints" := q7.wr W16
  have q18 : Fld Z h16 r1 "com/example/prompter/prompter/index/Ints" "size" "I" (.int (3 : Int32)) := q8.other W16 (Or.inl (Ne.symm ne_r2_r1))
  have q19 : Fld Z h16 r1 "com/example/prompter/prompter/index/Ints" "values" "[I" (.ref r2) := q9.other W16 (Or.inl (Ne.symm ne_r2_r1))
  have q20 : Arv Z h16 r2 k_2 .int (4 : Int32) [(.int x0), (.int x1), (.int i1), (.int x3)] (.int (0 : Int32)) := Arv.set Aro14 qco14 So14 Mo14 Ho14 Go14 rfl W16 2 rfl (Nat.le_of_ble_eq_true rfl)
  have Z21 : n0 ≤ h16.size := Nat.le_trans Z11 (Keep.of_wr W16).1
  have K22 : Keep h0 h16 [r1, r2] := K12.wr W16 (Or.inl (List.mem_of_getElem? (i := 1) rfl))
  have N23 := Fr.snoc X16 N13 g_r2
  refine Go.of st16 ?_
  show Go p e below Qo T16 (mkF m 46 #[.val (.ref r1), .val (.int i1)] [])
  exact own_ret0 X16 hx Bd.notSynchronized Bd.returns (hb hby d34_46) (fun u hu hF => hQo _ _ _ ⟨rfl, N23, by rw [hu, e16]; exact K22, by rw [hu, e16]; exact q17, by rw [hu, e16]; exact q18, by rw [hu, e16]; exact q19, by rw [hu, e16]; exact q20⟩ (own_mono hF (by decide) (by decide)))
theorem d40_0 : decode prog_12_method_4_code 0 = .ok (.aload_n 0, 1) := by decide +kernel
theorem d40_1 : decode prog_12_method_4_code 1 = .ok (.getfield 7, 3) := by decide +kernel
theorem d40_4 : decode prog_12_method_4_code 4 = .ok (.aload_n 0, 1) := by decide +kernel
theorem d40_5 : decode prog_12_method_4_code 5 = .ok (.dup, 1) := by decide +kernel
theorem d40_6 : decode prog_12_method_4_code 6 = .ok (.getfield 13, 3) := by decide +kernel
theorem d40_9 : decode prog_12_method_4_code 9 = .ok (.iconst 1, 1) := by decide +kernel
theorem d40_10 : decode prog_12_method_4_code 10 = .ok (.isub, 1) := by decide +kernel
theorem d40_11 : decode prog_12_method_4_code 11 = .ok (.dup_x1, 1) := by decide +kernel
theorem d40_12 : decode prog_12_method_4_code 12 = .ok (.putfield 13, 3) := by decide +kernel
theorem d40_15 : decode prog_12_method_4_code 15 = .ok (.iaload, 1) := by decide +kernel
theorem d40_16 : decode prog_12_method_4_code 16 = .ok (.ireturn, 1) := by decide +kernel
theorem ef_40 (m : MethodId) (r1 : Addr)  : entryFrame m #[(.ref r1)] 1 = mkF m 0 #[.val (.ref r1)] [] := by
  first | (simp [entryFrame, mkF, argsToLocals, Value.category]; done) | rfl
def Q40 (Z : State) (r1 : Addr) (r2 : Addr) (k_2 : ClassId) (x0 : Int32) (x1 : Int32) (h0 : Heap) (n0 : Nat) (v : Option Value) (h : Heap) (L : List Loc) : Prop := v = some (.int x0) ∧ Fr n0 L ∧ Keep h0 h [r1] ∧ Exa Z h r1 "com/example/prompter/prompter/index/Ints" ∧ Fld Z h r1 "com/example/prompter/prompter/index/Ints" "size" "I" (.int (0 : Int32)) ∧ Fld Z h r1 "com/example/prompter/prompter/index/Ints" "values" "[I" (.ref r2)
set_option maxRecDepth 65536 in
set_option maxHeartbeats 40000000 in
theorem rm40 (l : Launch) (Z : State) (a0 : Array Value) (hw : ∀ d ∈ tables_1, d.before a0 Z = true) (ws : List Jvm.Cond) (r1 : Addr) (r2 : Addr) (k_2 : ClassId) (x0 : Int32) (x1 : Int32) (h0 : Heap) (n0 : Nat) (Z0 : n0 ≤ h0.size) (f0 : Exa Z h0 r1 "com/example/prompter/prompter/index/Ints") (f1 : Fld Z h0 r1 "com/example/prompter/prompter/index/Ints" "size" "I" (.int (1 : Int32))) (f2 : Fld Z h0 r1 "com/example/prompter/prompter/index/Ints" "values" "[I" (.ref r2)) (f3 : Arv Z h0 r2 k_2 .int (2 : Int32) [(.int x0), (.int x1)] (.int (0 : Int32))) (g_r1 : n0 ≤ r1) (ne_r2_r1 : r2 ≠ r1) :
    MetFree l (⟨"com/example/prompter/prompter/index/Ints", "removeLast", "()I"⟩ : MethodName) (head1 (Jvm.Cond.code (⟨"com/example/prompter/prompter/index/Ints", "removeLast", "()I"⟩ : MethodName) prog_12_method_4_code 1 (some .int) :: ws) ({ frames := 0, cells := 0, slots := 0, locals := 0 } : Room)) (fun a U => a = #[(.ref r1)] ∧ Z.Warmed39 U.vm ∧ U.heap = h0) (fun _ _ _ _ _ => True) (fun _ U o U' => ∃ v L, o = .returned v ∧ Q40 Z r1 r2 k_2 x0 x1 h0 n0 v U'.heap L ∧ FrameEnd U o U' L ({ frames := 0, cells := 0, slots := 0, locals := 0 } : Room).cells ({ frames := 0, cells := 0, slots := 0, locals := 0 } : Room).slots) := by
  refine MetFree.of_bodySF (plainFor_of_name pn_1) hisR ?_
  intro p e s m args below meth c s₁ Bd hml0 hP hK
  obtain ⟨rfl, hZ, hh⟩ := hP
  have hx := Bd.exec
  have hby := Bd.bytes
  have hml : c.maxLocals = 1 := hml0
  have hown : s.vm.findClass "com/example/prompter/prompter/index/Ints" = some m.cls := findClass_of_methodNamed Bd.named
  have hnm := (name_of_methodNamed Bd.named Bd.method).1
  have X0 : Stand p l e ({ frames := 0, cells := 0, slots := 0, locals := 0 } : Room) s m #[(.ref r1)] below meth c s₁ [] 0 0 := Stand.of_body Bd
  have e0 : s₁.heap = h0 := by rw [← hh, Bd.state]; rfl
  have N0 := Fr.nil n0
  suffices H : ∀ Qo : Outcome → State → Prop, (∀ (v : Option Value) (u : State) (L : List Loc), Q40 Z r1 r2 k_2 x0 x1 h0 n0 v u.heap L → FrameEnd s (.returned v) u L ({ frames := 0, cells := 0, slots := 0, locals := 0 } : Room).cells ({ frames := 0, cells := 0, slots := 0, locals := 0 } : Room).slots → Qo (.returned v) u) → Go p e below Qo s₁ (mkF m 0 #[.val (.ref r1)] []) from
    Go.cast (ef_40 m r1) (H _ fun v u L h1 h2 => ⟨v, L, rfl, h1, h2⟩)
  intro Qo hQo
  show Go p e below Qo s₁ (mkF m 0 #[.val (.ref r1)] [])
  refine Go.of (fun t k => XS.aloadN X0.here hx rfl (hb hby d40_0) rfl rfl k) ?_
  show Go p e below Qo s₁ (mkF m 1 #[.val (.ref r1)] [(.ref r1)])
  obtain ⟨T1, X1, e1, st1⟩ := getF X0 hx hZ hown (host := "") (Or.inl (hw _ (List.mem_of_getElem? (i := 10) rfl))) Via.refl e0 f2 (g := (mkF m 1 #[.val (.ref r1)] [(.ref r1)])) rfl rfl (hb hby d40_1)
  refine Go.of st1 ?_
  show Go p e below Qo T1 (mkF m 4 #[.val (.ref r1)] [(.ref r2)])
  refine Go.of (fun t k => XS.aloadN X1.here hx rfl (hb hby d40_4) rfl rfl k) ?_
  show Go p e below Qo T1 (mkF m 5 #[.val (.ref r1)] [(.ref r1), (.ref r2)])
  refine Go.of (fun t k => XS.dup X1.here hx rfl (hb hby d40_5) rfl rfl k) ?_
  show Go p e below Qo T1 (mkF m 6 #[.val (.ref r1)] [(.ref r1), (.ref r1), (.ref r2)])
  obtain ⟨T2, X2, e2, st2⟩ := getF X1 hx hZ hown (host := "") (Or.inl (hw _ (List.mem_of_getElem? (i := 17) rfl))) Via.refl e1 f1 (g := (mkF m 6 #[.val (.ref r1)] [(.ref r1), (.ref r1), (.ref r2)])) rfl rfl (hb hby d40_6)
  refine Go.of st2 ?_
  show Go p e below Qo T2 (mkF m 9 #[.val (.ref r1)] [(.int (1 : Int32)), (.ref r1), (.ref r2)])
  refine Go.of (fun t k => XS.iconst X2.here hx rfl (hb hby d40_9) k) ?_
  show Go p e below Qo T2 (mkF m 10 #[.val (.ref r1)] [(.int (1 : Int32)), (.int (1 : Int32)), (.ref r1), (.ref r2)])
  refine Go.of (fun t k => XS.isub X2.here hx rfl (hb hby d40_10) rfl k) ?_
  show Go p e below Qo T2 (mkF m 11 #[.val (.ref r1)] [(.int (0 : Int32)), (.ref r1), (.ref r2)])
  refine Go.of (fun t k => XS.dupX1 X2.here hx rfl (hb hby d40_11) rfl rfl rfl k) ?_
  show Go p e below Qo T2 (mkF m 12 #[.val (.ref r1)] [(.int (0 : Int32)), (.ref r1), (.int (0 : Int32)), (.ref r2)])
  obtain ⟨T3, h3, X3, e3, W3, st3⟩ := putF X2 hx hZ hown (host := "") (Or.inl (hw _ (List.mem_of_getElem? (i := 17) rfl))) Via.refl e2 f1 f0 (Or.inl (hw _ (List.mem_of_getElem? (i := 18) rfl))) (hw _ (List.mem_of_getElem? (i := 1) rfl)) (ty := .int) (by decide) rfl rfl (g := (mkF m 12 #[.val (.ref r1)] [(.int (0 : Int32)), (.ref r1), (.int (0 : Int32)), (.ref r2)])) rfl rfl (hb hby d40_12)
  have q4 : Exa Z h3 r1 "com/example/prompter/prompter/index/Ints" := f0.wr W3
  have q5 : Fld Z h3 r1 "com/example/prompter/prompter/index/Ints" "size" "I" (.int (0 : Int32)) := f1.same W3
  have q6 : Fld Z h3 r1 "com/example/prompter/prompter/index/Ints" "values" "[I" (.ref r2) := f2.other W3 (Or.inr (slot_ne (Or.inl (hw _ (List.mem_of_getElem? (i := 11) rfl))) (Or.inl (hw _ (List.mem_of_getElem? (i := 18) rfl))) (by decide) (t := (.array .int)) (t' := .int) (by decide) (by decide)))
  have q7 : Arv Z h3 r2 k_2 .int (2 : Int32) [(.int x0), (.int x1)] (.int (0 : Int32)) := f3.other W3 ne_r2_r1
  have Z8 : n0 ≤ h3.size := Nat.le_trans Z0 (Keep.of_wr W3).1
  have K9 : Keep h0 h3 [r1] := (Keep.refl h0 [r1]).wr W3 (Or.inl (List.mem_of_getElem? (i := 0) rfl))
  have N10 := Fr.snoc X3 N0 g_r1
  refine Go.of st3 ?_
  show Go p e below Qo T3 (mkF m 15 #[.val (.ref r1)] [(.int (0 : Int32)), (.ref r2)])
  have cpo11 := q7
  obtain ⟨clo11, Aro11, qco11, So11, Mo11, Ho11, Go11⟩ := cpo11
  have hin12 : ¬ ((0 : Int32) < 0 ∨ clo11.slots.size ≤ (0 : Int32).toNatClampNeg) := (inb_of So11 ⟨by decide, by decide⟩)
  refine Go.of (fun t k => X3.iaload hx (j := (0 : Int32)) (v := (.int x0)) (by rw [e3]; exact Aro11.1) (State.isArrayOf_alike hZ.alike Aro11.2.1) Aro11.2.2 hin12 (Ho11.at hin12 rfl) (g := (mkF m 15 #[.val (.ref r1)] [(.int (0 : Int32)), (.ref r2)])) rfl rfl (hb hby d40_15) t k) ?_
  show Go p e below Qo T3 (mkF m 16 #[.val (.ref r1)] [(.int x0)])
  exact own_retW X3 hx Bd.notSynchronized Bd.returns rfl (Or.inl ⟨rfl, Or.inl rfl, _, rfl⟩) (hb hby d40_16) (fun u hu hF => hQo _ _ _ ⟨rfl, N10, by rw [hu, e3]; exact K9, by rw [hu, e3]; exact q4, by rw [hu, e3]; exact q5, by rw [hu, e3]; exact q6⟩ (own_mono hF (by decide) (by decide)))
theorem d41_0 : decode prog_12_method_4_code 0 = .ok (.aload_n 0, 1) := by decide +kernel
theorem d41_1 : decode prog_12_method_4_code 1 = .ok (.getfield 7, 3) := by decide +kernel
theorem d41_4 : decode prog_12_method_4_code 4 = .ok (.aload_n 0, 1) := by decide +kernel
theorem d41_5 : decode prog_12_method_4_code 5 = .ok (.dup, 1) := by decide +kernel
theorem d41_6 : decode prog_12_method_4_code 6 = .ok (.getfield 13, 3) := by decide +kernel
theorem d41_9 : decode prog_12_method_4_code 9 = .ok (.iconst 1, 1) := by decide +kernel
theorem d41_10 : decode prog_12_method_4_code 10 = .ok (.isub, 1) := by decide +kernel
theorem d41_11 : decode prog_12_method_4_code 11 = .ok (.dup_x1, 1) := by decide +kernel
theorem d41_12 : decode prog_12_method_4_code 12 = .ok (.putfield 13, 3) := by decide +kernel
theorem d41_15 : decode prog_12_method_4_code 15 = .ok (.iaload, 1) := by decide +kernel
theorem d41_16 : decode prog_12_method_4_code 16 = .ok (.ireturn, 1) := by decide +kernel
theorem ef_41 (m : MethodId) (r1 : Addr)  : entryFrame m #[(.ref r1)] 1 = mkF m 0 #[.val (.ref r1)] [] := by
  first | (simp [entryFrame, mkF, argsToLocals, Value.category]; done) | rfl
def Q41 (Z : State) (r1 : Addr) (r2 : Addr) (k_2 : ClassId) (x0 : Int32) (x1 : Int32) (h0 : Heap) (n0 : Nat) (v : Option Value) (h : Heap) (L : List Loc) : Prop := v = some (.int x1) ∧ Fr n0 L ∧ Keep h0 h [r1] ∧ Exa Z h r1 "com/example/prompter/prompter/index/Ints" ∧ Fld Z h r1 "com/example/prompter/prompter/index/Ints" "size" "I" (.int (1 : Int32)) ∧ Fld Z h r1 "com/example/prompter/prompter/index/Ints" "values" "[I" (.ref r2)
set_option maxRecDepth 65536 in
set_option maxHeartbeats 40000000 in
theorem rm41 (l : Launch) (Z : State) (a0 : Array Value) (hw : ∀ d ∈ tables_1, d.before a0 Z = true) (ws : List Jvm.Cond) (r1 : Addr) (r2 : Addr) (k_2 : ClassId) (x0 : Int32) (x1 : Int32) (h0 : Heap) (n0 : Nat) (Z0 : n0 ≤ h0.size) (f0 : Exa Z h0 r1 "com/example/prompter/prompter/index/Ints") (f1 : Fld Z h0 r1 "com/example/prompter/prompter/index/Ints" "size" "I" (.int (2 : Int32))) (f2 : Fld Z h0 r1 "com/example/prompter/prompter/index/Ints" "values" "[I" (.ref r2)) (f3 : Arv Z h0 r2 k_2 .int (2 : Int32) [(.int x0), (.int x1)] (.int (0 : Int32))) (g_r1 : n0 ≤ r1) (ne_r2_r1 : r2 ≠ r1) :
    MetFree l (⟨"com/example/prompter/prompter/index/Ints", "removeLast", "()I"⟩ : MethodName) (head1 (Jvm.Cond.code (⟨"com/example/prompter/prompter/index/Ints", "removeLast", "()I"⟩ : MethodName) prog_12_method_4_code 1 (some .int) :: ws) ({ frames := 0, cells := 0, slots := 0, locals := 0 } : Room)) (fun a U => a = #[(.ref r1)] ∧ Z.Warmed39 U.vm ∧ U.heap = h0) (fun _ _ _ _ _ => True) (fun _ U o U' => ∃ v L, o = .returned v ∧ Q41 Z r1 r2 k_2 x0 x1 h0 n0 v U'.heap L ∧ FrameEnd U o U' L ({ frames := 0, cells := 0, slots := 0, locals := 0 } : Room).cells ({ frames := 0, cells := 0, slots := 0, locals := 0 } : Room).slots) := by
  refine MetFree.of_bodySF (plainFor_of_name pn_1) hisR ?_
  intro p e s m args below meth c s₁ Bd hml0 hP hK
  obtain ⟨rfl, hZ, hh⟩ := hP
  have hx := Bd.exec
  have hby := Bd.bytes
  have hml : c.maxLocals = 1 := hml0
  have hown : s.vm.findClass "com/example/prompter/prompter/index/Ints" = some m.cls := findClass_of_methodNamed Bd.named
  have hnm := (name_of_methodNamed Bd.named Bd.method).1
  have X0 : Stand p l e ({ frames := 0, cells := 0, slots := 0, locals := 0 } : Room) s m #[(.ref r1)] below meth c s₁ [] 0 0 := Stand.of_body Bd
  have e0 : s₁.heap = h0 := by rw [← hh, Bd.state]; rfl
  have N0 := Fr.nil n0
  suffices H : ∀ Qo : Outcome → State → Prop, (∀ (v : Option Value) (u : State) (L : List Loc), Q41 Z r1 r2 k_2 x0 x1 h0 n0 v u.heap L → FrameEnd s (.returned v) u L ({ frames := 0, cells := 0, slots := 0, locals := 0 } : Room).cells ({ frames := 0, cells := 0, slots := 0, locals := 0 } : Room).slots → Qo (.returned v) u) → Go p e below Qo s₁ (mkF m 0 #[.val (.ref r1)] []) from
    Go.cast (ef_41 m r1) (H _ fun v u L h1 h2 => ⟨v, L, rfl, h1, h2⟩)
  intro Qo hQo
  show Go p e below Qo s₁ (mkF m 0 #[.val (.ref r1)] [])
  refine Go.of (fun t k => XS.aloadN X0.here hx rfl (hb hby d41_0) rfl rfl k) ?_
  show Go p e below Qo s₁ (mkF m 1 #[.val (.ref r1)] [(.ref r1)])
  obtain ⟨T1, X1, e1, st1⟩ := getF X0 hx hZ hown (host := "") (Or.inl (hw _ (List.mem_of_getElem? (i := 10) rfl))) Via.refl e0 f2 (g := (mkF m 1 #[.val (.ref r1)] [(.ref r1)])) rfl rfl (hb hby d41_1)
  refine Go.of st1 ?_
  show Go p e below Qo T1 (mkF m 4 #[.val (.ref r1)] [(.ref r2)])
  refine Go.of (fun t k => XS.aloadN X1.here hx rfl (hb hby d41_4) rfl rfl k) ?_
  show Go p e below Qo T1 (mkF m 5 #[.val (.ref r1)] [(.ref r1), (.ref r2)])
  refine Go.of (fun t k => XS.dup X1.here hx rfl (hb hby d41_5) rfl rfl k) ?_
  show Go p e below Qo T1 (mkF m 6 #[.val (.ref r1)] [(.ref r1), (.ref r1), (.ref r2)])
  obtain ⟨T2, X2, e2, st2⟩ := getF X1 hx hZ hown (host := "") (Or.inl (hw _ (List.mem_of_getElem? (i := 17) rfl))) Via.refl e1 f1 (g := (mkF m 6 #[.val (.ref r1)] [(.ref r1), (.ref r1), (.ref r2)])) rfl rfl (hb hby d41_6)
  refine Go.of st2 ?_
  show Go p e below Qo T2 (mkF m 9 #[.val (.ref r1)] [(.int (2 : Int32)), (.ref r1), (.ref r2)])
  refine Go.of (fun t k => XS.iconst X2.here hx rfl (hb hby d41_9) k) ?_
  show Go p e below Qo T2 (mkF m 10 #[.val (.ref r1)] [(.int (1 : Int32)), (.int (2 : Int32)), (.ref r1), (.ref r2)])
  refine Go.of (fun t k => XS.isub X2.here hx rfl (hb hby d41_10) rfl k) ?_
  show Go p e below Qo T2 (mkF m 11 #[.val (.ref r1)] [(.int (1 : Int32)), (.ref r1), (.ref r2)])
  refine Go.of (fun t k => XS.dupX1 X2.here hx rfl (hb hby d41_11) rfl rfl rfl k) ?_
  show Go p e below Qo T2 (mkF m 12 #[.val (.ref r1)] [(.int (1 : Int32)), (.ref r1), (.int (1 : Int32)), (.ref r2)])
  obtain ⟨T3, h3, X3, e3, W3, st3⟩ := putF X2 hx hZ hown (host := "") (Or.inl (hw _ (List.mem_of_getElem? (i := 17) rfl))) Via.refl e2 f1 f0 (Or.inl (hw _ (List.mem_of_getElem? (i := 18) rfl))) (hw _ (List.mem_of_getElem? (i := 1) rfl)) (ty := .int) (by decide) rfl rfl (g := (mkF m 12 #[.val (.ref r1)] [(.int (1 : Int32)), (.ref r1), (.int (1 : Int32)), (.ref r2)])) rfl rfl (hb hby d41_12)
  have q4 : Exa Z h3 r1 "com/example/prompter/prompter/index/Ints" := f0.wr W3
  have q5 : Fld Z h3 r1 "com/example/prompter/prompter/index/Ints" "size" "I" (.int (1 : Int32)) := f1.same W3
  have q6 : Fld Z h3 r1 "com/example/prompter/prompter/index/Ints" "values" "[I" (.ref r2) := f2.other W3 (Or.inr (slot_ne (Or.inl (hw _ (List.mem_of_getElem? (i := 11) rfl))) (Or.inl (hw _ (List.mem_of_getElem? (i := 18) rfl))) (by decide) (t := (.array .int)) (t' := .int) (by decide) (by decide)))
  have q7 : Arv Z h3 r2 k_2 .int (2 : Int32) [(.int x0), (.int x1)] (.int (0 : Int32)) := f3.other W3 ne_r2_r1
  have Z8 : n0 ≤ h3.size := Nat.le_trans Z0 (Keep.of_wr W3).1
  have K9 : Keep h0 h3 [r1] := (Keep.refl h0 [r1]).wr W3 (Or.inl (List.mem_of_getElem? (i := 0) rfl))
  have N10 := Fr.snoc X3 N0 g_r1
  refine Go.of st3 ?_
  show Go p e below Qo T3 (mkF m 15 #[.val (.ref r1)] [(.int (1 : Int32)), (.ref r2)])
  have cpo11 := q7
  obtain ⟨clo11, Aro11, qco11, So11, Mo11, Ho11, Go11⟩ := cpo11
  have hin12 : ¬ ((1 : Int32) < 0 ∨ clo11.slots.size ≤ (1 : Int32).toNatClampNeg) := (inb_of So11 ⟨by decide, by decide⟩)
  refine Go.of (fun t k => X3.iaload hx (j := (1 : Int32)) (v := (.int x1)) (by rw [e3]; exact Aro11.1) (State.isArrayOf_alike hZ.alike Aro11.2.1) Aro11.2.2 hin12 (Ho11.at hin12 rfl) (g := (mkF m 15 #[.val (.ref r1)] [(.int (1 : Int32)), (.ref r2)])) rfl rfl (hb hby d41_15) t k) ?_
  show Go p e below Qo T3 (mkF m 16 #[.val (.ref r1)] [(.int x1)])
  exact own_retW X3 hx Bd.notSynchronized Bd.returns rfl (Or.inl ⟨rfl, Or.inl rfl, _, rfl⟩) (hb hby d41_16) (fun u hu hF => hQo _ _ _ ⟨rfl, N10, by rw [hu, e3]; exact K9, by rw [hu, e3]; exact q4, by rw [hu, e3]; exact q5, by rw [hu, e3]; exact q6⟩ (own_mono hF (by decide) (by decide)))
theorem d42_0 : decode prog_12_method_4_code 0 = .ok (.aload_n 0, 1) := by decide +kernel
theorem d42_1 : decode prog_12_method_4_code 1 = .ok (.getfield 7, 3) := by decide +kernel
theorem d42_4 : decode prog_12_method_4_code 4 = .ok (.aload_n 0, 1) := by decide +kernel
theorem d42_5 : decode prog_12_method_4_code 5 = .ok (.dup, 1) := by decide +kernel
theorem d42_6 : decode prog_12_method_4_code 6 = .ok (.getfield 13, 3) := by decide +kernel
theorem d42_9 : decode prog_12_method_4_code 9 = .ok (.iconst 1, 1) := by decide +kernel
theorem d42_10 : decode prog_12_method_4_code 10 = .ok (.isub, 1) := by decide +kernel
theorem d42_11 : decode prog_12_method_4_code 11 = .ok (.dup_x1, 1) := by decide +kernel
theorem d42_12 : decode prog_12_method_4_code 12 = .ok (.putfield 13, 3) := by decide +kernel
theorem d42_15 : decode prog_12_method_4_code 15 = .ok (.iaload, 1) := by decide +kernel
theorem d42_16 : decode prog_12_method_4_code 16 = .ok (.ireturn, 1) := by decide +kernel
theorem ef_42 (m : MethodId) (r1 : Addr)  : entryFrame m #[(.ref r1)] 1 = mkF m 0 #[.val (.ref r1)] [] := by
  first | (simp [entryFrame, mkF, argsToLocals, Value.category]; done) | rfl
def Q42 (Z : State) (r1 : Addr) (r2 : Addr) (k_2 : ClassId) (x0 : Int32) (x1 : Int32) (x2 : Int32) (x3 : Int32) (h0 : Heap) (n0 : Nat) (v : Option Value) (h : Heap) (L : List Loc) : Prop := v = some (.int x2) ∧ Fr n0 L ∧ Keep h0 h [r1] ∧ Exa Z h r1 "com/example/prompter/prompter/index/Ints" ∧ Fld Z h r1 "com/example/prompter/prompter/index/Ints" "size" "I" (.int (2 : Int32)) ∧ Fld Z h r1 "com/example/prompter/prompter/index/Ints" "values" "[I" (.ref r2)
set_option maxRecDepth 65536 in
set_option maxHeartbeats 40000000 in
theorem rm42 (l : Launch) (Z : State) (a0 : Array Value) (hw : ∀ d ∈ tables_1, d.before a0 Z = true) (ws : List Jvm.Cond) (r1 : Addr) (r2 : Addr) (k_2 : ClassId) (x0 : Int32) (x1 : Int32) (x2 : Int32) (x3 : Int32) (h0 : Heap) (n0 : Nat) (Z0 : n0 ≤ h0.size) (f0 : Exa Z h0 r1 "com/example/prompter/prompter/index/Ints") (f1 : Fld Z h0 r1 "com/example/prompter/prompter/index/Ints" "size" "I" (.int (3 : Int32))) (f2 : Fld Z h0 r1 "com/example/prompter/prompter/index/Ints" "values" "[I" (.ref r2)) (f3 : Arv Z h0 r2 k_2 .int (4 : Int32) [(.int x0), (.int x1), (.int x2), (.int x3)] (.int (0 : Int32))) (g_r1 : n0 ≤ r1) (ne_r2_r1 : r2 ≠ r1) :
    MetFree l (⟨"com/example/prompter/prompter/index/Ints", "removeLast", "()I"⟩ : MethodName) (head1 (Jvm.Cond.code (⟨"com/example/prompter/prompter/index/Ints", "removeLast", "()I"⟩ : MethodName) prog_12_method_4_code 1 (some .int) :: ws) ({ frames := 0, cells := 0, slots := 0, locals := 0 } : Room)) (fun a U => a = #[(.ref r1)] ∧ Z.Warmed39 U.vm ∧ U.heap = h0) (fun _ _ _ _ _ => True) (fun _ U o U' => ∃ v L, o = .returned v ∧ Q42 Z r1 r2 k_2 x0 x1 x2 x3 h0 n0 v U'.heap L ∧ FrameEnd U o U' L ({ frames := 0, cells := 0, slots := 0, locals := 0 } : Room).cells ({ frames := 0, cells := 0, slots := 0, locals := 0 } : Room).slots) := by
  refine MetFree.of_bodySF (plainFor_of_name pn_1) hisR ?_
  intro p e s m args below meth c s₁ Bd hml0 hP hK
  obtain ⟨rfl, hZ, hh⟩ := hP
  have hx := Bd.exec
  have hby := Bd.bytes
  have hml : c.maxLocals = 1 := hml0
  have hown : s.vm.findClass "com/example/prompter/prompter/index/Ints" = some m.cls := findClass_of_methodNamed Bd.named
  have hnm := (name_of_methodNamed Bd.named Bd.method).1
  have X0 : Stand p l e ({ frames := 0, cells := 0, slots := 0, locals := 0 } : Room) s m #[(.ref r1)] below meth c s₁ [] 0 0 := Stand.of_body Bd
  have e0 : s₁.heap = h0 := by rw [← hh, Bd.state]; rfl
  have N0 := Fr.nil n0
  suffices H : ∀ Qo : Outcome → State → Prop, (∀ (v : Option Value) (u : State) (L : List Loc), Q42 Z r1 r2 k_2 x0 x1 x2 x3 h0 n0 v u.heap L → FrameEnd s (.returned v) u L ({ frames := 0, cells := 0, slots := 0, locals := 0 } : Room).cells ({ frames := 0, cells := 0, slots := 0, locals := 0 } : Room).slots → Qo (.returned v) u) → Go p e below Qo s₁ (mkF m 0 #[.val (.ref r1)] []) from
    Go.cast (ef_42 m r1) (H _ fun v u L h1 h2 => ⟨v, L, rfl, h1, h2⟩)
  intro Qo hQo
  show Go p e below Qo s₁ (mkF m 0 #[.val (.ref r1)] [])
  refine Go.of (fun t k => XS.aloadN X0.here hx rfl (hb hby d42_0) rfl rfl k) ?_
  show Go p e below Qo s₁ (mkF m 1 #[.val (.ref r1)] [(.ref r1)])
  obtain ⟨T1, X1, e1, st1⟩ := getF X0 hx hZ hown (host := "") (Or.inl (hw _ (List.mem_of_getElem? (i := 10) rfl))) Via.refl e0 f2 (g := (mkF m 1 #[.val (.ref r1)] [(.ref r1)])) rfl rfl (hb hby d42_1)
  refine Go.of st1 ?_
  show Go p e below Qo T1 (mkF m 4 #[.val (.ref r1)] [(.ref r2)])
  refine Go.of (fun t k => XS.aloadN X1.here hx rfl (hb hby d42_4) rfl rfl k) ?_
  show Go p e below Qo T1 (mkF m 5 #[.val (.ref r1)] [(.ref r1), (.ref r2)])
  refine Go.of (fun t k => XS.dup X1.here hx rfl (hb hby d42_5) rfl rfl k) ?_
  show Go p e below Qo T1 (mkF m 6 #[.val (.ref r1)] [(.ref r1), (.ref r1), (.ref r2)])
  obtain ⟨T2, X2, e2, st2⟩ := getF X1 hx hZ hown (host := "") (Or.inl (hw _ (List.mem_of_getElem? (i := 17) rfl))) Via.refl e1 f1 (g := (mkF m 6 #[.val (.ref r1)] [(.ref r1), (.ref r1), (.ref r2)])) rfl rfl (hb hby d42_6)
  refine Go.of st2 ?_
  show Go p e below Qo T2 (mkF m 9 #[.val (.ref r1)] [(.int (3 : Int32)), (.ref r1), (.ref r2)])
  refine Go.of (fun t k => XS.iconst X2.here hx rfl (hb hby d42_9) k) ?_
  show Go p e below Qo T2 (mkF m 10 #[.val (.ref r1)] [(.int (1 : Int32)), (.int (3 : Int32)), (.ref r1), (.ref r2)])
  refine Go.of (fun t k => XS.isub X2.here hx rfl (hb hby d42_10) rfl k) ?_
  show Go p e below Qo T2 (mkF m 11 #[.val (.ref r1)] [(.int (2 : Int32)), (.ref r1), (.ref r2)])
  refine Go.of (fun t k => XS.dupX1 X2.here hx rfl (hb hby d42_11) rfl rfl rfl k) ?_
  show Go p e below Qo T2 (mkF m 12 #[.val (.ref r1)] [(.int (2 : Int32)), (.ref r1), (.int (2 : Int32)), (.ref r2)])
  obtain ⟨T3, h3, X3, e3, W3, st3⟩ := putF X2 hx hZ hown (host := "") (Or.inl (hw _ (List.mem_of_getElem? (i := 17) rfl))) Via.refl e2 f1 f0 (Or.inl (hw _ (List.mem_of_getElem? (i := 18) rfl))) (hw _ (List.mem_of_getElem? (i := 1) rfl)) (ty := .int) (by decide) rfl rfl (g := (mkF m 12 #[.val (.ref r1)] [(.int (2 : Int32)), (.ref r1), (.int (2 : Int32)), (.ref r2)])) rfl rfl (hb hby d42_12)
  have q4 : Exa Z h3 r1 "com/example/prompter/prompter/index/Ints" := f0.wr W3
  have q5 : Fld Z h3 r1 "com/example/prompter/prompter/index/Ints" "size" "I" (.int (2 : Int32)) := f1.same W3
  have q6 : Fld Z h3 r1 "com/example/prompter/prompter/index/Ints" "values" "[I" (.ref r2) := f2.other W3 (Or.inr (slot_ne (Or.inl (hw _ (List.mem_of_getElem? (i := 11) rfl))) (Or.inl (hw _ (List.mem_of_getElem? (i := 18) rfl))) (by decide) (t := (.array .int)) (t' := .int) (by decide) (by decide)))
  have q7 : Arv Z h3 r2 k_2 .int (4 : Int32) [(.int x0), (.int x1), (.int x2), (.int x3)] (.int (0 : Int32)) := f3.other W3 ne_r2_r1
  have Z8 : n0 ≤ h3.size := Nat.le_trans Z0 (Keep.of_wr W3).1
  have K9 : Keep h0 h3 [r1] := (Keep.refl h0 [r1]).wr W3 (Or.inl (List.mem_of_getElem? (i := 0) rfl))
  have N10 := Fr.snoc X3 N0 g_r1
  refine Go.of st3 ?_
  show Go p e below Qo T3 (mkF m 15 #[.val (.ref r1)] [(.int (2 : Int32)), (.ref r2)])
  have cpo11 := q7
  obtain ⟨clo11, Aro11, qco11, So11, Mo11, Ho11, Go11⟩ := cpo11
  have hin12 : ¬ ((2 : Int32) < 0 ∨ clo11.slots.size ≤ (2 : Int32).toNatClampNeg) := (inb_of So11 ⟨by decide, by decide⟩)
  refine Go.of (fun t k => X3.iaload hx (j := (2 : Int32)) (v := (.int x2)) (by rw [e3]; exact Aro11.1) (State.isArrayOf_alike hZ.alike Aro11.2.1) Aro11.2.2 hin12 (Ho11.at hin12 rfl) (g := (mkF m 15 #[.val (.ref r1)] [(.int (2 : Int32)), (.ref r2)])) rfl rfl (hb hby d42_15) t k) ?_
  show Go p e below Qo T3 (mkF m 16 #[.val (.ref r1)] [(.int x2)])
  exact own_retW X3 hx Bd.notSynchronized Bd.returns rfl (Or.inl ⟨rfl, Or.inl rfl, _, rfl⟩) (hb hby d42_16) (fun u hu hF => hQo _ _ _ ⟨rfl, N10, by rw [hu, e3]; exact K9, by rw [hu, e3]; exact q4, by rw [hu, e3]; exact q5, by rw [hu, e3]; exact q6⟩ (own_mono hF (by decide) (by decide)))
theorem d43_0 : decode prog_12_method_4_code 0 = .ok (.aload_n 0, 1) := by decide +kernel
theorem d43_1 : decode prog_12_method_4_code 1 = .ok (.getfield 7, 3) := by decide +kernel
theorem d43_4 : decode prog_12_method_4_code 4 = .ok (.aload_n 0, 1) := by decide +kernel
theorem d43_5 : decode prog_12_method_4_code 5 = .ok (.dup, 1) := by decide +kernel
theorem d43_6 : decode prog_12_method_4_code 6 = .ok (.getfield 13, 3) := by decide +kernel
theorem d43_9 : decode prog_12_method_4_code 9 = .ok (.iconst 1, 1) := by decide +kernel
theorem d43_10 : decode prog_12_method_4_code 10 = .ok (.isub, 1) := by decide +kernel
theorem d43_11 : decode prog_12_method_4_code 11 = .ok (.dup_x1, 1) := by decide +kernel
theorem d43_12 : decode prog_12_method_4_code 12 = .ok (.putfield 13, 3) := by decide +kernel
theorem d43_15 : decode prog_12_method_4_code 15 = .ok (.iaload, 1) := by decide +kernel
theorem d43_16 : decode prog_12_method_4_code 16 = .ok (.ireturn, 1) := by decide +kernel
theorem ef_43 (m : MethodId) (r1 : Addr)  : entryFrame m #[(.ref r1)] 1 = mkF m 0 #[.val (.ref r1)] [] := by
  first | (simp [entryFrame, mkF, argsToLocals, Value.category]; done) | rfl
def Q43 (Z : State) (r1 : Addr) (r2 : Addr) (k_2 : ClassId) (x0 : Int32) (x1 : Int32) (x2 : Int32) (x3 : Int32) (h0 : Heap) (n0 : Nat) (v : Option Value) (h : Heap) (L : List Loc) : Prop := v = some (.int x3) ∧ Fr n0 L ∧ Keep h0 h [r1] ∧ Exa Z h r1 "com/example/prompter/prompter/index/Ints" ∧ Fld Z h r1 "com/example/prompter/prompter/index/Ints" "size" "I" (.int (3 : Int32)) ∧ Fld Z h r1 "com/example/prompter/prompter/index/Ints" "values" "[I" (.ref r2)
set_option maxRecDepth 65536 in
set_option maxHeartbeats 40000000 in
theorem rm43 (l : Launch) (Z : State) (a0 : Array Value) (hw : ∀ d ∈ tables_1, d.before a0 Z = true) (ws : List Jvm.Cond) (r1 : Addr) (r2 : Addr) (k_2 : ClassId) (x0 : Int32) (x1 : Int32) (x2 : Int32) (x3 : Int32) (h0 : Heap) (n0 : Nat) (Z0 : n0 ≤ h0.size) (f0 : Exa Z h0 r1 "com/example/prompter/prompter/index/Ints") (f1 : Fld Z h0 r1 "com/example/prompter/prompter/index/Ints" "size" "I" (.int (4 : Int32))) (f2 : Fld Z h0 r1 "com/example/prompter/prompter/index/Ints" "values" "[I" (.ref r2)) (f3 : Arv Z h0 r2 k_2 .int (4 : Int32) [(.int x0), (.int x1), (.int x2), (.int x3)] (.int (0 : Int32))) (g_r1 : n0 ≤ r1) (ne_r2_r1 : r2 ≠ r1) :
    MetFree l (⟨"com/example/prompter/prompter/index/Ints", "removeLast", "()I"⟩ : MethodName) (head1 (Jvm.Cond.code (⟨"com/example/prompter/prompter/index/Ints", "removeLast", "()I"⟩ : MethodName) prog_12_method_4_code 1 (some .int) :: ws) ({ frames := 0, cells := 0, slots := 0, locals := 0 } : Room)) (fun a U => a = #[(.ref r1)] ∧ Z.Warmed39 U.vm ∧ U.heap = h0) (fun _ _ _ _ _ => True) (fun _ U o U' => ∃ v L, o = .returned v ∧ Q43 Z r1 r2 k_2 x0 x1 x2 x3 h0 n0 v U'.heap L ∧ FrameEnd U o U' L ({ frames := 0, cells := 0, slots := 0, locals := 0 } : Room).cells ({ frames := 0, cells := 0, slots := 0, locals := 0 } : Room).slots) := by
  refine MetFree.of_bodySF (plainFor_of_name pn_1) hisR ?_
  intro p e s m args below meth c s₁ Bd hml0 hP hK
  obtain ⟨rfl, hZ, hh⟩ := hP
  have hx := Bd.exec
  have hby := Bd.bytes
  have hml : c.maxLocals = 1 := hml0
  have hown : s.vm.findClass "com/example/prompter/prompter/index/Ints" = some m.cls := findClass_of_methodNamed Bd.named
  have hnm := (name_of_methodNamed Bd.named Bd.method).1
  have X0 : Stand p l e ({ frames := 0, cells := 0, slots := 0, locals := 0 } : Room) s m #[(.ref r1)] below meth c s₁ [] 0 0 := Stand.of_body Bd
  have e0 : s₁.heap = h0 := by rw [← hh, Bd.state]; rfl
  have N0 := Fr.nil n0
  suffices H : ∀ Qo : Outcome → State → Prop, (∀ (v : Option Value) (u : State) (L : List Loc), Q43 Z r1 r2 k_2 x0 x1 x2 x3 h0 n0 v u.heap L → FrameEnd s (.returned v) u L ({ frames := 0, cells := 0, slots := 0, locals := 0 } : Room).cells ({ frames := 0, cells := 0, slots := 0, locals := 0 } : Room).slots → Qo (.returned v) u) → Go p e below Qo s₁ (mkF m 0 #[.val (.ref r1)] []) from
    Go.cast (ef_43 m r1) (H _ fun v u L h1 h2 => ⟨v, L, rfl, h1, h2⟩)
  intro Qo hQo
  show Go p e below Qo s₁ (mkF m 0 #[.val (.ref r1)] [])
  refine Go.of (fun t k => XS.aloadN X0.here hx rfl (hb hby d43_0) rfl rfl k) ?_
  show Go p e below Qo s₁ (mkF m 1 #[.val (.ref r1)] [(.ref r1)])
  obtain ⟨T1, X1, e1, st1⟩ := getF X0 hx hZ hown (host := "") (Or.inl (hw _ (List.mem_of_getElem? (i := 10) rfl))) Via.refl e0 f2 (g := (mkF m 1 #[.val (.ref r1)] [(.ref r1)])) rfl rfl (hb hby d43_1)
  refine Go.of st1 ?_
  show Go p e below Qo T1 (mkF m 4 #[.val (.ref r1)] [(.ref r2)])
  refine Go.of (fun t k => XS.aloadN X1.here hx rfl (hb hby d43_4) rfl rfl k) ?_
  show Go p e below Qo T1 (mkF m 5 #[.val (.ref r1)] [(.ref r1), (.ref r2)])
  refine Go.of (fun t k => XS.dup X1.here hx rfl (hb hby d43_5) rfl rfl k) ?_
  show Go p e below Qo T1 (mkF m 6 #[.val (.ref r1)] [(.ref r1), (.ref r1), (.ref r2)])
  obtain ⟨T2, X2, e2, st2⟩ := getF X1 hx hZ hown (host := "") (Or.inl (hw _ (List.mem_of_getElem? (i := 17) rfl))) Via.refl e1 f1 (g := (mkF m 6 #[.val (.ref r1)] [(.ref r1), (.ref r1), (.ref r2)])) rfl rfl (hb hby d43_6)
  refine Go.of st2 ?_
  show Go p e below Qo T2 (mkF m 9 #[.val (.ref r1)] [(.int (4 : Int32)), (.ref r1), (.ref r2)])
  refine Go.of (fun t k => XS.iconst X2.here hx rfl (hb hby d43_9) k) ?_
  show Go p e below Qo T2 (mkF m 10 #[.val (.ref r1)] [(.int (1 : Int32)), (.int (4 : Int32)), (.ref r1), (.ref r2)])
  refine Go.of (fun t k => XS.isub X2.here hx rfl (hb hby d43_10) rfl k) ?_
  show Go p e below Qo T2 (mkF m 11 #[.val (.ref r1)] [(.int (3 : Int32)), (.ref r1), (.ref r2)])
  refine Go.of (fun t k => XS.dupX1 X2.here hx rfl (hb hby d43_11) rfl rfl rfl k) ?_
  show Go p e below Qo T2 (mkF m 12 #[.val (.ref r1)] [(.int (3 : Int32)), (.ref r1), (.int (3 : Int32)), (.ref r2)])
  obtain ⟨T3, h3, X3, e3, W3, st3⟩ := putF X2 hx hZ hown (host := "") (Or.inl (hw _ (List.mem_of_getElem? (i := 17) rfl))) Via.refl e2 f1 f0 (Or.inl (hw _ (List.mem_of_getElem? (i := 18) rfl))) (hw _ (List.mem_of_getElem? (i := 1) rfl)) (ty := .int) (by decide) rfl rfl (g := (mkF m 12 #[.val (.ref r1)] [(.int (3 : Int32)), (.ref r1), (.int (3 : Int32)), (.ref r2)])) rfl rfl (hb hby d43_12)
  have q4 : Exa Z h3 r1 "com/example/prompter/prompter/index/Ints" := f0.wr W3
  have q5 : Fld Z h3 r1 "com/example/prompter/prompter/index/Ints" "size" "I" (.int (3 : Int32)) := f1.same W3
  have q6 : Fld Z h3 r1 "com/example/prompter/prompter/index/Ints" "values" "[I" (.ref r2) := f2.other W3 (Or.inr (slot_ne (Or.inl (hw _ (List.mem_of_getElem? (i := 11) rfl))) (Or.inl (hw _ (List.mem_of_getElem? (i := 18) rfl))) (by decide) (t := (.array .int)) (t' := .int) (by decide) (by decide)))
  have q7 : Arv Z h3 r2 k_2 .int (4 : Int32) [(.int x0), (.int x1), (.int x2), (.int x3)] (.int (0 : Int32)) := f3.other W3 ne_r2_r1
  have Z8 : n0 ≤ h3.size := Nat.le_trans Z0 (Keep.of_wr W3).1
  have K9 : Keep h0 h3 [r1] := (Keep.refl h0 [r1]).wr W3 (Or.inl (List.mem_of_getElem? (i := 0) rfl))
  have N10 := Fr.snoc X3 N0 g_r1
  refine Go.of st3 ?_
  show Go p e below Qo T3 (mkF m 15 #[.val (.ref r1)] [(.int (3 : Int32)), (.ref r2)])
  have cpo11 := q7
  obtain ⟨clo11, Aro11, qco11, So11, Mo11, Ho11, Go11⟩ := cpo11
  have hin12 : ¬ ((3 : Int32) < 0 ∨ clo11.slots.size ≤ (3 : Int32).toNatClampNeg) := (inb_of So11 ⟨by decide, by decide⟩)
  refine Go.of (fun t k => X3.iaload hx (j := (3 : Int32)) (v := (.int x3)) (by rw [e3]; exact Aro11.1) (State.isArrayOf_alike hZ.alike Aro11.2.1) Aro11.2.2 hin12 (Ho11.at hin12 rfl) (g := (mkF m 15 #[.val (.ref r1)] [(.int (3 : Int32)), (.ref r2)])) rfl rfl (hb hby d43_15) t k) ?_
  show Go p e below Qo T3 (mkF m 16 #[.val (.ref r1)] [(.int x3)])
  exact own_retW X3 hx Bd.notSynchronized Bd.returns rfl (Or.inl ⟨rfl, Or.inl rfl, _, rfl⟩) (hb hby d43_16) (fun u hu hF => hQo _ _ _ ⟨rfl, N10, by rw [hu, e3]; exact K9, by rw [hu, e3]; exact q4, by rw [hu, e3]; exact q5, by rw [hu, e3]; exact q6⟩ (own_mono hF (by decide) (by decide)))
theorem d50_0 : decode prog_12_method_6_code 0 = .ok (.aload_n 0, 1) := by decide +kernel
theorem d50_1 : decode prog_12_method_6_code 1 = .ok (.getfield 7, 3) := by decide +kernel
theorem d50_4 : decode prog_12_method_6_code 4 = .ok (.aload_n 0, 1) := by decide +kernel
theorem d50_5 : decode prog_12_method_6_code 5 = .ok (.getfield 13, 3) := by decide +kernel
theorem d50_8 : decode prog_12_method_6_code 8 = .ok (.invokestatic 17, 3) := by decide +kernel
theorem d50_11 : decode prog_12_method_6_code 11 = .ok (.areturn, 1) := by decide +kernel
theorem ef_50 (m : MethodId) (r1 : Addr)  : entryFrame m #[(.ref r1)] 1 = mkF m 0 #[.val (.ref r1)] [] := by
  first | (simp [entryFrame, mkF, argsToLocals, Value.category]; done) | rfl
def Q50 (Z : State) (r1 : Addr) (r2 : Addr) (k_2 : ClassId) (x0 : Int32) (x1 : Int32) (h0 : Heap) (n0 : Nat) (v : Option Value) (h : Heap) (L : List Loc) : Prop := ∃ rb : Addr, ∃ kb : ClassId, v = some (.ref rb) ∧ Fr n0 L ∧ Keep h0 h [] ∧ h0.size ≤ rb ∧ Arv Z h rb kb .int (0 : Int32) [] (.int (0 : Int32))
set_option maxRecDepth 65536 in
set_option maxHeartbeats 40000000 in
theorem rm50 (l : Launch) (Z : State) (a0 : Array Value) (hw : ∀ d ∈ tables_1, d.before a0 Z = true) (ws : List Jvm.Cond) (r1 : Addr) (r2 : Addr) (k_2 : ClassId) (x0 : Int32) (x1 : Int32) (h0 : Heap) (n0 : Nat) (Z0 : n0 ≤ h0.size) (f0 : Exa Z h0 r1 "com/example/prompter/prompter/index/Ints") (f1 : Fld Z h0 r1 "com/example/prompter/prompter/index/Ints" "size" "I" (.int (0 : Int32))) (f2 : Fld Z h0 r1 "com/example/prompter/prompter/index/Ints" "values" "[I" (.ref r2)) (f3 : Arv Z h0 r2 k_2 .int (2 : Int32) [(.int x0), (.int x1)] (.int (0 : Int32))) :
    MetFree l (⟨"com/example/prompter/prompter/index/Ints", "toArray", "()[I"⟩ : MethodName) (head1 (Jvm.Cond.code (⟨"com/example/prompter/prompter/index/Ints", "toArray", "()[I"⟩ : MethodName) prog_12_method_6_code 1 (some (.array .int)) :: ws) ({ frames := 2, cells := 1, slots := 0, locals := 32 } : Room)) (fun a U => a = #[(.ref r1)] ∧ Z.Warmed39 U.vm ∧ U.heap = h0) (fun _ _ _ _ _ => True) (fun _ U o U' => ∃ v L, o = .returned v ∧ Q50 Z r1 r2 k_2 x0 x1 h0 n0 v U'.heap L ∧ FrameEnd U o U' L ({ frames := 2, cells := 1, slots := 0, locals := 32 } : Room).cells ({ frames := 2, cells := 1, slots := 0, locals := 32 } : Room).slots) := by
  refine MetFree.of_bodySF (plainFor_of_name pn_1) hisR ?_
  intro p e s m args below meth c s₁ Bd hml0 hP hK
  obtain ⟨rfl, hZ, hh⟩ := hP
  have hx := Bd.exec
  have hby := Bd.bytes
  have hml : c.maxLocals = 1 := hml0
  have hown : s.vm.findClass "com/example/prompter/prompter/index/Ints" = some m.cls := findClass_of_methodNamed Bd.named
  have hnm := (name_of_methodNamed Bd.named Bd.method).1
  have X0 : Stand p l e ({ frames := 2, cells := 1, slots := 0, locals := 32 } : Room) s m #[(.ref r1)] below meth c s₁ [] 0 0 := Stand.of_body Bd
  have e0 : s₁.heap = h0 := by rw [← hh, Bd.state]; rfl
  have N0 := Fr.nil n0
  suffices H : ∀ Qo : Outcome → State → Prop, (∀ (v : Option Value) (u : State) (L : List Loc), Q50 Z r1 r2 k_2 x0 x1 h0 n0 v u.heap L → FrameEnd s (.returned v) u L ({ frames := 2, cells := 1, slots := 0, locals := 32 } : Room).cells ({ frames := 2, cells := 1, slots := 0, locals := 32 } : Room).slots → Qo (.returned v) u) → Go p e below Qo s₁ (mkF m 0 #[.val (.ref r1)] []) from
    Go.cast (ef_50 m r1) (H _ fun v u L h1 h2 => ⟨v, L, rfl, h1, h2⟩)
  intro Qo hQo
  show Go p e below Qo s₁ (mkF m 0 #[.val (.ref r1)] [])
  refine Go.of (fun t k => XS.aloadN X0.here hx rfl (hb hby d50_0) rfl rfl k) ?_
  show Go p e below Qo s₁ (mkF m 1 #[.val (.ref r1)] [(.ref r1)])
  obtain ⟨T1, X1, e1, st1⟩ := getF X0 hx hZ hown (host := "") (Or.inl (hw _ (List.mem_of_getElem? (i := 10) rfl))) Via.refl e0 f2 (g := (mkF m 1 #[.val (.ref r1)] [(.ref r1)])) rfl rfl (hb hby d50_1)
  refine Go.of st1 ?_
  show Go p e below Qo T1 (mkF m 4 #[.val (.ref r1)] [(.ref r2)])
  refine Go.of (fun t k => XS.aloadN X1.here hx rfl (hb hby d50_4) rfl rfl k) ?_
  show Go p e below Qo T1 (mkF m 5 #[.val (.ref r1)] [(.ref r1), (.ref r2)])
  obtain ⟨T2, X2, e2, st2⟩ := getF X1 hx hZ hown (host := "") (Or.inl (hw _ (List.mem_of_getElem? (i := 17) rfl))) Via.refl e1 f1 (g := (mkF m 5 #[.val (.ref r1)] [(.ref r1), (.ref r2)])) rfl rfl (hb hby d50_5)
  refine Go.of st2 ?_
  show Go p e below Qo T2 (mkF m 8 #[.val (.ref r1)] [(.int (0 : Int32)), (.ref r2)])
  obtain ⟨_, _, ⟨T3, L3, k3, n3⟩, -, X3, ⟨Lc3, hQ3, l3, y3, z3⟩, st3⟩ := Jvm.LawKit.callS X2 hx (y := (⟨"java/util/Arrays", "copyOf", "([II)[I"⟩ : MethodName)) hown (mvT hZ (hw _ (List.mem_of_getElem? (i := 34) rfl))) (mvT hZ (hw _ (List.mem_of_getElem? (i := 35) rfl))) (mvT hZ (hw _ (List.mem_of_getElem? (i := 36) rfl))) (mvT hZ (hw _ (List.mem_of_getElem? (i := 37) rfl))) (by decide) (backOf (W := 0) (rm71 l Z a0 hw [] r2 (0 : Int32) k_2 x0 x1 h0 n0 Z0 f3 (by first | rfl | assumption | decide)) hZ (hw _ (List.mem_of_getElem? (i := 37) rfl)) (hw _ (List.mem_of_getElem? (i := 36) rfl)) (by decide) (by decide)) (g := (mkF m 8 #[.val (.ref r1)] [(.int (0 : Int32)), (.ref r2)])) rfl (by rw [hml]; rfl) (argsL := [(.ref r2), (.int (0 : Int32))]) (rest := []) (lenOf pd_1 rfl) rfl (by show 2 * 0 + _ ≤ _; exact Nat.le_of_eq rfl) (hb hby d50_8) (fun _ _ => ⟨rfl, e2, (by decide : 0 + 1 ≤ _), (by decide : 0 + 0 ≤ _)⟩)
  dsimp only [Pt.U, Pt.locs, Pt.cells, Pt.slots] at X3 l3 y3 z3 st3 hQ3
  subst l3 y3 z3
  obtain ⟨x5, x6, rfl, N4, Kc7, g9, q8⟩ := hQ3
  have N10 := Fr.app N0 N4
  have ne11 : r1 ≠ x5 := Nat.ne_of_lt (Nat.lt_of_lt_of_le f0.lt g9)
  have ne12 : r2 ≠ x5 := Nat.ne_of_lt (Nat.lt_of_lt_of_le f3.lt g9)
  have g13 : n0 ≤ x5 := Nat.le_trans Z0 g9
  have sz14 : h0.size ≤ x5 := Nat.le_trans (Keep.refl h0 []).1 g9
  have q15 : Exa Z T3.heap r1 "com/example/prompter/prompter/index/Ints" := f0.keep Kc7
  have q16 : Fld Z T3.heap r1 "com/example/prompter/prompter/index/Ints" "size" "I" (.int (0 : Int32)) := f1.keep Kc7 nin0
  have q17 : Fld Z T3.heap r1 "com/example/prompter/prompter/index/Ints" "values" "[I" (.ref r2) := f2.keep Kc7 nin0
  have q18 : Arv Z T3.heap r2 k_2 .int (2 : Int32) [(.int x0), (.int x1)] (.int (0 : Int32)) := f3.keep Kc7 nin0
  have Z19 : n0 ≤ T3.heap.size := Nat.le_trans Z0 Kc7.1
  have K20 : Keep h0 T3.heap [] := (Keep.refl h0 []).trans Kc7 all0
  refine Go.of st3 ?_
  show Go p e below Qo T3 (mkF m 11 #[.val (.ref r1)] [(.ref x5)])
  exact own_retW X3 hx Bd.notSynchronized Bd.returns rfl (Or.inr (Or.inr (Or.inr (Or.inr ⟨rfl, rfl, rfl⟩)))) (hb hby d50_11) (fun u hu hF => hQo _ _ _ ⟨x5, x6, rfl, N10, by rw [hu]; exact K20, sz14, by rw [hu]; exact q8⟩ (own_mono hF (by decide) (by decide)))
theorem d51_0 : decode prog_12_method_6_code 0 = .ok (.aload_n 0, 1) := by decide +kernel
theorem d51_1 : decode prog_12_method_6_code 1 = .ok (.getfield 7, 3) := by decide +kernel
theorem d51_4 : decode prog_12_method_6_code 4 = .ok (.aload_n 0, 1) := by decide +kernel
theorem d51_5 : decode prog_12_method_6_code 5 = .ok (.getfield 13, 3) := by decide +kernel
theorem d51_8 : decode prog_12_method_6_code 8 = .ok (.invokestatic 17, 3) := by decide +kernel
theorem d51_11 : decode prog_12_method_6_code 11 = .ok (.areturn, 1) := by decide +kernel
theorem ef_51 (m : MethodId) (r1 : Addr)  : entryFrame m #[(.ref r1)] 1 = mkF m 0 #[.val (.ref r1)] [] := by
  first | (simp [entryFrame, mkF, argsToLocals, Value.category]; done) | rfl
def Q51 (Z : State) (r1 : Addr) (r2 : Addr) (k_2 : ClassId) (x0 : Int32) (x1 : Int32) (h0 : Heap) (n0 : Nat) (v : Option Value) (h : Heap) (L : List Loc) : Prop := ∃ rb : Addr, ∃ kb : ClassId, v = some (.ref rb) ∧ Fr n0 L ∧ Keep h0 h [] ∧ h0.size ≤ rb ∧ Arv Z h rb kb .int (1 : Int32) [(.int x0)] (.int (0 : Int32))
set_option maxRecDepth 65536 in
set_option maxHeartbeats 40000000 in
theorem rm51 (l : Launch) (Z : State) (a0 : Array Value) (hw : ∀ d ∈ tables_1, d.before a0 Z = true) (ws : List Jvm.Cond) (r1 : Addr) (r2 : Addr) (k_2 : ClassId) (x0 : Int32) (x1 : Int32) (h0 : Heap) (n0 : Nat) (Z0 : n0 ≤ h0.size) (f0 : Exa Z h0 r1 "com/example/prompter/prompter/index/Ints") (f1 : Fld Z h0 r1 "com/example/prompter/prompter/index/Ints" "size" "I" (.int (1 : Int32))) (f2 : Fld Z h0 r1 "com/example/prompter/prompter/index/Ints" "values" "[I" (.ref r2)) (f3 : Arv Z h0 r2 k_2 .int (2 : Int32) [(.int x0), (.int x1)] (.int (0 : Int32))) :
    MetFree l (⟨"com/example/prompter/prompter/index/Ints", "toArray", "()[I"⟩ : MethodName) (head1 (Jvm.Cond.code (⟨"com/example/prompter/prompter/index/Ints", "toArray", "()[I"⟩ : MethodName) prog_12_method_6_code 1 (some (.array .int)) :: ws) ({ frames := 2, cells := 1, slots := 1, locals := 32 } : Room)) (fun a U => a = #[(.ref r1)] ∧ Z.Warmed39 U.vm ∧ U.heap = h0) (fun _ _ _ _ _ => True) (fun _ U o U' => ∃ v L, o = .returned v ∧ Q51 Z r1 r2 k_2 x0 x1 h0 n0 v U'.heap L ∧ FrameEnd U o U' L ({ frames := 2, cells := 1, slots := 1, locals := 32 } : Room).cells ({ frames := 2, cells := 1, slots := 1, locals := 32 } : Room).slots) := by
  refine MetFree.of_bodySF (plainFor_of_name pn_1) hisR ?_
  intro p e s m args below meth c s₁ Bd hml0 hP hK
  obtain ⟨rfl, hZ, hh⟩ := hP
  have hx := Bd.exec
  have hby := Bd.bytes
  have hml : c.maxLocals = 1 := hml0
  have hown : s.vm.findClass "com/example/prompter/prompter/index/Ints" = some m.cls := findClass_of_methodNamed Bd.named
  have hnm := (name_of_methodNamed Bd.named Bd.method).1
  have X0 : Stand p l e ({ frames := 2, cells := 1, slots := 1, locals := 32 } : Room) s m #[(.ref r1)] below meth c s₁ [] 0 0 := Stand.of_body Bd
  have e0 : s₁.heap = h0 := by rw [← hh, Bd.state]; rfl
  have N0 := Fr.nil n0
  suffices H : ∀ Qo : Outcome → State → Prop, (∀ (v : Option Value) (u : State) (L : List Loc), Q51 Z r1 r2 k_2 x0 x1 h0 n0 v u.heap L → FrameEnd s (.returned v) u L ({ frames := 2, cells := 1, slots := 1, locals := 32 } : Room).cells ({ frames := 2, cells := 1, slots := 1, locals := 32 } : Room).slots → Qo (.returned v) u) → Go p e below Qo s₁ (mkF m 0 #[.val (.ref r1)] []) from
    Go.cast (ef_51 m r1) (H _ fun v u L h1 h2 => ⟨v, L, rfl, h1, h2⟩)
  intro Qo hQo
  show Go p e below Qo s₁ (mkF m 0 #[.val (.ref r1)] [])
  refine Go.of (fun t k => XS.aloadN X0.here hx rfl (hb hby d51_0) rfl rfl k) ?_
  show Go p e below Qo s₁ (mkF m 1 #[.val (.ref r1)] [(.ref r1)])
  obtain ⟨T1, X1, e1, st1⟩ := getF X0 hx hZ hown (host := "") (Or.inl (hw _ (List.mem_of_getElem? (i := 10) rfl))) Via.refl e0 f2 (g := (mkF m 1 #[.val (.ref r1)] [(.ref r1)])) rfl rfl (hb hby d51_1)
  refine Go.of st1 ?_
  show Go p e below Qo T1 (mkF m 4 #[.val (.ref r1)] [(.ref r2)])
  refine Go.of (fun t k => XS.aloadN X1.here hx rfl (hb hby d51_4) rfl rfl k) ?_
  show Go p e below Qo T1 (mkF m 5 #[.val (.ref r1)] [(.ref r1), (.ref r2)])
  obtain ⟨T2, X2, e2, st2⟩ := getF X1 hx hZ hown (host := "") (Or.inl (hw _ (List.mem_of_getElem? (i := 17) rfl))) Via.refl e1 f1 (g := (mkF m 5 #[.val (.ref r1)] [(.ref r1), (.ref r2)])) rfl rfl (hb hby d51_5)
  refine Go.of st2 ?_
  show Go p e below Qo T2 (mkF m 8 #[.val (.ref r1)] [(.int (1 : Int32)), (.ref r2)])
  obtain ⟨_, _, ⟨T3, L3, k3, n3⟩, -, X3, ⟨Lc3, hQ3, l3, y3, z3⟩, st3⟩ := Jvm.LawKit.callS X2 hx (y := (⟨"java/util/Arrays", "copyOf", "([II)[I"⟩ : MethodName)) hown (mvT hZ (hw _ (List.mem_of_getElem? (i := 34) rfl))) (mvT hZ (hw _ (List.mem_of_getElem? (i := 35) rfl))) (mvT hZ (hw _ (List.mem_of_getElem? (i := 36) rfl))) (mvT hZ (hw _ (List.mem_of_getElem? (i := 37) rfl))) (by decide) (backOf (W := 0) (rm72 l Z a0 hw [] r2 (1 : Int32) k_2 x0 x1 h0 n0 Z0 f3 (by first | rfl | assumption | decide)) hZ (hw _ (List.mem_of_getElem? (i := 37) rfl)) (hw _ (List.mem_of_getElem? (i := 36) rfl)) (by decide) (by decide)) (g := (mkF m 8 #[.val (.ref r1)] [(.int (1 : Int32)), (.ref r2)])) rfl (by rw [hml]; rfl) (argsL := [(.ref r2), (.int (1 : Int32))]) (rest := []) (lenOf pd_1 rfl) rfl (by show 2 * 0 + _ ≤ _; exact Nat.le_of_eq rfl) (hb hby d51_8) (fun _ _ => ⟨rfl, e2, (by decide : 0 + 1 ≤ _), (by decide : 0 + 1 ≤ _)⟩)
  dsimp only [Pt.U, Pt.locs, Pt.cells, Pt.slots] at X3 l3 y3 z3 st3 hQ3
  subst l3 y3 z3
  obtain ⟨x5, x6, rfl, N4, Kc7, g9, q8⟩ := hQ3
  have N10 := Fr.app N0 N4
  have ne11 : r1 ≠ x5 := Nat.ne_of_lt (Nat.lt_of_lt_of_le f0.lt g9)
  have ne12 : r2 ≠ x5 := Nat.ne_of_lt (Nat.lt_of_lt_of_le f3.lt g9)
  have g13 : n0 ≤ x5 := Nat.le_trans Z0 g9
  have sz14 : h0.size ≤ x5 := Nat.le_trans (Keep.refl h0 []).1 g9
  have q15 : Exa Z T3.heap r1 "com/example/prompter/prompter/index/Ints" := f0.keep Kc7
  have q16 : Fld Z T3.heap r1 "com/example/prompter/prompter/index/Ints" "size" "I" (.int (1 : Int32)) := f1.keep Kc7 nin0
  have q17 : Fld Z T3.heap r1 "com/example/prompter/prompter/index/Ints" "values" "[I" (.ref r2) := f2.keep Kc7 nin0
  have q18 : Arv Z T3.heap r2 k_2 .int (2 : Int32) [(.int x0), (.int x1)] (.int (0 : Int32)) := f3.keep Kc7 nin0
  have Z19 : n0 ≤ T3.heap.size := Nat.le_trans Z0 Kc7.1
  have K20 : Keep h0 T3.heap [] := (Keep.refl h0 []).trans Kc7 all0
  refine Go.of st3 ?_
  show Go p e below Qo T3 (mkF m 11 #[.val (.ref r1)] [(.ref x5)])
  exact own_retW X3 hx Bd.notSynchronized Bd.returns rfl (Or.inr (Or.inr (Or.inr (Or.inr ⟨rfl, rfl, rfl⟩)))) (hb hby d51_11) (fun u hu hF => hQo _ _ _ ⟨x5, x6, rfl, N10, by rw [hu]; exact K20, sz14, by rw [hu]; exact q8⟩ (own_mono hF (by decide) (by decide)))
theorem d52_0 : decode prog_12_method_6_code 0 = .ok (.aload_n 0, 1) := by decide +kernel
theorem d52_1 : decode prog_12_method_6_code 1 = .ok (.getfield 7, 3) := by decide +kernel
theorem d52_4 : decode prog_12_method_6_code 4 = .ok (.aload_n 0, 1) := by decide +kernel
theorem d52_5 : decode prog_12_method_6_code 5 = .ok (.getfield 13, 3) := by decide +kernel
theorem d52_8 : decode prog_12_method_6_code 8 = .ok (.invokestatic 17, 3) := by decide +kernel
theorem d52_11 : decode prog_12_method_6_code 11 = .ok (.areturn, 1) := by decide +kernel
theorem ef_52 (m : MethodId) (r1 : Addr)  : entryFrame m #[(.ref r1)] 1 = mkF m 0 #[.val (.ref r1)] [] := by
  first | (simp [entryFrame, mkF, argsToLocals, Value.category]; done) | rfl
def Q52 (Z : State) (r1 : Addr) (r2 : Addr) (k_2 : ClassId) (x0 : Int32) (x1 : Int32) (x2 : Int32) (x3 : Int32) (h0 : Heap) (n0 : Nat) (v : Option Value) (h : Heap) (L : List Loc) : Prop := ∃ rb : Addr, ∃ kb : ClassId, v = some (.ref rb) ∧ Fr n0 L ∧ Keep h0 h [] ∧ h0.size ≤ rb ∧ Arv Z h rb kb .int (2 : Int32) [(.int x0), (.int x1)] (.int (0 : Int32))
set_option maxRecDepth 65536 in
set_option maxHeartbeats 40000000 in
theorem rm52 (l : Launch) (Z : State) (a0 : Array Value) (hw : ∀ d ∈ tables_1, d.before a0 Z = true) (ws : List Jvm.Cond) (r1 : Addr) (r2 : Addr) (k_2 : ClassId) (x0 : Int32) (x1 : Int32) (x2 : Int32) (x3 : Int32) (h0 : Heap) (n0 : Nat) (Z0 : n0 ≤ h0.size) (f0 : Exa Z h0 r1 "com/example/prompter/prompter/index/Ints") (f1 : Fld Z h0 r1 "com/example/prompter/prompter/index/Ints" "size" "I" (.int (2 : Int32))) (f2 : Fld Z h0 r1 "com/example/prompter/prompter/index/Ints" "values" "[I" (.ref r2)) (f3 : Arv Z h0 r2 k_2 .int (4 : Int32) [(.int x0), (.int x1), (.int x2), (.int x3)] (.int (0 : Int32))) :
    MetFree l (⟨"com/example/prompter/prompter/index/Ints", "toArray", "()[I"⟩ : MethodName) (head1 (Jvm.Cond.code (⟨"com/example/prompter/prompter/index/Ints", "toArray", "()[I"⟩ : MethodName) prog_12_method_6_code 1 (some (.array .int)) :: ws) ({ frames := 2, cells := 1, slots := 2, locals := 32 } : Room)) (fun a U => a = #[(.ref r1)] ∧ Z.Warmed39 U.vm ∧ U.heap = h0) (fun _ _ _ _ _ => True) (fun _ U o U' => ∃ v L, o = .returned v ∧ Q52 Z r1 r2 k_2 x0 x1 x2 x3 h0 n0 v U'.heap L ∧ FrameEnd U o U' L ({ frames := 2, cells := 1, slots := 2, locals := 32 } : Room).cells ({ frames := 2, cells := 1, slots := 2, locals := 32 } : Room).slots) := by
  refine MetFree.of_bodySF (plainFor_of_name pn_1) hisR ?_
  intro p e s m args below meth c s₁ Bd hml0 hP hK
  obtain ⟨rfl, hZ, hh⟩ := hP
  have hx := Bd.exec
  have hby := Bd.bytes
  have hml : c.maxLocals = 1 := hml0
  have hown : s.vm.findClass "com/example/prompter/prompter/index/Ints" = some m.cls := findClass_of_methodNamed Bd.named
  have hnm := (name_of_methodNamed Bd.named Bd.method).1
  have X0 : Stand p l e ({ frames := 2, cells := 1, slots := 2, locals := 32 } : Room) s m #[(.ref r1)] below meth c s₁ [] 0 0 := Stand.of_body Bd
  have e0 : s₁.heap = h0 := by rw [← hh, Bd.state]; rfl
  have N0 := Fr.nil n0
  suffices H : ∀ Qo : Outcome → State → Prop, (∀ (v : Option Value) (u : State) (L : List Loc), Q52 Z r1 r2 k_2 x0 x1 x2 x3 h0 n0 v u.heap L → FrameEnd s (.returned v) u L ({ frames := 2, cells := 1, slots := 2, locals := 32 } : Room).cells ({ frames := 2, cells := 1, slots := 2, locals := 32 } : Room).slots → Qo (.returned v) u) → Go p e below Qo s₁ (mkF m 0 #[.val (.ref r1)] []) from
    Go.cast (ef_52 m r1) (H _ fun v u L h1 h2 => ⟨v, L, rfl, h1, h2⟩)
  intro Qo hQo
  show Go p e below Qo s₁ (mkF m 0 #[.val (.ref r1)] [])
  refine Go.of (fun t k => XS.aloadN X0.here hx rfl (hb hby d52_0) rfl rfl k) ?_
  show Go p e below Qo s₁ (mkF m 1 #[.val (.ref r1)] [(.ref r1)])
  obtain ⟨T1, X1, e1, st1⟩ := getF X0 hx hZ hown (host := "") (Or.inl (hw _ (List.mem_of_getElem? (i := 10) rfl))) Via.refl e0 f2 (g := (mkF m 1 #[.val (.ref r1)] [(.ref r1)])) rfl rfl (hb hby d52_1)
  refine Go.of st1 ?_
  show Go p e below Qo T1 (mkF m 4 #[.val (.ref r1)] [(.ref r2)])
  refine Go.of (fun t k => XS.aloadN X1.here hx rfl (hb hby d52_4) rfl rfl k) ?_
  show Go p e below Qo T1 (mkF m 5 #[.val (.ref r1)] [(.ref r1), (.ref r2)])
  obtain ⟨T2, X2, e2, st2⟩ := getF X1 hx hZ hown (host := "") (Or.inl (hw _ (List.mem_of_getElem? (i := 17) rfl))) Via.refl e1 f1 (g := (mkF m 5 #[.val (.ref r1)] [(.ref r1), (.ref r2)])) rfl rfl (hb hby d52_5)
  refine Go.of st2 ?_
  show Go p e below Qo T2 (mkF m 8 #[.val (.ref r1)] [(.int (2 : Int32)), (.ref r2)])
  obtain ⟨_, _, ⟨T3, L3, k3, n3⟩, -, X3, ⟨Lc3, hQ3, l3, y3, z3⟩, st3⟩ := Jvm.LawKit.callS X2 hx (y := (⟨"java/util/Arrays", "copyOf", "([II)[I"⟩ : MethodName)) hown (mvT hZ (hw _ (List.mem_of_getElem? (i := 34) rfl))) (mvT hZ (hw _ (List.mem_of_getElem? (i := 35) rfl))) (mvT hZ (hw _ (List.mem_of_getElem? (i := 36) rfl))) (mvT hZ (hw _ (List.mem_of_getElem? (i := 37) rfl))) (by decide) (backOf (W := 0) (rm73 l Z a0 hw [] r2 (2 : Int32) k_2 x0 x1 x2 x3 h0 n0 Z0 f3 (by first | rfl | assumption | decide)) hZ (hw _ (List.mem_of_getElem? (i := 37) rfl)) (hw _ (List.mem_of_getElem? (i := 36) rfl)) (by decide) (by decide)) (g := (mkF m 8 #[.val (.ref r1)] [(.int (2 : Int32)), (.ref r2)])) rfl (by rw [hml]; rfl) (argsL := [(.ref r2), (.int (2 : Int32))]) (rest := []) (lenOf pd_1 rfl) rfl (by show 2 * 0 + _ ≤ _; exact Nat.le_of_eq rfl) (hb hby d52_8) (fun _ _ => ⟨rfl, e2, (by decide : 0 + 1 ≤ _), (by decide : 0 + 2 ≤ _)⟩)
  dsimp only [Pt.U, Pt.locs, Pt.cells, Pt.slots] at X3 l3 y3 z3 st3 hQ3
  subst l3 y3 z3
  obtain ⟨x5, x6, rfl, N4, Kc7, g9, q8⟩ := hQ3
  have N10 := Fr.app N0 N4
  have ne11 : r1 ≠ x5 := Nat.ne_of_lt (Nat.lt_of_lt_of_le f0.lt g9)
  have ne12 : r2 ≠ x5 := Nat.ne_of_lt (Nat.lt_of_lt_of_le f3.lt g9)
  have g13 : n0 ≤ x5 := Nat.le_trans Z0 g9
  have sz14 : h0.size ≤ x5 := Nat.le_trans (Keep.refl h0 []).1 g9
  have q15 : Exa Z T3.heap r1 "com/example/prompter/prompter/index/Ints" := f0.keep Kc7
  have q16 : Fld Z T3.heap r1 "com/example/prompter/prompter/index/Ints" "size" "I" (.int (2 : Int32)) := f1.keep Kc7 nin0
  have q17 : Fld Z T3.heap r1 "com/example/prompter/prompter/index/Ints" "values" "[I" (.ref r2) := f2.keep Kc7 nin0
  have q18 : Arv Z T3.heap r2 k_2 .int (4 : Int32) [(.int x0), (.int x1), (.int x2), (.int x3)] (.int (0 : Int32)) := f3.keep Kc7 nin0
  have Z19 : n0 ≤ T3.heap.size := Nat.le_trans Z0 Kc7.1
  have K20 : Keep h0 T3.heap [] := (Keep.refl h0 []).trans Kc7 all0
  refine Go.of st3 ?_
  show Go p e below Qo T3 (mkF m 11 #[.val (.ref r1)] [(.ref x5)])
  exact own_retW X3 hx Bd.notSynchronized Bd.returns rfl (Or.inr (Or.inr (Or.inr (Or.inr ⟨rfl, rfl, rfl⟩)))) (hb hby d52_11) (fun u hu hF => hQo _ _ _ ⟨x5, x6, rfl, N10, by rw [hu]; exact K20, sz14, by rw [hu]; exact q8⟩ (own_mono hF (by decide) (by decide)))
theorem d53_0 : decode prog_12_method_6_code 0 = .ok (.aload_n 0, 1) := by decide +kernel
theorem d53_1 : decode prog_12_method_6_code 1 = .ok (.getfield 7, 3) := by decide +kernel
theorem d53_4 : decode prog_12_method_6_code 4 = .ok (.aload_n 0, 1) := by decide +kernel
theorem d53_5 : decode prog_12_method_6_code 5 = .ok (.getfield 13, 3) := by decide +kernel
theorem d53_8 : decode prog_12_method_6_code 8 = .ok (.invokestatic 17, 3) := by decide +kernel
theorem d53_11 : decode prog_12_method_6_code 11 = .ok (.areturn, 1) := by decide +kernel
theorem ef_53 (m : MethodId) (r1 : Addr)  : entryFrame m #[(.ref r1)] 1 = mkF m 0 #[.val (.ref r1)] [] := by
  first | (simp [entryFrame, mkF, argsToLocals, Value.category]; done) | rfl
def Q53 (Z : State) (r1 : Addr) (r2 : Addr) (k_2 : ClassId) (x0 : Int32) (x1 : Int32) (x2 : Int32) (x3 : Int32) (h0 : Heap) (n0 : Nat) (v : Option Value) (h : Heap) (L : List Loc) : Prop := ∃ rb : Addr, ∃ kb : ClassId, v = some (.ref rb) ∧ Fr n0 L ∧ Keep h0 h [] ∧ h0.size ≤ rb ∧ Arv Z h rb kb .int (3 : Int32) [(.int x0), (.int x1), (.int x2)] (.int (0 : Int32))
set_option maxRecDepth 65536 in
set_option maxHeartbeats 40000000 in
theorem rm53 (l : Launch) (Z : State) (a0 : Array Value) (hw : ∀ d ∈ tables_1, d.before a0 Z = true) (ws : List Jvm.Cond) (r1 : Addr) (r2 : Addr) (k_2 : ClassId) (x0 : Int32) (x1 : Int32) (x2 : Int32) (x3 : Int32) (h0 : Heap) (n0 : Nat) (Z0 : n0 ≤ h0.size) (f0 : Exa Z h0 r1 "com/example/prompter/prompter/index/Ints") (f1 : Fld Z h0 r1 "com/example/prompter/prompter/index/Ints" "size" "I" (.int (3 : Int32))) (f2 : Fld Z h0 r1 "com/example/prompter/prompter/index/Ints" "values" "[I" (.ref r2)) (f3 : Arv Z h0 r2 k_2 .int (4 : Int32) [(.int x0), (.int x1), (.int x2), (.int x3)] (.int (0 : Int32))) :
    MetFree l (⟨"com/example/prompter/prompter/index/Ints", "toArray", "()[I"⟩ : MethodName) (head1 (Jvm.Cond.code (⟨"com/example/prompter/prompter/index/Ints", "toArray", "()[I"⟩ : MethodName) prog_12_method_6_code 1 (some (.array .int)) :: ws) ({ frames := 2, cells := 1, slots := 3, locals := 32 } : Room)) (fun a U => a = #[(.ref r1)] ∧ Z.Warmed39 U.vm ∧ U.heap = h0) (fun _ _ _ _ _ => True) (fun _ U o U' => ∃ v L, o = .returned v ∧ Q53 Z r1 r2 k_2 x0 x1 x2 x3 h0 n0 v U'.heap L ∧ FrameEnd U o U' L ({ frames := 2, cells := 1, slots := 3, locals := 32 } : Room).cells ({ frames := 2, cells := 1, slots := 3, locals := 32 } : Room).slots) := by
  refine MetFree.of_bodySF (plainFor_of_name pn_1) hisR ?_
  intro p e s m args below meth c s₁ Bd hml0 hP hK
  obtain ⟨rfl, hZ, hh⟩ := hP
  have hx := Bd.exec
  have hby := Bd.bytes
  have hml : c.maxLocals = 1 := hml0
  have hown : s.vm.findClass "com/example/prompter/prompter/index/Ints" = some m.cls := findClass_of_methodNamed Bd.named
  have hnm := (name_of_methodNamed Bd.named Bd.method).1
  have X0 : Stand p l e ({ frames := 2, cells := 1, slots := 3, locals := 32 } : Room) s m #[(.ref r1)] below meth c s₁ [] 0 0 := Stand.of_body Bd
  have e0 : s₁.heap = h0 := by rw [← hh, Bd.state]; rfl
  have N0 := Fr.nil n0
  suffices H : ∀ Qo : Outcome → State → Prop, (∀ (v : Option Value) (u : State) (L : List Loc), Q53 Z r1 r2 k_2 x0 x1 x2 x3 h0 n0 v u.heap L → FrameEnd s (.returned v) u L ({ frames := 2, cells := 1, slots := 3, locals := 32 } : Room).cells ({ frames := 2, cells := 1, slots := 3, locals := 32 } : Room).slots → Qo (.returned v) u) → Go p e below Qo s₁ (mkF m 0 #[.val (.ref r1)] []) from
    Go.cast (ef_53 m r1) (H _ fun v u L h1 h2 => ⟨v, L, rfl, h1, h2⟩)
  intro Qo hQo
  show Go p e below Qo s₁ (mkF m 0 #[.val (.ref r1)] [])
  refine Go.of (fun t k => XS.aloadN X0.here hx rfl (hb hby d53_0) rfl rfl k) ?_
  show Go p e below Qo s₁ (mkF m 1 #[.val (.ref r1)] [(.ref r1)])
  obtain ⟨T1, X1, e1, st1⟩ := getF X0 hx hZ hown (host := "") (Or.inl (hw _ (List.mem_of_getElem? (i := 10) rfl))) Via.refl e0 f2 (g := (mkF m 1 #[.val (.ref r1)] [(.ref r1)])) rfl rfl (hb hby d53_1)
  refine Go.of st1 ?_
  show Go p e below Qo T1 (mkF m 4 #[.val (.ref r1)] [(.ref r2)])
  refine Go.of (fun t k => XS.aloadN X1.here hx rfl (hb hby d53_4) rfl rfl k) ?_
  show Go p e below Qo T1 (mkF m 5 #[.val (.ref r1)] [(.ref r1), (.ref r2)])
  obtain ⟨T2, X2, e2, st2⟩ := getF X1 hx hZ hown (host := "") (Or.inl (hw _ (List.mem_of_getElem? (i := 17) rfl))) Via.refl e1 f1 (g := (mkF m 5 #[.val (.ref r1)] [(.ref r1), (.ref r2)])) rfl rfl (hb hby d53_5)
  refine Go.of st2 ?_
  show Go p e below Qo T2 (mkF m 8 #[.val (.ref r1)] [(.int (3 : Int32)), (.ref r2)])
  obtain ⟨_, _, ⟨T3, L3, k3, n3⟩, -, X3, ⟨Lc3, hQ3, l3, y3, z3⟩, st3⟩ := Jvm.LawKit.callS X2 hx (y := (⟨"java/util/Arrays", "copyOf", "([II)[I"⟩ : MethodName)) hown (mvT hZ (hw _ (List.mem_of_getElem? (i := 34) rfl))) (mvT hZ (hw _ (List.mem_of_getElem? (i := 35) rfl))) (mvT hZ (hw _ (List.mem_of_getElem? (i := 36) rfl))) (mvT hZ (hw _ (List.mem_of_getElem? (i := 37) rfl))) (by decide) (backOf (W := 0) (rm74 l Z a0 hw [] r2 (3 : Int32) k_2 x0 x1 x2 x3 h0 n0 Z0 f3 (by first | rfl | assumption | decide)) hZ (hw _ (List.mem_of_getElem? (i := 37) rfl)) (hw _ (List.mem_of_getElem? (i := 36) rfl)) (by decide) (by decide)) (g := (mkF m 8 #[.val (.ref r1)] [(.int (3 : Int32)), (.ref r2)])) rfl (by rw [hml]; rfl) (argsL := [(.ref r2), (.int (3 : Int32))]) (rest := []) (lenOf pd_1 rfl) rfl (by show 2 * 0 + _ ≤ _; exact Nat.le_of_eq rfl) (hb hby d53_8) (fun _ _ => ⟨rfl, e2, (by decide : 0 + 1 ≤ _), (by decide : 0 + 3 ≤ _)⟩)
  dsimp only [Pt.U, Pt.locs, Pt.cells, Pt.slots] at X3 l3 y3 z3 st3 hQ3
  subst l3 y3 z3
  obtain ⟨x5, x6, rfl, N4, Kc7, g9, q8⟩ := hQ3
  have N10 := Fr.app N0 N4
  have ne11 : r1 ≠ x5 := Nat.ne_of_lt (Nat.lt_of_lt_of_le f0.lt g9)
  have ne12 : r2 ≠ x5 := Nat.ne_of_lt (Nat.lt_of_lt_of_le f3.lt g9)
  have g13 : n0 ≤ x5 := Nat.le_trans Z0 g9
  have sz14 : h0.size ≤ x5 := Nat.le_trans (Keep.refl h0 []).1 g9
  have q15 : Exa Z T3.heap r1 "com/example/prompter/prompter/index/Ints" := f0.keep Kc7
  have q16 : Fld Z T3.heap r1 "com/example/prompter/prompter/index/Ints" "size" "I" (.int (3 : Int32)) := f1.keep Kc7 nin0
  have q17 : Fld Z T3.heap r1 "com/example/prompter/prompter/index/Ints" "values" "[I" (.ref r2) := f2.keep Kc7 nin0
  have q18 : Arv Z T3.heap r2 k_2 .int (4 : Int32) [(.int x0), (.int x1), (.int x2), (.int x3)] (.int (0 : Int32)) := f3.keep Kc7 nin0
  have Z19 : n0 ≤ T3.heap.size := Nat.le_trans Z0 Kc7.1
  have K20 : Keep h0 T3.heap [] := (Keep.refl h0 []).trans Kc7 all0
  refine Go.of st3 ?_
  show Go p e below Qo T3 (mkF m 11 #[.val (.ref r1)] [(.ref x5)])
  exact own_retW X3 hx Bd.notSynchronized Bd.returns rfl (Or.inr (Or.inr (Or.inr (Or.inr ⟨rfl, rfl, rfl⟩)))) (hb hby d53_11) (fun u hu hF => hQo _ _ _ ⟨x5, x6, rfl, N10, by rw [hu]; exact K20, sz14, by rw [hu]; exact q8⟩ (own_mono hF (by decide) (by decide)))
theorem d5_0 : decode prog_12_method_5_code 0 = .ok (.aload_n 0, 1) := by decide +kernel
theorem d5_1 : decode prog_12_method_5_code 1 = .ok (.getfield 13, 3) := by decide +kernel
theorem d5_4 : decode prog_12_method_5_code 4 = .ok (.ireturn, 1) := by decide +kernel
theorem ef_5 (m : MethodId) (r1 : Addr)  : entryFrame m #[(.ref r1)] 1 = mkF m 0 #[.val (.ref r1)] [] := by
  first | (simp [entryFrame, mkF, argsToLocals, Value.category]; done) | rfl
def Q5 (Z : State) (r1 : Addr) (w1 : Int32) (h0 : Heap) (n0 : Nat) (v : Option Value) (h : Heap) (L : List Loc) : Prop := v = some (.int w1) ∧ Fr n0 L ∧ h = h0
set_option maxRecDepth 65536 in
set_option maxHeartbeats 40000000 in
theorem rm5 (l : Launch) (Z : State) (a0 : Array Value) (hw : ∀ d ∈ tables_1, d.before a0 Z = true) (ws : List Jvm.Cond) (r1 : Addr) (w1 : Int32) (h0 : Heap) (n0 : Nat) (Z0 : n0 ≤ h0.size) (f0 : Fld Z h0 r1 "com/example/prompter/prompter/index/Ints" "size" "I" (.int w1)) :
    MetFree l (⟨"com/example/prompter/prompter/index/Ints", "size", "()I"⟩ : MethodName) (head1 (Jvm.Cond.code (⟨"com/example/prompter/prompter/index/Ints", "size", "()I"⟩ : MethodName) prog_12_method_5_code 1 (some .int) :: ws) ({ frames := 0, cells := 0, slots := 0, locals := 0 } : Room)) (fun a U => a = #[(.ref r1)] ∧ Z.Warmed39 U.vm ∧ U.heap = h0) (fun _ _ _ _ _ => True) (fun _ U o U' => ∃ v L, o = .returned v ∧ Q5 Z r1 w1 h0 n0 v U'.heap L ∧ FrameEnd U o U' L ({ frames := 0, cells := 0, slots := 0, locals := 0 } : Room).cells ({ frames := 0, cells := 0, slots := 0, locals := 0 } : Room).slots) := by
  refine MetFree.of_bodySF (plainFor_of_name pn_1) hisR ?_
  intro p e s m args below meth c s₁ Bd hml0 hP hK
  obtain ⟨rfl, hZ, hh⟩ := hP
  have hx := Bd.exec
  have hby := Bd.bytes
  have hml : c.maxLocals = 1 := hml0
  have hown : s.vm.findClass "com/example/prompter/prompter/index/Ints" = some m.cls := findClass_of_methodNamed Bd.named
  have hnm := (name_of_methodNamed Bd.named Bd.method).1
  have X0 : Stand p l e ({ frames := 0, cells := 0, slots := 0, locals := 0 } : Room) s m #[(.ref r1)] below meth c s₁ [] 0 0 := Stand.of_body Bd
  have e0 : s₁.heap = h0 := by rw [← hh, Bd.state]; rfl
  have N0 := Fr.nil n0
  suffices H : ∀ Qo : Outcome → State → Prop, (∀ (v : Option Value) (u : State) (L : List Loc), Q5 Z r1 w1 h0 n0 v u.heap L → FrameEnd s (.returned v) u L ({ frames := 0, cells := 0, slots := 0, locals := 0 } : Room).cells ({ frames := 0, cells := 0, slots := 0, locals := 0 } : Room).slots → Qo (.returned v) u) → Go p e below Qo s₁ (mkF m 0 #[.val (.ref r1)] []) from
    Go.cast (ef_5 m r1) (H _ fun v u L h1 h2 => ⟨v, L, rfl, h1, h2⟩)
  intro Qo hQo
  show Go p e below Qo s₁ (mkF m 0 #[.val (.ref r1)] [])
  refine Go.of (fun t k => XS.aloadN X0.here hx rfl (hb hby d5_0) rfl rfl k) ?_
  show Go p e below Qo s₁ (mkF m 1 #[.val (.ref r1)] [(.ref r1)])
  obtain ⟨T1, X1, e1, st1⟩ := getF X0 hx hZ hown (host := "") (Or.inl (hw _ (List.mem_of_getElem? (i := 17) rfl))) Via.refl e0 f0 (g := (mkF m 1 #[.val (.ref r1)] [(.ref r1)])) rfl rfl (hb hby d5_1)
  refine Go.of st1 ?_
  show Go p e below Qo T1 (mkF m 4 #[.val (.ref r1)] [(.int w1)])
  exact own_retW X1 hx Bd.notSynchronized Bd.returns rfl (Or.inl ⟨rfl, Or.inl rfl, _, rfl⟩) (hb hby d5_4) (fun u hu hF => hQo _ _ _ ⟨rfl, N0, by rw [hu, e1]⟩ (own_mono hF (by decide) (by decide)))
theorem own_four (x : Int32) : (x &&& (3 : Int32)) = 0 ∨ (x &&& (3 : Int32)) = 1 ∨ (x &&& (3 : Int32)) = 2 ∨ (x &&& (3 : Int32)) = 3 := by
  have h := c_and x 3 (by decide)
  have e3 : (3 : Int32).toInt = 3 := by decide
  have e0 : (0 : Int32).toInt = 0 := by decide
  have e1 : (1 : Int32).toInt = 1 := by decide
  have e2 : (2 : Int32).toInt = 2 := by decide
  simp only [← Int32.toInt_inj]
  omega
theorem pd_2 : parseMethodDescriptor "()V" = some ⟨[], none⟩ := by decide +kernel
theorem pd_3 : parseMethodDescriptor "(I)V" = some ⟨[.int], none⟩ := by decide +kernel
theorem pd_4 : parseMethodDescriptor "()I" = some ⟨[], some .int⟩ := by decide +kernel
theorem pd_5 : parseMethodDescriptor "()[I" = some ⟨[], some (.array .int)⟩ := by decide +kernel
theorem pn_2 : plainName "com/example/prompter/prompter/index/IntsRemoveLastPinLaw" = true := by first | (simp [plainName, overriddenIn]; done) | decide +kernel
theorem ef_0 (m : MethodId) (i1 : Int32) (i2 : Int32) (i3 : Int32) (i4 : Int32) (i5 : Int32) (i6 : Int32)  : entryFrame m #[(.int i1), (.int i2), (.int i3), (.int i4), (.int i5), (.int i6)] maxLocals = mkF m 0 #[.val (.int i1), .val (.int i2), .val (.int i3), .val (.int i4), .val (.int i5), .val (.int i6), .unset, .unset, .unset, .unset, .unset] [] := by
  first | (simp [entryFrame, mkF, argsToLocals, Value.category, maxLocals]; done) | rfl
def Q0 (Z : State) (i1 : Int32) (i2 : Int32) (i3 : Int32) (i4 : Int32) (i5 : Int32) (i6 : Int32) (h0 : Heap) (n0 : Nat) (v : Option Value) (h : Heap) (L : List Loc) : Prop := v = some (.int 1) ∧ Fr n0 L
set_option maxRecDepth 65536 in
set_option maxHeartbeats 40000000 in
theorem rm0 (l : Launch) (Z : State) (a0 : Array Value) (hw : ∀ d ∈ tables_1, d.before a0 Z = true) (ws : List Jvm.Cond) (i1 : Int32) (i2 : Int32) (i3 : Int32) (i4 : Int32) (i5 : Int32) (i6 : Int32) (h0 : Heap) (n0 : Nat) (Z0 : n0 ≤ h0.size)  :
    MetFree l x (head1 (Jvm.Cond.code x code maxLocals ret :: ws) room_1) (fun a U => a = #[(.int i1), (.int i2), (.int i3), (.int i4), (.int i5), (.int i6)] ∧ Z.Warmed39 U.vm ∧ U.heap = h0) (fun _ _ _ _ _ => True) (fun _ U o U' => ∃ v L, o = .returned v ∧ Q0 Z i1 i2 i3 i4 i5 i6 h0 n0 v U'.heap L ∧ FrameEnd U o U' L 4 11) := by
  refine MetFree.of_bodySF (plainFor_of_name pn_2) hisR ?_
  intro p e s m args below meth c s₁ Bd hml0 hP hK
  obtain ⟨rfl, hZ, hh⟩ := hP
  have hx := Bd.exec
  have hby := Bd.bytes
  have hml : c.maxLocals = 11 := hml0
  have hown : s.vm.findClass "com/example/prompter/prompter/index/IntsRemoveLastPinLaw" = some m.cls := findClass_of_methodNamed Bd.named
  have hnm := (name_of_methodNamed Bd.named Bd.method).1
  have X0 : Stand p l e room_1 s m #[(.int i1), (.int i2), (.int i3), (.int i4), (.int i5), (.int i6)] below meth c s₁ [] 0 0 := Stand.of_body Bd
  have e0 : s₁.heap = h0 := by rw [← hh, Bd.state]; rfl
  have N0 := Fr.nil n0
  suffices H : ∀ Qo : Outcome → State → Prop, (∀ (v : Option Value) (u : State) (L : List Loc), Q0 Z i1 i2 i3 i4 i5 i6 h0 n0 v u.heap L → FrameEnd s (.returned v) u L 4 11 → Qo (.returned v) u) → Go p e below Qo s₁ (mkF m 0 #[.val (.int i1), .val (.int i2), .val (.int i3), .val (.int i4), .val (.int i5), .val (.int i6), .unset, .unset, .unset, .unset, .unset] []) from
    Go.cast (ef_0 m i1 i2 i3 i4 i5 i6) (H _ fun v u L h1 h2 => ⟨v, L, rfl, h1, h2⟩)
  intro Qo hQo
  show Go p e below Qo s₁ (mkF m 0 #[.val (.int i1), .val (.int i2), .val (.int i3), .val (.int i4), .val (.int i5), .val (.int i6), .unset, .unset, .unset, .unset, .unset] [])
  refine Go.of (fun t k => XS.iloadN X0.here hx rfl (hb hby at_0) rfl  k) ?_
  show Go p e below Qo s₁ (mkF m 1 #[.val (.int i1), .val (.int i2), .val (.int i3), .val (.int i4), .val (.int i5), .val (.int i6), .unset, .unset, .unset, .unset, .unset] [(.int i1)])
  refine Go.of (fun t k => XS.iconst X0.here hx rfl (hb hby at_1) k) ?_
  show Go p e below Qo s₁ (mkF m 2 #[.val (.int i1), .val (.int i2), .val (.int i3), .val (.int i4), .val (.int i5), .val (.int i6), .unset, .unset, .unset, .unset, .unset] [(.int (3 : Int32)), (.int i1)])
  refine Go.of (fun t k => XS.iand X0.here hx rfl (hb hby at_2) rfl k) ?_
  show Go p e below Qo s₁ (mkF m 3 #[.val (.int i1), .val (.int i2), .val (.int i3), .val (.int i4), .val (.int i5), .val (.int i6), .unset, .unset, .unset, .unset, .unset] [(.int (i1 &&& (3 : Int32)))])
  rcases own_four i1 with qv1 | qv1 | qv1 | qv1
  · rw [qv1]
    show Go p e below Qo s₁ (mkF m 3 #[.val (.int i1), .val (.int i2), .val (.int i3), .val (.int i4), .val (.int i5), .val (.int i6), .unset, .unset, .unset, .unset, .unset] [(.int (0 : Int32))])
    refine Go.of (fun t k => XS.iconst X0.here hx rfl (hb hby at_3) k) ?_
    show Go p e below Qo s₁ (mkF m 4 #[.val (.int i1), .val (.int i2), .val (.int i3), .val (.int i4), .val (.int i5), .val (.int i6), .unset, .unset, .unset, .unset, .unset] [(.int (1 : Int32)), (.int (0 : Int32))])
    refine Go.of (fun t k => XS.iadd X0.here hx rfl (hb hby at_4) rfl k) ?_
    show Go p e below Qo s₁ (mkF m 5 #[.val (.int i1), .val (.int i2), .val (.int i3), .val (.int i4), .val (.int i5), .val (.int i6), .unset, .unset, .unset, .unset, .unset] [(.int (1 : Int32))])
    refine Go.of (fun t k => XS.istore X0.here hx rfl (hb hby at_5) rfl (l' := #[.val (.int i1), .val (.int i2), .val (.int i3), .val (.int i4), .val (.int i5), .val (.int i6), .val (.int (1 : Int32)), .unset, .unset, .unset, .unset]) rfl k) ?_
    show Go p e below Qo s₁ (mkF m 7 #[.val (.int i1), .val (.int i2), .val (.int i3), .val (.int i4), .val (.int i5), .val (.int i6), .val (.int (1 : Int32)), .unset, .unset, .unset, .unset] [])
    obtain ⟨T2, h2, X2, e2, E2, A2, D2, -, st2⟩ := newO X0 hx hZ hown (hw _ (List.mem_of_getElem? (i := 0) rfl)) (hw _ (List.mem_of_getElem? (i := 1) rfl)) (hw _ (List.mem_of_getElem? (i := 2) rfl)) e0 (g := (mkF m 7 #[.val (.int i1), .val (.int i2), .val (.int i3), .val (.int i4), .val (.int i5), .val (.int i6), .val (.int (1 : Int32)), .unset, .unset, .unset, .unset] [])) rfl (hb hby at_7) (by decide) (by decide)
    obtain ⟨b2, g2⟩ : ∃ z, z = h0.size := ⟨_, rfl⟩
    rw [← g2] at A2 D2 st2
    have g3 : n0 ≤ b2 := Nat.le_trans Z0 (Nat.le_of_eq g2.symm)
    have Z4 : n0 ≤ h2.size := Nat.le_trans Z0 E2.1
    have q5 : Fld Z h2 b2 "com/example/prompter/prompter/index/Ints" "values" "[I" .null := D2 (Or.inl (hw _ (List.mem_of_getElem? (i := 11) rfl))) (ty := (.array .int)) (by decide)
    have q6 : Fld Z h2 b2 "com/example/prompter/prompter/index/Ints" "size" "I" (.int (0 : Int32)) := D2 (Or.inl (hw _ (List.mem_of_getElem? (i := 18) rfl))) (ty := .int) (by decide)
    refine Go.of st2 ?_
    show Go p e below Qo T2 (mkF m 10 #[.val (.int i1), .val (.int i2), .val (.int i3), .val (.int i4), .val (.int i5), .val (.int i6), .val (.int (1 : Int32)), .unset, .unset, .unset, .unset] [(.ref b2)])
    refine Go.of (fun t k => XS.dup X2.here hx rfl (hb hby at_10) rfl rfl k) ?_
    show Go p e below Qo T2 (mkF m 11 #[.val (.int i1), .val (.int i2), .val (.int i3), .val (.int i4), .val (.int i5), .val (.int i6), .val (.int (1 : Int32)), .unset, .unset, .unset, .unset] [(.ref b2), (.ref b2)])
    obtain ⟨_, _, ⟨T7, L7, k7, n7⟩, -, X7, ⟨Lc7, hQ7, l7, y7, z7⟩, st7⟩ := X2.specialBack hx (y := (⟨"com/example/prompter/prompter/index/Ints", "<init>", "()V"⟩ : MethodName)) rfl hown (mvT hZ (hw _ (List.mem_of_getElem? (i := 3) rfl))) (mvT hZ (hw _ (List.mem_of_getElem? (i := 4) rfl))) (mvT hZ (hw _ (List.mem_of_getElem? (i := 5) rfl))) (by decide) (backOf (W := 1) (rm1 l Z a0 hw [] b2 .null (0 : Int32) h2 n0 Z4 A2 q5 q6 g3) hZ (hw _ (List.mem_of_getElem? (i := 5) rfl)) (hw _ (List.mem_of_getElem? (i := 2) rfl)) (by decide) (by decide)) (g := (mkF m 11 #[.val (.int i1), .val (.int i2), .val (.int i3), .val (.int i4), .val (.int i5), .val (.int i6), .val (.int (1 : Int32)), .unset, .unset, .unset, .unset] [(.ref b2), (.ref b2)])) rfl (by rw [hml]; rfl) (Steps.refl _) (a := b2) (argsL := []) (rest := [(.ref b2)]) (lenOf pd_2 rfl) rfl (by show 2 * 0 + _ ≤ _; exact Nat.le_of_eq rfl) (hb hby at_11) (fun _ _ => ⟨rfl, e2, (by decide : 1 + 1 ≤ _), (by decide : 2 + 2 ≤ _)⟩)
    dsimp only [Pt.U, Pt.locs, Pt.cells, Pt.slots] at X7 l7 y7 z7 st7 hQ7
    subst l7 y7 z7
    obtain ⟨x9, x10, rfl, N8, Kc11, g16, q12, q13, q14, q15⟩ := hQ7
    have N17 := Fr.app N0 N8
    have ne18 : b2 ≠ x9 := Nat.ne_of_lt (Nat.lt_of_lt_of_le A2.lt g16)
    have g19 : n0 ≤ x9 := Nat.le_trans Z4 g16
    have Z20 : n0 ≤ T7.heap.size := Nat.le_trans Z4 Kc11.1
    refine Go.via st7 ?_
    show Go p e below Qo T7 (mkF m 14 #[.val (.int i1), .val (.int i2), .val (.int i3), .val (.int i4), .val (.int i5), .val (.int i6), .val (.int (1 : Int32)), .unset, .unset, .unset, .unset] [(.ref b2)])
    refine Go.of (fun t k => XS.astore X7.here hx rfl (hb hby at_14) rfl rfl (l' := #[.val (.int i1), .val (.int i2), .val (.int i3), .val (.int i4), .val (.int i5), .val (.int i6), .val (.int (1 : Int32)), .val (.ref b2), .unset, .unset, .unset]) rfl k) ?_
    show Go p e below Qo T7 (mkF m 16 #[.val (.int i1), .val (.int i2), .val (.int i3), .val (.int i4), .val (.int i5), .val (.int i6), .val (.int (1 : Int32)), .val (.ref b2), .unset, .unset, .unset] [])
    refine Go.of (fun t k => XS.aload X7.here hx rfl (hb hby at_16) rfl rfl k) ?_
    show Go p e below Qo T7 (mkF m 18 #[.val (.int i1), .val (.int i2), .val (.int i3), .val (.int i4), .val (.int i5), .val (.int i6), .val (.int (1 : Int32)), .val (.ref b2), .unset, .unset, .unset] [(.ref b2)])
    refine Go.of (fun t k => XS.iloadN X7.here hx rfl (hb hby at_18) rfl  k) ?_
    show Go p e below Qo T7 (mkF m 19 #[.val (.int i1), .val (.int i2), .val (.int i3), .val (.int i4), .val (.int i5), .val (.int i6), .val (.int (1 : Int32)), .val (.ref b2), .unset, .unset, .unset] [(.int i2), (.ref b2)])
    obtain ⟨ciq22, kiq22, iq22a, iq22b, iq22c⟩ := isOf hZ rfl q12
    obtain ⟨_, _, ⟨T21, L21, k21, n21⟩, -, X21, ⟨Lc21, hQ21, l21, y21, z21⟩, st21⟩ := X7.virtualBack hx (y := (⟨"com/example/prompter/prompter/index/Ints", "add", "(I)V"⟩ : MethodName)) (z := (⟨"com/example/prompter/prompter/index/Ints", "add", "(I)V"⟩ : MethodName)) hown (mvT hZ (hw _ (List.mem_of_getElem? (i := 12) rfl))) (mvT hZ (hw _ (List.mem_of_getElem? (i := 13) rfl))) (notFace_of_selects (args := #[]) (mvT hZ (hw _ (List.mem_of_getElem? (i := 15) rfl)))) (mvT hZ (hw _ (List.mem_of_getElem? (i := 15) rfl))) (mvT hZ (hw _ (List.mem_of_getElem? (i := 14) rfl))) (by decide) (backOf (W := 0) (rm30 l Z a0 hw [] b2 i2 x9 x10 (0 : Int32) (0 : Int32) T7.heap n0 Z20 q12 q14 q13 q15 g3 g19 (Ne.symm ne18)) hZ (hw _ (List.mem_of_getElem? (i := 16) rfl)) (hw _ (List.mem_of_getElem? (i := 2) rfl)) (by decide) (by decide)) iq22a iq22c (g := (mkF m 19 #[.val (.int i1), .val (.int i2), .val (.int i3), .val (.int i4), .val (.int i5), .val (.int i6), .val (.int (1 : Int32)), .val (.ref b2), .unset, .unset, .unset] [(.int i2), (.ref b2)])) rfl (by rw [hml]; rfl) (Steps.refl _) (argsL := [(.int i2)]) (rest := []) (lenOf pd_3 rfl) rfl (by show 2 * 0 + _ ≤ _; exact Nat.le_of_eq rfl) (hb hby at_19) (fun _ _ => ⟨rfl, rfl, (by decide : 2 + 0 ≤ _), (by decide : 4 + 0 ≤ _)⟩)
    dsimp only [Pt.U, Pt.locs, Pt.cells, Pt.slots] at X21 l21 y21 z21 st21 hQ21
    subst l21 y21 z21
    obtain ⟨rfl, N23, Kc24, q25, q26, q27, q28⟩ := hQ21
    have N29 := Fr.app N17 N23
    have Z30 : n0 ≤ T21.heap.size := Nat.le_trans Z20 Kc24.1
    refine Go.via st21 ?_
    show Go p e below Qo T21 (mkF m 22 #[.val (.int i1), .val (.int i2), .val (.int i3), .val (.int i4), .val (.int i5), .val (.int i6), .val (.int (1 : Int32)), .val (.ref b2), .unset, .unset, .unset] [])
    refine Go.of (fun t k => XS.iload X21.here hx rfl (hb hby at_22) rfl  k) ?_
    show Go p e below Qo T21 (mkF m 24 #[.val (.int i1), .val (.int i2), .val (.int i3), .val (.int i4), .val (.int i5), .val (.int i6), .val (.int (1 : Int32)), .val (.ref b2), .unset, .unset, .unset] [(.int (1 : Int32))])
    refine Go.of (fun t k => XS.iconst X21.here hx rfl (hb hby at_24) k) ?_
    show Go p e below Qo T21 (mkF m 25 #[.val (.int i1), .val (.int i2), .val (.int i3), .val (.int i4), .val (.int i5), .val (.int i6), .val (.int (1 : Int32)), .val (.ref b2), .unset, .unset, .unset] [(.int (1 : Int32)), (.int (1 : Int32))])
    refine Go.of (fun t k => XS.icmpYes X21.here hx rfl (pc0 := 25) (pc' := 34) rfl (hb hby at_25) rfl (flt (by decide : ¬ ((1 : Int32) < (1 : Int32)))).2.2.2 (by decide) (by decide) k) ?_
    show Go p e below Qo T21 (mkF m 34 #[.val (.int i1), .val (.int i2), .val (.int i3), .val (.int i4), .val (.int i5), .val (.int i6), .val (.int (1 : Int32)), .val (.ref b2), .unset, .unset, .unset] [])
    refine Go.of (fun t k => XS.iload X21.here hx rfl (hb hby at_34) rfl  k) ?_
    show Go p e below Qo T21 (mkF m 36 #[.val (.int i1), .val (.int i2), .val (.int i3), .val (.int i4), .val (.int i5), .val (.int i6), .val (.int (1 : Int32)), .val (.ref b2), .unset, .unset, .unset] [(.int (1 : Int32))])
    refine Go.of (fun t k => XS.iconst X21.here hx rfl (hb hby at_36) k) ?_
    show Go p e below Qo T21 (mkF m 37 #[.val (.int i1), .val (.int i2), .val (.int i3), .val (.int i4), .val (.int i5), .val (.int i6), .val (.int (1 : Int32)), .val (.ref b2), .unset, .unset, .unset] [(.int (2 : Int32)), (.int (1 : Int32))])
    refine Go.of (fun t k => XS.icmpYes X21.here hx rfl (pc0 := 37) (pc' := 46) rfl (hb hby at_37) rfl (flt (by decide : ¬ ((2 : Int32) < (1 : Int32)))).2.2.2 (by decide) (by decide) k) ?_
    show Go p e below Qo T21 (mkF m 46 #[.val (.int i1), .val (.int i2), .val (.int i3), .val (.int i4), .val (.int i5), .val (.int i6), .val (.int (1 : Int32)), .val (.ref b2), .unset, .unset, .unset] [])
    refine Go.of (fun t k => XS.iload X21.here hx rfl (hb hby at_46) rfl  k) ?_
    show Go p e below Qo T21 (mkF m 48 #[.val (.int i1), .val (.int i2), .val (.int i3), .val (.int i4), .val (.int i5), .val (.int i6), .val (.int (1 : Int32)), .val (.ref b2), .unset, .unset, .unset] [(.int (1 : Int32))])
    refine Go.of (fun t k => XS.iconst X21.here hx rfl (hb hby at_48) k) ?_
    show Go p e below Qo T21 (mkF m 49 #[.val (.int i1), .val (.int i2), .val (.int i3), .val (.int i4), .val (.int i5), .val (.int i6), .val (.int (1 : Int32)), .val (.ref b2), .unset, .unset, .unset] [(.int (3 : Int32)), (.int (1 : Int32))])
    refine Go.of (fun t k => XS.icmpYes X21.here hx rfl (pc0 := 49) (pc' := 59) rfl (hb hby at_49) rfl (flt (by decide : ¬ ((3 : Int32) < (1 : Int32)))).2.2.2 (by decide) (by decide) k) ?_
    show Go p e below Qo T21 (mkF m 59 #[.val (.int i1), .val (.int i2), .val (.int i3), .val (.int i4), .val (.int i5), .val (.int i6), .val (.int (1 : Int32)), .val (.ref b2), .unset, .unset, .unset] [])
    refine Go.of (fun t k => XS.iload X21.here hx rfl (hb hby at_59) rfl  k) ?_
    show Go p e below Qo T21 (mkF m 61 #[.val (.int i1), .val (.int i2), .val (.int i3), .val (.int i4), .val (.int i5), .val (.int i6), .val (.int (1 : Int32)), .val (.ref b2), .unset, .unset, .unset] [(.int (1 : Int32))])
    refine Go.of (fun t k => XS.iconst X21.here hx rfl (hb hby at_61) k) ?_
    show Go p e below Qo T21 (mkF m 62 #[.val (.int i1), .val (.int i2), .val (.int i3), .val (.int i4), .val (.int i5), .val (.int i6), .val (.int (1 : Int32)), .val (.ref b2), .unset, .unset, .unset] [(.int (1 : Int32)), (.int (1 : Int32))])
    refine Go.of (fun t k => XS.icmpNo X21.here hx rfl (hb hby at_62) rfl (teq (by decide : (1 : Int32) = (1 : Int32))).2 k) ?_
    show Go p e below Qo T21 (mkF m 65 #[.val (.int i1), .val (.int i2), .val (.int i3), .val (.int i4), .val (.int i5), .val (.int i6), .val (.int (1 : Int32)), .val (.ref b2), .unset, .unset, .unset] [])
    refine Go.of (fun t k => XS.iloadN X21.here hx rfl (hb hby at_65) rfl  k) ?_
    show Go p e below Qo T21 (mkF m 66 #[.val (.int i1), .val (.int i2), .val (.int i3), .val (.int i4), .val (.int i5), .val (.int i6), .val (.int (1 : Int32)), .val (.ref b2), .unset, .unset, .unset] [(.int i2)])
    refine Go.of (fun t k => XS.goto X21.here hx rfl (pc0 := 66) (pc' := 91) rfl (hb hby at_66) (by decide) (by decide) k) ?_
    show Go p e below Qo T21 (mkF m 91 #[.val (.int i1), .val (.int i2), .val (.int i3), .val (.int i4), .val (.int i5), .val (.int i6), .val (.int (1 : Int32)), .val (.ref b2), .unset, .unset, .unset] [(.int i2)])
    refine Go.of (fun t k => XS.istore X21.here hx rfl (hb hby at_91) rfl (l' := #[.val (.int i1), .val (.int i2), .val (.int i3), .val (.int i4), .val (.int i5), .val (.int i6), .val (.int (1 : Int32)), .val (.ref b2), .val (.int i2), .unset, .unset]) rfl k) ?_
    show Go p e below Qo T21 (mkF m 93 #[.val (.int i1), .val (.int i2), .val (.int i3), .val (.int i4), .val (.int i5), .val (.int i6), .val (.int (1 : Int32)), .val (.ref b2), .val (.int i2), .unset, .unset] [])
    refine Go.of (fun t k => XS.aload X21.here hx rfl (hb hby at_93) rfl rfl k) ?_
    show Go p e below Qo T21 (mkF m 95 #[.val (.int i1), .val (.int i2), .val (.int i3), .val (.int i4), .val (.int i5), .val (.int i6), .val (.int (1 : Int32)), .val (.ref b2), .val (.int i2), .unset, .unset] [(.ref b2)])
    obtain ⟨ciq32, kiq32, iq32a, iq32b, iq32c⟩ := isOf hZ rfl q25
    obtain ⟨_, _, ⟨T31, L31, k31, n31⟩, -, X31, ⟨Lc31, hQ31, l31, y31, z31⟩, st31⟩ := X21.virtualBack hx (y := (⟨"com/example/prompter/prompter/index/Ints", "removeLast", "()I"⟩ : MethodName)) (z := (⟨"com/example/prompter/prompter/index/Ints", "removeLast", "()I"⟩ : MethodName)) hown (mvT hZ (hw _ (List.mem_of_getElem? (i := 19) rfl))) (mvT hZ (hw _ (List.mem_of_getElem? (i := 20) rfl))) (notFace_of_selects (args := #[]) (mvT hZ (hw _ (List.mem_of_getElem? (i := 22) rfl)))) (mvT hZ (hw _ (List.mem_of_getElem? (i := 22) rfl))) (mvT hZ (hw _ (List.mem_of_getElem? (i := 21) rfl))) (by decide) (backOf (W := 0) (rm40 l Z a0 hw [] b2 x9 x10 i2 (0 : Int32) T21.heap n0 Z30 q25 q26 q27 q28 g3 (Ne.symm ne18)) hZ (hw _ (List.mem_of_getElem? (i := 23) rfl)) (hw _ (List.mem_of_getElem? (i := 2) rfl)) (by decide) (by decide)) iq32a iq32c (g := (mkF m 95 #[.val (.int i1), .val (.int i2), .val (.int i3), .val (.int i4), .val (.int i5), .val (.int i6), .val (.int (1 : Int32)), .val (.ref b2), .val (.int i2), .unset, .unset] [(.ref b2)])) rfl (by rw [hml]; rfl) (Steps.refl _) (argsL := []) (rest := []) (lenOf pd_4 rfl) rfl (by show 2 * 0 + _ ≤ _; exact Nat.le_of_eq rfl) (hb hby at_95) (fun _ _ => ⟨rfl, rfl, (by decide : 2 + 0 ≤ _), (by decide : 4 + 0 ≤ _)⟩)
    dsimp only [Pt.U, Pt.locs, Pt.cells, Pt.slots] at X31 l31 y31 z31 st31 hQ31
    subst l31 y31 z31
    obtain ⟨rfl, N33, Kc34, q35, q36, q37⟩ := hQ31
    have N38 := Fr.app N29 N33
    have q39 : Arv Z T31.heap x9 x10 .int (2 : Int32) [(.int i2), (.int (0 : Int32))] (.int (0 : Int32)) := q28.keep Kc34 (ninS (Ne.symm ne18) nin0)
    have Z40 : n0 ≤ T31.heap.size := Nat.le_trans Z30 Kc34.1
    refine Go.via st31 ?_
    show Go p e below Qo T31 (mkF m 98 #[.val (.int i1), .val (.int i2), .val (.int i3), .val (.int i4), .val (.int i5), .val (.int i6), .val (.int (1 : Int32)), .val (.ref b2), .val (.int i2), .unset, .unset] [(.int i2)])
    refine Go.of (fun t k => XS.istore X31.here hx rfl (hb hby at_98) rfl (l' := #[.val (.int i1), .val (.int i2), .val (.int i3), .val (.int i4), .val (.int i5), .val (.int i6), .val (.int (1 : Int32)), .val (.ref b2), .val (.int i2), .val (.int i2), .unset]) rfl k) ?_
    show Go p e below Qo T31 (mkF m 100 #[.val (.int i1), .val (.int i2), .val (.int i3), .val (.int i4), .val (.int i5), .val (.int i6), .val (.int (1 : Int32)), .val (.ref b2), .val (.int i2), .val (.int i2), .unset] [])
    refine Go.of (fun t k => XS.iload X31.here hx rfl (hb hby at_100) rfl  k) ?_
    show Go p e below Qo T31 (mkF m 102 #[.val (.int i1), .val (.int i2), .val (.int i3), .val (.int i4), .val (.int i5), .val (.int i6), .val (.int (1 : Int32)), .val (.ref b2), .val (.int i2), .val (.int i2), .unset] [(.int i2)])
    refine Go.of (fun t k => XS.iload X31.here hx rfl (hb hby at_102) rfl  k) ?_
    show Go p e below Qo T31 (mkF m 104 #[.val (.int i1), .val (.int i2), .val (.int i3), .val (.int i4), .val (.int i5), .val (.int i6), .val (.int (1 : Int32)), .val (.ref b2), .val (.int i2), .val (.int i2), .unset] [(.int i2), (.int i2)])
    refine Go.of (fun t k => XS.icmpYes X31.here hx rfl (pc0 := 104) (pc' := 109) rfl (hb hby at_104) rfl (teq (rfl : i2 = i2)).1 (by decide) (by decide) k) ?_
    show Go p e below Qo T31 (mkF m 109 #[.val (.int i1), .val (.int i2), .val (.int i3), .val (.int i4), .val (.int i5), .val (.int i6), .val (.int (1 : Int32)), .val (.ref b2), .val (.int i2), .val (.int i2), .unset] [])
    refine Go.of (fun t k => XS.aload X31.here hx rfl (hb hby at_109) rfl rfl k) ?_
    show Go p e below Qo T31 (mkF m 111 #[.val (.int i1), .val (.int i2), .val (.int i3), .val (.int i4), .val (.int i5), .val (.int i6), .val (.int (1 : Int32)), .val (.ref b2), .val (.int i2), .val (.int i2), .unset] [(.ref b2)])
    obtain ⟨ciq42, kiq42, iq42a, iq42b, iq42c⟩ := isOf hZ rfl q35
    obtain ⟨_, _, ⟨T41, L41, k41, n41⟩, -, X41, ⟨Lc41, hQ41, l41, y41, z41⟩, st41⟩ := X31.virtualBack hx (y := (⟨"com/example/prompter/prompter/index/Ints", "size", "()I"⟩ : MethodName)) (z := (⟨"com/example/prompter/prompter/index/Ints", "size", "()I"⟩ : MethodName)) hown (mvT hZ (hw _ (List.mem_of_getElem? (i := 24) rfl))) (mvT hZ (hw _ (List.mem_of_getElem? (i := 25) rfl))) (notFace_of_selects (args := #[]) (mvT hZ (hw _ (List.mem_of_getElem? (i := 27) rfl)))) (mvT hZ (hw _ (List.mem_of_getElem? (i := 27) rfl))) (mvT hZ (hw _ (List.mem_of_getElem? (i := 26) rfl))) (by decide) (backOf (W := 0) (rm5 l Z a0 hw [] b2 (0 : Int32) T31.heap n0 Z40 q36) hZ (hw _ (List.mem_of_getElem? (i := 28) rfl)) (hw _ (List.mem_of_getElem? (i := 2) rfl)) (by decide) (by decide)) iq42a iq42c (g := (mkF m 111 #[.val (.int i1), .val (.int i2), .val (.int i3), .val (.int i4), .val (.int i5), .val (.int i6), .val (.int (1 : Int32)), .val (.ref b2), .val (.int i2), .val (.int i2), .unset] [(.ref b2)])) rfl (by rw [hml]; rfl) (Steps.refl _) (argsL := []) (rest := []) (lenOf pd_4 rfl) rfl (by show 2 * 0 + _ ≤ _; exact Nat.le_of_eq rfl) (hb hby at_111) (fun _ _ => ⟨rfl, rfl, (by decide : 2 + 0 ≤ _), (by decide : 4 + 0 ≤ _)⟩)
    dsimp only [Pt.U, Pt.locs, Pt.cells, Pt.slots] at X41 l41 y41 z41 st41 hQ41
    subst l41 y41 z41
    obtain ⟨rfl, N43, eh44⟩ := hQ41
    have N45 := Fr.app N38 N43
    refine Go.via st41 ?_
    show Go p e below Qo T41 (mkF m 114 #[.val (.int i1), .val (.int i2), .val (.int i3), .val (.int i4), .val (.int i5), .val (.int i6), .val (.int (1 : Int32)), .val (.ref b2), .val (.int i2), .val (.int i2), .unset] [(.int (0 : Int32))])
    refine Go.of (fun t k => XS.iload X41.here hx rfl (hb hby at_114) rfl  k) ?_
    show Go p e below Qo T41 (mkF m 116 #[.val (.int i1), .val (.int i2), .val (.int i3), .val (.int i4), .val (.int i5), .val (.int i6), .val (.int (1 : Int32)), .val (.ref b2), .val (.int i2), .val (.int i2), .unset] [(.int (1 : Int32)), (.int (0 : Int32))])
    refine Go.of (fun t k => XS.iconst X41.here hx rfl (hb hby at_116) k) ?_
    show Go p e below Qo T41 (mkF m 117 #[.val (.int i1), .val (.int i2), .val (.int i3), .val (.int i4), .val (.int i5), .val (.int i6), .val (.int (1 : Int32)), .val (.ref b2), .val (.int i2), .val (.int i2), .unset] [(.int (1 : Int32)), (.int (1 : Int32)), (.int (0 : Int32))])
    refine Go.of (fun t k => XS.isub X41.here hx rfl (hb hby at_117) rfl k) ?_
    show Go p e below Qo T41 (mkF m 118 #[.val (.int i1), .val (.int i2), .val (.int i3), .val (.int i4), .val (.int i5), .val (.int i6), .val (.int (1 : Int32)), .val (.ref b2), .val (.int i2), .val (.int i2), .unset] [(.int (0 : Int32)), (.int (0 : Int32))])
    refine Go.of (fun t k => XS.icmpYes X41.here hx rfl (pc0 := 118) (pc' := 123) rfl (hb hby at_118) rfl (teq (by decide : (0 : Int32) = (0 : Int32))).1 (by decide) (by decide) k) ?_
    show Go p e below Qo T41 (mkF m 123 #[.val (.int i1), .val (.int i2), .val (.int i3), .val (.int i4), .val (.int i5), .val (.int i6), .val (.int (1 : Int32)), .val (.ref b2), .val (.int i2), .val (.int i2), .unset] [])
    refine Go.of (fun t k => XS.aload X41.here hx rfl (hb hby at_123) rfl rfl k) ?_
    show Go p e below Qo T41 (mkF m 125 #[.val (.int i1), .val (.int i2), .val (.int i3), .val (.int i4), .val (.int i5), .val (.int i6), .val (.int (1 : Int32)), .val (.ref b2), .val (.int i2), .val (.int i2), .unset] [(.ref b2)])
    obtain ⟨ciq47, kiq47, iq47a, iq47b, iq47c⟩ := isOf hZ eh44 q35
    obtain ⟨_, _, ⟨T46, L46, k46, n46⟩, -, X46, ⟨Lc46, hQ46, l46, y46, z46⟩, st46⟩ := X41.virtualBack hx (y := (⟨"com/example/prompter/prompter/index/Ints", "toArray", "()[I"⟩ : MethodName)) (z := (⟨"com/example/prompter/prompter/index/Ints", "toArray", "()[I"⟩ : MethodName)) hown (mvT hZ (hw _ (List.mem_of_getElem? (i := 29) rfl))) (mvT hZ (hw _ (List.mem_of_getElem? (i := 30) rfl))) (notFace_of_selects (args := #[]) (mvT hZ (hw _ (List.mem_of_getElem? (i := 32) rfl)))) (mvT hZ (hw _ (List.mem_of_getElem? (i := 32) rfl))) (mvT hZ (hw _ (List.mem_of_getElem? (i := 31) rfl))) (by decide) (backOf (W := 0) (rm50 l Z a0 hw [] b2 x9 x10 i2 (0 : Int32) T31.heap n0 Z40 q35 q36 q37 q39) hZ (hw _ (List.mem_of_getElem? (i := 33) rfl)) (hw _ (List.mem_of_getElem? (i := 2) rfl)) (by decide) (by decide)) iq47a iq47c (g := (mkF m 125 #[.val (.int i1), .val (.int i2), .val (.int i3), .val (.int i4), .val (.int i5), .val (.int i6), .val (.int (1 : Int32)), .val (.ref b2), .val (.int i2), .val (.int i2), .unset] [(.ref b2)])) rfl (by rw [hml]; rfl) (Steps.refl _) (argsL := []) (rest := []) (lenOf pd_5 rfl) rfl (by show 2 * 0 + _ ≤ _; exact Nat.le_of_eq rfl) (hb hby at_125) (fun _ _ => ⟨rfl, eh44, (by decide : 2 + 1 ≤ _), (by decide : 4 + 0 ≤ _)⟩)
    dsimp only [Pt.U, Pt.locs, Pt.cells, Pt.slots] at X46 l46 y46 z46 st46 hQ46
    subst l46 y46 z46
    obtain ⟨x49, x50, rfl, N48, Kc51, g53, q52⟩ := hQ46
    have N54 := Fr.app N45 N48
    have ne55 : x9 ≠ x49 := Nat.ne_of_lt (Nat.lt_of_lt_of_le q39.lt g53)
    have ne56 : b2 ≠ x49 := Nat.ne_of_lt (Nat.lt_of_lt_of_le q35.lt g53)
    have g57 : n0 ≤ x49 := Nat.le_trans Z40 g53
    have q58 : Arv Z T46.heap x9 x10 .int (2 : Int32) [(.int i2), (.int (0 : Int32))] (.int (0 : Int32)) := q39.keep Kc51 nin0
    have q59 : Exa Z T46.heap b2 "com/example/prompter/prompter/index/Ints" := q35.keep Kc51
    have q60 : Fld Z T46.heap b2 "com/example/prompter/prompter/index/Ints" "size" "I" (.int (0 : Int32)) := q36.keep Kc51 nin0
    have q61 : Fld Z T46.heap b2 "com/example/prompter/prompter/index/Ints" "values" "[I" (.ref x9) := q37.keep Kc51 nin0
    have Z62 : n0 ≤ T46.heap.size := Nat.le_trans Z40 Kc51.1
    refine Go.via st46 ?_
    show Go p e below Qo T46 (mkF m 128 #[.val (.int i1), .val (.int i2), .val (.int i3), .val (.int i4), .val (.int i5), .val (.int i6), .val (.int (1 : Int32)), .val (.ref b2), .val (.int i2), .val (.int i2), .unset] [(.ref x49)])
    refine Go.of (fun t k => XS.astore X46.here hx rfl (hb hby at_128) rfl rfl (l' := #[.val (.int i1), .val (.int i2), .val (.int i3), .val (.int i4), .val (.int i5), .val (.int i6), .val (.int (1 : Int32)), .val (.ref b2), .val (.int i2), .val (.int i2), .val (.ref x49)]) rfl k) ?_
    show Go p e below Qo T46 (mkF m 130 #[.val (.int i1), .val (.int i2), .val (.int i3), .val (.int i4), .val (.int i5), .val (.int i6), .val (.int (1 : Int32)), .val (.ref b2), .val (.int i2), .val (.int i2), .val (.ref x49)] [])
    refine Go.of (fun t k => XS.aload X46.here hx rfl (hb hby at_130) rfl rfl k) ?_
    show Go p e below Qo T46 (mkF m 132 #[.val (.int i1), .val (.int i2), .val (.int i3), .val (.int i4), .val (.int i5), .val (.int i6), .val (.int (1 : Int32)), .val (.ref b2), .val (.int i2), .val (.int i2), .val (.ref x49)] [(.ref x49)])
    have cpo63 := q52
    obtain ⟨clo63, Aro63, qco63, So63, Mo63, Ho63, Go63⟩ := cpo63
    refine Go.of (fun t k => X46.arraylength hx (cell := clo63) Aro63.1 (State.isArrayOf_alike hZ.alike Aro63.2.1) (g := (mkF m 132 #[.val (.int i1), .val (.int i2), .val (.int i3), .val (.int i4), .val (.int i5), .val (.int i6), .val (.int (1 : Int32)), .val (.ref b2), .val (.int i2), .val (.int i2), .val (.ref x49)] [(.ref x49)])) rfl rfl (hb hby at_132) t k) ?_
    rw [len_of So63 Mo63]
    show Go p e below Qo T46 (mkF m 133 #[.val (.int i1), .val (.int i2), .val (.int i3), .val (.int i4), .val (.int i5), .val (.int i6), .val (.int (1 : Int32)), .val (.ref b2), .val (.int i2), .val (.int i2), .val (.ref x49)] [(.int (0 : Int32))])
    refine Go.of (fun t k => XS.iload X46.here hx rfl (hb hby at_133) rfl  k) ?_
    show Go p e below Qo T46 (mkF m 135 #[.val (.int i1), .val (.int i2), .val (.int i3), .val (.int i4), .val (.int i5), .val (.int i6), .val (.int (1 : Int32)), .val (.ref b2), .val (.int i2), .val (.int i2), .val (.ref x49)] [(.int (1 : Int32)), (.int (0 : Int32))])
    refine Go.of (fun t k => XS.iconst X46.here hx rfl (hb hby at_135) k) ?_
    show Go p e below Qo T46 (mkF m 136 #[.val (.int i1), .val (.int i2), .val (.int i3), .val (.int i4), .val (.int i5), .val (.int i6), .val (.int (1 : Int32)), .val (.ref b2), .val (.int i2), .val (.int i2), .val (.ref x49)] [(.int (1 : Int32)), (.int (1 : Int32)), (.int (0 : Int32))])
    refine Go.of (fun t k => XS.isub X46.here hx rfl (hb hby at_136) rfl k) ?_
    show Go p e below Qo T46 (mkF m 137 #[.val (.int i1), .val (.int i2), .val (.int i3), .val (.int i4), .val (.int i5), .val (.int i6), .val (.int (1 : Int32)), .val (.ref b2), .val (.int i2), .val (.int i2), .val (.ref x49)] [(.int (0 : Int32)), (.int (0 : Int32))])
    refine Go.of (fun t k => XS.icmpYes X46.here hx rfl (pc0 := 137) (pc' := 142) rfl (hb hby at_137) rfl (teq (by decide : (0 : Int32) = (0 : Int32))).1 (by decide) (by decide) k) ?_
    show Go p e below Qo T46 (mkF m 142 #[.val (.int i1), .val (.int i2), .val (.int i3), .val (.int i4), .val (.int i5), .val (.int i6), .val (.int (1 : Int32)), .val (.ref b2), .val (.int i2), .val (.int i2), .val (.ref x49)] [])
    refine Go.of (fun t k => XS.iload X46.here hx rfl (hb hby at_142) rfl  k) ?_
    show Go p e below Qo T46 (mkF m 144 #[.val (.int i1), .val (.int i2), .val (.int i3), .val (.int i4), .val (.int i5), .val (.int i6), .val (.int (1 : Int32)), .val (.ref b2), .val (.int i2), .val (.int i2), .val (.ref x49)] [(.int (1 : Int32))])
    refine Go.of (fun t k => XS.iconst X46.here hx rfl (hb hby at_144) k) ?_
    show Go p e below Qo T46 (mkF m 145 #[.val (.int i1), .val (.int i2), .val (.int i3), .val (.int i4), .val (.int i5), .val (.int i6), .val (.int (1 : Int32)), .val (.ref b2), .val (.int i2), .val (.int i2), .val (.ref x49)] [(.int (1 : Int32)), (.int (1 : Int32))])
    refine Go.of (fun t k => XS.isub X46.here hx rfl (hb hby at_145) rfl k) ?_
    show Go p e below Qo T46 (mkF m 146 #[.val (.int i1), .val (.int i2), .val (.int i3), .val (.int i4), .val (.int i5), .val (.int i6), .val (.int (1 : Int32)), .val (.ref b2), .val (.int i2), .val (.int i2), .val (.ref x49)] [(.int (0 : Int32))])
    refine Go.of (fun t k => XS.iconst X46.here hx rfl (hb hby at_146) k) ?_
    show Go p e below Qo T46 (mkF m 147 #[.val (.int i1), .val (.int i2), .val (.int i3), .val (.int i4), .val (.int i5), .val (.int i6), .val (.int (1 : Int32)), .val (.ref b2), .val (.int i2), .val (.int i2), .val (.ref x49)] [(.int (1 : Int32)), (.int (0 : Int32))])
    refine Go.of (fun t k => XS.icmpYes X46.here hx rfl (pc0 := 147) (pc' := 160) rfl (hb hby at_147) rfl (tlt (by decide : (0 : Int32) < (1 : Int32))).1 (by decide) (by decide) k) ?_
    show Go p e below Qo T46 (mkF m 160 #[.val (.int i1), .val (.int i2), .val (.int i3), .val (.int i4), .val (.int i5), .val (.int i6), .val (.int (1 : Int32)), .val (.ref b2), .val (.int i2), .val (.int i2), .val (.ref x49)] [])
    refine Go.of (fun t k => XS.iload X46.here hx rfl (hb hby at_160) rfl  k) ?_
    show Go p e below Qo T46 (mkF m 162 #[.val (.int i1), .val (.int i2), .val (.int i3), .val (.int i4), .val (.int i5), .val (.int i6), .val (.int (1 : Int32)), .val (.ref b2), .val (.int i2), .val (.int i2), .val (.ref x49)] [(.int (1 : Int32))])
    refine Go.of (fun t k => XS.iconst X46.here hx rfl (hb hby at_162) k) ?_
    show Go p e below Qo T46 (mkF m 163 #[.val (.int i1), .val (.int i2), .val (.int i3), .val (.int i4), .val (.int i5), .val (.int i6), .val (.int (1 : Int32)), .val (.ref b2), .val (.int i2), .val (.int i2), .val (.ref x49)] [(.int (1 : Int32)), (.int (1 : Int32))])
    refine Go.of (fun t k => XS.isub X46.here hx rfl (hb hby at_163) rfl k) ?_
    show Go p e below Qo T46 (mkF m 164 #[.val (.int i1), .val (.int i2), .val (.int i3), .val (.int i4), .val (.int i5), .val (.int i6), .val (.int (1 : Int32)), .val (.ref b2), .val (.int i2), .val (.int i2), .val (.ref x49)] [(.int (0 : Int32))])
    refine Go.of (fun t k => XS.iconst X46.here hx rfl (hb hby at_164) k) ?_
    show Go p e below Qo T46 (mkF m 165 #[.val (.int i1), .val (.int i2), .val (.int i3), .val (.int i4), .val (.int i5), .val (.int i6), .val (.int (1 : Int32)), .val (.ref b2), .val (.int i2), .val (.int i2), .val (.ref x49)] [(.int (2 : Int32)), (.int (0 : Int32))])
    refine Go.of (fun t k => XS.icmpYes X46.here hx rfl (pc0 := 165) (pc' := 178) rfl (hb hby at_165) rfl (tlt (by decide : (0 : Int32) < (2 : Int32))).1 (by decide) (by decide) k) ?_
    show Go p e below Qo T46 (mkF m 178 #[.val (.int i1), .val (.int i2), .val (.int i3), .val (.int i4), .val (.int i5), .val (.int i6), .val (.int (1 : Int32)), .val (.ref b2), .val (.int i2), .val (.int i2), .val (.ref x49)] [])
    refine Go.of (fun t k => XS.iload X46.here hx rfl (hb hby at_178) rfl  k) ?_
    show Go p e below Qo T46 (mkF m 180 #[.val (.int i1), .val (.int i2), .val (.int i3), .val (.int i4), .val (.int i5), .val (.int i6), .val (.int (1 : Int32)), .val (.ref b2), .val (.int i2), .val (.int i2), .val (.ref x49)] [(.int (1 : Int32))])
    refine Go.of (fun t k => XS.iconst X46.here hx rfl (hb hby at_180) k) ?_
    show Go p e below Qo T46 (mkF m 181 #[.val (.int i1), .val (.int i2), .val (.int i3), .val (.int i4), .val (.int i5), .val (.int i6), .val (.int (1 : Int32)), .val (.ref b2), .val (.int i2), .val (.int i2), .val (.ref x49)] [(.int (1 : Int32)), (.int (1 : Int32))])
    refine Go.of (fun t k => XS.isub X46.here hx rfl (hb hby at_181) rfl k) ?_
    show Go p e below Qo T46 (mkF m 182 #[.val (.int i1), .val (.int i2), .val (.int i3), .val (.int i4), .val (.int i5), .val (.int i6), .val (.int (1 : Int32)), .val (.ref b2), .val (.int i2), .val (.int i2), .val (.ref x49)] [(.int (0 : Int32))])
    refine Go.of (fun t k => XS.iconst X46.here hx rfl (hb hby at_182) k) ?_
    show Go p e below Qo T46 (mkF m 183 #[.val (.int i1), .val (.int i2), .val (.int i3), .val (.int i4), .val (.int i5), .val (.int i6), .val (.int (1 : Int32)), .val (.ref b2), .val (.int i2), .val (.int i2), .val (.ref x49)] [(.int (3 : Int32)), (.int (0 : Int32))])
    refine Go.of (fun t k => XS.icmpYes X46.here hx rfl (pc0 := 183) (pc' := 196) rfl (hb hby at_183) rfl (tlt (by decide : (0 : Int32) < (3 : Int32))).1 (by decide) (by decide) k) ?_
    show Go p e below Qo T46 (mkF m 196 #[.val (.int i1), .val (.int i2), .val (.int i3), .val (.int i4), .val (.int i5), .val (.int i6), .val (.int (1 : Int32)), .val (.ref b2), .val (.int i2), .val (.int i2), .val (.ref x49)] [])
    refine Go.of (fun t k => XS.aload X46.here hx rfl (hb hby at_196) rfl rfl k) ?_
    show Go p e below Qo T46 (mkF m 198 #[.val (.int i1), .val (.int i2), .val (.int i3), .val (.int i4), .val (.int i5), .val (.int i6), .val (.int (1 : Int32)), .val (.ref b2), .val (.int i2), .val (.int i2), .val (.ref x49)] [(.ref b2)])
    refine Go.of (fun t k => XS.iload X46.here hx rfl (hb hby at_198) rfl  k) ?_
    show Go p e below Qo T46 (mkF m 200 #[.val (.int i1), .val (.int i2), .val (.int i3), .val (.int i4), .val (.int i5), .val (.int i6), .val (.int (1 : Int32)), .val (.ref b2), .val (.int i2), .val (.int i2), .val (.ref x49)] [(.int i6), (.ref b2)])
    obtain ⟨ciq65, kiq65, iq65a, iq65b, iq65c⟩ := isOf hZ rfl q59
    obtain ⟨_, _, ⟨T64, L64, k64, n64⟩, -, X64, ⟨Lc64, hQ64, l64, y64, z64⟩, st64⟩ := X46.virtualBack hx (y := (⟨"com/example/prompter/prompter/index/Ints", "add", "(I)V"⟩ : MethodName)) (z := (⟨"com/example/prompter/prompter/index/Ints", "add", "(I)V"⟩ : MethodName)) hown (mvT hZ (hw _ (List.mem_of_getElem? (i := 12) rfl))) (mvT hZ (hw _ (List.mem_of_getElem? (i := 13) rfl))) (notFace_of_selects (args := #[]) (mvT hZ (hw _ (List.mem_of_getElem? (i := 15) rfl)))) (mvT hZ (hw _ (List.mem_of_getElem? (i := 15) rfl))) (mvT hZ (hw _ (List.mem_of_getElem? (i := 14) rfl))) (by decide) (backOf (W := 0) (rm30 l Z a0 hw [] b2 i6 x9 x10 i2 (0 : Int32) T46.heap n0 Z62 q59 q60 q61 q58 g3 g19 (Ne.symm ne18)) hZ (hw _ (List.mem_of_getElem? (i := 16) rfl)) (hw _ (List.mem_of_getElem? (i := 2) rfl)) (by decide) (by decide)) iq65a iq65c (g := (mkF m 200 #[.val (.int i1), .val (.int i2), .val (.int i3), .val (.int i4), .val (.int i5), .val (.int i6), .val (.int (1 : Int32)), .val (.ref b2), .val (.int i2), .val (.int i2), .val (.ref x49)] [(.int i6), (.ref b2)])) rfl (by rw [hml]; rfl) (Steps.refl _) (argsL := [(.int i6)]) (rest := []) (lenOf pd_3 rfl) rfl (by show 2 * 0 + _ ≤ _; exact Nat.le_of_eq rfl) (hb hby at_200) (fun _ _ => ⟨rfl, rfl, (by decide : 3 + 0 ≤ _), (by decide : 4 + 0 ≤ _)⟩)
    dsimp only [Pt.U, Pt.locs, Pt.cells, Pt.slots] at X64 l64 y64 z64 st64 hQ64
    subst l64 y64 z64
    obtain ⟨rfl, N66, Kc67, q68, q69, q70, q71⟩ := hQ64
    have N72 := Fr.app N54 N66
    have q73 : Arv Z T64.heap x49 x50 .int (0 : Int32) [] (.int (0 : Int32)) := q52.keep Kc67 (ninS (Ne.symm ne56) (ninS (Ne.symm ne55) nin0))
    have Z74 : n0 ≤ T64.heap.size := Nat.le_trans Z62 Kc67.1
    refine Go.via st64 ?_
    show Go p e below Qo T64 (mkF m 203 #[.val (.int i1), .val (.int i2), .val (.int i3), .val (.int i4), .val (.int i5), .val (.int i6), .val (.int (1 : Int32)), .val (.ref b2), .val (.int i2), .val (.int i2), .val (.ref x49)] [])
    refine Go.of (fun t k => XS.aload X64.here hx rfl (hb hby at_203) rfl rfl k) ?_
    show Go p e below Qo T64 (mkF m 205 #[.val (.int i1), .val (.int i2), .val (.int i3), .val (.int i4), .val (.int i5), .val (.int i6), .val (.int (1 : Int32)), .val (.ref b2), .val (.int i2), .val (.int i2), .val (.ref x49)] [(.ref b2)])
    obtain ⟨ciq76, kiq76, iq76a, iq76b, iq76c⟩ := isOf hZ rfl q68
    obtain ⟨_, _, ⟨T75, L75, k75, n75⟩, -, X75, ⟨Lc75, hQ75, l75, y75, z75⟩, st75⟩ := X64.virtualBack hx (y := (⟨"com/example/prompter/prompter/index/Ints", "removeLast", "()I"⟩ : MethodName)) (z := (⟨"com/example/prompter/prompter/index/Ints", "removeLast", "()I"⟩ : MethodName)) hown (mvT hZ (hw _ (List.mem_of_getElem? (i := 19) rfl))) (mvT hZ (hw _ (List.mem_of_getElem? (i := 20) rfl))) (notFace_of_selects (args := #[]) (mvT hZ (hw _ (List.mem_of_getElem? (i := 22) rfl)))) (mvT hZ (hw _ (List.mem_of_getElem? (i := 22) rfl))) (mvT hZ (hw _ (List.mem_of_getElem? (i := 21) rfl))) (by decide) (backOf (W := 0) (rm40 l Z a0 hw [] b2 x9 x10 i6 (0 : Int32) T64.heap n0 Z74 q68 q69 q70 q71 g3 (Ne.symm ne18)) hZ (hw _ (List.mem_of_getElem? (i := 23) rfl)) (hw _ (List.mem_of_getElem? (i := 2) rfl)) (by decide) (by decide)) iq76a iq76c (g := (mkF m 205 #[.val (.int i1), .val (.int i2), .val (.int i3), .val (.int i4), .val (.int i5), .val (.int i6), .val (.int (1 : Int32)), .val (.ref b2), .val (.int i2), .val (.int i2), .val (.ref x49)] [(.ref b2)])) rfl (by rw [hml]; rfl) (Steps.refl _) (argsL := []) (rest := []) (lenOf pd_4 rfl) rfl (by show 2 * 0 + _ ≤ _; exact Nat.le_of_eq rfl) (hb hby at_205) (fun _ _ => ⟨rfl, rfl, (by decide : 3 + 0 ≤ _), (by decide : 4 + 0 ≤ _)⟩)
    dsimp only [Pt.U, Pt.locs, Pt.cells, Pt.slots] at X75 l75 y75 z75 st75 hQ75
    subst l75 y75 z75
    obtain ⟨rfl, N77, Kc78, q79, q80, q81⟩ := hQ75
    have N82 := Fr.app N72 N77
    have q83 : Arv Z T75.heap x49 x50 .int (0 : Int32) [] (.int (0 : Int32)) := q73.keep Kc78 (ninS (Ne.symm ne56) nin0)
    have q84 : Arv Z T75.heap x9 x10 .int (2 : Int32) [(.int i6), (.int (0 : Int32))] (.int (0 : Int32)) := q71.keep Kc78 (ninS (Ne.symm ne18) nin0)
    have Z85 : n0 ≤ T75.heap.size := Nat.le_trans Z74 Kc78.1
    refine Go.via st75 ?_
    show Go p e below Qo T75 (mkF m 208 #[.val (.int i1), .val (.int i2), .val (.int i3), .val (.int i4), .val (.int i5), .val (.int i6), .val (.int (1 : Int32)), .val (.ref b2), .val (.int i2), .val (.int i2), .val (.ref x49)] [(.int i6)])
    refine Go.of (fun t k => XS.iload X75.here hx rfl (hb hby at_208) rfl  k) ?_
    show Go p e below Qo T75 (mkF m 210 #[.val (.int i1), .val (.int i2), .val (.int i3), .val (.int i4), .val (.int i5), .val (.int i6), .val (.int (1 : Int32)), .val (.ref b2), .val (.int i2), .val (.int i2), .val (.ref x49)] [(.int i6), (.int i6)])
    refine Go.of (fun t k => XS.icmpNo X75.here hx rfl (hb hby at_210) rfl (teq (rfl : i6 = i6)).2 k) ?_
    show Go p e below Qo T75 (mkF m 213 #[.val (.int i1), .val (.int i2), .val (.int i3), .val (.int i4), .val (.int i5), .val (.int i6), .val (.int (1 : Int32)), .val (.ref b2), .val (.int i2), .val (.int i2), .val (.ref x49)] [])
    refine Go.of (fun t k => XS.iconst X75.here hx rfl (hb hby at_213) k) ?_
    show Go p e below Qo T75 (mkF m 214 #[.val (.int i1), .val (.int i2), .val (.int i3), .val (.int i4), .val (.int i5), .val (.int i6), .val (.int (1 : Int32)), .val (.ref b2), .val (.int i2), .val (.int i2), .val (.ref x49)] [(.int (1 : Int32))])
    refine Go.of (fun t k => XS.goto X75.here hx rfl (pc0 := 214) (pc' := 218) rfl (hb hby at_214) (by decide) (by decide) k) ?_
    show Go p e below Qo T75 (mkF m 218 #[.val (.int i1), .val (.int i2), .val (.int i3), .val (.int i4), .val (.int i5), .val (.int i6), .val (.int (1 : Int32)), .val (.ref b2), .val (.int i2), .val (.int i2), .val (.ref x49)] [(.int (1 : Int32))])
    exact own_retN X75 hx Bd.notSynchronized (t := .boolean) Bd.returns (by simp) (hb hby at_218) (fun u hu hF => hQo _ _ _ ⟨rfl, N82⟩ (own_mono hF (by decide) (by decide)))
  · rw [qv1]
    show Go p e below Qo s₁ (mkF m 3 #[.val (.int i1), .val (.int i2), .val (.int i3), .val (.int i4), .val (.int i5), .val (.int i6), .unset, .unset, .unset, .unset, .unset] [(.int (1 : Int32))])
    refine Go.of (fun t k => XS.iconst X0.here hx rfl (hb hby at_3) k) ?_
    show Go p e below Qo s₁ (mkF m 4 #[.val (.int i1), .val (.int i2), .val (.int i3), .val (.int i4), .val (.int i5), .val (.int i6), .unset, .unset, .unset, .unset, .unset] [(.int (1 : Int32)), (.int (1 : Int32))])
    refine Go.of (fun t k => XS.iadd X0.here hx rfl (hb hby at_4) rfl k) ?_
    show Go p e below Qo s₁ (mkF m 5 #[.val (.int i1), .val (.int i2), .val (.int i3), .val (.int i4), .val (.int i5), .val (.int i6), .unset, .unset, .unset, .unset, .unset] [(.int (2 : Int32))])
    refine Go.of (fun t k => XS.istore X0.here hx rfl (hb hby at_5) rfl (l' := #[.val (.int i1), .val (.int i2), .val (.int i3), .val (.int i4), .val (.int i5), .val (.int i6), .val (.int (2 : Int32)), .unset, .unset, .unset, .unset]) rfl k) ?_
    show Go p e below Qo s₁ (mkF m 7 #[.val (.int i1), .val (.int i2), .val (.int i3), .val (.int i4), .val (.int i5), .val (.int i6), .val (.int (2 : Int32)), .unset, .unset, .unset, .unset] [])
    obtain ⟨T86, h86, X86, e86, E86, A86, D86, -, st86⟩ := newO X0 hx hZ hown (hw _ (List.mem_of_getElem? (i := 0) rfl)) (hw _ (List.mem_of_getElem? (i := 1) rfl)) (hw _ (List.mem_of_getElem? (i := 2) rfl)) e0 (g := (mkF m 7 #[.val (.int i1), .val (.int i2), .val (.int i3), .val (.int i4), .val (.int i5), .val (.int i6), .val (.int (2 : Int32)), .unset, .unset, .unset, .unset] [])) rfl (hb hby at_7) (by decide) (by decide)
    obtain ⟨b86, g86⟩ : ∃ z, z = h0.size := ⟨_, rfl⟩
    rw [← g86] at A86 D86 st86
    have g87 : n0 ≤ b86 := Nat.le_trans Z0 (Nat.le_of_eq g86.symm)
    have Z88 : n0 ≤ h86.size := Nat.le_trans Z0 E86.1
    have q89 : Fld Z h86 b86 "com/example/prompter/prompter/index/Ints" "values" "[I" .null := D86 (Or.inl (hw _ (List.mem_of_getElem? (i := 11) rfl))) (ty := (.array .int)) (by decide)
    have q90 : Fld Z h86 b86 "com/example/prompter/prompter/index/Ints" "size" "I" (.int (0 : Int32)) := D86 (Or.inl (hw _ (List.mem_of_getElem? (i := 18) rfl))) (ty := .int) (by decide)
    refine Go.of st86 ?_
    show Go p e below Qo T86 (mkF m 10 #[.val (.int i1), .val (.int i2), .val (.int i3), .val (.int i4), .val (.int i5), .val (.int i6), .val (.int (2 : Int32)), .unset, .unset, .unset, .unset] [(.ref b86)])
    refine Go.of (fun t k => XS.dup X86.here hx rfl (hb hby at_10) rfl rfl k) ?_
    show Go p e below Qo T86 (mkF m 11 #[.val (.int i1), .val (.int i2), .val (.int i3), .val (.int i4), .val (.int i5), .val (.int i6), .val (.int (2 : Int32)), .unset, .unset, .unset, .unset] [(.ref b86), (.ref b86)])
    obtain ⟨_, _, ⟨T91, L91, k91, n91⟩, -, X91, ⟨Lc91, hQ91, l91, y91, z91⟩, st91⟩ := X86.specialBack hx (y := (⟨"com/example/prompter/prompter/index/Ints", "<init>", "()V"⟩ : MethodName)) rfl hown (mvT hZ (hw _ (List.mem_of_getElem? (i := 3) rfl))) (mvT hZ (hw _ (List.mem_of_getElem? (i := 4) rfl))) (mvT hZ (hw _ (List.mem_of_getElem? (i := 5) rfl))) (by decide) (backOf (W := 1) (rm1 l Z a0 hw [] b86 .null (0 : Int32) h86 n0 Z88 A86 q89 q90 g87) hZ (hw _ (List.mem_of_getElem? (i := 5) rfl)) (hw _ (List.mem_of_getElem? (i := 2) rfl)) (by decide) (by decide)) (g := (mkF m 11 #[.val (.int i1), .val (.int i2), .val (.int i3), .val (.int i4), .val (.int i5), .val (.int i6), .val (.int (2 : Int32)), .unset, .unset, .unset, .unset] [(.ref b86), (.ref b86)])) rfl (by rw [hml]; rfl) (Steps.refl _) (a := b86) (argsL := []) (rest := [(.ref b86)]) (lenOf pd_2 rfl) rfl (by show 2 * 0 + _ ≤ _; exact Nat.le_of_eq rfl) (hb hby at_11) (fun _ _ => ⟨rfl, e86, (by decide : 1 + 1 ≤ _), (by decide : 2 + 2 ≤ _)⟩)
    dsimp only [Pt.U, Pt.locs, Pt.cells, Pt.slots] at X91 l91 y91 z91 st91 hQ91
    subst l91 y91 z91
    obtain ⟨x93, x94, rfl, N92, Kc95, g100, q96, q97, q98, q99⟩ := hQ91
    have N101 := Fr.app N0 N92
    have ne102 : b86 ≠ x93 := Nat.ne_of_lt (Nat.lt_of_lt_of_le A86.lt g100)
    have g103 : n0 ≤ x93 := Nat.le_trans Z88 g100
    have Z104 : n0 ≤ T91.heap.size := Nat.le_trans Z88 Kc95.1
    refine Go.via st91 ?_
    show Go p e below Qo T91 (mkF m 14 #[.val (.int i1), .val (.int i2), .val (.int i3), .val (.int i4), .val (.int i5), .val (.int i6), .val (.int (2 : Int32)), .unset, .unset, .unset, .unset] [(.ref b86)])
    refine Go.of (fun t k => XS.astore X91.here hx rfl (hb hby at_14) rfl rfl (l' := #[.val (.int i1), .val (.int i2), .val (.int i3), .val (.int i4), .val (.int i5), .val (.int i6), .val (.int (2 : Int32)), .val (.ref b86), .unset, .unset, .unset]) rfl k) ?_
    show Go p e below Qo T91 (mkF m 16 #[.val (.int i1), .val (.int i2), .val (.int i3), .val (.int i4), .val (.int i5), .val (.int i6), .val (.int (2 : Int32)), .val (.ref b86), .unset, .unset, .unset] [])
    refine Go.of (fun t k => XS.aload X91.here hx rfl (hb hby at_16) rfl rfl k) ?_
    show Go p e below Qo T91 (mkF m 18 #[.val (.int i1), .val (.int i2), .val (.int i3), .val (.int i4), .val (.int i5), .val (.int i6), .val (.int (2 : Int32)), .val (.ref b86), .unset, .unset, .unset] [(.ref b86)])
    refine Go.of (fun t k => XS.iloadN X91.here hx rfl (hb hby at_18) rfl  k) ?_
    show Go p e below Qo T91 (mkF m 19 #[.val (.int i1), .val (.int i2), .val (.int i3), .val (.int i4), .val (.int i5), .val (.int i6), .val (.int (2 : Int32)), .val (.ref b86), .unset, .unset, .unset] [(.int i2), (.ref b86)])
    obtain ⟨ciq106, kiq106, iq106a, iq106b, iq106c⟩ := isOf hZ rfl q96
    obtain ⟨_, _, ⟨T105, L105, k105, n105⟩, -, X105, ⟨Lc105, hQ105, l105, y105, z105⟩, st105⟩ := X91.virtualBack hx (y := (⟨"com/example/prompter/prompter/index/Ints", "add", "(I)V"⟩ : MethodName)) (z := (⟨"com/example/prompter/prompter/index/Ints", "add", "(I)V"⟩ : MethodName)) hown (mvT hZ (hw _ (List.mem_of_getElem? (i := 12) rfl))) (mvT hZ (hw _ (List.mem_of_getElem? (i := 13) rfl))) (notFace_of_selects (args := #[]) (mvT hZ (hw _ (List.mem_of_getElem? (i := 15) rfl)))) (mvT hZ (hw _ (List.mem_of_getElem? (i := 15) rfl))) (mvT hZ (hw _ (List.mem_of_getElem? (i := 14) rfl))) (by decide) (backOf (W := 0) (rm30 l Z a0 hw [] b86 i2 x93 x94 (0 : Int32) (0 : Int32) T91.heap n0 Z104 q96 q98 q97 q99 g87 g103 (Ne.symm ne102)) hZ (hw _ (List.mem_of_getElem? (i := 16) rfl)) (hw _ (List.mem_of_getElem? (i := 2) rfl)) (by decide) (by decide)) iq106a iq106c (g := (mkF m 19 #[.val (.int i1), .val (.int i2), .val (.int i3), .val (.int i4), .val (.int i5), .val (.int i6), .val (.int (2 : Int32)), .val (.ref b86), .unset, .unset, .unset] [(.int i2), (.ref b86)])) rfl (by rw [hml]; rfl) (Steps.refl _) (argsL := [(.int i2)]) (rest := []) (lenOf pd_3 rfl) rfl (by show 2 * 0 + _ ≤ _; exact Nat.le_of_eq rfl) (hb hby at_19) (fun _ _ => ⟨rfl, rfl, (by decide : 2 + 0 ≤ _), (by decide : 4 + 0 ≤ _)⟩)
    dsimp only [Pt.U, Pt.locs, Pt.cells, Pt.slots] at X105 l105 y105 z105 st105 hQ105
    subst l105 y105 z105
    obtain ⟨rfl, N107, Kc108, q109, q110, q111, q112⟩ := hQ105
    have N113 := Fr.app N101 N107
    have Z114 : n0 ≤ T105.heap.size := Nat.le_trans Z104 Kc108.1
    refine Go.via st105 ?_
    show Go p e below Qo T105 (mkF m 22 #[.val (.int i1), .val (.int i2), .val (.int i3), .val (.int i4), .val (.int i5), .val (.int i6), .val (.int (2 : Int32)), .val (.ref b86), .unset, .unset, .unset] [])
    refine Go.of (fun t k => XS.iload X105.here hx rfl (hb hby at_22) rfl  k) ?_
    show Go p e below Qo T105 (mkF m 24 #[.val (.int i1), .val (.int i2), .val (.int i3), .val (.int i4), .val (.int i5), .val (.int i6), .val (.int (2 : Int32)), .val (.ref b86), .unset, .unset, .unset] [(.int (2 : Int32))])
    refine Go.of (fun t k => XS.iconst X105.here hx rfl (hb hby at_24) k) ?_
    show Go p e below Qo T105 (mkF m 25 #[.val (.int i1), .val (.int i2), .val (.int i3), .val (.int i4), .val (.int i5), .val (.int i6), .val (.int (2 : Int32)), .val (.ref b86), .unset, .unset, .unset] [(.int (1 : Int32)), (.int (2 : Int32))])
    refine Go.of (fun t k => XS.icmpNo X105.here hx rfl (hb hby at_25) rfl (tlt (by decide : (1 : Int32) < (2 : Int32))).2.2.2 k) ?_
    show Go p e below Qo T105 (mkF m 28 #[.val (.int i1), .val (.int i2), .val (.int i3), .val (.int i4), .val (.int i5), .val (.int i6), .val (.int (2 : Int32)), .val (.ref b86), .unset, .unset, .unset] [])
    refine Go.of (fun t k => XS.aload X105.here hx rfl (hb hby at_28) rfl rfl k) ?_
    show Go p e below Qo T105 (mkF m 30 #[.val (.int i1), .val (.int i2), .val (.int i3), .val (.int i4), .val (.int i5), .val (.int i6), .val (.int (2 : Int32)), .val (.ref b86), .unset, .unset, .unset] [(.ref b86)])
    refine Go.of (fun t k => XS.iloadN X105.here hx rfl (hb hby at_30) rfl  k) ?_
    show Go p e below Qo T105 (mkF m 31 #[.val (.int i1), .val (.int i2), .val (.int i3), .val (.int i4), .val (.int i5), .val (.int i6), .val (.int (2 : Int32)), .val (.ref b86), .unset, .unset, .unset] [(.int i3), (.ref b86)])
    obtain ⟨ciq116, kiq116, iq116a, iq116b, iq116c⟩ := isOf hZ rfl q109
    obtain ⟨_, _, ⟨T115, L115, k115, n115⟩, -, X115, ⟨Lc115, hQ115, l115, y115, z115⟩, st115⟩ := X105.virtualBack hx (y := (⟨"com/example/prompter/prompter/index/Ints", "add", "(I)V"⟩ : MethodName)) (z := (⟨"com/example/prompter/prompter/index/Ints", "add", "(I)V"⟩ : MethodName)) hown (mvT hZ (hw _ (List.mem_of_getElem? (i := 12) rfl))) (mvT hZ (hw _ (List.mem_of_getElem? (i := 13) rfl))) (notFace_of_selects (args := #[]) (mvT hZ (hw _ (List.mem_of_getElem? (i := 15) rfl)))) (mvT hZ (hw _ (List.mem_of_getElem? (i := 15) rfl))) (mvT hZ (hw _ (List.mem_of_getElem? (i := 14) rfl))) (by decide) (backOf (W := 0) (rm31 l Z a0 hw [] b86 i3 x93 x94 i2 (0 : Int32) T105.heap n0 Z114 q109 q110 q111 q112 g87 g103 (Ne.symm ne102)) hZ (hw _ (List.mem_of_getElem? (i := 16) rfl)) (hw _ (List.mem_of_getElem? (i := 2) rfl)) (by decide) (by decide)) iq116a iq116c (g := (mkF m 31 #[.val (.int i1), .val (.int i2), .val (.int i3), .val (.int i4), .val (.int i5), .val (.int i6), .val (.int (2 : Int32)), .val (.ref b86), .unset, .unset, .unset] [(.int i3), (.ref b86)])) rfl (by rw [hml]; rfl) (Steps.refl _) (argsL := [(.int i3)]) (rest := []) (lenOf pd_3 rfl) rfl (by show 2 * 0 + _ ≤ _; exact Nat.le_of_eq rfl) (hb hby at_31) (fun _ _ => ⟨rfl, rfl, (by decide : 2 + 0 ≤ _), (by decide : 4 + 0 ≤ _)⟩)
    dsimp only [Pt.U, Pt.locs, Pt.cells, Pt.slots] at X115 l115 y115 z115 st115 hQ115
    subst l115 y115 z115
    obtain ⟨rfl, N117, Kc118, q119, q120, q121, q122⟩ := hQ115
    have N123 := Fr.app N113 N117
    have Z124 : n0 ≤ T115.heap.size := Nat.le_trans Z114 Kc118.1
    refine Go.via st115 ?_
    show Go p e below Qo T115 (mkF m 34 #[.val (.int i1), .val (.int i2), .val (.int i3), .val (.int i4), .val (.int i5), .val (.int i6), .val (.int (2 : Int32)), .val (.ref b86), .unset, .unset, .unset] [])
    refine Go.of (fun t k => XS.iload X115.here hx rfl (hb hby at_34) rfl  k) ?_
    show Go p e below Qo T115 (mkF m 36 #[.val (.int i1), .val (.int i2), .val (.int i3), .val (.int i4), .val (.int i5), .val (.int i6), .val (.int (2 : Int32)), .val (.ref b86), .unset, .unset, .unset] [(.int (2 : Int32))])
    refine Go.of (fun t k => XS.iconst X115.here hx rfl (hb hby at_36) k) ?_
    show Go p e below Qo T115 (mkF m 37 #[.val (.int i1), .val (.int i2), .val (.int i3), .val (.int i4), .val (.int i5), .val (.int i6), .val (.int (2 : Int32)), .val (.ref b86), .unset, .unset, .unset] [(.int (2 : Int32)), (.int (2 : Int32))])
    refine Go.of (fun t k => XS.icmpYes X115.here hx rfl (pc0 := 37) (pc' := 46) rfl (hb hby at_37) rfl (flt (by decide : ¬ ((2 : Int32) < (2 : Int32)))).2.2.2 (by decide) (by decide) k) ?_
    show Go p e below Qo T115 (mkF m 46 #[.val (.int i1), .val (.int i2), .val (.int i3), .val (.int i4), .val (.int i5), .val (.int i6), .val (.int (2 : Int32)), .val (.ref b86), .unset, .unset, .unset] [])
    refine Go.of (fun t k => XS.iload X115.here hx rfl (hb hby at_46) rfl  k) ?_
    show Go p e below Qo T115 (mkF m 48 #[.val (.int i1), .val (.int i2), .val (.int i3), .val (.int i4), .val (.int i5), .val (.int i6), .val (.int (2 : Int32)), .val (.ref b86), .unset, .unset, .unset] [(.int (2 : Int32))])
    refine Go.of (fun t k => XS.iconst X115.here hx rfl (hb hby at_48) k) ?_
    show Go p e below Qo T115 (mkF m 49 #[.val (.int i1), .val (.int i2), .val (.int i3), .val (.int i4), .val (.int i5), .val (.int i6), .val (.int (2 : Int32)), .val (.ref b86), .unset, .unset, .unset] [(.int (3 : Int32)), (.int (2 : Int32))])
    refine Go.of (fun t k => XS.icmpYes X115.here hx rfl (pc0 := 49) (pc' := 59) rfl (hb hby at_49) rfl (flt (by decide : ¬ ((3 : Int32) < (2 : Int32)))).2.2.2 (by decide) (by decide) k) ?_
    show Go p e below Qo T115 (mkF m 59 #[.val (.int i1), .val (.int i2), .val (.int i3), .val (.int i4), .val (.int i5), .val (.int i6), .val (.int (2 : Int32)), .val (.ref b86), .unset, .unset, .unset] [])
    refine Go.of (fun t k => XS.iload X115.here hx rfl (hb hby at_59) rfl  k) ?_
    show Go p e below Qo T115 (mkF m 61 #[.val (.int i1), .val (.int i2), .val (.int i3), .val (.int i4), .val (.int i5), .val (.int i6), .val (.int (2 : Int32)), .val (.ref b86), .unset, .unset, .unset] [(.int (2 : Int32))])
    refine Go.of (fun t k => XS.iconst X115.here hx rfl (hb hby at_61) k) ?_
    show Go p e below Qo T115 (mkF m 62 #[.val (.int i1), .val (.int i2), .val (.int i3), .val (.int i4), .val (.int i5), .val (.int i6), .val (.int (2 : Int32)), .val (.ref b86), .unset, .unset, .unset] [(.int (1 : Int32)), (.int (2 : Int32))])
    refine Go.of (fun t k => XS.icmpYes X115.here hx rfl (pc0 := 62) (pc' := 69) rfl (hb hby at_62) rfl (feq (by decide : ¬ ((2 : Int32) = (1 : Int32)))).2 (by decide) (by decide) k) ?_
    show Go p e below Qo T115 (mkF m 69 #[.val (.int i1), .val (.int i2), .val (.int i3), .val (.int i4), .val (.int i5), .val (.int i6), .val (.int (2 : Int32)), .val (.ref b86), .unset, .unset, .unset] [])
    refine Go.of (fun t k => XS.iload X115.here hx rfl (hb hby at_69) rfl  k) ?_
    show Go p e below Qo T115 (mkF m 71 #[.val (.int i1), .val (.int i2), .val (.int i3), .val (.int i4), .val (.int i5), .val (.int i6), .val (.int (2 : Int32)), .val (.ref b86), .unset, .unset, .unset] [(.int (2 : Int32))])
    refine Go.of (fun t k => XS.iconst X115.here hx rfl (hb hby at_71) k) ?_
    show Go p e below Qo T115 (mkF m 72 #[.val (.int i1), .val (.int i2), .val (.int i3), .val (.int i4), .val (.int i5), .val (.int i6), .val (.int (2 : Int32)), .val (.ref b86), .unset, .unset, .unset] [(.int (2 : Int32)), (.int (2 : Int32))])
    refine Go.of (fun t k => XS.icmpNo X115.here hx rfl (hb hby at_72) rfl (teq (by decide : (2 : Int32) = (2 : Int32))).2 k) ?_
    show Go p e below Qo T115 (mkF m 75 #[.val (.int i1), .val (.int i2), .val (.int i3), .val (.int i4), .val (.int i5), .val (.int i6), .val (.int (2 : Int32)), .val (.ref b86), .unset, .unset, .unset] [])
    refine Go.of (fun t k => XS.iloadN X115.here hx rfl (hb hby at_75) rfl  k) ?_
    show Go p e below Qo T115 (mkF m 76 #[.val (.int i1), .val (.int i2), .val (.int i3), .val (.int i4), .val (.int i5), .val (.int i6), .val (.int (2 : Int32)), .val (.ref b86), .unset, .unset, .unset] [(.int i3)])
    refine Go.of (fun t k => XS.goto X115.here hx rfl (pc0 := 76) (pc' := 91) rfl (hb hby at_76) (by decide) (by decide) k) ?_
    show Go p e below Qo T115 (mkF m 91 #[.val (.int i1), .val (.int i2), .val (.int i3), .val (.int i4), .val (.int i5), .val (.int i6), .val (.int (2 : Int32)), .val (.ref b86), .unset, .unset, .unset] [(.int i3)])
    refine Go.of (fun t k => XS.istore X115.here hx rfl (hb hby at_91) rfl (l' := #[.val (.int i1), .val (.int i2), .val (.int i3), .val (.int i4), .val (.int i5), .val (.int i6), .val (.int (2 : Int32)), .val (.ref b86), .val (.int i3), .unset, .unset]) rfl k) ?_
    show Go p e below Qo T115 (mkF m 93 #[.val (.int i1), .val (.int i2), .val (.int i3), .val (.int i4), .val (.int i5), .val (.int i6), .val (.int (2 : Int32)), .val (.ref b86), .val (.int i3), .unset, .unset] [])
    refine Go.of (fun t k => XS.aload X115.here hx rfl (hb hby at_93) rfl rfl k) ?_
    show Go p e below Qo T115 (mkF m 95 #[.val (.int i1), .val (.int i2), .val (.int i3), .val (.int i4), .val (.int i5), .val (.int i6), .val (.int (2 : Int32)), .val (.ref b86), .val (.int i3), .unset, .unset] [(.ref b86)])
    obtain ⟨ciq126, kiq126, iq126a, iq126b, iq126c⟩ := isOf hZ rfl q119
    obtain ⟨_, _, ⟨T125, L125, k125, n125⟩, -, X125, ⟨Lc125, hQ125, l125, y125, z125⟩, st125⟩ := X115.virtualBack hx (y := (⟨"com/example/prompter/prompter/index/Ints", "removeLast", "()I"⟩ : MethodName)) (z := (⟨"com/example/prompter/prompter/index/Ints", "removeLast", "()I"⟩ : MethodName)) hown (mvT hZ (hw _ (List.mem_of_getElem? (i := 19) rfl))) (mvT hZ (hw _ (List.mem_of_getElem? (i := 20) rfl))) (notFace_of_selects (args := #[]) (mvT hZ (hw _ (List.mem_of_getElem? (i := 22) rfl)))) (mvT hZ (hw _ (List.mem_of_getElem? (i := 22) rfl))) (mvT hZ (hw _ (List.mem_of_getElem? (i := 21) rfl))) (by decide) (backOf (W := 0) (rm41 l Z a0 hw [] b86 x93 x94 i2 i3 T115.heap n0 Z124 q119 q120 q121 q122 g87 (Ne.symm ne102)) hZ (hw _ (List.mem_of_getElem? (i := 23) rfl)) (hw _ (List.mem_of_getElem? (i := 2) rfl)) (by decide) (by decide)) iq126a iq126c (g := (mkF m 95 #[.val (.int i1), .val (.int i2), .val (.int i3), .val (.int i4), .val (.int i5), .val (.int i6), .val (.int (2 : Int32)), .val (.ref b86), .val (.int i3), .unset, .unset] [(.ref b86)])) rfl (by rw [hml]; rfl) (Steps.refl _) (argsL := []) (rest := []) (lenOf pd_4 rfl) rfl (by show 2 * 0 + _ ≤ _; exact Nat.le_of_eq rfl) (hb hby at_95) (fun _ _ => ⟨rfl, rfl, (by decide : 2 + 0 ≤ _), (by decide : 4 + 0 ≤ _)⟩)
    dsimp only [Pt.U, Pt.locs, Pt.cells, Pt.slots] at X125 l125 y125 z125 st125 hQ125
    subst l125 y125 z125
    obtain ⟨rfl, N127, Kc128, q129, q130, q131⟩ := hQ125
    have N132 := Fr.app N123 N127
    have q133 : Arv Z T125.heap x93 x94 .int (2 : Int32) [(.int i2), (.int i3)] (.int (0 : Int32)) := q122.keep Kc128 (ninS (Ne.symm ne102) nin0)
    have Z134 : n0 ≤ T125.heap.size := Nat.le_trans Z124 Kc128.1
    refine Go.via st125 ?_
    show Go p e below Qo T125 (mkF m 98 #[.val (.int i1), .val (.int i2), .val (.int i3), .val (.int i4), .val (.int i5), .val (.int i6), .val (.int (2 : Int32)), .val (.ref b86), .val (.int i3), .unset, .unset] [(.int i3)])
    refine Go.of (fun t k => XS.istore X125.here hx rfl (hb hby at_98) rfl (l' := #[.val (.int i1), .val (.int i2), .val (.int i3), .val (.int i4), .val (.int i5), .val (.int i6), .val (.int (2 : Int32)), .val (.ref b86), .val (.int i3), .val (.int i3), .unset]) rfl k) ?_
    show Go p e below Qo T125 (mkF m 100 #[.val (.int i1), .val (.int i2), .val (.int i3), .val (.int i4), .val (.int i5), .val (.int i6), .val (.int (2 : Int32)), .val (.ref b86), .val (.int i3), .val (.int i3), .unset] [])
    refine Go.of (fun t k => XS.iload X125.here hx rfl (hb hby at_100) rfl  k) ?_
    show Go p e below Qo T125 (mkF m 102 #[.val (.int i1), .val (.int i2), .val (.int i3), .val (.int i4), .val (.int i5), .val (.int i6), .val (.int (2 : Int32)), .val (.ref b86), .val (.int i3), .val (.int i3), .unset] [(.int i3)])
    refine Go.of (fun t k => XS.iload X125.here hx rfl (hb hby at_102) rfl  k) ?_
    show Go p e below Qo T125 (mkF m 104 #[.val (.int i1), .val (.int i2), .val (.int i3), .val (.int i4), .val (.int i5), .val (.int i6), .val (.int (2 : Int32)), .val (.ref b86), .val (.int i3), .val (.int i3), .unset] [(.int i3), (.int i3)])
    refine Go.of (fun t k => XS.icmpYes X125.here hx rfl (pc0 := 104) (pc' := 109) rfl (hb hby at_104) rfl (teq (rfl : i3 = i3)).1 (by decide) (by decide) k) ?_
    show Go p e below Qo T125 (mkF m 109 #[.val (.int i1), .val (.int i2), .val (.int i3), .val (.int i4), .val (.int i5), .val (.int i6), .val (.int (2 : Int32)), .val (.ref b86), .val (.int i3), .val (.int i3), .unset] [])
    refine Go.of (fun t k => XS.aload X125.here hx rfl (hb hby at_109) rfl rfl k) ?_
    show Go p e below Qo T125 (mkF m 111 #[.val (.int i1), .val (.int i2), .val (.int i3), .val (.int i4), .val (.int i5), .val (.int i6), .val (.int (2 : Int32)), .val (.ref b86), .val (.int i3), .val (.int i3), .unset] [(.ref b86)])
    obtain ⟨ciq136, kiq136, iq136a, iq136b, iq136c⟩ := isOf hZ rfl q129
    obtain ⟨_, _, ⟨T135, L135, k135, n135⟩, -, X135, ⟨Lc135, hQ135, l135, y135, z135⟩, st135⟩ := X125.virtualBack hx (y := (⟨"com/example/prompter/prompter/index/Ints", "size", "()I"⟩ : MethodName)) (z := (⟨"com/example/prompter/prompter/index/Ints", "size", "()I"⟩ : MethodName)) hown (mvT hZ (hw _ (List.mem_of_getElem? (i := 24) rfl))) (mvT hZ (hw _ (List.mem_of_getElem? (i := 25) rfl))) (notFace_of_selects (args := #[]) (mvT hZ (hw _ (List.mem_of_getElem? (i := 27) rfl)))) (mvT hZ (hw _ (List.mem_of_getElem? (i := 27) rfl))) (mvT hZ (hw _ (List.mem_of_getElem? (i := 26) rfl))) (by decide) (backOf (W := 0) (rm5 l Z a0 hw [] b86 (1 : Int32) T125.heap n0 Z134 q130) hZ (hw _ (List.mem_of_getElem? (i := 28) rfl)) (hw _ (List.mem_of_getElem? (i := 2) rfl)) (by decide) (by decide)) iq136a iq136c (g := (mkF m 111 #[.val (.int i1), .val (.int i2), .val (.int i3), .val (.int i4), .val (.int i5), .val (.int i6), .val (.int (2 : Int32)), .val (.ref b86), .val (.int i3), .val (.int i3), .unset] [(.ref b86)])) rfl (by rw [hml]; rfl) (Steps.refl _) (argsL := []) (rest := []) (lenOf pd_4 rfl) rfl (by show 2 * 0 + _ ≤ _; exact Nat.le_of_eq rfl) (hb hby at_111) (fun _ _ => ⟨rfl, rfl, (by decide : 2 + 0 ≤ _), (by decide : 4 + 0 ≤ _)⟩)
    dsimp only [Pt.U, Pt.locs, Pt.cells, Pt.slots] at X135 l135 y135 z135 st135 hQ135
    subst l135 y135 z135
    obtain ⟨rfl, N137, eh138⟩ := hQ135
    have N139 := Fr.app N132 N137
    refine Go.via st135 ?_
    show Go p e below Qo T135 (mkF m 114 #[.val (.int i1), .val (.int i2), .val (.int i3), .val (.int i4), .val (.int i5), .val (.int i6), .val (.int (2 : Int32)), .val (.ref b86), .val (.int i3), .val (.int i3), .unset] [(.int (1 : Int32))])
    refine Go.of (fun t k => XS.iload X135.here hx rfl (hb hby at_114) rfl  k) ?_
    show Go p e below Qo T135 (mkF m 116 #[.val (.int i1), .val (.int i2), .val (.int i3), .val (.int i4), .val (.int i5), .val (.int i6), .val (.int (2 : Int32)), .val (.ref b86), .val (.int i3), .val (.int i3), .unset] [(.int (2 : Int32)), (.int (1 : Int32))])
    refine Go.of (fun t k => XS.iconst X135.here hx rfl (hb hby at_116) k) ?_
    show Go p e below Qo T135 (mkF m 117 #[.val (.int i1), .val (.int i2), .val (.int i3), .val (.int i4), .val (.int i5), .val (.int i6), .val (.int (2 : Int32)), .val (.ref b86), .val (.int i3), .val (.int i3), .unset] [(.int (1 : Int32)), (.int (2 : Int32)), (.int (1 : Int32))])
    refine Go.of (fun t k => XS.isub X135.here hx rfl (hb hby at_117) rfl k) ?_
    show Go p e below Qo T135 (mkF m 118 #[.val (.int i1), .val (.int i2), .val (.int i3), .val (.int i4), .val (.int i5), .val (.int i6), .val (.int (2 : Int32)), .val (.ref b86), .val (.int i3), .val (.int i3), .unset] [(.int (1 : Int32)), (.int (1 : Int32))])
    refine Go.of (fun t k => XS.icmpYes X135.here hx rfl (pc0 := 118) (pc' := 123) rfl (hb hby at_118) rfl (teq (by decide : (1 : Int32) = (1 : Int32))).1 (by decide) (by decide) k) ?_
    show Go p e below Qo T135 (mkF m 123 #[.val (.int i1), .val (.int i2), .val (.int i3), .val (.int i4), .val (.int i5), .val (.int i6), .val (.int (2 : Int32)), .val (.ref b86), .val (.int i3), .val (.int i3), .unset] [])
    refine Go.of (fun t k => XS.aload X135.here hx rfl (hb hby at_123) rfl rfl k) ?_
    show Go p e below Qo T135 (mkF m 125 #[.val (.int i1), .val (.int i2), .val (.int i3), .val (.int i4), .val (.int i5), .val (.int i6), .val (.int (2 : Int32)), .val (.ref b86), .val (.int i3), .val (.int i3), .unset] [(.ref b86)])
    obtain ⟨ciq141, kiq141, iq141a, iq141b, iq141c⟩ := isOf hZ eh138 q129
    obtain ⟨_, _, ⟨T140, L140, k140, n140⟩, -, X140, ⟨Lc140, hQ140, l140, y140, z140⟩, st140⟩ := X135.virtualBack hx (y := (⟨"com/example/prompter/prompter/index/Ints", "toArray", "()[I"⟩ : MethodName)) (z := (⟨"com/example/prompter/prompter/index/Ints", "toArray", "()[I"⟩ : MethodName)) hown (mvT hZ (hw _ (List.mem_of_getElem? (i := 29) rfl))) (mvT hZ (hw _ (List.mem_of_getElem? (i := 30) rfl))) (notFace_of_selects (args := #[]) (mvT hZ (hw _ (List.mem_of_getElem? (i := 32) rfl)))) (mvT hZ (hw _ (List.mem_of_getElem? (i := 32) rfl))) (mvT hZ (hw _ (List.mem_of_getElem? (i := 31) rfl))) (by decide) (backOf (W := 0) (rm51 l Z a0 hw [] b86 x93 x94 i2 i3 T125.heap n0 Z134 q129 q130 q131 q133) hZ (hw _ (List.mem_of_getElem? (i := 33) rfl)) (hw _ (List.mem_of_getElem? (i := 2) rfl)) (by decide) (by decide)) iq141a iq141c (g := (mkF m 125 #[.val (.int i1), .val (.int i2), .val (.int i3), .val (.int i4), .val (.int i5), .val (.int i6), .val (.int (2 : Int32)), .val (.ref b86), .val (.int i3), .val (.int i3), .unset] [(.ref b86)])) rfl (by rw [hml]; rfl) (Steps.refl _) (argsL := []) (rest := []) (lenOf pd_5 rfl) rfl (by show 2 * 0 + _ ≤ _; exact Nat.le_of_eq rfl) (hb hby at_125) (fun _ _ => ⟨rfl, eh138, (by decide : 2 + 1 ≤ _), (by decide : 4 + 1 ≤ _)⟩)
    dsimp only [Pt.U, Pt.locs, Pt.cells, Pt.slots] at X140 l140 y140 z140 st140 hQ140
    subst l140 y140 z140
    obtain ⟨x143, x144, rfl, N142, Kc145, g147, q146⟩ := hQ140
    have N148 := Fr.app N139 N142
    have ne149 : x93 ≠ x143 := Nat.ne_of_lt (Nat.lt_of_lt_of_le q133.lt g147)
    have ne150 : b86 ≠ x143 := Nat.ne_of_lt (Nat.lt_of_lt_of_le q129.lt g147)
    have g151 : n0 ≤ x143 := Nat.le_trans Z134 g147
    have q152 : Arv Z T140.heap x93 x94 .int (2 : Int32) [(.int i2), (.int i3)] (.int (0 : Int32)) := q133.keep Kc145 nin0
    have q153 : Exa Z T140.heap b86 "com/example/prompter/prompter/index/Ints" := q129.keep Kc145
    have q154 : Fld Z T140.heap b86 "com/example/prompter/prompter/index/Ints" "size" "I" (.int (1 : Int32)) := q130.keep Kc145 nin0
    have q155 : Fld Z T140.heap b86 "com/example/prompter/prompter/index/Ints" "values" "[I" (.ref x93) := q131.keep Kc145 nin0
    have Z156 : n0 ≤ T140.heap.size := Nat.le_trans Z134 Kc145.1
    refine Go.via st140 ?_
    show Go p e below Qo T140 (mkF m 128 #[.val (.int i1), .val (.int i2), .val (.int i3), .val (.int i4), .val (.int i5), .val (.int i6), .val (.int (2 : Int32)), .val (.ref b86), .val (.int i3), .val (.int i3), .unset] [(.ref x143)])
    refine Go.of (fun t k => XS.astore X140.here hx rfl (hb hby at_128) rfl rfl (l' := #[.val (.int i1), .val (.int i2), .val (.int i3), .val (.int i4), .val (.int i5), .val (.int i6), .val (.int (2 : Int32)), .val (.ref b86), .val (.int i3), .val (.int i3), .val (.ref x143)]) rfl k) ?_
    show Go p e below Qo T140 (mkF m 130 #[.val (.int i1), .val (.int i2), .val (.int i3), .val (.int i4), .val (.int i5), .val (.int i6), .val (.int (2 : Int32)), .val (.ref b86), .val (.int i3), .val (.int i3), .val (.ref x143)] [])
    refine Go.of (fun t k => XS.aload X140.here hx rfl (hb hby at_130) rfl rfl k) ?_
    show Go p e below Qo T140 (mkF m 132 #[.val (.int i1), .val (.int i2), .val (.int i3), .val (.int i4), .val (.int i5), .val (.int i6), .val (.int (2 : Int32)), .val (.ref b86), .val (.int i3), .val (.int i3), .val (.ref x143)] [(.ref x143)])
    have cpo157 := q146
    obtain ⟨clo157, Aro157, qco157, So157, Mo157, Ho157, Go157⟩ := cpo157
    refine Go.of (fun t k => X140.arraylength hx (cell := clo157) Aro157.1 (State.isArrayOf_alike hZ.alike Aro157.2.1) (g := (mkF m 132 #[.val (.int i1), .val (.int i2), .val (.int i3), .val (.int i4), .val (.int i5), .val (.int i6), .val (.int (2 : Int32)), .val (.ref b86), .val (.int i3), .val (.int i3), .val (.ref x143)] [(.ref x143)])) rfl rfl (hb hby at_132) t k) ?_
    rw [len_of So157 Mo157]
    show Go p e below Qo T140 (mkF m 133 #[.val (.int i1), .val (.int i2), .val (.int i3), .val (.int i4), .val (.int i5), .val (.int i6), .val (.int (2 : Int32)), .val (.ref b86), .val (.int i3), .val (.int i3), .val (.ref x143)] [(.int (1 : Int32))])
    refine Go.of (fun t k => XS.iload X140.here hx rfl (hb hby at_133) rfl  k) ?_
    show Go p e below Qo T140 (mkF m 135 #[.val (.int i1), .val (.int i2), .val (.int i3), .val (.int i4), .val (.int i5), .val (.int i6), .val (.int (2 : Int32)), .val (.ref b86), .val (.int i3), .val (.int i3), .val (.ref x143)] [(.int (2 : Int32)), (.int (1 : Int32))])
    refine Go.of (fun t k => XS.iconst X140.here hx rfl (hb hby at_135) k) ?_
    show Go p e below Qo T140 (mkF m 136 #[.val (.int i1), .val (.int i2), .val (.int i3), .val (.int i4), .val (.int i5), .val (.int i6), .val (.int (2 : Int32)), .val (.ref b86), .val (.int i3), .val (.int i3), .val (.ref x143)] [(.int (1 : Int32)), (.int (2 : Int32)), (.int (1 : Int32))])
    refine Go.of (fun t k => XS.isub X140.here hx rfl (hb hby at_136) rfl k) ?_
    show Go p e below Qo T140 (mkF m 137 #[.val (.int i1), .val (.int i2), .val (.int i3), .val (.int i4), .val (.int i5), .val (.int i6), .val (.int (2 : Int32)), .val (.ref b86), .val (.int i3), .val (.int i3), .val (.ref x143)] [(.int (1 : Int32)), (.int (1 : Int32))])
    refine Go.of (fun t k => XS.icmpYes X140.here hx rfl (pc0 := 137) (pc' := 142) rfl (hb hby at_137) rfl (teq (by decide : (1 : Int32) = (1 : Int32))).1 (by decide) (by decide) k) ?_
    show Go p e below Qo T140 (mkF m 142 #[.val (.int i1), .val (.int i2), .val (.int i3), .val (.int i4), .val (.int i5), .val (.int i6), .val (.int (2 : Int32)), .val (.ref b86), .val (.int i3), .val (.int i3), .val (.ref x143)] [])
    refine Go.of (fun t k => XS.iload X140.here hx rfl (hb hby at_142) rfl  k) ?_
    show Go p e below Qo T140 (mkF m 144 #[.val (.int i1), .val (.int i2), .val (.int i3), .val (.int i4), .val (.int i5), .val (.int i6), .val (.int (2 : Int32)), .val (.ref b86), .val (.int i3), .val (.int i3), .val (.ref x143)] [(.int (2 : Int32))])
    refine Go.of (fun t k => XS.iconst X140.here hx rfl (hb hby at_144) k) ?_
    show Go p e below Qo T140 (mkF m 145 #[.val (.int i1), .val (.int i2), .val (.int i3), .val (.int i4), .val (.int i5), .val (.int i6), .val (.int (2 : Int32)), .val (.ref b86), .val (.int i3), .val (.int i3), .val (.ref x143)] [(.int (1 : Int32)), (.int (2 : Int32))])
    refine Go.of (fun t k => XS.isub X140.here hx rfl (hb hby at_145) rfl k) ?_
    show Go p e below Qo T140 (mkF m 146 #[.val (.int i1), .val (.int i2), .val (.int i3), .val (.int i4), .val (.int i5), .val (.int i6), .val (.int (2 : Int32)), .val (.ref b86), .val (.int i3), .val (.int i3), .val (.ref x143)] [(.int (1 : Int32))])
    refine Go.of (fun t k => XS.iconst X140.here hx rfl (hb hby at_146) k) ?_
    show Go p e below Qo T140 (mkF m 147 #[.val (.int i1), .val (.int i2), .val (.int i3), .val (.int i4), .val (.int i5), .val (.int i6), .val (.int (2 : Int32)), .val (.ref b86), .val (.int i3), .val (.int i3), .val (.ref x143)] [(.int (1 : Int32)), (.int (1 : Int32))])
    refine Go.of (fun t k => XS.icmpNo X140.here hx rfl (hb hby at_147) rfl (flt (by decide : ¬ ((1 : Int32) < (1 : Int32)))).1 k) ?_
    show Go p e below Qo T140 (mkF m 150 #[.val (.int i1), .val (.int i2), .val (.int i3), .val (.int i4), .val (.int i5), .val (.int i6), .val (.int (2 : Int32)), .val (.ref b86), .val (.int i3), .val (.int i3), .val (.ref x143)] [])
    refine Go.of (fun t k => XS.aload X140.here hx rfl (hb hby at_150) rfl rfl k) ?_
    show Go p e below Qo T140 (mkF m 152 #[.val (.int i1), .val (.int i2), .val (.int i3), .val (.int i4), .val (.int i5), .val (.int i6), .val (.int (2 : Int32)), .val (.ref b86), .val (.int i3), .val (.int i3), .val (.ref x143)] [(.ref x143)])
    refine Go.of (fun t k => XS.iconst X140.here hx rfl (hb hby at_152) k) ?_
    show Go p e below Qo T140 (mkF m 153 #[.val (.int i1), .val (.int i2), .val (.int i3), .val (.int i4), .val (.int i5), .val (.int i6), .val (.int (2 : Int32)), .val (.ref b86), .val (.int i3), .val (.int i3), .val (.ref x143)] [(.int (0 : Int32)), (.ref x143)])
    have cpo158 := q146
    obtain ⟨clo158, Aro158, qco158, So158, Mo158, Ho158, Go158⟩ := cpo158
    have hin159 : ¬ ((0 : Int32) < 0 ∨ clo158.slots.size ≤ (0 : Int32).toNatClampNeg) := (inb_of So158 ⟨by decide, by decide⟩)
    refine Go.of (fun t k => X140.iaload hx (j := (0 : Int32)) (v := (.int i2)) Aro158.1 (State.isArrayOf_alike hZ.alike Aro158.2.1) Aro158.2.2 hin159 (Ho158.at hin159 rfl) (g := (mkF m 153 #[.val (.int i1), .val (.int i2), .val (.int i3), .val (.int i4), .val (.int i5), .val (.int i6), .val (.int (2 : Int32)), .val (.ref b86), .val (.int i3), .val (.int i3), .val (.ref x143)] [(.int (0 : Int32)), (.ref x143)])) rfl rfl (hb hby at_153) t k) ?_
    show Go p e below Qo T140 (mkF m 154 #[.val (.int i1), .val (.int i2), .val (.int i3), .val (.int i4), .val (.int i5), .val (.int i6), .val (.int (2 : Int32)), .val (.ref b86), .val (.int i3), .val (.int i3), .val (.ref x143)] [(.int i2)])
    refine Go.of (fun t k => XS.iloadN X140.here hx rfl (hb hby at_154) rfl  k) ?_
    show Go p e below Qo T140 (mkF m 155 #[.val (.int i1), .val (.int i2), .val (.int i3), .val (.int i4), .val (.int i5), .val (.int i6), .val (.int (2 : Int32)), .val (.ref b86), .val (.int i3), .val (.int i3), .val (.ref x143)] [(.int i2), (.int i2)])
    refine Go.of (fun t k => XS.icmpYes X140.here hx rfl (pc0 := 155) (pc' := 160) rfl (hb hby at_155) rfl (teq (rfl : i2 = i2)).1 (by decide) (by decide) k) ?_
    show Go p e below Qo T140 (mkF m 160 #[.val (.int i1), .val (.int i2), .val (.int i3), .val (.int i4), .val (.int i5), .val (.int i6), .val (.int (2 : Int32)), .val (.ref b86), .val (.int i3), .val (.int i3), .val (.ref x143)] [])
    refine Go.of (fun t k => XS.iload X140.here hx rfl (hb hby at_160) rfl  k) ?_
    show Go p e below Qo T140 (mkF m 162 #[.val (.int i1), .val (.int i2), .val (.int i3), .val (.int i4), .val (.int i5), .val (.int i6), .val (.int (2 : Int32)), .val (.ref b86), .val (.int i3), .val (.int i3), .val (.ref x143)] [(.int (2 : Int32))])
    refine Go.of (fun t k => XS.iconst X140.here hx rfl (hb hby at_162) k) ?_
    show Go p e below Qo T140 (mkF m 163 #[.val (.int i1), .val (.int i2), .val (.int i3), .val (.int i4), .val (.int i5), .val (.int i6), .val (.int (2 : Int32)), .val (.ref b86), .val (.int i3), .val (.int i3), .val (.ref x143)] [(.int (1 : Int32)), (.int (2 : Int32))])
    refine Go.of (fun t k => XS.isub X140.here hx rfl (hb hby at_163) rfl k) ?_
    show Go p e below Qo T140 (mkF m 164 #[.val (.int i1), .val (.int i2), .val (.int i3), .val (.int i4), .val (.int i5), .val (.int i6), .val (.int (2 : Int32)), .val (.ref b86), .val (.int i3), .val (.int i3), .val (.ref x143)] [(.int (1 : Int32))])
    refine Go.of (fun t k => XS.iconst X140.here hx rfl (hb hby at_164) k) ?_
    show Go p e below Qo T140 (mkF m 165 #[.val (.int i1), .val (.int i2), .val (.int i3), .val (.int i4), .val (.int i5), .val (.int i6), .val (.int (2 : Int32)), .val (.ref b86), .val (.int i3), .val (.int i3), .val (.ref x143)] [(.int (2 : Int32)), (.int (1 : Int32))])
    refine Go.of (fun t k => XS.icmpYes X140.here hx rfl (pc0 := 165) (pc' := 178) rfl (hb hby at_165) rfl (tlt (by decide : (1 : Int32) < (2 : Int32))).1 (by decide) (by decide) k) ?_
    show Go p e below Qo T140 (mkF m 178 #[.val (.int i1), .val (.int i2), .val (.int i3), .val (.int i4), .val (.int i5), .val (.int i6), .val (.int (2 : Int32)), .val (.ref b86), .val (.int i3), .val (.int i3), .val (.ref x143)] [])
    refine Go.of (fun t k => XS.iload X140.here hx rfl (hb hby at_178) rfl  k) ?_
    show Go p e below Qo T140 (mkF m 180 #[.val (.int i1), .val (.int i2), .val (.int i3), .val (.int i4), .val (.int i5), .val (.int i6), .val (.int (2 : Int32)), .val (.ref b86), .val (.int i3), .val (.int i3), .val (.ref x143)] [(.int (2 : Int32))])
    refine Go.of (fun t k => XS.iconst X140.here hx rfl (hb hby at_180) k) ?_
    show Go p e below Qo T140 (mkF m 181 #[.val (.int i1), .val (.int i2), .val (.int i3), .val (.int i4), .val (.int i5), .val (.int i6), .val (.int (2 : Int32)), .val (.ref b86), .val (.int i3), .val (.int i3), .val (.ref x143)] [(.int (1 : Int32)), (.int (2 : Int32))])
    refine Go.of (fun t k => XS.isub X140.here hx rfl (hb hby at_181) rfl k) ?_
    show Go p e below Qo T140 (mkF m 182 #[.val (.int i1), .val (.int i2), .val (.int i3), .val (.int i4), .val (.int i5), .val (.int i6), .val (.int (2 : Int32)), .val (.ref b86), .val (.int i3), .val (.int i3), .val (.ref x143)] [(.int (1 : Int32))])
    refine Go.of (fun t k => XS.iconst X140.here hx rfl (hb hby at_182) k) ?_
    show Go p e below Qo T140 (mkF m 183 #[.val (.int i1), .val (.int i2), .val (.int i3), .val (.int i4), .val (.int i5), .val (.int i6), .val (.int (2 : Int32)), .val (.ref b86), .val (.int i3), .val (.int i3), .val (.ref x143)] [(.int (3 : Int32)), (.int (1 : Int32))])
    refine Go.of (fun t k => XS.icmpYes X140.here hx rfl (pc0 := 183) (pc' := 196) rfl (hb hby at_183) rfl (tlt (by decide : (1 : Int32) < (3 : Int32))).1 (by decide) (by decide) k) ?_
    show Go p e below Qo T140 (mkF m 196 #[.val (.int i1), .val (.int i2), .val (.int i3), .val (.int i4), .val (.int i5), .val (.int i6), .val (.int (2 : Int32)), .val (.ref b86), .val (.int i3), .val (.int i3), .val (.ref x143)] [])
    refine Go.of (fun t k => XS.aload X140.here hx rfl (hb hby at_196) rfl rfl k) ?_
    show Go p e below Qo T140 (mkF m 198 #[.val (.int i1), .val (.int i2), .val (.int i3), .val (.int i4), .val (.int i5), .val (.int i6), .val (.int (2 : Int32)), .val (.ref b86), .val (.int i3), .val (.int i3), .val (.ref x143)] [(.ref b86)])
    refine Go.of (fun t k => XS.iload X140.here hx rfl (hb hby at_198) rfl  k) ?_
    show Go p e below Qo T140 (mkF m 200 #[.val (.int i1), .val (.int i2), .val (.int i3), .val (.int i4), .val (.int i5), .val (.int i6), .val (.int (2 : Int32)), .val (.ref b86), .val (.int i3), .val (.int i3), .val (.ref x143)] [(.int i6), (.ref b86)])
    obtain ⟨ciq161, kiq161, iq161a, iq161b, iq161c⟩ := isOf hZ rfl q153
    obtain ⟨_, _, ⟨T160, L160, k160, n160⟩, -, X160, ⟨Lc160, hQ160, l160, y160, z160⟩, st160⟩ := X140.virtualBack hx (y := (⟨"com/example/prompter/prompter/index/Ints", "add", "(I)V"⟩ : MethodName)) (z := (⟨"com/example/prompter/prompter/index/Ints", "add", "(I)V"⟩ : MethodName)) hown (mvT hZ (hw _ (List.mem_of_getElem? (i := 12) rfl))) (mvT hZ (hw _ (List.mem_of_getElem? (i := 13) rfl))) (notFace_of_selects (args := #[]) (mvT hZ (hw _ (List.mem_of_getElem? (i := 15) rfl)))) (mvT hZ (hw _ (List.mem_of_getElem? (i := 15) rfl))) (mvT hZ (hw _ (List.mem_of_getElem? (i := 14) rfl))) (by decide) (backOf (W := 0) (rm31 l Z a0 hw [] b86 i6 x93 x94 i2 i3 T140.heap n0 Z156 q153 q154 q155 q152 g87 g103 (Ne.symm ne102)) hZ (hw _ (List.mem_of_getElem? (i := 16) rfl)) (hw _ (List.mem_of_getElem? (i := 2) rfl)) (by decide) (by decide)) iq161a iq161c (g := (mkF m 200 #[.val (.int i1), .val (.int i2), .val (.int i3), .val (.int i4), .val (.int i5), .val (.int i6), .val (.int (2 : Int32)), .val (.ref b86), .val (.int i3), .val (.int i3), .val (.ref x143)] [(.int i6), (.ref b86)])) rfl (by rw [hml]; rfl) (Steps.refl _) (argsL := [(.int i6)]) (rest := []) (lenOf pd_3 rfl) rfl (by show 2 * 0 + _ ≤ _; exact Nat.le_of_eq rfl) (hb hby at_200) (fun _ _ => ⟨rfl, rfl, (by decide : 3 + 0 ≤ _), (by decide : 5 + 0 ≤ _)⟩)
    dsimp only [Pt.U, Pt.locs, Pt.cells, Pt.slots] at X160 l160 y160 z160 st160 hQ160
    subst l160 y160 z160
    obtain ⟨rfl, N162, Kc163, q164, q165, q166, q167⟩ := hQ160
    have N168 := Fr.app N148 N162
    have q169 : Arv Z T160.heap x143 x144 .int (1 : Int32) [(.int i2)] (.int (0 : Int32)) := q146.keep Kc163 (ninS (Ne.symm ne150) (ninS (Ne.symm ne149) nin0))
    have Z170 : n0 ≤ T160.heap.size := Nat.le_trans Z156 Kc163.1
    refine Go.via st160 ?_
    show Go p e below Qo T160 (mkF m 203 #[.val (.int i1), .val (.int i2), .val (.int i3), .val (.int i4), .val (.int i5), .val (.int i6), .val (.int (2 : Int32)), .val (.ref b86), .val (.int i3), .val (.int i3), .val (.ref x143)] [])
    refine Go.of (fun t k => XS.aload X160.here hx rfl (hb hby at_203) rfl rfl k) ?_
    show Go p e below Qo T160 (mkF m 205 #[.val (.int i1), .val (.int i2), .val (.int i3), .val (.int i4), .val (.int i5), .val (.int i6), .val (.int (2 : Int32)), .val (.ref b86), .val (.int i3), .val (.int i3), .val (.ref x143)] [(.ref b86)])
    obtain ⟨ciq172, kiq172, iq172a, iq172b, iq172c⟩ := isOf hZ rfl q164
    obtain ⟨_, _, ⟨T171, L171, k171, n171⟩, -, X171, ⟨Lc171, hQ171, l171, y171, z171⟩, st171⟩ := X160.virtualBack hx (y := (⟨"com/example/prompter/prompter/index/Ints", "removeLast", "()I"⟩ : MethodName)) (z := (⟨"com/example/prompter/prompter/index/Ints", "removeLast", "()I"⟩ : MethodName)) hown (mvT hZ (hw _ (List.mem_of_getElem? (i := 19) rfl))) (mvT hZ (hw _ (List.mem_of_getElem? (i := 20) rfl))) (notFace_of_selects (args := #[]) (mvT hZ (hw _ (List.mem_of_getElem? (i := 22) rfl)))) (mvT hZ (hw _ (List.mem_of_getElem? (i := 22) rfl))) (mvT hZ (hw _ (List.mem_of_getElem? (i := 21) rfl))) (by decide) (backOf (W := 0) (rm41 l Z a0 hw [] b86 x93 x94 i2 i6 T160.heap n0 Z170 q164 q165 q166 q167 g87 (Ne.symm ne102)) hZ (hw _ (List.mem_of_getElem? (i := 23) rfl)) (hw _ (List.mem_of_getElem? (i := 2) rfl)) (by decide) (by decide)) iq172a iq172c (g := (mkF m 205 #[.val (.int i1), .val (.int i2), .val (.int i3), .val (.int i4), .val (.int i5), .val (.int i6), .val (.int (2 : Int32)), .val (.ref b86), .val (.int i3), .val (.int i3), .val (.ref x143)] [(.ref b86)])) rfl (by rw [hml]; rfl) (Steps.refl _) (argsL := []) (rest := []) (lenOf pd_4 rfl) rfl (by show 2 * 0 + _ ≤ _; exact Nat.le_of_eq rfl) (hb hby at_205) (fun _ _ => ⟨rfl, rfl, (by decide : 3 + 0 ≤ _), (by decide : 5 + 0 ≤ _)⟩)
    dsimp only [Pt.U, Pt.locs, Pt.cells, Pt.slots] at X171 l171 y171 z171 st171 hQ171
    subst l171 y171 z171
    obtain ⟨rfl, N173, Kc174, q175, q176, q177⟩ := hQ171
    have N178 := Fr.app N168 N173
    have q179 : Arv Z T171.heap x143 x144 .int (1 : Int32) [(.int i2)] (.int (0 : Int32)) := q169.keep Kc174 (ninS (Ne.symm ne150) nin0)
    have q180 : Arv Z T171.heap x93 x94 .int (2 : Int32) [(.int i2), (.int i6)] (.int (0 : Int32)) := q167.keep Kc174 (ninS (Ne.symm ne102) nin0)
    have Z181 : n0 ≤ T171.heap.size := Nat.le_trans Z170 Kc174.1
    refine Go.via st171 ?_
    show Go p e below Qo T171 (mkF m 208 #[.val (.int i1), .val (.int i2), .val (.int i3), .val (.int i4), .val (.int i5), .val (.int i6), .val (.int (2 : Int32)), .val (.ref b86), .val (.int i3), .val (.int i3), .val (.ref x143)] [(.int i6)])
    refine Go.of (fun t k => XS.iload X171.here hx rfl (hb hby at_208) rfl  k) ?_
    show Go p e below Qo T171 (mkF m 210 #[.val (.int i1), .val (.int i2), .val (.int i3), .val (.int i4), .val (.int i5), .val (.int i6), .val (.int (2 : Int32)), .val (.ref b86), .val (.int i3), .val (.int i3), .val (.ref x143)] [(.int i6), (.int i6)])
    refine Go.of (fun t k => XS.icmpNo X171.here hx rfl (hb hby at_210) rfl (teq (rfl : i6 = i6)).2 k) ?_
    show Go p e below Qo T171 (mkF m 213 #[.val (.int i1), .val (.int i2), .val (.int i3), .val (.int i4), .val (.int i5), .val (.int i6), .val (.int (2 : Int32)), .val (.ref b86), .val (.int i3), .val (.int i3), .val (.ref x143)] [])
    refine Go.of (fun t k => XS.iconst X171.here hx rfl (hb hby at_213) k) ?_
    show Go p e below Qo T171 (mkF m 214 #[.val (.int i1), .val (.int i2), .val (.int i3), .val (.int i4), .val (.int i5), .val (.int i6), .val (.int (2 : Int32)), .val (.ref b86), .val (.int i3), .val (.int i3), .val (.ref x143)] [(.int (1 : Int32))])
    refine Go.of (fun t k => XS.goto X171.here hx rfl (pc0 := 214) (pc' := 218) rfl (hb hby at_214) (by decide) (by decide) k) ?_
    show Go p e below Qo T171 (mkF m 218 #[.val (.int i1), .val (.int i2), .val (.int i3), .val (.int i4), .val (.int i5), .val (.int i6), .val (.int (2 : Int32)), .val (.ref b86), .val (.int i3), .val (.int i3), .val (.ref x143)] [(.int (1 : Int32))])
    exact own_retN X171 hx Bd.notSynchronized (t := .boolean) Bd.returns (by simp) (hb hby at_218) (fun u hu hF => hQo _ _ _ ⟨rfl, N178⟩ (own_mono hF (by decide) (by decide)))
  · rw [qv1]
    show Go p e below Qo s₁ (mkF m 3 #[.val (.int i1), .val (.int i2), .val (.int i3), .val (.int i4), .val (.int i5), .val (.int i6), .unset, .unset, .unset, .unset, .unset] [(.int (2 : Int32))])
    refine Go.of (fun t k => XS.iconst X0.here hx rfl (hb hby at_3) k) ?_
    show Go p e below Qo s₁ (mkF m 4 #[.val (.int i1), .val (.int i2), .val (.int i3), .val (.int i4), .val (.int i5), .val (.int i6), .unset, .unset, .unset, .unset, .unset] [(.int (1 : Int32)), (.int (2 : Int32))])
    refine Go.of (fun t k => XS.iadd X0.here hx rfl (hb hby at_4) rfl k) ?_
    show Go p e below Qo s₁ (mkF m 5 #[.val (.int i1), .val (.int i2), .val (.int i3), .val (.int i4), .val (.int i5), .val (.int i6), .unset, .unset, .unset, .unset, .unset] [(.int (3 : Int32))])
    refine Go.of (fun t k => XS.istore X0.here hx rfl (hb hby at_5) rfl (l' := #[.val (.int i1), .val (.int i2), .val (.int i3), .val (.int i4), .val (.int i5), .val (.int i6), .val (.int (3 : Int32)), .unset, .unset, .unset, .unset]) rfl k) ?_
    show Go p e below Qo s₁ (mkF m 7 #[.val (.int i1), .val (.int i2), .val (.int i3), .val (.int i4), .val (.int i5), .val (.int i6), .val (.int (3 : Int32)), .unset, .unset, .unset, .unset] [])
    obtain ⟨T182, h182, X182, e182, E182, A182, D182, -, st182⟩ := newO X0 hx hZ hown (hw _ (List.mem_of_getElem? (i := 0) rfl)) (hw _ (List.mem_of_getElem? (i := 1) rfl)) (hw _ (List.mem_of_getElem? (i := 2) rfl)) e0 (g := (mkF m 7 #[.val (.int i1), .val (.int i2), .val (.int i3), .val (.int i4), .val (.int i5), .val (.int i6), .val (.int (3 : Int32)), .unset, .unset, .unset, .unset] [])) rfl (hb hby at_7) (by decide) (by decide)
    obtain ⟨b182, g182⟩ : ∃ z, z = h0.size := ⟨_, rfl⟩
    rw [← g182] at A182 D182 st182
    have g183 : n0 ≤ b182 := Nat.le_trans Z0 (Nat.le_of_eq g182.symm)
    have Z184 : n0 ≤ h182.size := Nat.le_trans Z0 E182.1
    have q185 : Fld Z h182 b182 "com/example/prompter/prompter/index/Ints" "values" "[I" .null := D182 (Or.inl (hw _ (List.mem_of_getElem? (i := 11) rfl))) (ty := (.array .int)) (by decide)
    have q186 : Fld Z h182 b182 "com/example/prompter/prompter/index/Ints" "size" "I" (.int (0 : Int32)) := D182 (Or.inl (hw _ (List.mem_of_getElem? (i := 18) rfl))) (ty := .int) (by decide)
    refine Go.of st182 ?_
    show Go p e below Qo T182 (mkF m 10 #[.val (.int i1), .val (.int i2), .val (.int i3), .val (.int i4), .val (.int i5), .val (.int i6), .val (.int (3 : Int32)), .unset, .unset, .unset, .unset] [(.ref b182)])
    refine Go.of (fun t k => XS.dup X182.here hx rfl (hb hby at_10) rfl rfl k) ?_
    show Go p e below Qo T182 (mkF m 11 #[.val (.int i1), .val (.int i2), .val (.int i3), .val (.int i4), .val (.int i5), .val (.int i6), .val (.int (3 : Int32)), .unset, .unset, .unset, .unset] [(.ref b182), (.ref b182)])
    obtain ⟨_, _, ⟨T187, L187, k187, n187⟩, -, X187, ⟨Lc187, hQ187, l187, y187, z187⟩, st187⟩ := X182.specialBack hx (y := (⟨"com/example/prompter/prompter/index/Ints", "<init>", "()V"⟩ : MethodName)) rfl hown (mvT hZ (hw _ (List.mem_of_getElem? (i := 3) rfl))) (mvT hZ (hw _ (List.mem_of_getElem? (i := 4) rfl))) (mvT hZ (hw _ (List.mem_of_getElem? (i := 5) rfl))) (by decide) (backOf (W := 1) (rm1 l Z a0 hw [] b182 .null (0 : Int32) h182 n0 Z184 A182 q185 q186 g183) hZ (hw _ (List.mem_of_getElem? (i := 5) rfl)) (hw _ (List.mem_of_getElem? (i := 2) rfl)) (by decide) (by decide)) (g := (mkF m 11 #[.val (.int i1), .val (.int i2), .val (.int i3), .val (.int i4), .val (.int i5), .val (.int i6), .val (.int (3 : Int32)), .unset, .unset, .unset, .unset] [(.ref b182), (.ref b182)])) rfl (by rw [hml]; rfl) (Steps.refl _) (a := b182) (argsL := []) (rest := [(.ref b182)]) (lenOf pd_2 rfl) rfl (by show 2 * 0 + _ ≤ _; exact Nat.le_of_eq rfl) (hb hby at_11) (fun _ _ => ⟨rfl, e182, (by decide : 1 + 1 ≤ _), (by decide : 2 + 2 ≤ _)⟩)
    dsimp only [Pt.U, Pt.locs, Pt.cells, Pt.slots] at X187 l187 y187 z187 st187 hQ187
    subst l187 y187 z187
    obtain ⟨x189, x190, rfl, N188, Kc191, g196, q192, q193, q194, q195⟩ := hQ187
    have N197 := Fr.app N0 N188
    have ne198 : b182 ≠ x189 := Nat.ne_of_lt (Nat.lt_of_lt_of_le A182.lt g196)
    have g199 : n0 ≤ x189 := Nat.le_trans Z184 g196
    have Z200 : n0 ≤ T187.heap.size := Nat.le_trans Z184 Kc191.1
    refine Go.via st187 ?_
    show Go p e below Qo T187 (mkF m 14 #[.val (.int i1), .val (.int i2), .val (.int i3), .val (.int i4), .val (.int i5), .val (.int i6), .val (.int (3 : Int32)), .unset, .unset, .unset, .unset] [(.ref b182)])
    refine Go.of (fun t k => XS.astore X187.here hx rfl (hb hby at_14) rfl rfl (l' := #[.val (.int i1), .val (.int i2), .val (.int i3), .val (.int i4), .val (.int i5), .val (.int i6), .val (.int (3 : Int32)), .val (.ref b182), .unset, .unset, .unset]) rfl k) ?_
    show Go p e below Qo T187 (mkF m 16 #[.val (.int i1), .val (.int i2), .val (.int i3), .val (.int i4), .val (.int i5), .val (.int i6), .val (.int (3 : Int32)), .val (.ref b182), .unset, .unset, .unset] [])
    refine Go.of (fun t k => XS.aload X187.here hx rfl (hb hby at_16) rfl rfl k) ?_
    show Go p e below Qo T187 (mkF m 18 #[.val (.int i1), .val (.int i2), .val (.int i3), .val (.int i4), .val (.int i5), .val (.int i6), .val (.int (3 : Int32)), .val (.ref b182), .unset, .unset, .unset] [(.ref b182)])
    refine Go.of (fun t k => XS.iloadN X187.here hx rfl (hb hby at_18) rfl  k) ?_
    show Go p e below Qo T187 (mkF m 19 #[.val (.int i1), .val (.int i2), .val (.int i3), .val (.int i4), .val (.int i5), .val (.int i6), .val (.int (3 : Int32)), .val (.ref b182), .unset, .unset, .unset] [(.int i2), (.ref b182)])
    obtain ⟨ciq202, kiq202, iq202a, iq202b, iq202c⟩ := isOf hZ rfl q192
    obtain ⟨_, _, ⟨T201, L201, k201, n201⟩, -, X201, ⟨Lc201, hQ201, l201, y201, z201⟩, st201⟩ := X187.virtualBack hx (y := (⟨"com/example/prompter/prompter/index/Ints", "add", "(I)V"⟩ : MethodName)) (z := (⟨"com/example/prompter/prompter/index/Ints", "add", "(I)V"⟩ : MethodName)) hown (mvT hZ (hw _ (List.mem_of_getElem? (i := 12) rfl))) (mvT hZ (hw _ (List.mem_of_getElem? (i := 13) rfl))) (notFace_of_selects (args := #[]) (mvT hZ (hw _ (List.mem_of_getElem? (i := 15) rfl)))) (mvT hZ (hw _ (List.mem_of_getElem? (i := 15) rfl))) (mvT hZ (hw _ (List.mem_of_getElem? (i := 14) rfl))) (by decide) (backOf (W := 0) (rm30 l Z a0 hw [] b182 i2 x189 x190 (0 : Int32) (0 : Int32) T187.heap n0 Z200 q192 q194 q193 q195 g183 g199 (Ne.symm ne198)) hZ (hw _ (List.mem_of_getElem? (i := 16) rfl)) (hw _ (List.mem_of_getElem? (i := 2) rfl)) (by decide) (by decide)) iq202a iq202c (g := (mkF m 19 #[.val (.int i1), .val (.int i2), .val (.int i3), .val (.int i4), .val (.int i5), .val (.int i6), .val (.int (3 : Int32)), .val (.ref b182), .unset, .unset, .unset] [(.int i2), (.ref b182)])) rfl (by rw [hml]; rfl) (Steps.refl _) (argsL := [(.int i2)]) (rest := []) (lenOf pd_3 rfl) rfl (by show 2 * 0 + _ ≤ _; exact Nat.le_of_eq rfl) (hb hby at_19) (fun _ _ => ⟨rfl, rfl, (by decide : 2 + 0 ≤ _), (by decide : 4 + 0 ≤ _)⟩)
    dsimp only [Pt.U, Pt.locs, Pt.cells, Pt.slots] at X201 l201 y201 z201 st201 hQ201
    subst l201 y201 z201
    obtain ⟨rfl, N203, Kc204, q205, q206, q207, q208⟩ := hQ201
    have N209 := Fr.app N197 N203
    have Z210 : n0 ≤ T201.heap.size := Nat.le_trans Z200 Kc204.1
    refine Go.via st201 ?_
    show Go p e below Qo T201 (mkF m 22 #[.val (.int i1), .val (.int i2), .val (.int i3), .val (.int i4), .val (.int i5), .val (.int i6), .val (.int (3 : Int32)), .val (.ref b182), .unset, .unset, .unset] [])
    refine Go.of (fun t k => XS.iload X201.here hx rfl (hb hby at_22) rfl  k) ?_
    show Go p e below Qo T201 (mkF m 24 #[.val (.int i1), .val (.int i2), .val (.int i3), .val (.int i4), .val (.int i5), .val (.int i6), .val (.int (3 : Int32)), .val (.ref b182), .unset, .unset, .unset] [(.int (3 : Int32))])
    refine Go.of (fun t k => XS.iconst X201.here hx rfl (hb hby at_24) k) ?_
    show Go p e below Qo T201 (mkF m 25 #[.val (.int i1), .val (.int i2), .val (.int i3), .val (.int i4), .val (.int i5), .val (.int i6), .val (.int (3 : Int32)), .val (.ref b182), .unset, .unset, .unset] [(.int (1 : Int32)), (.int (3 : Int32))])
    refine Go.of (fun t k => XS.icmpNo X201.here hx rfl (hb hby at_25) rfl (tlt (by decide : (1 : Int32) < (3 : Int32))).2.2.2 k) ?_
    show Go p e below Qo T201 (mkF m 28 #[.val (.int i1), .val (.int i2), .val (.int i3), .val (.int i4), .val (.int i5), .val (.int i6), .val (.int (3 : Int32)), .val (.ref b182), .unset, .unset, .unset] [])
    refine Go.of (fun t k => XS.aload X201.here hx rfl (hb hby at_28) rfl rfl k) ?_
    show Go p e below Qo T201 (mkF m 30 #[.val (.int i1), .val (.int i2), .val (.int i3), .val (.int i4), .val (.int i5), .val (.int i6), .val (.int (3 : Int32)), .val (.ref b182), .unset, .unset, .unset] [(.ref b182)])
    refine Go.of (fun t k => XS.iloadN X201.here hx rfl (hb hby at_30) rfl  k) ?_
    show Go p e below Qo T201 (mkF m 31 #[.val (.int i1), .val (.int i2), .val (.int i3), .val (.int i4), .val (.int i5), .val (.int i6), .val (.int (3 : Int32)), .val (.ref b182), .unset, .unset, .unset] [(.int i3), (.ref b182)])
    obtain ⟨ciq212, kiq212, iq212a, iq212b, iq212c⟩ := isOf hZ rfl q205
    obtain ⟨_, _, ⟨T211, L211, k211, n211⟩, -, X211, ⟨Lc211, hQ211, l211, y211, z211⟩, st211⟩ := X201.virtualBack hx (y := (⟨"com/example/prompter/prompter/index/Ints", "add", "(I)V"⟩ : MethodName)) (z := (⟨"com/example/prompter/prompter/index/Ints", "add", "(I)V"⟩ : MethodName)) hown (mvT hZ (hw _ (List.mem_of_getElem? (i := 12) rfl))) (mvT hZ (hw _ (List.mem_of_getElem? (i := 13) rfl))) (notFace_of_selects (args := #[]) (mvT hZ (hw _ (List.mem_of_getElem? (i := 15) rfl)))) (mvT hZ (hw _ (List.mem_of_getElem? (i := 15) rfl))) (mvT hZ (hw _ (List.mem_of_getElem? (i := 14) rfl))) (by decide) (backOf (W := 0) (rm31 l Z a0 hw [] b182 i3 x189 x190 i2 (0 : Int32) T201.heap n0 Z210 q205 q206 q207 q208 g183 g199 (Ne.symm ne198)) hZ (hw _ (List.mem_of_getElem? (i := 16) rfl)) (hw _ (List.mem_of_getElem? (i := 2) rfl)) (by decide) (by decide)) iq212a iq212c (g := (mkF m 31 #[.val (.int i1), .val (.int i2), .val (.int i3), .val (.int i4), .val (.int i5), .val (.int i6), .val (.int (3 : Int32)), .val (.ref b182), .unset, .unset, .unset] [(.int i3), (.ref b182)])) rfl (by rw [hml]; rfl) (Steps.refl _) (argsL := [(.int i3)]) (rest := []) (lenOf pd_3 rfl) rfl (by show 2 * 0 + _ ≤ _; exact Nat.le_of_eq rfl) (hb hby at_31) (fun _ _ => ⟨rfl, rfl, (by decide : 2 + 0 ≤ _), (by decide : 4 + 0 ≤ _)⟩)
    dsimp only [Pt.U, Pt.locs, Pt.cells, Pt.slots] at X211 l211 y211 z211 st211 hQ211
    subst l211 y211 z211
    obtain ⟨rfl, N213, Kc214, q215, q216, q217, q218⟩ := hQ211
    have N219 := Fr.app N209 N213
    have Z220 : n0 ≤ T211.heap.size := Nat.le_trans Z210 Kc214.1
    refine Go.via st211 ?_
    show Go p e below Qo T211 (mkF m 34 #[.val (.int i1), .val (.int i2), .val (.int i3), .val (.int i4), .val (.int i5), .val (.int i6), .val (.int (3 : Int32)), .val (.ref b182), .unset, .unset, .unset] [])
    refine Go.of (fun t k => XS.iload X211.here hx rfl (hb hby at_34) rfl  k) ?_
    show Go p e below Qo T211 (mkF m 36 #[.val (.int i1), .val (.int i2), .val (.int i3), .val (.int i4), .val (.int i5), .val (.int i6), .val (.int (3 : Int32)), .val (.ref b182), .unset, .unset, .unset] [(.int (3 : Int32))])
    refine Go.of (fun t k => XS.iconst X211.here hx rfl (hb hby at_36) k) ?_
    show Go p e below Qo T211 (mkF m 37 #[.val (.int i1), .val (.int i2), .val (.int i3), .val (.int i4), .val (.int i5), .val (.int i6), .val (.int (3 : Int32)), .val (.ref b182), .unset, .unset, .unset] [(.int (2 : Int32)), (.int (3 : Int32))])
    refine Go.of (fun t k => XS.icmpNo X211.here hx rfl (hb hby at_37) rfl (tlt (by decide : (2 : Int32) < (3 : Int32))).2.2.2 k) ?_
    show Go p e below Qo T211 (mkF m 40 #[.val (.int i1), .val (.int i2), .val (.int i3), .val (.int i4), .val (.int i5), .val (.int i6), .val (.int (3 : Int32)), .val (.ref b182), .unset, .unset, .unset] [])
    refine Go.of (fun t k => XS.aload X211.here hx rfl (hb hby at_40) rfl rfl k) ?_
    show Go p e below Qo T211 (mkF m 42 #[.val (.int i1), .val (.int i2), .val (.int i3), .val (.int i4), .val (.int i5), .val (.int i6), .val (.int (3 : Int32)), .val (.ref b182), .unset, .unset, .unset] [(.ref b182)])
    refine Go.of (fun t k => XS.iloadN X211.here hx rfl (hb hby at_42) rfl  k) ?_
    show Go p e below Qo T211 (mkF m 43 #[.val (.int i1), .val (.int i2), .val (.int i3), .val (.int i4), .val (.int i5), .val (.int i6), .val (.int (3 : Int32)), .val (.ref b182), .unset, .unset, .unset] [(.int i4), (.ref b182)])
    obtain ⟨ciq222, kiq222, iq222a, iq222b, iq222c⟩ := isOf hZ rfl q215
    obtain ⟨_, _, ⟨T221, L221, k221, n221⟩, -, X221, ⟨Lc221, hQ221, l221, y221, z221⟩, st221⟩ := X211.virtualBack hx (y := (⟨"com/example/prompter/prompter/index/Ints", "add", "(I)V"⟩ : MethodName)) (z := (⟨"com/example/prompter/prompter/index/Ints", "add", "(I)V"⟩ : MethodName)) hown (mvT hZ (hw _ (List.mem_of_getElem? (i := 12) rfl))) (mvT hZ (hw _ (List.mem_of_getElem? (i := 13) rfl))) (notFace_of_selects (args := #[]) (mvT hZ (hw _ (List.mem_of_getElem? (i := 15) rfl)))) (mvT hZ (hw _ (List.mem_of_getElem? (i := 15) rfl))) (mvT hZ (hw _ (List.mem_of_getElem? (i := 14) rfl))) (by decide) (backOf (W := 0) (rm32 l Z a0 hw [] b182 i4 x189 x190 i2 i3 T211.heap n0 Z220 q215 q216 q217 q218 g183 g199 (Ne.symm ne198)) hZ (hw _ (List.mem_of_getElem? (i := 16) rfl)) (hw _ (List.mem_of_getElem? (i := 2) rfl)) (by decide) (by decide)) iq222a iq222c (g := (mkF m 43 #[.val (.int i1), .val (.int i2), .val (.int i3), .val (.int i4), .val (.int i5), .val (.int i6), .val (.int (3 : Int32)), .val (.ref b182), .unset, .unset, .unset] [(.int i4), (.ref b182)])) rfl (by rw [hml]; rfl) (Steps.refl _) (argsL := [(.int i4)]) (rest := []) (lenOf pd_3 rfl) rfl (by show 2 * 0 + _ ≤ _; exact Nat.le_of_eq rfl) (hb hby at_43) (fun _ _ => ⟨rfl, rfl, (by decide : 2 + 1 ≤ _), (by decide : 4 + 4 ≤ _)⟩)
    dsimp only [Pt.U, Pt.locs, Pt.cells, Pt.slots] at X221 l221 y221 z221 st221 hQ221
    subst l221 y221 z221
    obtain ⟨x224, x225, rfl, N223, Kc226, g231, q227, q228, q229, q230⟩ := hQ221
    have N232 := Fr.app N219 N223
    have ne233 : b182 ≠ x224 := Nat.ne_of_lt (Nat.lt_of_lt_of_le q215.lt g231)
    have ne234 : x189 ≠ x224 := Nat.ne_of_lt (Nat.lt_of_lt_of_le q218.lt g231)
    have g235 : n0 ≤ x224 := Nat.le_trans Z220 g231
    have q236 : Arv Z T221.heap x189 x190 .int (2 : Int32) [(.int i2), (.int i3)] (.int (0 : Int32)) := q218.keep Kc226 (ninS (Ne.symm ne198) nin0)
    have Z237 : n0 ≤ T221.heap.size := Nat.le_trans Z220 Kc226.1
    refine Go.via st221 ?_
    show Go p e below Qo T221 (mkF m 46 #[.val (.int i1), .val (.int i2), .val (.int i3), .val (.int i4), .val (.int i5), .val (.int i6), .val (.int (3 : Int32)), .val (.ref b182), .unset, .unset, .unset] [])
    refine Go.of (fun t k => XS.iload X221.here hx rfl (hb hby at_46) rfl  k) ?_
    show Go p e below Qo T221 (mkF m 48 #[.val (.int i1), .val (.int i2), .val (.int i3), .val (.int i4), .val (.int i5), .val (.int i6), .val (.int (3 : Int32)), .val (.ref b182), .unset, .unset, .unset] [(.int (3 : Int32))])
    refine Go.of (fun t k => XS.iconst X221.here hx rfl (hb hby at_48) k) ?_
    show Go p e below Qo T221 (mkF m 49 #[.val (.int i1), .val (.int i2), .val (.int i3), .val (.int i4), .val (.int i5), .val (.int i6), .val (.int (3 : Int32)), .val (.ref b182), .unset, .unset, .unset] [(.int (3 : Int32)), (.int (3 : Int32))])
    refine Go.of (fun t k => XS.icmpYes X221.here hx rfl (pc0 := 49) (pc' := 59) rfl (hb hby at_49) rfl (flt (by decide : ¬ ((3 : Int32) < (3 : Int32)))).2.2.2 (by decide) (by decide) k) ?_
    show Go p e below Qo T221 (mkF m 59 #[.val (.int i1), .val (.int i2), .val (.int i3), .val (.int i4), .val (.int i5), .val (.int i6), .val (.int (3 : Int32)), .val (.ref b182), .unset, .unset, .unset] [])
    refine Go.of (fun t k => XS.iload X221.here hx rfl (hb hby at_59) rfl  k) ?_
    show Go p e below Qo T221 (mkF m 61 #[.val (.int i1), .val (.int i2), .val (.int i3), .val (.int i4), .val (.int i5), .val (.int i6), .val (.int (3 : Int32)), .val (.ref b182), .unset, .unset, .unset] [(.int (3 : Int32))])
    refine Go.of (fun t k => XS.iconst X221.here hx rfl (hb hby at_61) k) ?_
    show Go p e below Qo T221 (mkF m 62 #[.val (.int i1), .val (.int i2), .val (.int i3), .val (.int i4), .val (.int i5), .val (.int i6), .val (.int (3 : Int32)), .val (.ref b182), .unset, .unset, .unset] [(.int (1 : Int32)), (.int (3 : Int32))])
    refine Go.of (fun t k => XS.icmpYes X221.here hx rfl (pc0 := 62) (pc' := 69) rfl (hb hby at_62) rfl (feq (by decide : ¬ ((3 : Int32) = (1 : Int32)))).2 (by decide) (by decide) k) ?_
    show Go p e below Qo T221 (mkF m 69 #[.val (.int i1), .val (.int i2), .val (.int i3), .val (.int i4), .val (.int i5), .val (.int i6), .val (.int (3 : Int32)), .val (.ref b182), .unset, .unset, .unset] [])
    refine Go.of (fun t k => XS.iload X221.here hx rfl (hb hby at_69) rfl  k) ?_
    show Go p e below Qo T221 (mkF m 71 #[.val (.int i1), .val (.int i2), .val (.int i3), .val (.int i4), .val (.int i5), .val (.int i6), .val (.int (3 : Int32)), .val (.ref b182), .unset, .unset, .unset] [(.int (3 : Int32))])
    refine Go.of (fun t k => XS.iconst X221.here hx rfl (hb hby at_71) k) ?_
    show Go p e below Qo T221 (mkF m 72 #[.val (.int i1), .val (.int i2), .val (.int i3), .val (.int i4), .val (.int i5), .val (.int i6), .val (.int (3 : Int32)), .val (.ref b182), .unset, .unset, .unset] [(.int (2 : Int32)), (.int (3 : Int32))])
    refine Go.of (fun t k => XS.icmpYes X221.here hx rfl (pc0 := 72) (pc' := 79) rfl (hb hby at_72) rfl (feq (by decide : ¬ ((3 : Int32) = (2 : Int32)))).2 (by decide) (by decide) k) ?_
    show Go p e below Qo T221 (mkF m 79 #[.val (.int i1), .val (.int i2), .val (.int i3), .val (.int i4), .val (.int i5), .val (.int i6), .val (.int (3 : Int32)), .val (.ref b182), .unset, .unset, .unset] [])
    refine Go.of (fun t k => XS.iload X221.here hx rfl (hb hby at_79) rfl  k) ?_
    show Go p e below Qo T221 (mkF m 81 #[.val (.int i1), .val (.int i2), .val (.int i3), .val (.int i4), .val (.int i5), .val (.int i6), .val (.int (3 : Int32)), .val (.ref b182), .unset, .unset, .unset] [(.int (3 : Int32))])
    refine Go.of (fun t k => XS.iconst X221.here hx rfl (hb hby at_81) k) ?_
    show Go p e below Qo T221 (mkF m 82 #[.val (.int i1), .val (.int i2), .val (.int i3), .val (.int i4), .val (.int i5), .val (.int i6), .val (.int (3 : Int32)), .val (.ref b182), .unset, .unset, .unset] [(.int (3 : Int32)), (.int (3 : Int32))])
    refine Go.of (fun t k => XS.icmpNo X221.here hx rfl (hb hby at_82) rfl (teq (by decide : (3 : Int32) = (3 : Int32))).2 k) ?_
    show Go p e below Qo T221 (mkF m 85 #[.val (.int i1), .val (.int i2), .val (.int i3), .val (.int i4), .val (.int i5), .val (.int i6), .val (.int (3 : Int32)), .val (.ref b182), .unset, .unset, .unset] [])
    refine Go.of (fun t k => XS.iloadN X221.here hx rfl (hb hby at_85) rfl  k) ?_
    show Go p e below Qo T221 (mkF m 86 #[.val (.int i1), .val (.int i2), .val (.int i3), .val (.int i4), .val (.int i5), .val (.int i6), .val (.int (3 : Int32)), .val (.ref b182), .unset, .unset, .unset] [(.int i4)])
    refine Go.of (fun t k => XS.goto X221.here hx rfl (pc0 := 86) (pc' := 91) rfl (hb hby at_86) (by decide) (by decide) k) ?_
    show Go p e below Qo T221 (mkF m 91 #[.val (.int i1), .val (.int i2), .val (.int i3), .val (.int i4), .val (.int i5), .val (.int i6), .val (.int (3 : Int32)), .val (.ref b182), .unset, .unset, .unset] [(.int i4)])
    refine Go.of (fun t k => XS.istore X221.here hx rfl (hb hby at_91) rfl (l' := #[.val (.int i1), .val (.int i2), .val (.int i3), .val (.int i4), .val (.int i5), .val (.int i6), .val (.int (3 : Int32)), .val (.ref b182), .val (.int i4), .unset, .unset]) rfl k) ?_
    show Go p e below Qo T221 (mkF m 93 #[.val (.int i1), .val (.int i2), .val (.int i3), .val (.int i4), .val (.int i5), .val (.int i6), .val (.int (3 : Int32)), .val (.ref b182), .val (.int i4), .unset, .unset] [])
    refine Go.of (fun t k => XS.aload X221.here hx rfl (hb hby at_93) rfl rfl k) ?_
    show Go p e below Qo T221 (mkF m 95 #[.val (.int i1), .val (.int i2), .val (.int i3), .val (.int i4), .val (.int i5), .val (.int i6), .val (.int (3 : Int32)), .val (.ref b182), .val (.int i4), .unset, .unset] [(.ref b182)])
    obtain ⟨ciq239, kiq239, iq239a, iq239b, iq239c⟩ := isOf hZ rfl q227
    obtain ⟨_, _, ⟨T238, L238, k238, n238⟩, -, X238, ⟨Lc238, hQ238, l238, y238, z238⟩, st238⟩ := X221.virtualBack hx (y := (⟨"com/example/prompter/prompter/index/Ints", "removeLast", "()I"⟩ : MethodName)) (z := (⟨"com/example/prompter/prompter/index/Ints", "removeLast", "()I"⟩ : MethodName)) hown (mvT hZ (hw _ (List.mem_of_getElem? (i := 19) rfl))) (mvT hZ (hw _ (List.mem_of_getElem? (i := 20) rfl))) (notFace_of_selects (args := #[]) (mvT hZ (hw _ (List.mem_of_getElem? (i := 22) rfl)))) (mvT hZ (hw _ (List.mem_of_getElem? (i := 22) rfl))) (mvT hZ (hw _ (List.mem_of_getElem? (i := 21) rfl))) (by decide) (backOf (W := 0) (rm42 l Z a0 hw [] b182 x224 x225 i2 i3 i4 (0 : Int32) T221.heap n0 Z237 q227 q228 q229 q230 g183 (Ne.symm ne233)) hZ (hw _ (List.mem_of_getElem? (i := 23) rfl)) (hw _ (List.mem_of_getElem? (i := 2) rfl)) (by decide) (by decide)) iq239a iq239c (g := (mkF m 95 #[.val (.int i1), .val (.int i2), .val (.int i3), .val (.int i4), .val (.int i5), .val (.int i6), .val (.int (3 : Int32)), .val (.ref b182), .val (.int i4), .unset, .unset] [(.ref b182)])) rfl (by rw [hml]; rfl) (Steps.refl _) (argsL := []) (rest := []) (lenOf pd_4 rfl) rfl (by show 2 * 0 + _ ≤ _; exact Nat.le_of_eq rfl) (hb hby at_95) (fun _ _ => ⟨rfl, rfl, (by decide : 3 + 0 ≤ _), (by decide : 8 + 0 ≤ _)⟩)
    dsimp only [Pt.U, Pt.locs, Pt.cells, Pt.slots] at X238 l238 y238 z238 st238 hQ238
    subst l238 y238 z238
    obtain ⟨rfl, N240, Kc241, q242, q243, q244⟩ := hQ238
    have N245 := Fr.app N232 N240
    have q246 : Arv Z T238.heap x224 x225 .int (4 : Int32) [(.int i2), (.int i3), (.int i4), (.int (0 : Int32))] (.int (0 : Int32)) := q230.keep Kc241 (ninS (Ne.symm ne233) nin0)
    have Z247 : n0 ≤ T238.heap.size := Nat.le_trans Z237 Kc241.1
    refine Go.via st238 ?_
    show Go p e below Qo T238 (mkF m 98 #[.val (.int i1), .val (.int i2), .val (.int i3), .val (.int i4), .val (.int i5), .val (.int i6), .val (.int (3 : Int32)), .val (.ref b182), .val (.int i4), .unset, .unset] [(.int i4)])
    refine Go.of (fun t k => XS.istore X238.here hx rfl (hb hby at_98) rfl (l' := #[.val (.int i1), .val (.int i2), .val (.int i3), .val (.int i4), .val (.int i5), .val (.int i6), .val (.int (3 : Int32)), .val (.ref b182), .val (.int i4), .val (.int i4), .unset]) rfl k) ?_
    show Go p e below Qo T238 (mkF m 100 #[.val (.int i1), .val (.int i2), .val (.int i3), .val (.int i4), .val (.int i5), .val (.int i6), .val (.int (3 : Int32)), .val (.ref b182), .val (.int i4), .val (.int i4), .unset] [])
    refine Go.of (fun t k => XS.iload X238.here hx rfl (hb hby at_100) rfl  k) ?_
    show Go p e below Qo T238 (mkF m 102 #[.val (.int i1), .val (.int i2), .val (.int i3), .val (.int i4), .val (.int i5), .val (.int i6), .val (.int (3 : Int32)), .val (.ref b182), .val (.int i4), .val (.int i4), .unset] [(.int i4)])
    refine Go.of (fun t k => XS.iload X238.here hx rfl (hb hby at_102) rfl  k) ?_
    show Go p e below Qo T238 (mkF m 104 #[.val (.int i1), .val (.int i2), .val (.int i3), .val (.int i4), .val (.int i5), .val (.int i6), .val (.int (3 : Int32)), .val (.ref b182), .val (.int i4), .val (.int i4), .unset] [(.int i4), (.int i4)])
    refine Go.of (fun t k => XS.icmpYes X238.here hx rfl (pc0 := 104) (pc' := 109) rfl (hb hby at_104) rfl (teq (rfl : i4 = i4)).1 (by decide) (by decide) k) ?_
    show Go p e below Qo T238 (mkF m 109 #[.val (.int i1), .val (.int i2), .val (.int i3), .val (.int i4), .val (.int i5), .val (.int i6), .val (.int (3 : Int32)), .val (.ref b182), .val (.int i4), .val (.int i4), .unset] [])
    refine Go.of (fun t k => XS.aload X238.here hx rfl (hb hby at_109) rfl rfl k) ?_
    show Go p e below Qo T238 (mkF m 111 #[.val (.int i1), .val (.int i2), .val (.int i3), .val (.int i4), .val (.int i5), .val (.int i6), .val (.int (3 : Int32)), .val (.ref b182), .val (.int i4), .val (.int i4), .unset] [(.ref b182)])
    obtain ⟨ciq249, kiq249, iq249a, iq249b, iq249c⟩ := isOf hZ rfl q242
    obtain ⟨_, _, ⟨T248, L248, k248, n248⟩, -, X248, ⟨Lc248, hQ248, l248, y248, z248⟩, st248⟩ := X238.virtualBack hx (y := (⟨"com/example/prompter/prompter/index/Ints", "size", "()I"⟩ : MethodName)) (z := (⟨"com/example/prompter/prompter/index/Ints", "size", "()I"⟩ : MethodName)) hown (mvT hZ (hw _ (List.mem_of_getElem? (i := 24) rfl))) (mvT hZ (hw _ (List.mem_of_getElem? (i := 25) rfl))) (notFace_of_selects (args := #[]) (mvT hZ (hw _ (List.mem_of_getElem? (i := 27) rfl)))) (mvT hZ (hw _ (List.mem_of_getElem? (i := 27) rfl))) (mvT hZ (hw _ (List.mem_of_getElem? (i := 26) rfl))) (by decide) (backOf (W := 0) (rm5 l Z a0 hw [] b182 (2 : Int32) T238.heap n0 Z247 q243) hZ (hw _ (List.mem_of_getElem? (i := 28) rfl)) (hw _ (List.mem_of_getElem? (i := 2) rfl)) (by decide) (by decide)) iq249a iq249c (g := (mkF m 111 #[.val (.int i1), .val (.int i2), .val (.int i3), .val (.int i4), .val (.int i5), .val (.int i6), .val (.int (3 : Int32)), .val (.ref b182), .val (.int i4), .val (.int i4), .unset] [(.ref b182)])) rfl (by rw [hml]; rfl) (Steps.refl _) (argsL := []) (rest := []) (lenOf pd_4 rfl) rfl (by show 2 * 0 + _ ≤ _; exact Nat.le_of_eq rfl) (hb hby at_111) (fun _ _ => ⟨rfl, rfl, (by decide : 3 + 0 ≤ _), (by decide : 8 + 0 ≤ _)⟩)
    dsimp only [Pt.U, Pt.locs, Pt.cells, Pt.slots] at X248 l248 y248 z248 st248 hQ248
    subst l248 y248 z248
    obtain ⟨rfl, N250, eh251⟩ := hQ248
    have N252 := Fr.app N245 N250
    refine Go.via st248 ?_
    show Go p e below Qo T248 (mkF m 114 #[.val (.int i1), .val (.int i2), .val (.int i3), .val (.int i4), .val (.int i5), .val (.int i6), .val (.int (3 : Int32)), .val (.ref b182), .val (.int i4), .val (.int i4), .unset] [(.int (2 : Int32))])
    refine Go.of (fun t k => XS.iload X248.here hx rfl (hb hby at_114) rfl  k) ?_
    show Go p e below Qo T248 (mkF m 116 #[.val (.int i1), .val (.int i2), .val (.int i3), .val (.int i4), .val (.int i5), .val (.int i6), .val (.int (3 : Int32)), .val (.ref b182), .val (.int i4), .val (.int i4), .unset] [(.int (3 : Int32)), (.int (2 : Int32))])
    refine Go.of (fun t k => XS.iconst X248.here hx rfl (hb hby at_116) k) ?_
    show Go p e below Qo T248 (mkF m 117 #[.val (.int i1), .val (.int i2), .val (.int i3), .val (.int i4), .val (.int i5), .val (.int i6), .val (.int (3 : Int32)), .val (.ref b182), .val (.int i4), .val (.int i4), .unset] [(.int (1 : Int32)), (.int (3 : Int32)), (.int (2 : Int32))])
    refine Go.of (fun t k => XS.isub X248.here hx rfl (hb hby at_117) rfl k) ?_
    show Go p e below Qo T248 (mkF m 118 #[.val (.int i1), .val (.int i2), .val (.int i3), .val (.int i4), .val (.int i5), .val (.int i6), .val (.int (3 : Int32)), .val (.ref b182), .val (.int i4), .val (.int i4), .unset] [(.int (2 : Int32)), (.int (2 : Int32))])
    refine Go.of (fun t k => XS.icmpYes X248.here hx rfl (pc0 := 118) (pc' := 123) rfl (hb hby at_118) rfl (teq (by decide : (2 : Int32) = (2 : Int32))).1 (by decide) (by decide) k) ?_
    show Go p e below Qo T248 (mkF m 123 #[.val (.int i1), .val (.int i2), .val (.int i3), .val (.int i4), .val (.int i5), .val (.int i6), .val (.int (3 : Int32)), .val (.ref b182), .val (.int i4), .val (.int i4), .unset] [])
    refine Go.of (fun t k => XS.aload X248.here hx rfl (hb hby at_123) rfl rfl k) ?_
    show Go p e below Qo T248 (mkF m 125 #[.val (.int i1), .val (.int i2), .val (.int i3), .val (.int i4), .val (.int i5), .val (.int i6), .val (.int (3 : Int32)), .val (.ref b182), .val (.int i4), .val (.int i4), .unset] [(.ref b182)])
    obtain ⟨ciq254, kiq254, iq254a, iq254b, iq254c⟩ := isOf hZ eh251 q242
    obtain ⟨_, _, ⟨T253, L253, k253, n253⟩, -, X253, ⟨Lc253, hQ253, l253, y253, z253⟩, st253⟩ := X248.virtualBack hx (y := (⟨"com/example/prompter/prompter/index/Ints", "toArray", "()[I"⟩ : MethodName)) (z := (⟨"com/example/prompter/prompter/index/Ints", "toArray", "()[I"⟩ : MethodName)) hown (mvT hZ (hw _ (List.mem_of_getElem? (i := 29) rfl))) (mvT hZ (hw _ (List.mem_of_getElem? (i := 30) rfl))) (notFace_of_selects (args := #[]) (mvT hZ (hw _ (List.mem_of_getElem? (i := 32) rfl)))) (mvT hZ (hw _ (List.mem_of_getElem? (i := 32) rfl))) (mvT hZ (hw _ (List.mem_of_getElem? (i := 31) rfl))) (by decide) (backOf (W := 0) (rm52 l Z a0 hw [] b182 x224 x225 i2 i3 i4 (0 : Int32) T238.heap n0 Z247 q242 q243 q244 q246) hZ (hw _ (List.mem_of_getElem? (i := 33) rfl)) (hw _ (List.mem_of_getElem? (i := 2) rfl)) (by decide) (by decide)) iq254a iq254c (g := (mkF m 125 #[.val (.int i1), .val (.int i2), .val (.int i3), .val (.int i4), .val (.int i5), .val (.int i6), .val (.int (3 : Int32)), .val (.ref b182), .val (.int i4), .val (.int i4), .unset] [(.ref b182)])) rfl (by rw [hml]; rfl) (Steps.refl _) (argsL := []) (rest := []) (lenOf pd_5 rfl) rfl (by show 2 * 0 + _ ≤ _; exact Nat.le_of_eq rfl) (hb hby at_125) (fun _ _ => ⟨rfl, eh251, (by decide : 3 + 1 ≤ _), (by decide : 8 + 2 ≤ _)⟩)
    dsimp only [Pt.U, Pt.locs, Pt.cells, Pt.slots] at X253 l253 y253 z253 st253 hQ253
    subst l253 y253 z253
    obtain ⟨x256, x257, rfl, N255, Kc258, g260, q259⟩ := hQ253
    have N261 := Fr.app N252 N255
    have ne262 : x224 ≠ x256 := Nat.ne_of_lt (Nat.lt_of_lt_of_le q246.lt g260)
    have ne263 : b182 ≠ x256 := Nat.ne_of_lt (Nat.lt_of_lt_of_le q242.lt g260)
    have g264 : n0 ≤ x256 := Nat.le_trans Z247 g260
    have q265 : Arv Z T253.heap x224 x225 .int (4 : Int32) [(.int i2), (.int i3), (.int i4), (.int (0 : Int32))] (.int (0 : Int32)) := q246.keep Kc258 nin0
    have q266 : Exa Z T253.heap b182 "com/example/prompter/prompter/index/Ints" := q242.keep Kc258
    have q267 : Fld Z T253.heap b182 "com/example/prompter/prompter/index/Ints" "size" "I" (.int (2 : Int32)) := q243.keep Kc258 nin0
    have q268 : Fld Z T253.heap b182 "com/example/prompter/prompter/index/Ints" "values" "[I" (.ref x224) := q244.keep Kc258 nin0
    have Z269 : n0 ≤ T253.heap.size := Nat.le_trans Z247 Kc258.1
    refine Go.via st253 ?_
    show Go p e below Qo T253 (mkF m 128 #[.val (.int i1), .val (.int i2), .val (.int i3), .val (.int i4), .val (.int i5), .val (.int i6), .val (.int (3 : Int32)), .val (.ref b182), .val (.int i4), .val (.int i4), .unset] [(.ref x256)])
    refine Go.of (fun t k => XS.astore X253.here hx rfl (hb hby at_128) rfl rfl (l' := #[.val (.int i1), .val (.int i2), .val (.int i3), .val (.int i4), .val (.int i5), .val (.int i6), .val (.int (3 : Int32)), .val (.ref b182), .val (.int i4), .val (.int i4), .val (.ref x256)]) rfl k) ?_
    show Go p e below Qo T253 (mkF m 130 #[.val (.int i1), .val (.int i2), .val (.int i3), .val (.int i4), .val (.int i5), .val (.int i6), .val (.int (3 : Int32)), .val (.ref b182), .val (.int i4), .val (.int i4), .val (.ref x256)] [])
    refine Go.of (fun t k => XS.aload X253.here hx rfl (hb hby at_130) rfl rfl k) ?_
    show Go p e below Qo T253 (mkF m 132 #[.val (.int i1), .val (.int i2), .val (.int i3), .val (.int i4), .val (.int i5), .val (.int i6), .val (.int (3 : Int32)), .val (.ref b182), .val (.int i4), .val (.int i4), .val (.ref x256)] [(.ref x256)])
    have cpo270 := q259
    obtain ⟨clo270, Aro270, qco270, So270, Mo270, Ho270, Go270⟩ := cpo270
    refine Go.of (fun t k => X253.arraylength hx (cell := clo270) Aro270.1 (State.isArrayOf_alike hZ.alike Aro270.2.1) (g := (mkF m 132 #[.val (.int i1), .val (.int i2), .val (.int i3), .val (.int i4), .val (.int i5), .val (.int i6), .val (.int (3 : Int32)), .val (.ref b182), .val (.int i4), .val (.int i4), .val (.ref x256)] [(.ref x256)])) rfl rfl (hb hby at_132) t k) ?_
    rw [len_of So270 Mo270]
    show Go p e below Qo T253 (mkF m 133 #[.val (.int i1), .val (.int i2), .val (.int i3), .val (.int i4), .val (.int i5), .val (.int i6), .val (.int (3 : Int32)), .val (.ref b182), .val (.int i4), .val (.int i4), .val (.ref x256)] [(.int (2 : Int32))])
    refine Go.of (fun t k => XS.iload X253.here hx rfl (hb hby at_133) rfl  k) ?_
    show Go p e below Qo T253 (mkF m 135 #[.val (.int i1), .val (.int i2), .val (.int i3), .val (.int i4), .val (.int i5), .val (.int i6), .val (.int (3 : Int32)), .val (.ref b182), .val (.int i4), .val (.int i4), .val (.ref x256)] [(.int (3 : Int32)), (.int (2 : Int32))])
    refine Go.of (fun t k => XS.iconst X253.here hx rfl (hb hby at_135) k) ?_
    show Go p e below Qo T253 (mkF m 136 #[.val (.int i1), .val (.int i2), .val (.int i3), .val (.int i4), .val (.int i5), .val (.int i6), .val (.int (3 : Int32)), .val (.ref b182), .val (.int i4), .val (.int i4), .val (.ref x256)] [(.int (1 : Int32)), (.int (3 : Int32)), (.int (2 : Int32))])
    refine Go.of (fun t k => XS.isub X253.here hx rfl (hb hby at_136) rfl k) ?_
    show Go p e below Qo T253 (mkF m 137 #[.val (.int i1), .val (.int i2), .val (.int i3), .val (.int i4), .val (.int i5), .val (.int i6), .val (.int (3 : Int32)), .val (.ref b182), .val (.int i4), .val (.int i4), .val (.ref x256)] [(.int (2 : Int32)), (.int (2 : Int32))])
    refine Go.of (fun t k => XS.icmpYes X253.here hx rfl (pc0 := 137) (pc' := 142) rfl (hb hby at_137) rfl (teq (by decide : (2 : Int32) = (2 : Int32))).1 (by decide) (by decide) k) ?_
    show Go p e below Qo T253 (mkF m 142 #[.val (.int i1), .val (.int i2), .val (.int i3), .val (.int i4), .val (.int i5), .val (.int i6), .val (.int (3 : Int32)), .val (.ref b182), .val (.int i4), .val (.int i4), .val (.ref x256)] [])
    refine Go.of (fun t k => XS.iload X253.here hx rfl (hb hby at_142) rfl  k) ?_
    show Go p e below Qo T253 (mkF m 144 #[.val (.int i1), .val (.int i2), .val (.int i3), .val (.int i4), .val (.int i5), .val (.int i6), .val (.int (3 : Int32)), .val (.ref b182), .val (.int i4), .val (.int i4), .val (.ref x256)] [(.int (3 : Int32))])
    refine Go.of (fun t k => XS.iconst X253.here hx rfl (hb hby at_144) k) ?_
    show Go p e below Qo T253 (mkF m 145 #[.val (.int i1), .val (.int i2), .val (.int i3), .val (.int i4), .val (.int i5), .val (.int i6), .val (.int (3 : Int32)), .val (.ref b182), .val (.int i4), .val (.int i4), .val (.ref x256)] [(.int (1 : Int32)), (.int (3 : Int32))])
    refine Go.of (fun t k => XS.isub X253.here hx rfl (hb hby at_145) rfl k) ?_
    show Go p e below Qo T253 (mkF m 146 #[.val (.int i1), .val (.int i2), .val (.int i3), .val (.int i4), .val (.int i5), .val (.int i6), .val (.int (3 : Int32)), .val (.ref b182), .val (.int i4), .val (.int i4), .val (.ref x256)] [(.int (2 : Int32))])
    refine Go.of (fun t k => XS.iconst X253.here hx rfl (hb hby at_146) k) ?_
    show Go p e below Qo T253 (mkF m 147 #[.val (.int i1), .val (.int i2), .val (.int i3), .val (.int i4), .val (.int i5), .val (.int i6), .val (.int (3 : Int32)), .val (.ref b182), .val (.int i4), .val (.int i4), .val (.ref x256)] [(.int (1 : Int32)), (.int (2 : Int32))])
    refine Go.of (fun t k => XS.icmpNo X253.here hx rfl (hb hby at_147) rfl (flt (by decide : ¬ ((2 : Int32) < (1 : Int32)))).1 k) ?_
    show Go p e below Qo T253 (mkF m 150 #[.val (.int i1), .val (.int i2), .val (.int i3), .val (.int i4), .val (.int i5), .val (.int i6), .val (.int (3 : Int32)), .val (.ref b182), .val (.int i4), .val (.int i4), .val (.ref x256)] [])
    refine Go.of (fun t k => XS.aload X253.here hx rfl (hb hby at_150) rfl rfl k) ?_
    show Go p e below Qo T253 (mkF m 152 #[.val (.int i1), .val (.int i2), .val (.int i3), .val (.int i4), .val (.int i5), .val (.int i6), .val (.int (3 : Int32)), .val (.ref b182), .val (.int i4), .val (.int i4), .val (.ref x256)] [(.ref x256)])
    refine Go.of (fun t k => XS.iconst X253.here hx rfl (hb hby at_152) k) ?_
    show Go p e below Qo T253 (mkF m 153 #[.val (.int i1), .val (.int i2), .val (.int i3), .val (.int i4), .val (.int i5), .val (.int i6), .val (.int (3 : Int32)), .val (.ref b182), .val (.int i4), .val (.int i4), .val (.ref x256)] [(.int (0 : Int32)), (.ref x256)])
    have cpo271 := q259
    obtain ⟨clo271, Aro271, qco271, So271, Mo271, Ho271, Go271⟩ := cpo271
    have hin272 : ¬ ((0 : Int32) < 0 ∨ clo271.slots.size ≤ (0 : Int32).toNatClampNeg) := (inb_of So271 ⟨by decide, by decide⟩)
    refine Go.of (fun t k => X253.iaload hx (j := (0 : Int32)) (v := (.int i2)) Aro271.1 (State.isArrayOf_alike hZ.alike Aro271.2.1) Aro271.2.2 hin272 (Ho271.at hin272 rfl) (g := (mkF m 153 #[.val (.int i1), .val (.int i2), .val (.int i3), .val (.int i4), .val (.int i5), .val (.int i6), .val (.int (3 : Int32)), .val (.ref b182), .val (.int i4), .val (.int i4), .val (.ref x256)] [(.int (0 : Int32)), (.ref x256)])) rfl rfl (hb hby at_153) t k) ?_
    show Go p e below Qo T253 (mkF m 154 #[.val (.int i1), .val (.int i2), .val (.int i3), .val (.int i4), .val (.int i5), .val (.int i6), .val (.int (3 : Int32)), .val (.ref b182), .val (.int i4), .val (.int i4), .val (.ref x256)] [(.int i2)])
    refine Go.of (fun t k => XS.iloadN X253.here hx rfl (hb hby at_154) rfl  k) ?_
    show Go p e below Qo T253 (mkF m 155 #[.val (.int i1), .val (.int i2), .val (.int i3), .val (.int i4), .val (.int i5), .val (.int i6), .val (.int (3 : Int32)), .val (.ref b182), .val (.int i4), .val (.int i4), .val (.ref x256)] [(.int i2), (.int i2)])
    refine Go.of (fun t k => XS.icmpYes X253.here hx rfl (pc0 := 155) (pc' := 160) rfl (hb hby at_155) rfl (teq (rfl : i2 = i2)).1 (by decide) (by decide) k) ?_
    show Go p e below Qo T253 (mkF m 160 #[.val (.int i1), .val (.int i2), .val (.int i3), .val (.int i4), .val (.int i5), .val (.int i6), .val (.int (3 : Int32)), .val (.ref b182), .val (.int i4), .val (.int i4), .val (.ref x256)] [])
    refine Go.of (fun t k => XS.iload X253.here hx rfl (hb hby at_160) rfl  k) ?_
    show Go p e below Qo T253 (mkF m 162 #[.val (.int i1), .val (.int i2), .val (.int i3), .val (.int i4), .val (.int i5), .val (.int i6), .val (.int (3 : Int32)), .val (.ref b182), .val (.int i4), .val (.int i4), .val (.ref x256)] [(.int (3 : Int32))])
    refine Go.of (fun t k => XS.iconst X253.here hx rfl (hb hby at_162) k) ?_
    show Go p e below Qo T253 (mkF m 163 #[.val (.int i1), .val (.int i2), .val (.int i3), .val (.int i4), .val (.int i5), .val (.int i6), .val (.int (3 : Int32)), .val (.ref b182), .val (.int i4), .val (.int i4), .val (.ref x256)] [(.int (1 : Int32)), (.int (3 : Int32))])
    refine Go.of (fun t k => XS.isub X253.here hx rfl (hb hby at_163) rfl k) ?_
    show Go p e below Qo T253 (mkF m 164 #[.val (.int i1), .val (.int i2), .val (.int i3), .val (.int i4), .val (.int i5), .val (.int i6), .val (.int (3 : Int32)), .val (.ref b182), .val (.int i4), .val (.int i4), .val (.ref x256)] [(.int (2 : Int32))])
    refine Go.of (fun t k => XS.iconst X253.here hx rfl (hb hby at_164) k) ?_
    show Go p e below Qo T253 (mkF m 165 #[.val (.int i1), .val (.int i2), .val (.int i3), .val (.int i4), .val (.int i5), .val (.int i6), .val (.int (3 : Int32)), .val (.ref b182), .val (.int i4), .val (.int i4), .val (.ref x256)] [(.int (2 : Int32)), (.int (2 : Int32))])
    refine Go.of (fun t k => XS.icmpNo X253.here hx rfl (hb hby at_165) rfl (flt (by decide : ¬ ((2 : Int32) < (2 : Int32)))).1 k) ?_
    show Go p e below Qo T253 (mkF m 168 #[.val (.int i1), .val (.int i2), .val (.int i3), .val (.int i4), .val (.int i5), .val (.int i6), .val (.int (3 : Int32)), .val (.ref b182), .val (.int i4), .val (.int i4), .val (.ref x256)] [])
    refine Go.of (fun t k => XS.aload X253.here hx rfl (hb hby at_168) rfl rfl k) ?_
    show Go p e below Qo T253 (mkF m 170 #[.val (.int i1), .val (.int i2), .val (.int i3), .val (.int i4), .val (.int i5), .val (.int i6), .val (.int (3 : Int32)), .val (.ref b182), .val (.int i4), .val (.int i4), .val (.ref x256)] [(.ref x256)])
    refine Go.of (fun t k => XS.iconst X253.here hx rfl (hb hby at_170) k) ?_
    show Go p e below Qo T253 (mkF m 171 #[.val (.int i1), .val (.int i2), .val (.int i3), .val (.int i4), .val (.int i5), .val (.int i6), .val (.int (3 : Int32)), .val (.ref b182), .val (.int i4), .val (.int i4), .val (.ref x256)] [(.int (1 : Int32)), (.ref x256)])
    have cpo273 := q259
    obtain ⟨clo273, Aro273, qco273, So273, Mo273, Ho273, Go273⟩ := cpo273
    have hin274 : ¬ ((1 : Int32) < 0 ∨ clo273.slots.size ≤ (1 : Int32).toNatClampNeg) := (inb_of So273 ⟨by decide, by decide⟩)
    refine Go.of (fun t k => X253.iaload hx (j := (1 : Int32)) (v := (.int i3)) Aro273.1 (State.isArrayOf_alike hZ.alike Aro273.2.1) Aro273.2.2 hin274 (Ho273.at hin274 rfl) (g := (mkF m 171 #[.val (.int i1), .val (.int i2), .val (.int i3), .val (.int i4), .val (.int i5), .val (.int i6), .val (.int (3 : Int32)), .val (.ref b182), .val (.int i4), .val (.int i4), .val (.ref x256)] [(.int (1 : Int32)), (.ref x256)])) rfl rfl (hb hby at_171) t k) ?_
    show Go p e below Qo T253 (mkF m 172 #[.val (.int i1), .val (.int i2), .val (.int i3), .val (.int i4), .val (.int i5), .val (.int i6), .val (.int (3 : Int32)), .val (.ref b182), .val (.int i4), .val (.int i4), .val (.ref x256)] [(.int i3)])
    refine Go.of (fun t k => XS.iloadN X253.here hx rfl (hb hby at_172) rfl  k) ?_
    show Go p e below Qo T253 (mkF m 173 #[.val (.int i1), .val (.int i2), .val (.int i3), .val (.int i4), .val (.int i5), .val (.int i6), .val (.int (3 : Int32)), .val (.ref b182), .val (.int i4), .val (.int i4), .val (.ref x256)] [(.int i3), (.int i3)])
    refine Go.of (fun t k => XS.icmpYes X253.here hx rfl (pc0 := 173) (pc' := 178) rfl (hb hby at_173) rfl (teq (rfl : i3 = i3)).1 (by decide) (by decide) k) ?_
    show Go p e below Qo T253 (mkF m 178 #[.val (.int i1), .val (.int i2), .val (.int i3), .val (.int i4), .val (.int i5), .val (.int i6), .val (.int (3 : Int32)), .val (.ref b182), .val (.int i4), .val (.int i4), .val (.ref x256)] [])
    refine Go.of (fun t k => XS.iload X253.here hx rfl (hb hby at_178) rfl  k) ?_
    show Go p e below Qo T253 (mkF m 180 #[.val (.int i1), .val (.int i2), .val (.int i3), .val (.int i4), .val (.int i5), .val (.int i6), .val (.int (3 : Int32)), .val (.ref b182), .val (.int i4), .val (.int i4), .val (.ref x256)] [(.int (3 : Int32))])
    refine Go.of (fun t k => XS.iconst X253.here hx rfl (hb hby at_180) k) ?_
    show Go p e below Qo T253 (mkF m 181 #[.val (.int i1), .val (.int i2), .val (.int i3), .val (.int i4), .val (.int i5), .val (.int i6), .val (.int (3 : Int32)), .val (.ref b182), .val (.int i4), .val (.int i4), .val (.ref x256)] [(.int (1 : Int32)), (.int (3 : Int32))])
    refine Go.of (fun t k => XS.isub X253.here hx rfl (hb hby at_181) rfl k) ?_
    show Go p e below Qo T253 (mkF m 182 #[.val (.int i1), .val (.int i2), .val (.int i3), .val (.int i4), .val (.int i5), .val (.int i6), .val (.int (3 : Int32)), .val (.ref b182), .val (.int i4), .val (.int i4), .val (.ref x256)] [(.int (2 : Int32))])
    refine Go.of (fun t k => XS.iconst X253.here hx rfl (hb hby at_182) k) ?_
    show Go p e below Qo T253 (mkF m 183 #[.val (.int i1), .val (.int i2), .val (.int i3), .val (.int i4), .val (.int i5), .val (.int i6), .val (.int (3 : Int32)), .val (.ref b182), .val (.int i4), .val (.int i4), .val (.ref x256)] [(.int (3 : Int32)), (.int (2 : Int32))])
    refine Go.of (fun t k => XS.icmpYes X253.here hx rfl (pc0 := 183) (pc' := 196) rfl (hb hby at_183) rfl (tlt (by decide : (2 : Int32) < (3 : Int32))).1 (by decide) (by decide) k) ?_
    show Go p e below Qo T253 (mkF m 196 #[.val (.int i1), .val (.int i2), .val (.int i3), .val (.int i4), .val (.int i5), .val (.int i6), .val (.int (3 : Int32)), .val (.ref b182), .val (.int i4), .val (.int i4), .val (.ref x256)] [])
    refine Go.of (fun t k => XS.aload X253.here hx rfl (hb hby at_196) rfl rfl k) ?_
    show Go p e below Qo T253 (mkF m 198 #[.val (.int i1), .val (.int i2), .val (.int i3), .val (.int i4), .val (.int i5), .val (.int i6), .val (.int (3 : Int32)), .val (.ref b182), .val (.int i4), .val (.int i4), .val (.ref x256)] [(.ref b182)])
    refine Go.of (fun t k => XS.iload X253.here hx rfl (hb hby at_198) rfl  k) ?_
    show Go p e below Qo T253 (mkF m 200 #[.val (.int i1), .val (.int i2), .val (.int i3), .val (.int i4), .val (.int i5), .val (.int i6), .val (.int (3 : Int32)), .val (.ref b182), .val (.int i4), .val (.int i4), .val (.ref x256)] [(.int i6), (.ref b182)])
    obtain ⟨ciq276, kiq276, iq276a, iq276b, iq276c⟩ := isOf hZ rfl q266
    obtain ⟨_, _, ⟨T275, L275, k275, n275⟩, -, X275, ⟨Lc275, hQ275, l275, y275, z275⟩, st275⟩ := X253.virtualBack hx (y := (⟨"com/example/prompter/prompter/index/Ints", "add", "(I)V"⟩ : MethodName)) (z := (⟨"com/example/prompter/prompter/index/Ints", "add", "(I)V"⟩ : MethodName)) hown (mvT hZ (hw _ (List.mem_of_getElem? (i := 12) rfl))) (mvT hZ (hw _ (List.mem_of_getElem? (i := 13) rfl))) (notFace_of_selects (args := #[]) (mvT hZ (hw _ (List.mem_of_getElem? (i := 15) rfl)))) (mvT hZ (hw _ (List.mem_of_getElem? (i := 15) rfl))) (mvT hZ (hw _ (List.mem_of_getElem? (i := 14) rfl))) (by decide) (backOf (W := 0) (rm34 l Z a0 hw [] b182 i6 x224 x225 i2 i3 i4 (0 : Int32) T253.heap n0 Z269 q266 q267 q268 q265 g183 g235 (Ne.symm ne233)) hZ (hw _ (List.mem_of_getElem? (i := 16) rfl)) (hw _ (List.mem_of_getElem? (i := 2) rfl)) (by decide) (by decide)) iq276a iq276c (g := (mkF m 200 #[.val (.int i1), .val (.int i2), .val (.int i3), .val (.int i4), .val (.int i5), .val (.int i6), .val (.int (3 : Int32)), .val (.ref b182), .val (.int i4), .val (.int i4), .val (.ref x256)] [(.int i6), (.ref b182)])) rfl (by rw [hml]; rfl) (Steps.refl _) (argsL := [(.int i6)]) (rest := []) (lenOf pd_3 rfl) rfl (by show 2 * 0 + _ ≤ _; exact Nat.le_of_eq rfl) (hb hby at_200) (fun _ _ => ⟨rfl, rfl, (by decide : 4 + 0 ≤ _), (by decide : 10 + 0 ≤ _)⟩)
    dsimp only [Pt.U, Pt.locs, Pt.cells, Pt.slots] at X275 l275 y275 z275 st275 hQ275
    subst l275 y275 z275
    obtain ⟨rfl, N277, Kc278, q279, q280, q281, q282⟩ := hQ275
    have N283 := Fr.app N261 N277
    have q284 : Arv Z T275.heap x256 x257 .int (2 : Int32) [(.int i2), (.int i3)] (.int (0 : Int32)) := q259.keep Kc278 (ninS (Ne.symm ne263) (ninS (Ne.symm ne262) nin0))
    have Z285 : n0 ≤ T275.heap.size := Nat.le_trans Z269 Kc278.1
    refine Go.via st275 ?_
    show Go p e below Qo T275 (mkF m 203 #[.val (.int i1), .val (.int i2), .val (.int i3), .val (.int i4), .val (.int i5), .val (.int i6), .val (.int (3 : Int32)), .val (.ref b182), .val (.int i4), .val (.int i4), .val (.ref x256)] [])
    refine Go.of (fun t k => XS.aload X275.here hx rfl (hb hby at_203) rfl rfl k) ?_
    show Go p e below Qo T275 (mkF m 205 #[.val (.int i1), .val (.int i2), .val (.int i3), .val (.int i4), .val (.int i5), .val (.int i6), .val (.int (3 : Int32)), .val (.ref b182), .val (.int i4), .val (.int i4), .val (.ref x256)] [(.ref b182)])
    obtain ⟨ciq287, kiq287, iq287a, iq287b, iq287c⟩ := isOf hZ rfl q279
    obtain ⟨_, _, ⟨T286, L286, k286, n286⟩, -, X286, ⟨Lc286, hQ286, l286, y286, z286⟩, st286⟩ := X275.virtualBack hx (y := (⟨"com/example/prompter/prompter/index/Ints", "removeLast", "()I"⟩ : MethodName)) (z := (⟨"com/example/prompter/prompter/index/Ints", "removeLast", "()I"⟩ : MethodName)) hown (mvT hZ (hw _ (List.mem_of_getElem? (i := 19) rfl))) (mvT hZ (hw _ (List.mem_of_getElem? (i := 20) rfl))) (notFace_of_selects (args := #[]) (mvT hZ (hw _ (List.mem_of_getElem? (i := 22) rfl)))) (mvT hZ (hw _ (List.mem_of_getElem? (i := 22) rfl))) (mvT hZ (hw _ (List.mem_of_getElem? (i := 21) rfl))) (by decide) (backOf (W := 0) (rm42 l Z a0 hw [] b182 x224 x225 i2 i3 i6 (0 : Int32) T275.heap n0 Z285 q279 q280 q281 q282 g183 (Ne.symm ne233)) hZ (hw _ (List.mem_of_getElem? (i := 23) rfl)) (hw _ (List.mem_of_getElem? (i := 2) rfl)) (by decide) (by decide)) iq287a iq287c (g := (mkF m 205 #[.val (.int i1), .val (.int i2), .val (.int i3), .val (.int i4), .val (.int i5), .val (.int i6), .val (.int (3 : Int32)), .val (.ref b182), .val (.int i4), .val (.int i4), .val (.ref x256)] [(.ref b182)])) rfl (by rw [hml]; rfl) (Steps.refl _) (argsL := []) (rest := []) (lenOf pd_4 rfl) rfl (by show 2 * 0 + _ ≤ _; exact Nat.le_of_eq rfl) (hb hby at_205) (fun _ _ => ⟨rfl, rfl, (by decide : 4 + 0 ≤ _), (by decide : 10 + 0 ≤ _)⟩)
    dsimp only [Pt.U, Pt.locs, Pt.cells, Pt.slots] at X286 l286 y286 z286 st286 hQ286
    subst l286 y286 z286
    obtain ⟨rfl, N288, Kc289, q290, q291, q292⟩ := hQ286
    have N293 := Fr.app N283 N288
    have q294 : Arv Z T286.heap x256 x257 .int (2 : Int32) [(.int i2), (.int i3)] (.int (0 : Int32)) := q284.keep Kc289 (ninS (Ne.symm ne263) nin0)
    have q295 : Arv Z T286.heap x224 x225 .int (4 : Int32) [(.int i2), (.int i3), (.int i6), (.int (0 : Int32))] (.int (0 : Int32)) := q282.keep Kc289 (ninS (Ne.symm ne233) nin0)
    have Z296 : n0 ≤ T286.heap.size := Nat.le_trans Z285 Kc289.1
    refine Go.via st286 ?_
    show Go p e below Qo T286 (mkF m 208 #[.val (.int i1), .val (.int i2), .val (.int i3), .val (.int i4), .val (.int i5), .val (.int i6), .val (.int (3 : Int32)), .val (.ref b182), .val (.int i4), .val (.int i4), .val (.ref x256)] [(.int i6)])
    refine Go.of (fun t k => XS.iload X286.here hx rfl (hb hby at_208) rfl  k) ?_
    show Go p e below Qo T286 (mkF m 210 #[.val (.int i1), .val (.int i2), .val (.int i3), .val (.int i4), .val (.int i5), .val (.int i6), .val (.int (3 : Int32)), .val (.ref b182), .val (.int i4), .val (.int i4), .val (.ref x256)] [(.int i6), (.int i6)])
    refine Go.of (fun t k => XS.icmpNo X286.here hx rfl (hb hby at_210) rfl (teq (rfl : i6 = i6)).2 k) ?_
    show Go p e below Qo T286 (mkF m 213 #[.val (.int i1), .val (.int i2), .val (.int i3), .val (.int i4), .val (.int i5), .val (.int i6), .val (.int (3 : Int32)), .val (.ref b182), .val (.int i4), .val (.int i4), .val (.ref x256)] [])
    refine Go.of (fun t k => XS.iconst X286.here hx rfl (hb hby at_213) k) ?_
    show Go p e below Qo T286 (mkF m 214 #[.val (.int i1), .val (.int i2), .val (.int i3), .val (.int i4), .val (.int i5), .val (.int i6), .val (.int (3 : Int32)), .val (.ref b182), .val (.int i4), .val (.int i4), .val (.ref x256)] [(.int (1 : Int32))])
    refine Go.of (fun t k => XS.goto X286.here hx rfl (pc0 := 214) (pc' := 218) rfl (hb hby at_214) (by decide) (by decide) k) ?_
    show Go p e below Qo T286 (mkF m 218 #[.val (.int i1), .val (.int i2), .val (.int i3), .val (.int i4), .val (.int i5), .val (.int i6), .val (.int (3 : Int32)), .val (.ref b182), .val (.int i4), .val (.int i4), .val (.ref x256)] [(.int (1 : Int32))])
    exact own_retN X286 hx Bd.notSynchronized (t := .boolean) Bd.returns (by simp) (hb hby at_218) (fun u hu hF => hQo _ _ _ ⟨rfl, N293⟩ (own_mono hF (by decide) (by decide)))
  · rw [qv1]
    show Go p e below Qo s₁ (mkF m 3 #[.val (.int i1), .val (.int i2), .val (.int i3), .val (.int i4), .val (.int i5), .val (.int i6), .unset, .unset, .unset, .unset, .unset] [(.int (3 : Int32))])
    refine Go.of (fun t k => XS.iconst X0.here hx rfl (hb hby at_3) k) ?_
    show Go p e below Qo s₁ (mkF m 4 #[.val (.int i1), .val (.int i2), .val (.int i3), .val (.int i4), .val (.int i5), .val (.int i6), .unset, .unset, .unset, .unset, .unset] [(.int (1 : Int32)), (.int (3 : Int32))])
    refine Go.of (fun t k => XS.iadd X0.here hx rfl (hb hby at_4) rfl k) ?_
    show Go p e below Qo s₁ (mkF m 5 #[.val (.int i1), .val (.int i2), .val (.int i3), .val (.int i4), .val (.int i5), .val (.int i6), .unset, .unset, .unset, .unset, .unset] [(.int (4 : Int32))])
    refine Go.of (fun t k => XS.istore X0.here hx rfl (hb hby at_5) rfl (l' := #[.val (.int i1), .val (.int i2), .val (.int i3), .val (.int i4), .val (.int i5), .val (.int i6), .val (.int (4 : Int32)), .unset, .unset, .unset, .unset]) rfl k) ?_
    show Go p e below Qo s₁ (mkF m 7 #[.val (.int i1), .val (.int i2), .val (.int i3), .val (.int i4), .val (.int i5), .val (.int i6), .val (.int (4 : Int32)), .unset, .unset, .unset, .unset] [])
    obtain ⟨T297, h297, X297, e297, E297, A297, D297, -, st297⟩ := newO X0 hx hZ hown (hw _ (List.mem_of_getElem? (i := 0) rfl)) (hw _ (List.mem_of_getElem? (i := 1) rfl)) (hw _ (List.mem_of_getElem? (i := 2) rfl)) e0 (g := (mkF m 7 #[.val (.int i1), .val (.int i2), .val (.int i3), .val (.int i4), .val (.int i5), .val (.int i6), .val (.int (4 : Int32)), .unset, .unset, .unset, .unset] [])) rfl (hb hby at_7) (by decide) (by decide)
    obtain ⟨b297, g297⟩ : ∃ z, z = h0.size := ⟨_, rfl⟩
    rw [← g297] at A297 D297 st297
    have g298 : n0 ≤ b297 := Nat.le_trans Z0 (Nat.le_of_eq g297.symm)
    have Z299 : n0 ≤ h297.size := Nat.le_trans Z0 E297.1
    have q300 : Fld Z h297 b297 "com/example/prompter/prompter/index/Ints" "values" "[I" .null := D297 (Or.inl (hw _ (List.mem_of_getElem? (i := 11) rfl))) (ty := (.array .int)) (by decide)
    have q301 : Fld Z h297 b297 "com/example/prompter/prompter/index/Ints" "size" "I" (.int (0 : Int32)) := D297 (Or.inl (hw _ (List.mem_of_getElem? (i := 18) rfl))) (ty := .int) (by decide)
    refine Go.of st297 ?_
    show Go p e below Qo T297 (mkF m 10 #[.val (.int i1), .val (.int i2), .val (.int i3), .val (.int i4), .val (.int i5), .val (.int i6), .val (.int (4 : Int32)), .unset, .unset, .unset, .unset] [(.ref b297)])
    refine Go.of (fun t k => XS.dup X297.here hx rfl (hb hby at_10) rfl rfl k) ?_
    show Go p e below Qo T297 (mkF m 11 #[.val (.int i1), .val (.int i2), .val (.int i3), .val (.int i4), .val (.int i5), .val (.int i6), .val (.int (4 : Int32)), .unset, .unset, .unset, .unset] [(.ref b297), (.ref b297)])
    obtain ⟨_, _, ⟨T302, L302, k302, n302⟩, -, X302, ⟨Lc302, hQ302, l302, y302, z302⟩, st302⟩ := X297.specialBack hx (y := (⟨"com/example/prompter/prompter/index/Ints", "<init>", "()V"⟩ : MethodName)) rfl hown (mvT hZ (hw _ (List.mem_of_getElem? (i := 3) rfl))) (mvT hZ (hw _ (List.mem_of_getElem? (i := 4) rfl))) (mvT hZ (hw _ (List.mem_of_getElem? (i := 5) rfl))) (by decide) (backOf (W := 1) (rm1 l Z a0 hw [] b297 .null (0 : Int32) h297 n0 Z299 A297 q300 q301 g298) hZ (hw _ (List.mem_of_getElem? (i := 5) rfl)) (hw _ (List.mem_of_getElem? (i := 2) rfl)) (by decide) (by decide)) (g := (mkF m 11 #[.val (.int i1), .val (.int i2), .val (.int i3), .val (.int i4), .val (.int i5), .val (.int i6), .val (.int (4 : Int32)), .unset, .unset, .unset, .unset] [(.ref b297), (.ref b297)])) rfl (by rw [hml]; rfl) (Steps.refl _) (a := b297) (argsL := []) (rest := [(.ref b297)]) (lenOf pd_2 rfl) rfl (by show 2 * 0 + _ ≤ _; exact Nat.le_of_eq rfl) (hb hby at_11) (fun _ _ => ⟨rfl, e297, (by decide : 1 + 1 ≤ _), (by decide : 2 + 2 ≤ _)⟩)
    dsimp only [Pt.U, Pt.locs, Pt.cells, Pt.slots] at X302 l302 y302 z302 st302 hQ302
    subst l302 y302 z302
    obtain ⟨x304, x305, rfl, N303, Kc306, g311, q307, q308, q309, q310⟩ := hQ302
    have N312 := Fr.app N0 N303
    have ne313 : b297 ≠ x304 := Nat.ne_of_lt (Nat.lt_of_lt_of_le A297.lt g311)
    have g314 : n0 ≤ x304 := Nat.le_trans Z299 g311
    have Z315 : n0 ≤ T302.heap.size := Nat.le_trans Z299 Kc306.1
    refine Go.via st302 ?_
    show Go p e below Qo T302 (mkF m 14 #[.val (.int i1), .val (.int i2), .val (.int i3), .val (.int i4), .val (.int i5), .val (.int i6), .val (.int (4 : Int32)), .unset, .unset, .unset, .unset] [(.ref b297)])
    refine Go.of (fun t k => XS.astore X302.here hx rfl (hb hby at_14) rfl rfl (l' := #[.val (.int i1), .val (.int i2), .val (.int i3), .val (.int i4), .val (.int i5), .val (.int i6), .val (.int (4 : Int32)), .val (.ref b297), .unset, .unset, .unset]) rfl k) ?_
    show Go p e below Qo T302 (mkF m 16 #[.val (.int i1), .val (.int i2), .val (.int i3), .val (.int i4), .val (.int i5), .val (.int i6), .val (.int (4 : Int32)), .val (.ref b297), .unset, .unset, .unset] [])
    refine Go.of (fun t k => XS.aload X302.here hx rfl (hb hby at_16) rfl rfl k) ?_
    show Go p e below Qo T302 (mkF m 18 #[.val (.int i1), .val (.int i2), .val (.int i3), .val (.int i4), .val (.int i5), .val (.int i6), .val (.int (4 : Int32)), .val (.ref b297), .unset, .unset, .unset] [(.ref b297)])
    refine Go.of (fun t k => XS.iloadN X302.here hx rfl (hb hby at_18) rfl  k) ?_
    show Go p e below Qo T302 (mkF m 19 #[.val (.int i1), .val (.int i2), .val (.int i3), .val (.int i4), .val (.int i5), .val (.int i6), .val (.int (4 : Int32)), .val (.ref b297), .unset, .unset, .unset] [(.int i2), (.ref b297)])
    obtain ⟨ciq317, kiq317, iq317a, iq317b, iq317c⟩ := isOf hZ rfl q307
    obtain ⟨_, _, ⟨T316, L316, k316, n316⟩, -, X316, ⟨Lc316, hQ316, l316, y316, z316⟩, st316⟩ := X302.virtualBack hx (y := (⟨"com/example/prompter/prompter/index/Ints", "add", "(I)V"⟩ : MethodName)) (z := (⟨"com/example/prompter/prompter/index/Ints", "add", "(I)V"⟩ : MethodName)) hown (mvT hZ (hw _ (List.mem_of_getElem? (i := 12) rfl))) (mvT hZ (hw _ (List.mem_of_getElem? (i := 13) rfl))) (notFace_of_selects (args := #[]) (mvT hZ (hw _ (List.mem_of_getElem? (i := 15) rfl)))) (mvT hZ (hw _ (List.mem_of_getElem? (i := 15) rfl))) (mvT hZ (hw _ (List.mem_of_getElem? (i := 14) rfl))) (by decide) (backOf (W := 0) (rm30 l Z a0 hw [] b297 i2 x304 x305 (0 : Int32) (0 : Int32) T302.heap n0 Z315 q307 q309 q308 q310 g298 g314 (Ne.symm ne313)) hZ (hw _ (List.mem_of_getElem? (i := 16) rfl)) (hw _ (List.mem_of_getElem? (i := 2) rfl)) (by decide) (by decide)) iq317a iq317c (g := (mkF m 19 #[.val (.int i1), .val (.int i2), .val (.int i3), .val (.int i4), .val (.int i5), .val (.int i6), .val (.int (4 : Int32)), .val (.ref b297), .unset, .unset, .unset] [(.int i2), (.ref b297)])) rfl (by rw [hml]; rfl) (Steps.refl _) (argsL := [(.int i2)]) (rest := []) (lenOf pd_3 rfl) rfl (by show 2 * 0 + _ ≤ _; exact Nat.le_of_eq rfl) (hb hby at_19) (fun _ _ => ⟨rfl, rfl, (by decide : 2 + 0 ≤ _), (by decide : 4 + 0 ≤ _)⟩)
    dsimp only [Pt.U, Pt.locs, Pt.cells, Pt.slots] at X316 l316 y316 z316 st316 hQ316
    subst l316 y316 z316
    obtain ⟨rfl, N318, Kc319, q320, q321, q322, q323⟩ := hQ316
    have N324 := Fr.app N312 N318
    have Z325 : n0 ≤ T316.heap.size := Nat.le_trans Z315 Kc319.1
    refine Go.via st316 ?_
    show Go p e below Qo T316 (mkF m 22 #[.val (.int i1), .val (.int i2), .val (.int i3), .val (.int i4), .val (.int i5), .val (.int i6), .val (.int (4 : Int32)), .val (.ref b297), .unset, .unset, .unset] [])
    refine Go.of (fun t k => XS.iload X316.here hx rfl (hb hby at_22) rfl  k) ?_
    show Go p e below Qo T316 (mkF m 24 #[.val (.int i1), .val (.int i2), .val (.int i3), .val (.int i4), .val (.int i5), .val (.int i6), .val (.int (4 : Int32)), .val (.ref b297), .unset, .unset, .unset] [(.int (4 : Int32))])
    refine Go.of (fun t k => XS.iconst X316.here hx rfl (hb hby at_24) k) ?_
    show Go p e below Qo T316 (mkF m 25 #[.val (.int i1), .val (.int i2), .val (.int i3), .val (.int i4), .val (.int i5), .val (.int i6), .val (.int (4 : Int32)), .val (.ref b297), .unset, .unset, .unset] [(.int (1 : Int32)), (.int (4 : Int32))])
    refine Go.of (fun t k => XS.icmpNo X316.here hx rfl (hb hby at_25) rfl (tlt (by decide : (1 : Int32) < (4 : Int32))).2.2.2 k) ?_
    show Go p e below Qo T316 (mkF m 28 #[.val (.int i1), .val (.int i2), .val (.int i3), .val (.int i4), .val (.int i5), .val (.int i6), .val (.int (4 : Int32)), .val (.ref b297), .unset, .unset, .unset] [])
    refine Go.of (fun t k => XS.aload X316.here hx rfl (hb hby at_28) rfl rfl k) ?_
    show Go p e below Qo T316 (mkF m 30 #[.val (.int i1), .val (.int i2), .val (.int i3), .val (.int i4), .val (.int i5), .val (.int i6), .val (.int (4 : Int32)), .val (.ref b297), .unset, .unset, .unset] [(.ref b297)])
    refine Go.of (fun t k => XS.iloadN X316.here hx rfl (hb hby at_30) rfl  k) ?_
    show Go p e below Qo T316 (mkF m 31 #[.val (.int i1), .val (.int i2), .val (.int i3), .val (.int i4), .val (.int i5), .val (.int i6), .val (.int (4 : Int32)), .val (.ref b297), .unset, .unset, .unset] [(.int i3), (.ref b297)])
    obtain ⟨ciq327, kiq327, iq327a, iq327b, iq327c⟩ := isOf hZ rfl q320
    obtain ⟨_, _, ⟨T326, L326, k326, n326⟩, -, X326, ⟨Lc326, hQ326, l326, y326, z326⟩, st326⟩ := X316.virtualBack hx (y := (⟨"com/example/prompter/prompter/index/Ints", "add", "(I)V"⟩ : MethodName)) (z := (⟨"com/example/prompter/prompter/index/Ints", "add", "(I)V"⟩ : MethodName)) hown (mvT hZ (hw _ (List.mem_of_getElem? (i := 12) rfl))) (mvT hZ (hw _ (List.mem_of_getElem? (i := 13) rfl))) (notFace_of_selects (args := #[]) (mvT hZ (hw _ (List.mem_of_getElem? (i := 15) rfl)))) (mvT hZ (hw _ (List.mem_of_getElem? (i := 15) rfl))) (mvT hZ (hw _ (List.mem_of_getElem? (i := 14) rfl))) (by decide) (backOf (W := 0) (rm31 l Z a0 hw [] b297 i3 x304 x305 i2 (0 : Int32) T316.heap n0 Z325 q320 q321 q322 q323 g298 g314 (Ne.symm ne313)) hZ (hw _ (List.mem_of_getElem? (i := 16) rfl)) (hw _ (List.mem_of_getElem? (i := 2) rfl)) (by decide) (by decide)) iq327a iq327c (g := (mkF m 31 #[.val (.int i1), .val (.int i2), .val (.int i3), .val (.int i4), .val (.int i5), .val (.int i6), .val (.int (4 : Int32)), .val (.ref b297), .unset, .unset, .unset] [(.int i3), (.ref b297)])) rfl (by rw [hml]; rfl) (Steps.refl _) (argsL := [(.int i3)]) (rest := []) (lenOf pd_3 rfl) rfl (by show 2 * 0 + _ ≤ _; exact Nat.le_of_eq rfl) (hb hby at_31) (fun _ _ => ⟨rfl, rfl, (by decide : 2 + 0 ≤ _), (by decide : 4 + 0 ≤ _)⟩)
    dsimp only [Pt.U, Pt.locs, Pt.cells, Pt.slots] at X326 l326 y326 z326 st326 hQ326
    subst l326 y326 z326
    obtain ⟨rfl, N328, Kc329, q330, q331, q332, q333⟩ := hQ326
    have N334 := Fr.app N324 N328
    have Z335 : n0 ≤ T326.heap.size := Nat.le_trans Z325 Kc329.1
    refine Go.via st326 ?_
    show Go p e below Qo T326 (mkF m 34 #[.val (.int i1), .val (.int i2), .val (.int i3), .val (.int i4), .val (.int i5), .val (.int i6), .val (.int (4 : Int32)), .val (.ref b297), .unset, .unset, .unset] [])
    refine Go.of (fun t k => XS.iload X326.here hx rfl (hb hby at_34) rfl  k) ?_
    show Go p e below Qo T326 (mkF m 36 #[.val (.int i1), .val (.int i2), .val (.int i3), .val (.int i4), .val (.int i5), .val (.int i6), .val (.int (4 : Int32)), .val (.ref b297), .unset, .unset, .unset] [(.int (4 : Int32))])
    refine Go.of (fun t k => XS.iconst X326.here hx rfl (hb hby at_36) k) ?_
    show Go p e below Qo T326 (mkF m 37 #[.val (.int i1), .val (.int i2), .val (.int i3), .val (.int i4), .val (.int i5), .val (.int i6), .val (.int (4 : Int32)), .val (.ref b297), .unset, .unset, .unset] [(.int (2 : Int32)), (.int (4 : Int32))])
    refine Go.of (fun t k => XS.icmpNo X326.here hx rfl (hb hby at_37) rfl (tlt (by decide : (2 : Int32) < (4 : Int32))).2.2.2 k) ?_
    show Go p e below Qo T326 (mkF m 40 #[.val (.int i1), .val (.int i2), .val (.int i3), .val (.int i4), .val (.int i5), .val (.int i6), .val (.int (4 : Int32)), .val (.ref b297), .unset, .unset, .unset] [])
    refine Go.of (fun t k => XS.aload X326.here hx rfl (hb hby at_40) rfl rfl k) ?_
    show Go p e below Qo T326 (mkF m 42 #[.val (.int i1), .val (.int i2), .val (.int i3), .val (.int i4), .val (.int i5), .val (.int i6), .val (.int (4 : Int32)), .val (.ref b297), .unset, .unset, .unset] [(.ref b297)])
    refine Go.of (fun t k => XS.iloadN X326.here hx rfl (hb hby at_42) rfl  k) ?_
    show Go p e below Qo T326 (mkF m 43 #[.val (.int i1), .val (.int i2), .val (.int i3), .val (.int i4), .val (.int i5), .val (.int i6), .val (.int (4 : Int32)), .val (.ref b297), .unset, .unset, .unset] [(.int i4), (.ref b297)])
    obtain ⟨ciq337, kiq337, iq337a, iq337b, iq337c⟩ := isOf hZ rfl q330
    obtain ⟨_, _, ⟨T336, L336, k336, n336⟩, -, X336, ⟨Lc336, hQ336, l336, y336, z336⟩, st336⟩ := X326.virtualBack hx (y := (⟨"com/example/prompter/prompter/index/Ints", "add", "(I)V"⟩ : MethodName)) (z := (⟨"com/example/prompter/prompter/index/Ints", "add", "(I)V"⟩ : MethodName)) hown (mvT hZ (hw _ (List.mem_of_getElem? (i := 12) rfl))) (mvT hZ (hw _ (List.mem_of_getElem? (i := 13) rfl))) (notFace_of_selects (args := #[]) (mvT hZ (hw _ (List.mem_of_getElem? (i := 15) rfl)))) (mvT hZ (hw _ (List.mem_of_getElem? (i := 15) rfl))) (mvT hZ (hw _ (List.mem_of_getElem? (i := 14) rfl))) (by decide) (backOf (W := 0) (rm32 l Z a0 hw [] b297 i4 x304 x305 i2 i3 T326.heap n0 Z335 q330 q331 q332 q333 g298 g314 (Ne.symm ne313)) hZ (hw _ (List.mem_of_getElem? (i := 16) rfl)) (hw _ (List.mem_of_getElem? (i := 2) rfl)) (by decide) (by decide)) iq337a iq337c (g := (mkF m 43 #[.val (.int i1), .val (.int i2), .val (.int i3), .val (.int i4), .val (.int i5), .val (.int i6), .val (.int (4 : Int32)), .val (.ref b297), .unset, .unset, .unset] [(.int i4), (.ref b297)])) rfl (by rw [hml]; rfl) (Steps.refl _) (argsL := [(.int i4)]) (rest := []) (lenOf pd_3 rfl) rfl (by show 2 * 0 + _ ≤ _; exact Nat.le_of_eq rfl) (hb hby at_43) (fun _ _ => ⟨rfl, rfl, (by decide : 2 + 1 ≤ _), (by decide : 4 + 4 ≤ _)⟩)
    dsimp only [Pt.U, Pt.locs, Pt.cells, Pt.slots] at X336 l336 y336 z336 st336 hQ336
    subst l336 y336 z336
    obtain ⟨x339, x340, rfl, N338, Kc341, g346, q342, q343, q344, q345⟩ := hQ336
    have N347 := Fr.app N334 N338
    have ne348 : b297 ≠ x339 := Nat.ne_of_lt (Nat.lt_of_lt_of_le q330.lt g346)
    have ne349 : x304 ≠ x339 := Nat.ne_of_lt (Nat.lt_of_lt_of_le q333.lt g346)
    have g350 : n0 ≤ x339 := Nat.le_trans Z335 g346
    have q351 : Arv Z T336.heap x304 x305 .int (2 : Int32) [(.int i2), (.int i3)] (.int (0 : Int32)) := q333.keep Kc341 (ninS (Ne.symm ne313) nin0)
    have Z352 : n0 ≤ T336.heap.size := Nat.le_trans Z335 Kc341.1
    refine Go.via st336 ?_
    show Go p e below Qo T336 (mkF m 46 #[.val (.int i1), .val (.int i2), .val (.int i3), .val (.int i4), .val (.int i5), .val (.int i6), .val (.int (4 : Int32)), .val (.ref b297), .unset, .unset, .unset] [])
    refine Go.of (fun t k => XS.iload X336.here hx rfl (hb hby at_46) rfl  k) ?_
    show Go p e below Qo T336 (mkF m 48 #[.val (.int i1), .val (.int i2), .val (.int i3), .val (.int i4), .val (.int i5), .val (.int i6), .val (.int (4 : Int32)), .val (.ref b297), .unset, .unset, .unset] [(.int (4 : Int32))])
    refine Go.of (fun t k => XS.iconst X336.here hx rfl (hb hby at_48) k) ?_
    show Go p e below Qo T336 (mkF m 49 #[.val (.int i1), .val (.int i2), .val (.int i3), .val (.int i4), .val (.int i5), .val (.int i6), .val (.int (4 : Int32)), .val (.ref b297), .unset, .unset, .unset] [(.int (3 : Int32)), (.int (4 : Int32))])
    refine Go.of (fun t k => XS.icmpNo X336.here hx rfl (hb hby at_49) rfl (tlt (by decide : (3 : Int32) < (4 : Int32))).2.2.2 k) ?_
    show Go p e below Qo T336 (mkF m 52 #[.val (.int i1), .val (.int i2), .val (.int i3), .val (.int i4), .val (.int i5), .val (.int i6), .val (.int (4 : Int32)), .val (.ref b297), .unset, .unset, .unset] [])
    refine Go.of (fun t k => XS.aload X336.here hx rfl (hb hby at_52) rfl rfl k) ?_
    show Go p e below Qo T336 (mkF m 54 #[.val (.int i1), .val (.int i2), .val (.int i3), .val (.int i4), .val (.int i5), .val (.int i6), .val (.int (4 : Int32)), .val (.ref b297), .unset, .unset, .unset] [(.ref b297)])
    refine Go.of (fun t k => XS.iload X336.here hx rfl (hb hby at_54) rfl  k) ?_
    show Go p e below Qo T336 (mkF m 56 #[.val (.int i1), .val (.int i2), .val (.int i3), .val (.int i4), .val (.int i5), .val (.int i6), .val (.int (4 : Int32)), .val (.ref b297), .unset, .unset, .unset] [(.int i5), (.ref b297)])
    obtain ⟨ciq354, kiq354, iq354a, iq354b, iq354c⟩ := isOf hZ rfl q342
    obtain ⟨_, _, ⟨T353, L353, k353, n353⟩, -, X353, ⟨Lc353, hQ353, l353, y353, z353⟩, st353⟩ := X336.virtualBack hx (y := (⟨"com/example/prompter/prompter/index/Ints", "add", "(I)V"⟩ : MethodName)) (z := (⟨"com/example/prompter/prompter/index/Ints", "add", "(I)V"⟩ : MethodName)) hown (mvT hZ (hw _ (List.mem_of_getElem? (i := 12) rfl))) (mvT hZ (hw _ (List.mem_of_getElem? (i := 13) rfl))) (notFace_of_selects (args := #[]) (mvT hZ (hw _ (List.mem_of_getElem? (i := 15) rfl)))) (mvT hZ (hw _ (List.mem_of_getElem? (i := 15) rfl))) (mvT hZ (hw _ (List.mem_of_getElem? (i := 14) rfl))) (by decide) (backOf (W := 0) (rm33 l Z a0 hw [] b297 i5 x339 x340 i2 i3 i4 (0 : Int32) T336.heap n0 Z352 q342 q343 q344 q345 g298 g350 (Ne.symm ne348)) hZ (hw _ (List.mem_of_getElem? (i := 16) rfl)) (hw _ (List.mem_of_getElem? (i := 2) rfl)) (by decide) (by decide)) iq354a iq354c (g := (mkF m 56 #[.val (.int i1), .val (.int i2), .val (.int i3), .val (.int i4), .val (.int i5), .val (.int i6), .val (.int (4 : Int32)), .val (.ref b297), .unset, .unset, .unset] [(.int i5), (.ref b297)])) rfl (by rw [hml]; rfl) (Steps.refl _) (argsL := [(.int i5)]) (rest := []) (lenOf pd_3 rfl) rfl (by show 2 * 0 + _ ≤ _; exact Nat.le_of_eq rfl) (hb hby at_56) (fun _ _ => ⟨rfl, rfl, (by decide : 3 + 0 ≤ _), (by decide : 8 + 0 ≤ _)⟩)
    dsimp only [Pt.U, Pt.locs, Pt.cells, Pt.slots] at X353 l353 y353 z353 st353 hQ353
    subst l353 y353 z353
    obtain ⟨rfl, N355, Kc356, q357, q358, q359, q360⟩ := hQ353
    have N361 := Fr.app N347 N355
    have Z362 : n0 ≤ T353.heap.size := Nat.le_trans Z352 Kc356.1
    refine Go.via st353 ?_
    show Go p e below Qo T353 (mkF m 59 #[.val (.int i1), .val (.int i2), .val (.int i3), .val (.int i4), .val (.int i5), .val (.int i6), .val (.int (4 : Int32)), .val (.ref b297), .unset, .unset, .unset] [])
    refine Go.of (fun t k => XS.iload X353.here hx rfl (hb hby at_59) rfl  k) ?_
    show Go p e below Qo T353 (mkF m 61 #[.val (.int i1), .val (.int i2), .val (.int i3), .val (.int i4), .val (.int i5), .val (.int i6), .val (.int (4 : Int32)), .val (.ref b297), .unset, .unset, .unset] [(.int (4 : Int32))])
    refine Go.of (fun t k => XS.iconst X353.here hx rfl (hb hby at_61) k) ?_
    show Go p e below Qo T353 (mkF m 62 #[.val (.int i1), .val (.int i2), .val (.int i3), .val (.int i4), .val (.int i5), .val (.int i6), .val (.int (4 : Int32)), .val (.ref b297), .unset, .unset, .unset] [(.int (1 : Int32)), (.int (4 : Int32))])
    refine Go.of (fun t k => XS.icmpYes X353.here hx rfl (pc0 := 62) (pc' := 69) rfl (hb hby at_62) rfl (feq (by decide : ¬ ((4 : Int32) = (1 : Int32)))).2 (by decide) (by decide) k) ?_
    show Go p e below Qo T353 (mkF m 69 #[.val (.int i1), .val (.int i2), .val (.int i3), .val (.int i4), .val (.int i5), .val (.int i6), .val (.int (4 : Int32)), .val (.ref b297), .unset, .unset, .unset] [])
    refine Go.of (fun t k => XS.iload X353.here hx rfl (hb hby at_69) rfl  k) ?_
    show Go p e below Qo T353 (mkF m 71 #[.val (.int i1), .val (.int i2), .val (.int i3), .val (.int i4), .val (.int i5), .val (.int i6), .val (.int (4 : Int32)), .val (.ref b297), .unset, .unset, .unset] [(.int (4 : Int32))])
    refine Go.of (fun t k => XS.iconst X353.here hx rfl (hb hby at_71) k) ?_
    show Go p e below Qo T353 (mkF m 72 #[.val (.int i1), .val (.int i2), .val (.int i3), .val (.int i4), .val (.int i5), .val (.int i6), .val (.int (4 : Int32)), .val (.ref b297), .unset, .unset, .unset] [(.int (2 : Int32)), (.int (4 : Int32))])
    refine Go.of (fun t k => XS.icmpYes X353.here hx rfl (pc0 := 72) (pc' := 79) rfl (hb hby at_72) rfl (feq (by decide : ¬ ((4 : Int32) = (2 : Int32)))).2 (by decide) (by decide) k) ?_
    show Go p e below Qo T353 (mkF m 79 #[.val (.int i1), .val (.int i2), .val (.int i3), .val (.int i4), .val (.int i5), .val (.int i6), .val (.int (4 : Int32)), .val (.ref b297), .unset, .unset, .unset] [])
    refine Go.of (fun t k => XS.iload X353.here hx rfl (hb hby at_79) rfl  k) ?_
    show Go p e below Qo T353 (mkF m 81 #[.val (.int i1), .val (.int i2), .val (.int i3), .val (.int i4), .val (.int i5), .val (.int i6), .val (.int (4 : Int32)), .val (.ref b297), .unset, .unset, .unset] [(.int (4 : Int32))])
    refine Go.of (fun t k => XS.iconst X353.here hx rfl (hb hby at_81) k) ?_
    show Go p e below Qo T353 (mkF m 82 #[.val (.int i1), .val (.int i2), .val (.int i3), .val (.int i4), .val (.int i5), .val (.int i6), .val (.int (4 : Int32)), .val (.ref b297), .unset, .unset, .unset] [(.int (3 : Int32)), (.int (4 : Int32))])
    refine Go.of (fun t k => XS.icmpYes X353.here hx rfl (pc0 := 82) (pc' := 89) rfl (hb hby at_82) rfl (feq (by decide : ¬ ((4 : Int32) = (3 : Int32)))).2 (by decide) (by decide) k) ?_
    show Go p e below Qo T353 (mkF m 89 #[.val (.int i1), .val (.int i2), .val (.int i3), .val (.int i4), .val (.int i5), .val (.int i6), .val (.int (4 : Int32)), .val (.ref b297), .unset, .unset, .unset] [])
    refine Go.of (fun t k => XS.iload X353.here hx rfl (hb hby at_89) rfl  k) ?_
    show Go p e below Qo T353 (mkF m 91 #[.val (.int i1), .val (.int i2), .val (.int i3), .val (.int i4), .val (.int i5), .val (.int i6), .val (.int (4 : Int32)), .val (.ref b297), .unset, .unset, .unset] [(.int i5)])
    refine Go.of (fun t k => XS.istore X353.here hx rfl (hb hby at_91) rfl (l' := #[.val (.int i1), .val (.int i2), .val (.int i3), .val (.int i4), .val (.int i5), .val (.int i6), .val (.int (4 : Int32)), .val (.ref b297), .val (.int i5), .unset, .unset]) rfl k) ?_
    show Go p e below Qo T353 (mkF m 93 #[.val (.int i1), .val (.int i2), .val (.int i3), .val (.int i4), .val (.int i5), .val (.int i6), .val (.int (4 : Int32)), .val (.ref b297), .val (.int i5), .unset, .unset] [])
    refine Go.of (fun t k => XS.aload X353.here hx rfl (hb hby at_93) rfl rfl k) ?_
    show Go p e below Qo T353 (mkF m 95 #[.val (.int i1), .val (.int i2), .val (.int i3), .val (.int i4), .val (.int i5), .val (.int i6), .val (.int (4 : Int32)), .val (.ref b297), .val (.int i5), .unset, .unset] [(.ref b297)])
    obtain ⟨ciq364, kiq364, iq364a, iq364b, iq364c⟩ := isOf hZ rfl q357
    obtain ⟨_, _, ⟨T363, L363, k363, n363⟩, -, X363, ⟨Lc363, hQ363, l363, y363, z363⟩, st363⟩ := X353.virtualBack hx (y := (⟨"com/example/prompter/prompter/index/Ints", "removeLast", "()I"⟩ : MethodName)) (z := (⟨"com/example/prompter/prompter/index/Ints", "removeLast", "()I"⟩ : MethodName)) hown (mvT hZ (hw _ (List.mem_of_getElem? (i := 19) rfl))) (mvT hZ (hw _ (List.mem_of_getElem? (i := 20) rfl))) (notFace_of_selects (args := #[]) (mvT hZ (hw _ (List.mem_of_getElem? (i := 22) rfl)))) (mvT hZ (hw _ (List.mem_of_getElem? (i := 22) rfl))) (mvT hZ (hw _ (List.mem_of_getElem? (i := 21) rfl))) (by decide) (backOf (W := 0) (rm43 l Z a0 hw [] b297 x339 x340 i2 i3 i4 i5 T353.heap n0 Z362 q357 q358 q359 q360 g298 (Ne.symm ne348)) hZ (hw _ (List.mem_of_getElem? (i := 23) rfl)) (hw _ (List.mem_of_getElem? (i := 2) rfl)) (by decide) (by decide)) iq364a iq364c (g := (mkF m 95 #[.val (.int i1), .val (.int i2), .val (.int i3), .val (.int i4), .val (.int i5), .val (.int i6), .val (.int (4 : Int32)), .val (.ref b297), .val (.int i5), .unset, .unset] [(.ref b297)])) rfl (by rw [hml]; rfl) (Steps.refl _) (argsL := []) (rest := []) (lenOf pd_4 rfl) rfl (by show 2 * 0 + _ ≤ _; exact Nat.le_of_eq rfl) (hb hby at_95) (fun _ _ => ⟨rfl, rfl, (by decide : 3 + 0 ≤ _), (by decide : 8 + 0 ≤ _)⟩)
    dsimp only [Pt.U, Pt.locs, Pt.cells, Pt.slots] at X363 l363 y363 z363 st363 hQ363
    subst l363 y363 z363
    obtain ⟨rfl, N365, Kc366, q367, q368, q369⟩ := hQ363
    have N370 := Fr.app N361 N365
    have q371 : Arv Z T363.heap x339 x340 .int (4 : Int32) [(.int i2), (.int i3), (.int i4), (.int i5)] (.int (0 : Int32)) := q360.keep Kc366 (ninS (Ne.symm ne348) nin0)
    have Z372 : n0 ≤ T363.heap.size := Nat.le_trans Z362 Kc366.1
    refine Go.via st363 ?_
    show Go p e below Qo T363 (mkF m 98 #[.val (.int i1), .val (.int i2), .val (.int i3), .val (.int i4), .val (.int i5), .val (.int i6), .val (.int (4 : Int32)), .val (.ref b297), .val (.int i5), .unset, .unset] [(.int i5)])
    refine Go.of (fun t k => XS.istore X363.here hx rfl (hb hby at_98) rfl (l' := #[.val (.int i1), .val (.int i2), .val (.int i3), .val (.int i4), .val (.int i5), .val (.int i6), .val (.int (4 : Int32)), .val (.ref b297), .val (.int i5), .val (.int i5), .unset]) rfl k) ?_
    show Go p e below Qo T363 (mkF m 100 #[.val (.int i1), .val (.int i2), .val (.int i3), .val (.int i4), .val (.int i5), .val (.int i6), .val (.int (4 : Int32)), .val (.ref b297), .val (.int i5), .val (.int i5), .unset] [])
    refine Go.of (fun t k => XS.iload X363.here hx rfl (hb hby at_100) rfl  k) ?_
    show Go p e below Qo T363 (mkF m 102 #[.val (.int i1), .val (.int i2), .val (.int i3), .val (.int i4), .val (.int i5), .val (.int i6), .val (.int (4 : Int32)), .val (.ref b297), .val (.int i5), .val (.int i5), .unset] [(.int i5)])
    refine Go.of (fun t k => XS.iload X363.here hx rfl (hb hby at_102) rfl  k) ?_
    show Go p e below Qo T363 (mkF m 104 #[.val (.int i1), .val (.int i2), .val (.int i3), .val (.int i4), .val (.int i5), .val (.int i6), .val (.int (4 : Int32)), .val (.ref b297), .val (.int i5), .val (.int i5), .unset] [(.int i5), (.int i5)])
    refine Go.of (fun t k => XS.icmpYes X363.here hx rfl (pc0 := 104) (pc' := 109) rfl (hb hby at_104) rfl (teq (rfl : i5 = i5)).1 (by decide) (by decide) k) ?_
    show Go p e below Qo T363 (mkF m 109 #[.val (.int i1), .val (.int i2), .val (.int i3), .val (.int i4), .val (.int i5), .val (.int i6), .val (.int (4 : Int32)), .val (.ref b297), .val (.int i5), .val (.int i5), .unset] [])
    refine Go.of (fun t k => XS.aload X363.here hx rfl (hb hby at_109) rfl rfl k) ?_
    show Go p e below Qo T363 (mkF m 111 #[.val (.int i1), .val (.int i2), .val (.int i3), .val (.int i4), .val (.int i5), .val (.int i6), .val (.int (4 : Int32)), .val (.ref b297), .val (.int i5), .val (.int i5), .unset] [(.ref b297)])
    obtain ⟨ciq374, kiq374, iq374a, iq374b, iq374c⟩ := isOf hZ rfl q367
    obtain ⟨_, _, ⟨T373, L373, k373, n373⟩, -, X373, ⟨Lc373, hQ373, l373, y373, z373⟩, st373⟩ := X363.virtualBack hx (y := (⟨"com/example/prompter/prompter/index/Ints", "size", "()I"⟩ : MethodName)) (z := (⟨"com/example/prompter/prompter/index/Ints", "size", "()I"⟩ : MethodName)) hown (mvT hZ (hw _ (List.mem_of_getElem? (i := 24) rfl))) (mvT hZ (hw _ (List.mem_of_getElem? (i := 25) rfl))) (notFace_of_selects (args := #[]) (mvT hZ (hw _ (List.mem_of_getElem? (i := 27) rfl)))) (mvT hZ (hw _ (List.mem_of_getElem? (i := 27) rfl))) (mvT hZ (hw _ (List.mem_of_getElem? (i := 26) rfl))) (by decide) (backOf (W := 0) (rm5 l Z a0 hw [] b297 (3 : Int32) T363.heap n0 Z372 q368) hZ (hw _ (List.mem_of_getElem? (i := 28) rfl)) (hw _ (List.mem_of_getElem? (i := 2) rfl)) (by decide) (by decide)) iq374a iq374c (g := (mkF m 111 #[.val (.int i1), .val (.int i2), .val (.int i3), .val (.int i4), .val (.int i5), .val (.int i6), .val (.int (4 : Int32)), .val (.ref b297), .val (.int i5), .val (.int i5), .unset] [(.ref b297)])) rfl (by rw [hml]; rfl) (Steps.refl _) (argsL := []) (rest := []) (lenOf pd_4 rfl) rfl (by show 2 * 0 + _ ≤ _; exact Nat.le_of_eq rfl) (hb hby at_111) (fun _ _ => ⟨rfl, rfl, (by decide : 3 + 0 ≤ _), (by decide : 8 + 0 ≤ _)⟩)
    dsimp only [Pt.U, Pt.locs, Pt.cells, Pt.slots] at X373 l373 y373 z373 st373 hQ373
    subst l373 y373 z373
    obtain ⟨rfl, N375, eh376⟩ := hQ373
    have N377 := Fr.app N370 N375
    refine Go.via st373 ?_
    show Go p e below Qo T373 (mkF m 114 #[.val (.int i1), .val (.int i2), .val (.int i3), .val (.int i4), .val (.int i5), .val (.int i6), .val (.int (4 : Int32)), .val (.ref b297), .val (.int i5), .val (.int i5), .unset] [(.int (3 : Int32))])
    refine Go.of (fun t k => XS.iload X373.here hx rfl (hb hby at_114) rfl  k) ?_
    show Go p e below Qo T373 (mkF m 116 #[.val (.int i1), .val (.int i2), .val (.int i3), .val (.int i4), .val (.int i5), .val (.int i6), .val (.int (4 : Int32)), .val (.ref b297), .val (.int i5), .val (.int i5), .unset] [(.int (4 : Int32)), (.int (3 : Int32))])
    refine Go.of (fun t k => XS.iconst X373.here hx rfl (hb hby at_116) k) ?_
    show Go p e below Qo T373 (mkF m 117 #[.val (.int i1), .val (.int i2), .val (.int i3), .val (.int i4), .val (.int i5), .val (.int i6), .val (.int (4 : Int32)), .val (.ref b297), .val (.int i5), .val (.int i5), .unset] [(.int (1 : Int32)), (.int (4 : Int32)), (.int (3 : Int32))])
    refine Go.of (fun t k => XS.isub X373.here hx rfl (hb hby at_117) rfl k) ?_
    show Go p e below Qo T373 (mkF m 118 #[.val (.int i1), .val (.int i2), .val (.int i3), .val (.int i4), .val (.int i5), .val (.int i6), .val (.int (4 : Int32)), .val (.ref b297), .val (.int i5), .val (.int i5), .unset] [(.int (3 : Int32)), (.int (3 : Int32))])
    refine Go.of (fun t k => XS.icmpYes X373.here hx rfl (pc0 := 118) (pc' := 123) rfl (hb hby at_118) rfl (teq (by decide : (3 : Int32) = (3 : Int32))).1 (by decide) (by decide) k) ?_
    show Go p e below Qo T373 (mkF m 123 #[.val (.int i1), .val (.int i2), .val (.int i3), .val (.int i4), .val (.int i5), .val (.int i6), .val (.int (4 : Int32)), .val (.ref b297), .val (.int i5), .val (.int i5), .unset] [])
    refine Go.of (fun t k => XS.aload X373.here hx rfl (hb hby at_123) rfl rfl k) ?_
    show Go p e below Qo T373 (mkF m 125 #[.val (.int i1), .val (.int i2), .val (.int i3), .val (.int i4), .val (.int i5), .val (.int i6), .val (.int (4 : Int32)), .val (.ref b297), .val (.int i5), .val (.int i5), .unset] [(.ref b297)])
    obtain ⟨ciq379, kiq379, iq379a, iq379b, iq379c⟩ := isOf hZ eh376 q367
    obtain ⟨_, _, ⟨T378, L378, k378, n378⟩, -, X378, ⟨Lc378, hQ378, l378, y378, z378⟩, st378⟩ := X373.virtualBack hx (y := (⟨"com/example/prompter/prompter/index/Ints", "toArray", "()[I"⟩ : MethodName)) (z := (⟨"com/example/prompter/prompter/index/Ints", "toArray", "()[I"⟩ : MethodName)) hown (mvT hZ (hw _ (List.mem_of_getElem? (i := 29) rfl))) (mvT hZ (hw _ (List.mem_of_getElem? (i := 30) rfl))) (notFace_of_selects (args := #[]) (mvT hZ (hw _ (List.mem_of_getElem? (i := 32) rfl)))) (mvT hZ (hw _ (List.mem_of_getElem? (i := 32) rfl))) (mvT hZ (hw _ (List.mem_of_getElem? (i := 31) rfl))) (by decide) (backOf (W := 0) (rm53 l Z a0 hw [] b297 x339 x340 i2 i3 i4 i5 T363.heap n0 Z372 q367 q368 q369 q371) hZ (hw _ (List.mem_of_getElem? (i := 33) rfl)) (hw _ (List.mem_of_getElem? (i := 2) rfl)) (by decide) (by decide)) iq379a iq379c (g := (mkF m 125 #[.val (.int i1), .val (.int i2), .val (.int i3), .val (.int i4), .val (.int i5), .val (.int i6), .val (.int (4 : Int32)), .val (.ref b297), .val (.int i5), .val (.int i5), .unset] [(.ref b297)])) rfl (by rw [hml]; rfl) (Steps.refl _) (argsL := []) (rest := []) (lenOf pd_5 rfl) rfl (by show 2 * 0 + _ ≤ _; exact Nat.le_of_eq rfl) (hb hby at_125) (fun _ _ => ⟨rfl, eh376, (by decide : 3 + 1 ≤ _), (by decide : 8 + 3 ≤ _)⟩)
    dsimp only [Pt.U, Pt.locs, Pt.cells, Pt.slots] at X378 l378 y378 z378 st378 hQ378
    subst l378 y378 z378
    obtain ⟨x381, x382, rfl, N380, Kc383, g385, q384⟩ := hQ378
    have N386 := Fr.app N377 N380
    have ne387 : x339 ≠ x381 := Nat.ne_of_lt (Nat.lt_of_lt_of_le q371.lt g385)
    have ne388 : b297 ≠ x381 := Nat.ne_of_lt (Nat.lt_of_lt_of_le q367.lt g385)
    have g389 : n0 ≤ x381 := Nat.le_trans Z372 g385
    have q390 : Arv Z T378.heap x339 x340 .int (4 : Int32) [(.int i2), (.int i3), (.int i4), (.int i5)] (.int (0 : Int32)) := q371.keep Kc383 nin0
    have q391 : Exa Z T378.heap b297 "com/example/prompter/prompter/index/Ints" := q367.keep Kc383
    have q392 : Fld Z T378.heap b297 "com/example/prompter/prompter/index/Ints" "size" "I" (.int (3 : Int32)) := q368.keep Kc383 nin0
    have q393 : Fld Z T378.heap b297 "com/example/prompter/prompter/index/Ints" "values" "[I" (.ref x339) := q369.keep Kc383 nin0
    have Z394 : n0 ≤ T378.heap.size := Nat.le_trans Z372 Kc383.1
    refine Go.via st378 ?_
    show Go p e below Qo T378 (mkF m 128 #[.val (.int i1), .val (.int i2), .val (.int i3), .val (.int i4), .val (.int i5), .val (.int i6), .val (.int (4 : Int32)), .val (.ref b297), .val (.int i5), .val (.int i5), .unset] [(.ref x381)])
    refine Go.of (fun t k => XS.astore X378.here hx rfl (hb hby at_128) rfl rfl (l' := #[.val (.int i1), .val (.int i2), .val (.int i3), .val (.int i4), .val (.int i5), .val (.int i6), .val (.int (4 : Int32)), .val (.ref b297), .val (.int i5), .val (.int i5), .val (.ref x381)]) rfl k) ?_
    show Go p e below Qo T378 (mkF m 130 #[.val (.int i1), .val (.int i2), .val (.int i3), .val (.int i4), .val (.int i5), .val (.int i6), .val (.int (4 : Int32)), .val (.ref b297), .val (.int i5), .val (.int i5), .val (.ref x381)] [])
    refine Go.of (fun t k => XS.aload X378.here hx rfl (hb hby at_130) rfl rfl k) ?_
    show Go p e below Qo T378 (mkF m 132 #[.val (.int i1), .val (.int i2), .val (.int i3), .val (.int i4), .val (.int i5), .val (.int i6), .val (.int (4 : Int32)), .val (.ref b297), .val (.int i5), .val (.int i5), .val (.ref x381)] [(.ref x381)])
    have cpo395 := q384
    obtain ⟨clo395, Aro395, qco395, So395, Mo395, Ho395, Go395⟩ := cpo395
    refine Go.of (fun t k => X378.arraylength hx (cell := clo395) Aro395.1 (State.isArrayOf_alike hZ.alike Aro395.2.1) (g := (mkF m 132 #[.val (.int i1), .val (.int i2), .val (.int i3), .val (.int i4), .val (.int i5), .val (.int i6), .val (.int (4 : Int32)), .val (.ref b297), .val (.int i5), .val (.int i5), .val (.ref x381)] [(.ref x381)])) rfl rfl (hb hby at_132) t k) ?_
    rw [len_of So395 Mo395]
    show Go p e below Qo T378 (mkF m 133 #[.val (.int i1), .val (.int i2), .val (.int i3), .val (.int i4), .val (.int i5), .val (.int i6), .val (.int (4 : Int32)), .val (.ref b297), .val (.int i5), .val (.int i5), .val (.ref x381)] [(.int (3 : Int32))])
    refine Go.of (fun t k => XS.iload X378.here hx rfl (hb hby at_133) rfl  k) ?_
    show Go p e below Qo T378 (mkF m 135 #[.val (.int i1), .val (.int i2), .val (.int i3), .val (.int i4), .val (.int i5), .val (.int i6), .val (.int (4 : Int32)), .val (.ref b297), .val (.int i5), .val (.int i5), .val (.ref x381)] [(.int (4 : Int32)), (.int (3 : Int32))])
    refine Go.of (fun t k => XS.iconst X378.here hx rfl (hb hby at_135) k) ?_
    show Go p e below Qo T378 (mkF m 136 #[.val (.int i1), .val (.int i2), .val (.int i3), .val (.int i4), .val (.int i5), .val (.int i6), .val (.int (4 : Int32)), .val (.ref b297), .val (.int i5), .val (.int i5), .val (.ref x381)] [(.int (1 : Int32)), (.int (4 : Int32)), (.int (3 : Int32))])
    refine Go.of (fun t k => XS.isub X378.here hx rfl (hb hby at_136) rfl k) ?_
    show Go p e below Qo T378 (mkF m 137 #[.val (.int i1), .val (.int i2), .val (.int i3), .val (.int i4), .val (.int i5), .val (.int i6), .val (.int (4 : Int32)), .val (.ref b297), .val (.int i5), .val (.int i5), .val (.ref x381)] [(.int (3 : Int32)), (.int (3 : Int32))])
    refine Go.of (fun t k => XS.icmpYes X378.here hx rfl (pc0 := 137) (pc' := 142) rfl (hb hby at_137) rfl (teq (by decide : (3 : Int32) = (3 : Int32))).1 (by decide) (by decide) k) ?_
    show Go p e below Qo T378 (mkF m 142 #[.val (.int i1), .val (.int i2), .val (.int i3), .val (.int i4), .val (.int i5), .val (.int i6), .val (.int (4 : Int32)), .val (.ref b297), .val (.int i5), .val (.int i5), .val (.ref x381)] [])
    refine Go.of (fun t k => XS.iload X378.here hx rfl (hb hby at_142) rfl  k) ?_
    show Go p e below Qo T378 (mkF m 144 #[.val (.int i1), .val (.int i2), .val (.int i3), .val (.int i4), .val (.int i5), .val (.int i6), .val (.int (4 : Int32)), .val (.ref b297), .val (.int i5), .val (.int i5), .val (.ref x381)] [(.int (4 : Int32))])
    refine Go.of (fun t k => XS.iconst X378.here hx rfl (hb hby at_144) k) ?_
    show Go p e below Qo T378 (mkF m 145 #[.val (.int i1), .val (.int i2), .val (.int i3), .val (.int i4), .val (.int i5), .val (.int i6), .val (.int (4 : Int32)), .val (.ref b297), .val (.int i5), .val (.int i5), .val (.ref x381)] [(.int (1 : Int32)), (.int (4 : Int32))])
    refine Go.of (fun t k => XS.isub X378.here hx rfl (hb hby at_145) rfl k) ?_
    show Go p e below Qo T378 (mkF m 146 #[.val (.int i1), .val (.int i2), .val (.int i3), .val (.int i4), .val (.int i5), .val (.int i6), .val (.int (4 : Int32)), .val (.ref b297), .val (.int i5), .val (.int i5), .val (.ref x381)] [(.int (3 : Int32))])
    refine Go.of (fun t k => XS.iconst X378.here hx rfl (hb hby at_146) k) ?_
    show Go p e below Qo T378 (mkF m 147 #[.val (.int i1), .val (.int i2), .val (.int i3), .val (.int i4), .val (.int i5), .val (.int i6), .val (.int (4 : Int32)), .val (.ref b297), .val (.int i5), .val (.int i5), .val (.ref x381)] [(.int (1 : Int32)), (.int (3 : Int32))])
    refine Go.of (fun t k => XS.icmpNo X378.here hx rfl (hb hby at_147) rfl (flt (by decide : ¬ ((3 : Int32) < (1 : Int32)))).1 k) ?_
    show Go p e below Qo T378 (mkF m 150 #[.val (.int i1), .val (.int i2), .val (.int i3), .val (.int i4), .val (.int i5), .val (.int i6), .val (.int (4 : Int32)), .val (.ref b297), .val (.int i5), .val (.int i5), .val (.ref x381)] [])
    refine Go.of (fun t k => XS.aload X378.here hx rfl (hb hby at_150) rfl rfl k) ?_
    show Go p e below Qo T378 (mkF m 152 #[.val (.int i1), .val (.int i2), .val (.int i3), .val (.int i4), .val (.int i5), .val (.int i6), .val (.int (4 : Int32)), .val (.ref b297), .val (.int i5), .val (.int i5), .val (.ref x381)] [(.ref x381)])
    refine Go.of (fun t k => XS.iconst X378.here hx rfl (hb hby at_152) k) ?_
    show Go p e below Qo T378 (mkF m 153 #[.val (.int i1), .val (.int i2), .val (.int i3), .val (.int i4), .val (.int i5), .val (.int i6), .val (.int (4 : Int32)), .val (.ref b297), .val (.int i5), .val (.int i5), .val (.ref x381)] [(.int (0 : Int32)), (.ref x381)])
    have cpo396 := q384
    obtain ⟨clo396, Aro396, qco396, So396, Mo396, Ho396, Go396⟩ := cpo396
    have hin397 : ¬ ((0 : Int32) < 0 ∨ clo396.slots.size ≤ (0 : Int32).toNatClampNeg) := (inb_of So396 ⟨by decide, by decide⟩)
    refine Go.of (fun t k => X378.iaload hx (j := (0 : Int32)) (v := (.int i2)) Aro396.1 (State.isArrayOf_alike hZ.alike Aro396.2.1) Aro396.2.2 hin397 (Ho396.at hin397 rfl) (g := (mkF m 153 #[.val (.int i1), .val (.int i2), .val (.int i3), .val (.int i4), .val (.int i5), .val (.int i6), .val (.int (4 : Int32)), .val (.ref b297), .val (.int i5), .val (.int i5), .val (.ref x381)] [(.int (0 : Int32)), (.ref x381)])) rfl rfl (hb hby at_153) t k) ?_
    show Go p e below Qo T378 (mkF m 154 #[.val (.int i1), .val (.int i2), .val (.int i3), .val (.int i4), .val (.int i5), .val (.int i6), .val (.int (4 : Int32)), .val (.ref b297), .val (.int i5), .val (.int i5), .val (.ref x381)] [(.int i2)])
    refine Go.of (fun t k => XS.iloadN X378.here hx rfl (hb hby at_154) rfl  k) ?_
    show Go p e below Qo T378 (mkF m 155 #[.val (.int i1), .val (.int i2), .val (.int i3), .val (.int i4), .val (.int i5), .val (.int i6), .val (.int (4 : Int32)), .val (.ref b297), .val (.int i5), .val (.int i5), .val (.ref x381)] [(.int i2), (.int i2)])
    refine Go.of (fun t k => XS.icmpYes X378.here hx rfl (pc0 := 155) (pc' := 160) rfl (hb hby at_155) rfl (teq (rfl : i2 = i2)).1 (by decide) (by decide) k) ?_
    show Go p e below Qo T378 (mkF m 160 #[.val (.int i1), .val (.int i2), .val (.int i3), .val (.int i4), .val (.int i5), .val (.int i6), .val (.int (4 : Int32)), .val (.ref b297), .val (.int i5), .val (.int i5), .val (.ref x381)] [])
    refine Go.of (fun t k => XS.iload X378.here hx rfl (hb hby at_160) rfl  k) ?_
    show Go p e below Qo T378 (mkF m 162 #[.val (.int i1), .val (.int i2), .val (.int i3), .val (.int i4), .val (.int i5), .val (.int i6), .val (.int (4 : Int32)), .val (.ref b297), .val (.int i5), .val (.int i5), .val (.ref x381)] [(.int (4 : Int32))])
    refine Go.of (fun t k => XS.iconst X378.here hx rfl (hb hby at_162) k) ?_
    show Go p e below Qo T378 (mkF m 163 #[.val (.int i1), .val (.int i2), .val (.int i3), .val (.int i4), .val (.int i5), .val (.int i6), .val (.int (4 : Int32)), .val (.ref b297), .val (.int i5), .val (.int i5), .val (.ref x381)] [(.int (1 : Int32)), (.int (4 : Int32))])
    refine Go.of (fun t k => XS.isub X378.here hx rfl (hb hby at_163) rfl k) ?_
    show Go p e below Qo T378 (mkF m 164 #[.val (.int i1), .val (.int i2), .val (.int i3), .val (.int i4), .val (.int i5), .val (.int i6), .val (.int (4 : Int32)), .val (.ref b297), .val (.int i5), .val (.int i5), .val (.ref x381)] [(.int (3 : Int32))])
    refine Go.of (fun t k => XS.iconst X378.here hx rfl (hb hby at_164) k) ?_
    show Go p e below Qo T378 (mkF m 165 #[.val (.int i1), .val (.int i2), .val (.int i3), .val (.int i4), .val (.int i5), .val (.int i6), .val (.int (4 : Int32)), .val (.ref b297), .val (.int i5), .val (.int i5), .val (.ref x381)] [(.int (2 : Int32)), (.int (3 : Int32))])
    refine Go.of (fun t k => XS.icmpNo X378.here hx rfl (hb hby at_165) rfl (flt (by decide : ¬ ((3 : Int32) < (2 : Int32)))).1 k) ?_
    show Go p e below Qo T378 (mkF m 168 #[.val (.int i1), .val (.int i2), .val (.int i3), .val (.int i4), .val (.int i5), .val (.int i6), .val (.int (4 : Int32)), .val (.ref b297), .val (.int i5), .val (.int i5), .val (.ref x381)] [])
    refine Go.of (fun t k => XS.aload X378.here hx rfl (hb hby at_168) rfl rfl k) ?_
    show Go p e below Qo T378 (mkF m 170 #[.val (.int i1), .val (.int i2), .val (.int i3), .val (.int i4), .val (.int i5), .val (.int i6), .val (.int (4 : Int32)), .val (.ref b297), .val (.int i5), .val (.int i5), .val (.ref x381)] [(.ref x381)])
    refine Go.of (fun t k => XS.iconst X378.here hx rfl (hb hby at_170) k) ?_
    show Go p e below Qo T378 (mkF m 171 #[.val (.int i1), .val (.int i2), .val (.int i3), .val (.int i4), .val (.int i5), .val (.int i6), .val (.int (4 : Int32)), .val (.ref b297), .val (.int i5), .val (.int i5), .val (.ref x381)] [(.int (1 : Int32)), (.ref x381)])
    have cpo398 := q384
    obtain ⟨clo398, Aro398, qco398, So398, Mo398, Ho398, Go398⟩ := cpo398
    have hin399 : ¬ ((1 : Int32) < 0 ∨ clo398.slots.size ≤ (1 : Int32).toNatClampNeg) := (inb_of So398 ⟨by decide, by decide⟩)
    refine Go.of (fun t k => X378.iaload hx (j := (1 : Int32)) (v := (.int i3)) Aro398.1 (State.isArrayOf_alike hZ.alike Aro398.2.1) Aro398.2.2 hin399 (Ho398.at hin399 rfl) (g := (mkF m 171 #[.val (.int i1), .val (.int i2), .val (.int i3), .val (.int i4), .val (.int i5), .val (.int i6), .val (.int (4 : Int32)), .val (.ref b297), .val (.int i5), .val (.int i5), .val (.ref x381)] [(.int (1 : Int32)), (.ref x381)])) rfl rfl (hb hby at_171) t k) ?_
    show Go p e below Qo T378 (mkF m 172 #[.val (.int i1), .val (.int i2), .val (.int i3), .val (.int i4), .val (.int i5), .val (.int i6), .val (.int (4 : Int32)), .val (.ref b297), .val (.int i5), .val (.int i5), .val (.ref x381)] [(.int i3)])
    refine Go.of (fun t k => XS.iloadN X378.here hx rfl (hb hby at_172) rfl  k) ?_
    show Go p e below Qo T378 (mkF m 173 #[.val (.int i1), .val (.int i2), .val (.int i3), .val (.int i4), .val (.int i5), .val (.int i6), .val (.int (4 : Int32)), .val (.ref b297), .val (.int i5), .val (.int i5), .val (.ref x381)] [(.int i3), (.int i3)])
    refine Go.of (fun t k => XS.icmpYes X378.here hx rfl (pc0 := 173) (pc' := 178) rfl (hb hby at_173) rfl (teq (rfl : i3 = i3)).1 (by decide) (by decide) k) ?_
    show Go p e below Qo T378 (mkF m 178 #[.val (.int i1), .val (.int i2), .val (.int i3), .val (.int i4), .val (.int i5), .val (.int i6), .val (.int (4 : Int32)), .val (.ref b297), .val (.int i5), .val (.int i5), .val (.ref x381)] [])
    refine Go.of (fun t k => XS.iload X378.here hx rfl (hb hby at_178) rfl  k) ?_
    show Go p e below Qo T378 (mkF m 180 #[.val (.int i1), .val (.int i2), .val (.int i3), .val (.int i4), .val (.int i5), .val (.int i6), .val (.int (4 : Int32)), .val (.ref b297), .val (.int i5), .val (.int i5), .val (.ref x381)] [(.int (4 : Int32))])
    refine Go.of (fun t k => XS.iconst X378.here hx rfl (hb hby at_180) k) ?_
    show Go p e below Qo T378 (mkF m 181 #[.val (.int i1), .val (.int i2), .val (.int i3), .val (.int i4), .val (.int i5), .val (.int i6), .val (.int (4 : Int32)), .val (.ref b297), .val (.int i5), .val (.int i5), .val (.ref x381)] [(.int (1 : Int32)), (.int (4 : Int32))])
    refine Go.of (fun t k => XS.isub X378.here hx rfl (hb hby at_181) rfl k) ?_
    show Go p e below Qo T378 (mkF m 182 #[.val (.int i1), .val (.int i2), .val (.int i3), .val (.int i4), .val (.int i5), .val (.int i6), .val (.int (4 : Int32)), .val (.ref b297), .val (.int i5), .val (.int i5), .val (.ref x381)] [(.int (3 : Int32))])
    refine Go.of (fun t k => XS.iconst X378.here hx rfl (hb hby at_182) k) ?_
    show Go p e below Qo T378 (mkF m 183 #[.val (.int i1), .val (.int i2), .val (.int i3), .val (.int i4), .val (.int i5), .val (.int i6), .val (.int (4 : Int32)), .val (.ref b297), .val (.int i5), .val (.int i5), .val (.ref x381)] [(.int (3 : Int32)), (.int (3 : Int32))])
    refine Go.of (fun t k => XS.icmpNo X378.here hx rfl (hb hby at_183) rfl (flt (by decide : ¬ ((3 : Int32) < (3 : Int32)))).1 k) ?_
    show Go p e below Qo T378 (mkF m 186 #[.val (.int i1), .val (.int i2), .val (.int i3), .val (.int i4), .val (.int i5), .val (.int i6), .val (.int (4 : Int32)), .val (.ref b297), .val (.int i5), .val (.int i5), .val (.ref x381)] [])
    refine Go.of (fun t k => XS.aload X378.here hx rfl (hb hby at_186) rfl rfl k) ?_
    show Go p e below Qo T378 (mkF m 188 #[.val (.int i1), .val (.int i2), .val (.int i3), .val (.int i4), .val (.int i5), .val (.int i6), .val (.int (4 : Int32)), .val (.ref b297), .val (.int i5), .val (.int i5), .val (.ref x381)] [(.ref x381)])
    refine Go.of (fun t k => XS.iconst X378.here hx rfl (hb hby at_188) k) ?_
    show Go p e below Qo T378 (mkF m 189 #[.val (.int i1), .val (.int i2), .val (.int i3), .val (.int i4), .val (.int i5), .val (.int i6), .val (.int (4 : Int32)), .val (.ref b297), .val (.int i5), .val (.int i5), .val (.ref x381)] [(.int (2 : Int32)), (.ref x381)])
    have cpo400 := q384
    obtain ⟨clo400, Aro400, qco400, So400, Mo400, Ho400, Go400⟩ := cpo400
    have hin401 : ¬ ((2 : Int32) < 0 ∨ clo400.slots.size ≤ (2 : Int32).toNatClampNeg) := (inb_of So400 ⟨by decide, by decide⟩)
    refine Go.of (fun t k => X378.iaload hx (j := (2 : Int32)) (v := (.int i4)) Aro400.1 (State.isArrayOf_alike hZ.alike Aro400.2.1) Aro400.2.2 hin401 (Ho400.at hin401 rfl) (g := (mkF m 189 #[.val (.int i1), .val (.int i2), .val (.int i3), .val (.int i4), .val (.int i5), .val (.int i6), .val (.int (4 : Int32)), .val (.ref b297), .val (.int i5), .val (.int i5), .val (.ref x381)] [(.int (2 : Int32)), (.ref x381)])) rfl rfl (hb hby at_189) t k) ?_
    show Go p e below Qo T378 (mkF m 190 #[.val (.int i1), .val (.int i2), .val (.int i3), .val (.int i4), .val (.int i5), .val (.int i6), .val (.int (4 : Int32)), .val (.ref b297), .val (.int i5), .val (.int i5), .val (.ref x381)] [(.int i4)])
    refine Go.of (fun t k => XS.iloadN X378.here hx rfl (hb hby at_190) rfl  k) ?_
    show Go p e below Qo T378 (mkF m 191 #[.val (.int i1), .val (.int i2), .val (.int i3), .val (.int i4), .val (.int i5), .val (.int i6), .val (.int (4 : Int32)), .val (.ref b297), .val (.int i5), .val (.int i5), .val (.ref x381)] [(.int i4), (.int i4)])
    refine Go.of (fun t k => XS.icmpYes X378.here hx rfl (pc0 := 191) (pc' := 196) rfl (hb hby at_191) rfl (teq (rfl : i4 = i4)).1 (by decide) (by decide) k) ?_
    show Go p e below Qo T378 (mkF m 196 #[.val (.int i1), .val (.int i2), .val (.int i3), .val (.int i4), .val (.int i5), .val (.int i6), .val (.int (4 : Int32)), .val (.ref b297), .val (.int i5), .val (.int i5), .val (.ref x381)] [])
    refine Go.of (fun t k => XS.aload X378.here hx rfl (hb hby at_196) rfl rfl k) ?_
    show Go p e below Qo T378 (mkF m 198 #[.val (.int i1), .val (.int i2), .val (.int i3), .val (.int i4), .val (.int i5), .val (.int i6), .val (.int (4 : Int32)), .val (.ref b297), .val (.int i5), .val (.int i5), .val (.ref x381)] [(.ref b297)])
    refine Go.of (fun t k => XS.iload X378.here hx rfl (hb hby at_198) rfl  k) ?_
    show Go p e below Qo T378 (mkF m 200 #[.val (.int i1), .val (.int i2), .val (.int i3), .val (.int i4), .val (.int i5), .val (.int i6), .val (.int (4 : Int32)), .val (.ref b297), .val (.int i5), .val (.int i5), .val (.ref x381)] [(.int i6), (.ref b297)])
    obtain ⟨ciq403, kiq403, iq403a, iq403b, iq403c⟩ := isOf hZ rfl q391
    obtain ⟨_, _, ⟨T402, L402, k402, n402⟩, -, X402, ⟨Lc402, hQ402, l402, y402, z402⟩, st402⟩ := X378.virtualBack hx (y := (⟨"com/example/prompter/prompter/index/Ints", "add", "(I)V"⟩ : MethodName)) (z := (⟨"com/example/prompter/prompter/index/Ints", "add", "(I)V"⟩ : MethodName)) hown (mvT hZ (hw _ (List.mem_of_getElem? (i := 12) rfl))) (mvT hZ (hw _ (List.mem_of_getElem? (i := 13) rfl))) (notFace_of_selects (args := #[]) (mvT hZ (hw _ (List.mem_of_getElem? (i := 15) rfl)))) (mvT hZ (hw _ (List.mem_of_getElem? (i := 15) rfl))) (mvT hZ (hw _ (List.mem_of_getElem? (i := 14) rfl))) (by decide) (backOf (W := 0) (rm33 l Z a0 hw [] b297 i6 x339 x340 i2 i3 i4 i5 T378.heap n0 Z394 q391 q392 q393 q390 g298 g350 (Ne.symm ne348)) hZ (hw _ (List.mem_of_getElem? (i := 16) rfl)) (hw _ (List.mem_of_getElem? (i := 2) rfl)) (by decide) (by decide)) iq403a iq403c (g := (mkF m 200 #[.val (.int i1), .val (.int i2), .val (.int i3), .val (.int i4), .val (.int i5), .val (.int i6), .val (.int (4 : Int32)), .val (.ref b297), .val (.int i5), .val (.int i5), .val (.ref x381)] [(.int i6), (.ref b297)])) rfl (by rw [hml]; rfl) (Steps.refl _) (argsL := [(.int i6)]) (rest := []) (lenOf pd_3 rfl) rfl (by show 2 * 0 + _ ≤ _; exact Nat.le_of_eq rfl) (hb hby at_200) (fun _ _ => ⟨rfl, rfl, (by decide : 4 + 0 ≤ _), (by decide : 11 + 0 ≤ _)⟩)
    dsimp only [Pt.U, Pt.locs, Pt.cells, Pt.slots] at X402 l402 y402 z402 st402 hQ402
    subst l402 y402 z402
    obtain ⟨rfl, N404, Kc405, q406, q407, q408, q409⟩ := hQ402
    have N410 := Fr.app N386 N404
    have q411 : Arv Z T402.heap x381 x382 .int (3 : Int32) [(.int i2), (.int i3), (.int i4)] (.int (0 : Int32)) := q384.keep Kc405 (ninS (Ne.symm ne388) (ninS (Ne.symm ne387) nin0))
    have Z412 : n0 ≤ T402.heap.size := Nat.le_trans Z394 Kc405.1
    refine Go.via st402 ?_
    show Go p e below Qo T402 (mkF m 203 #[.val (.int i1), .val (.int i2), .val (.int i3), .val (.int i4), .val (.int i5), .val (.int i6), .val (.int (4 : Int32)), .val (.ref b297), .val (.int i5), .val (.int i5), .val (.ref x381)] [])
    refine Go.of (fun t k => XS.aload X402.here hx rfl (hb hby at_203) rfl rfl k) ?_
    show Go p e below Qo T402 (mkF m 205 #[.val (.int i1), .val (.int i2), .val (.int i3), .val (.int i4), .val (.int i5), .val (.int i6), .val (.int (4 : Int32)), .val (.ref b297), .val (.int i5), .val (.int i5), .val (.ref x381)] [(.ref b297)])
    obtain ⟨ciq414, kiq414, iq414a, iq414b, iq414c⟩ := isOf hZ rfl q406
    obtain ⟨_, _, ⟨T413, L413, k413, n413⟩, -, X413, ⟨Lc413, hQ413, l413, y413, z413⟩, st413⟩ := X402.virtualBack hx (y := (⟨"com/example/prompter/prompter/index/Ints", "removeLast", "()I"⟩ : MethodName)) (z := (⟨"com/example/prompter/prompter/index/Ints", "removeLast", "()I"⟩ : MethodName)) hown (mvT hZ (hw _ (List.mem_of_getElem? (i := 19) rfl))) (mvT hZ (hw _ (List.mem_of_getElem? (i := 20) rfl))) (notFace_of_selects (args := #[]) (mvT hZ (hw _ (List.mem_of_getElem? (i := 22) rfl)))) (mvT hZ (hw _ (List.mem_of_getElem? (i := 22) rfl))) (mvT hZ (hw _ (List.mem_of_getElem? (i := 21) rfl))) (by decide) (backOf (W := 0) (rm43 l Z a0 hw [] b297 x339 x340 i2 i3 i4 i6 T402.heap n0 Z412 q406 q407 q408 q409 g298 (Ne.symm ne348)) hZ (hw _ (List.mem_of_getElem? (i := 23) rfl)) (hw _ (List.mem_of_getElem? (i := 2) rfl)) (by decide) (by decide)) iq414a iq414c (g := (mkF m 205 #[.val (.int i1), .val (.int i2), .val (.int i3), .val (.int i4), .val (.int i5), .val (.int i6), .val (.int (4 : Int32)), .val (.ref b297), .val (.int i5), .val (.int i5), .val (.ref x381)] [(.ref b297)])) rfl (by rw [hml]; rfl) (Steps.refl _) (argsL := []) (rest := []) (lenOf pd_4 rfl) rfl (by show 2 * 0 + _ ≤ _; exact Nat.le_of_eq rfl) (hb hby at_205) (fun _ _ => ⟨rfl, rfl, (by decide : 4 + 0 ≤ _), (by decide : 11 + 0 ≤ _)⟩)
    dsimp only [Pt.U, Pt.locs, Pt.cells, Pt.slots] at X413 l413 y413 z413 st413 hQ413
    subst l413 y413 z413
    obtain ⟨rfl, N415, Kc416, q417, q418, q419⟩ := hQ413
    have N420 := Fr.app N410 N415
    have q421 : Arv Z T413.heap x381 x382 .int (3 : Int32) [(.int i2), (.int i3), (.int i4)] (.int (0 : Int32)) := q411.keep Kc416 (ninS (Ne.symm ne388) nin0)
    have q422 : Arv Z T413.heap x339 x340 .int (4 : Int32) [(.int i2), (.int i3), (.int i4), (.int i6)] (.int (0 : Int32)) := q409.keep Kc416 (ninS (Ne.symm ne348) nin0)
    have Z423 : n0 ≤ T413.heap.size := Nat.le_trans Z412 Kc416.1
    refine Go.via st413 ?_
    show Go p e below Qo T413 (mkF m 208 #[.val (.int i1), .val (.int i2), .val (.int i3), .val (.int i4), .val (.int i5), .val (.int i6), .val (.int (4 : Int32)), .val (.ref b297), .val (.int i5), .val (.int i5), .val (.ref x381)] [(.int i6)])
    refine Go.of (fun t k => XS.iload X413.here hx rfl (hb hby at_208) rfl  k) ?_
    show Go p e below Qo T413 (mkF m 210 #[.val (.int i1), .val (.int i2), .val (.int i3), .val (.int i4), .val (.int i5), .val (.int i6), .val (.int (4 : Int32)), .val (.ref b297), .val (.int i5), .val (.int i5), .val (.ref x381)] [(.int i6), (.int i6)])
    refine Go.of (fun t k => XS.icmpNo X413.here hx rfl (hb hby at_210) rfl (teq (rfl : i6 = i6)).2 k) ?_
    show Go p e below Qo T413 (mkF m 213 #[.val (.int i1), .val (.int i2), .val (.int i3), .val (.int i4), .val (.int i5), .val (.int i6), .val (.int (4 : Int32)), .val (.ref b297), .val (.int i5), .val (.int i5), .val (.ref x381)] [])
    refine Go.of (fun t k => XS.iconst X413.here hx rfl (hb hby at_213) k) ?_
    show Go p e below Qo T413 (mkF m 214 #[.val (.int i1), .val (.int i2), .val (.int i3), .val (.int i4), .val (.int i5), .val (.int i6), .val (.int (4 : Int32)), .val (.ref b297), .val (.int i5), .val (.int i5), .val (.ref x381)] [(.int (1 : Int32))])
    refine Go.of (fun t k => XS.goto X413.here hx rfl (pc0 := 214) (pc' := 218) rfl (hb hby at_214) (by decide) (by decide) k) ?_
    show Go p e below Qo T413 (mkF m 218 #[.val (.int i1), .val (.int i2), .val (.int i3), .val (.int i4), .val (.int i5), .val (.int i6), .val (.int (4 : Int32)), .val (.ref b297), .val (.int i5), .val (.int i5), .val (.ref x381)] [(.int (1 : Int32))])
    exact own_retN X413 hx Bd.notSynchronized (t := .boolean) Bd.returns (by simp) (hb hby at_218) (fun u hu hF => hQo _ _ _ ⟨rfl, N420⟩ (own_mono hF (by decide) (by decide)))
set_option maxRecDepth 65536 in
set_option maxHeartbeats 40000000 in
theorem comes_1 {Post : Tables → Env → Array Value → State → Outcome → State → Prop} (hpost : ∀ tb e args s v u, (limb_1_1.after args s (.returned v) u = true ∧ limb_1_2.after args s (.returned v) u = true ∧ True) → FrameEnd s (.returned v) u (Jvm.fieldLocs frame_1_writes args s ++ Jvm.arrayLocs frame_1_arrays args s ++ Jvm.staticLocs frame_1_statics s) 16 128 → Post tb e args s (.returned v) u) :
    ArmFor flags0 classFile x code maxLocals ret World_1 tables_1 room_1 Calls_1 rest_1 Pre_1 Post := by
  intro l hfl _ _ p e ha hc hk s m args below hf hA hF happ hP
  obtain ⟨hcalls, hrest, hpre⟩ := hP
  obtain ⟨-, -, -, hnamed, -, -, -, hat⟩ := (Spec.applies_iff hf).mp happ
  obtain ⟨hg, hn⟩ := and_e (Cond.before_iff.mp (show (Jvm.Cond.and given_1 narrow_1).before args s = true from hpre))
  obtain ⟨hg0, hgr0⟩ := and_e hg
  obtain ⟨ha0, hgr1⟩ := and_e hgr0
  obtain ⟨ha1, hgr2⟩ := and_e hgr1
  obtain ⟨ha2, hgr3⟩ := and_e hgr2
  obtain ⟨ha3, hgr4⟩ := and_e hgr3
  obtain ⟨ha4, hgr5⟩ := and_e hgr4
  obtain ⟨w0, w1, w2, w3, w4, w5, rfl⟩ : ∃ w0 w1 w2 w3 w4 w5 : Value, args = #[w0, w1, w2, w3, w4, w5] := by
    have hs : args.size = 6 := by simpa [Cond.value, given_1] using hg0
    obtain ⟨L⟩ := args
    match L, hs with
    | [w0, w1, w2, w3, w4, w5], _ => exact ⟨w0, w1, w2, w3, w4, w5, rfl⟩
  have hw := fun d (hd : d ∈ tables_1) => atoms_spec (ws := Jvm.Cond.code x code maxLocals ret :: tables_1) hat d (List.mem_cons_of_mem _ hd)
  have hfit : Fit s := fun {y c} hc i hi => by
    obtain ⟨ha, rfl⟩ := Array.getElem?_eq_some_iff.mp hc
    have q := List.all_eq_true.mp ((Array.all_eq_true_iff_forall_mem.mp hF) _ (Array.getElem_mem ha)) i (List.mem_range.mpr hi)
    simpa [Array.getElem?_eq_getElem hi] using q
  obtain ⟨i0, ei0⟩ := is_v ha0
  obtain rfl : w0 = (.int i0) := Option.some.inj ei0
  obtain ⟨i1, ei1⟩ := is_v ha1
  obtain rfl : w1 = (.int i1) := Option.some.inj ei1
  obtain ⟨i2, ei2⟩ := is_v ha2
  obtain rfl : w2 = (.int i2) := Option.some.inj ei2
  obtain ⟨i3, ei3⟩ := is_v ha3
  obtain rfl : w3 = (.int i3) := Option.some.inj ei3
  obtain ⟨i4, ei4⟩ := is_v ha4
  obtain rfl : w4 = (.int i4) := Option.some.inj ei4
  obtain ⟨i5, ei5⟩ := is_v hgr5
  obtain rfl : w5 = (.int i5) := Option.some.inj ei5
  obtain ⟨n, o, h1, h2, h3, _, L, rfl, ⟨rfl, N⟩, hq⟩ := rm0 l s _ hw tables_1 i0 i1 i2 i3 i4 i5  s.heap s.heap.size (Nat.le_refl _)  p e ha hc hk s m _ below hf ((Spec.applies_iff_loose hf).mp happ).1 ⟨rfl, State.Warmed39.refl s, rfl⟩ trivial
  refine ⟨n, _, h1, h2, h3, hpost _ _ _ _ _ _ ⟨Cond.after_iff.mpr rfl, Cond.after_iff.mpr (eq_i res_at (Term.int_eval (1)) rfl), trivial⟩ ⟨hq.1, hq.2.1, (hq.2.2.sift fun y hy => Or.inr (N y hy)).mono (by decide) (by decide)⟩⟩
theorem main_1_1 : Claimed_1_1 := comes_1 fun _ _ _ _ _ _ h hF => ⟨h.1, hF⟩
theorem main_1_2 : Claimed_1_2 := comes_1 fun _ _ _ _ _ _ h hF => ⟨h.2.1, hF⟩
end Jvm.Pilot.@@N@@
namespace Jvm.Pilot.@@N@@
open Jvm Jvm.ClassFile Sem Op Lib Jvm.Free Jvm.Stand Jvm.Pilot.@@N@@.Jvm.D
/-! MADE BY PROGRAM (witnessworld.py) out of the Statement's table words and the real class files: 12 classes; the members and pool entries that the words name. The judged class is class 1, her method 1. -/
namespace start1
open Jvm.ClassFile
def u (s : String) : CpInfo := .utf8 (stringToUtf16 s)
/-- a pool by its gaps: so many unusable entries, then the entry; so many at the end -/
def gap : Nat → List CpInfo → List CpInfo
  | 0, r => r
  | n + 1, r => .unusable :: gap n r
def poolList (es : List (Nat × CpInfo)) (last : Nat) : List CpInfo := es.foldr (fun e r => gap e.1 (e.2 :: r)) (gap last [])
def pool (es : List (Nat × CpInfo)) (last : Nat) : Array CpInfo := ⟨poolList es last⟩
def fileOf (pool : Array CpInfo) (this : Nat) (attrs : Array Attribute := #[]) (ms : Array MethodInfo := #[]) (fl : Nat := 33) (sup : Nat := 0) (ifs : Array Nat := #[]) (fds : Array FieldInfo := #[]) : ClassFile where
  minorVersion := 0
  majorVersion := 65
  constantPool := pool
  accessFlags := fl
  thisClass := this
  superClass := sup
  interfaces := ifs
  fields := fds
  methods := ms
  attributes := attrs
def plain (name : String) (sup : Option ClassId) : Class where
  name := name
  kind := .ordinary
  loader := none
  accessFlags := 33
  super := sup
  interfaces := #[]
  cf := none
  fields := #[]
  methods := #[]
  instanceTypes := #[]
  staticTypes := #[]
  resolved := #[]
  callSites := []
  init := .initialized
  statics := none
  mirror := none

def pool0 : Array CpInfo := pool [(5, u "<init>"), (0, u "()V"), (1, .class_ 10), (1, u "java/lang/Object")] 113

def k0c0 : Code := { maxStack := 0, maxLocals := 1, code := object_method_1_code, exceptionTable := #[], attributes := #[] }
def k0m0 : Method := { name := "<init>", desc := "()V", sig := { parameters := [], returnType := none }, accessFlags := 1, code := some k0c0 }
/-- java/lang/Object -/
def k0 : Class := { plain "java/lang/Object" none with
  accessFlags := 33
  interfaces := #[]
  cf := some (fileOf pool0 8 #[] #[{ accessFlags := 1, nameIndex := 5, descriptorIndex := 6, attributes := #[] }] 33 0 #[] #[])
  fields := #[]
  methods := #[k0m0]
  instanceTypes := #[]
  staticTypes := #[]
  resolved := Array.replicate 124 none
  statics := none }

def pool1 : Array CpInfo := pool [(2, .class_ 4), (0, .nameAndType 5 6), (0, u "java/lang/Object"), (0, u "<init>"), (0, u "()V"), (0, .class_ 8), (0, u "com/example/prompter/prompter/index/Ints"), (0, .methodref 7 3), (0, .methodref 7 11), (0, .nameAndType 12 13), (0, u "add"), (0, u "(I)V"), (0, .methodref 7 15), (0, .nameAndType 16 17), (0, u "removeLast"), (0, u "()I"), (0, .methodref 7 19), (0, .nameAndType 20 17), (0, u "size"), (0, .methodref 7 22), (0, .nameAndType 23 24), (0, u "toArray"), (0, u "()[I"), (0, .class_ 26), (0, u "com/example/prompter/prompter/index/IntsRemoveLastPinLaw"), (2, u "law"), (0, u "(IIIIII)Z")] 5

def k1m0 : Method := { name := "<init>", desc := "()V", sig := { parameters := [], returnType := none }, accessFlags := 1, code := none }
def k1c1 : Code := { maxStack := 3, maxLocals := 11, code := code, exceptionTable := #[], attributes := #[] }
def k1m1 : Method := { name := "law", desc := "(IIIIII)Z", sig := { parameters := [.int, .int, .int, .int, .int, .int], returnType := some .boolean }, accessFlags := 9, code := some k1c1 }
/-- com/example/prompter/prompter/index/IntsRemoveLastPinLaw -/
def k1 : Class := { plain "com/example/prompter/prompter/index/IntsRemoveLastPinLaw" (some 0) with
  accessFlags := 49
  interfaces := #[]
  cf := some (fileOf pool1 25 #[] #[{ accessFlags := 1, nameIndex := 5, descriptorIndex := 6, attributes := #[] }, { accessFlags := 9, nameIndex := 29, descriptorIndex := 30, attributes := #[] }] 49 2 #[] #[])
  fields := #[]
  methods := #[k1m0, k1m1]
  instanceTypes := #[]
  staticTypes := #[]
  resolved := Array.replicate 36 none
  statics := none }

def pool2 : Array CpInfo := pool [(1, .methodref 2 3), (0, .class_ 4), (0, .nameAndType 5 6), (0, u "java/lang/Object"), (0, u "<init>"), (0, u "()V"), (0, .fieldref 8 9), (0, .class_ 10), (0, .nameAndType 11 12), (0, u "com/example/prompter/prompter/index/Ints"), (0, u "values"), (0, u "[I"), (0, .fieldref 8 14), (0, .nameAndType 15 16), (0, u "size"), (0, u "I"), (0, .methodref 18 19), (0, .class_ 20), (0, .nameAndType 21 22), (0, u "java/util/Arrays"), (0, u "copyOf"), (0, u "([II)[I"), (14, u "add"), (0, u "(I)V"), (2, u "removeLast"), (0, u "()I"), (0, u "toArray"), (0, u "()[I")] 2

def k2c0 : Code := { maxStack := 2, maxLocals := 1, code := prog_12_method_1_code, exceptionTable := #[], attributes := #[] }
def k2m0 : Method := { name := "<init>", desc := "()V", sig := { parameters := [], returnType := none }, accessFlags := 0, code := some k2c0 }
def k2c1 : Code := { maxStack := 5, maxLocals := 2, code := prog_12_method_2_code, exceptionTable := #[], attributes := #[] }
def k2m1 : Method := { name := "add", desc := "(I)V", sig := { parameters := [.int], returnType := none }, accessFlags := 0, code := some k2c1 }
def k2c2 : Code := { maxStack := 4, maxLocals := 1, code := prog_12_method_4_code, exceptionTable := #[], attributes := #[] }
def k2m2 : Method := { name := "removeLast", desc := "()I", sig := { parameters := [], returnType := some .int }, accessFlags := 0, code := some k2c2 }
def k2c3 : Code := { maxStack := 1, maxLocals := 1, code := prog_12_method_5_code, exceptionTable := #[], attributes := #[] }
def k2m3 : Method := { name := "size", desc := "()I", sig := { parameters := [], returnType := some .int }, accessFlags := 0, code := some k2c3 }
def k2c4 : Code := { maxStack := 2, maxLocals := 1, code := prog_12_method_6_code, exceptionTable := #[], attributes := #[] }
def k2m4 : Method := { name := "toArray", desc := "()[I", sig := { parameters := [], returnType := some (.array .int) }, accessFlags := 0, code := some k2c4 }
/-- com/example/prompter/prompter/index/Ints -/
def k2 : Class := { plain "com/example/prompter/prompter/index/Ints" (some 0) with
  accessFlags := 32
  interfaces := #[]
  cf := some (fileOf pool2 8 #[] #[{ accessFlags := 0, nameIndex := 5, descriptorIndex := 6, attributes := #[] }, { accessFlags := 0, nameIndex := 37, descriptorIndex := 38, attributes := #[] }, { accessFlags := 0, nameIndex := 41, descriptorIndex := 42, attributes := #[] }, { accessFlags := 0, nameIndex := 15, descriptorIndex := 42, attributes := #[] }, { accessFlags := 0, nameIndex := 43, descriptorIndex := 44, attributes := #[] }] 32 2 #[] #[{ accessFlags := 2, nameIndex := 11, descriptorIndex := 12, attributes := #[] }, { accessFlags := 2, nameIndex := 15, descriptorIndex := 16, attributes := #[] }])
  fields := #[{ name := "values", type := (.array .int), accessFlags := 2, slot := 0, constantValue := 0 }, { name := "size", type := .int, accessFlags := 2, slot := 1, constantValue := 0 }]
  methods := #[k2m0, k2m1, k2m2, k2m3, k2m4]
  instanceTypes := #[(.array .int), .int]
  staticTypes := #[]
  resolved := Array.replicate 47 none
  statics := none }

def pool3 : Array CpInfo := pool [(2, .class_ 4), (1, u "java/lang/Object"), (0, u "<init>"), (0, u "()V"), (7, .class_ 16), (1, u "java/util/Arrays"), (57, .class_ 76), (1, u "java/util/Arrays$NaturalOrder"), (36, .class_ 115), (1, u "java/util/Arrays$LegacyMergeSort"), (1, u "Z"), (32, .methodref 151 152), (0, .class_ 153), (0, .nameAndType 154 155), (0, u "java/lang/System"), (0, u "arraycopy"), (0, u "(Ljava/lang/Object;ILjava/lang/Object;II)V"), (146, u "copyOf"), (1, .methodref 305 306), (0, .class_ 307), (0, .nameAndType 308 309), (0, u "java/lang/Math"), (0, u "min"), (0, u "(II)I"), (65, .class_ 376), (0, u "java/util/Arrays$ArrayList"), (68, u "$assertionsDisabled"), (269, u "MIN_ARRAY_SORT_GRAN"), (0, u "I"), (2, u "INSERTIONSORT_THRESHOLD"), (151, u "([II)[I"), (103, .class_ 976), (0, u "java/util/Arrays$ArrayItr")] 52

def k3m0 : Method := { name := "<init>", desc := "()V", sig := { parameters := [], returnType := none }, accessFlags := 2, code := none }
def k3c1 : Code := { maxStack := 6, maxLocals := 3, code := jdk_65_method_123_code, exceptionTable := #[], attributes := #[] }
def k3m1 : Method := { name := "copyOf", desc := "([II)[I", sig := { parameters := [(.array .int), .int], returnType := some (.array .int) }, accessFlags := 9, code := some k3c1 }
/-- java/util/Arrays -/
def k3 : Class := { plain "java/util/Arrays" (some 0) with
  accessFlags := 49
  interfaces := #[]
  cf := some (fileOf pool3 14 #[.nestMembers #[975, 375, 113, 74]] #[{ accessFlags := 2, nameIndex := 5, descriptorIndex := 6, attributes := #[] }, { accessFlags := 9, nameIndex := 302, descriptorIndex := 871, attributes := #[] }] 49 2 #[] #[{ accessFlags := 26, nameIndex := 715, descriptorIndex := 716, attributes := #[] }, { accessFlags := 26, nameIndex := 719, descriptorIndex := 716, attributes := #[] }, { accessFlags := 4120, nameIndex := 445, descriptorIndex := 117, attributes := #[] }])
  fields := #[{ name := "MIN_ARRAY_SORT_GRAN", type := .int, accessFlags := 26, slot := 0, constantValue := 0 }, { name := "INSERTIONSORT_THRESHOLD", type := .int, accessFlags := 26, slot := 1, constantValue := 0 }, { name := "$assertionsDisabled", type := .boolean, accessFlags := 4120, slot := 2, constantValue := 0 }]
  methods := #[k3m0, k3m1]
  instanceTypes := #[]
  staticTypes := #[.int, .int, .boolean]
  resolved := Array.replicate 1029 none
  statics := none }

def pool4 : Array CpInfo := pool [(1, .class_ 2), (0, u "java/lang/Math"), (1, .class_ 6), (1, u "java/lang/Object"), (0, u "<init>"), (0, u "()V"), (89, .class_ 100), (1, u "java/lang/Math$RandomNumberGeneratorHolder"), (71, u "negativeZeroFloatBits"), (0, u "J"), (2, u "negativeZeroDoubleBits"), (24, u "min"), (43, u "$assertionsDisabled"), (0, u "Z"), (88, u "(II)I"), (2, u "twoToTheDoubleScaleDown"), (0, u "D"), (4, u "twoToTheDoubleScaleUp"), (9, u "E"), (3, u "PI"), (2, u "TAU"), (2, u "DEGREES_TO_RADIANS"), (0, u "RADIANS_TO_DEGREES")] 94

def k4m0 : Method := { name := "<init>", desc := "()V", sig := { parameters := [], returnType := none }, accessFlags := 2, code := none }
def k4c1 : Code := { maxStack := 2, maxLocals := 2, code := jdk_29_method_69_code, exceptionTable := #[], attributes := #[] }
def k4m1 : Method := { name := "min", desc := "(II)I", sig := { parameters := [.int, .int], returnType := some .int }, accessFlags := 9, code := some k4c1 }
/-- java/lang/Math -/
def k4 : Class := { plain "java/lang/Math" (some 0) with
  accessFlags := 49
  interfaces := #[]
  cf := some (fileOf pool4 1 #[.nestMembers #[98]] #[{ accessFlags := 2, nameIndex := 7, descriptorIndex := 8, attributes := #[] }, { accessFlags := 9, nameIndex := 201, descriptorIndex := 335, attributes := #[] }] 49 4 #[] #[{ accessFlags := 25, nameIndex := 354, descriptorIndex := 339, attributes := #[] }, { accessFlags := 25, nameIndex := 358, descriptorIndex := 339, attributes := #[] }, { accessFlags := 25, nameIndex := 361, descriptorIndex := 339, attributes := #[] }, { accessFlags := 26, nameIndex := 364, descriptorIndex := 339, attributes := #[] }, { accessFlags := 26, nameIndex := 365, descriptorIndex := 339, attributes := #[] }, { accessFlags := 26, nameIndex := 172, descriptorIndex := 173, attributes := #[] }, { accessFlags := 26, nameIndex := 176, descriptorIndex := 173, attributes := #[] }, { accessFlags := 8, nameIndex := 344, descriptorIndex := 339, attributes := #[] }, { accessFlags := 8, nameIndex := 338, descriptorIndex := 339, attributes := #[] }, { accessFlags := 4120, nameIndex := 245, descriptorIndex := 246, attributes := #[] }])
  fields := #[{ name := "E", type := .double, accessFlags := 25, slot := 0, constantValue := 0 }, { name := "PI", type := .double, accessFlags := 25, slot := 1, constantValue := 0 }, { name := "TAU", type := .double, accessFlags := 25, slot := 2, constantValue := 0 }, { name := "DEGREES_TO_RADIANS", type := .double, accessFlags := 26, slot := 3, constantValue := 0 }, { name := "RADIANS_TO_DEGREES", type := .double, accessFlags := 26, slot := 4, constantValue := 0 }, { name := "negativeZeroFloatBits", type := .long, accessFlags := 26, slot := 5, constantValue := 0 }, { name := "negativeZeroDoubleBits", type := .long, accessFlags := 26, slot := 6, constantValue := 0 }, { name := "twoToTheDoubleScaleUp", type := .double, accessFlags := 8, slot := 7, constantValue := 0 }, { name := "twoToTheDoubleScaleDown", type := .double, accessFlags := 8, slot := 8, constantValue := 0 }, { name := "$assertionsDisabled", type := .boolean, accessFlags := 4120, slot := 9, constantValue := 0 }]
  methods := #[k4m0, k4m1]
  instanceTypes := #[]
  staticTypes := #[.double, .double, .double, .double, .double, .long, .long, .double, .double, .boolean]
  resolved := Array.replicate 460 none
  statics := none }

def pool5 : Array CpInfo := pool [(2, .class_ 4), (1, u "java/lang/Object"), (0, u "<init>"), (0, u "()V"), (1, .class_ 10), (1, u "java/lang/System"), (0, u "allowSecurityManager"), (0, u "I"), (16, u "cons"), (0, u "Ljava/io/Console;"), (77, .class_ 110), (1, u "java/lang/System$CallersHolder"), (43, u "initialErrStream"), (0, u "Ljava/io/PrintStream;"), (19, u "security"), (0, u "Ljava/lang/SecurityManager;"), (31, .class_ 209), (0, u "java/lang/System$1"), (7, u "props"), (0, u "Ljava/util/Properties;"), (2, u "lineSeparator"), (0, u "Ljava/lang/String;"), (96, .class_ 321), (1, u "java/lang/System$LoggerFinder"), (5, .class_ 328), (0, u "java/lang/System$Logger"), (67, u "err"), (2, u "out"), (91, u "notSupportedJnuEncoding"), (15, u "in"), (17, u "initialIn"), (0, u "Ljava/io/InputStream;"), (35, u "bootLayer"), (0, u "Ljava/lang/ModuleLayer;"), (99, .class_ 664), (0, u "java/lang/System$2"), (9, u "NEVER"), (2, u "MAYBE"), (49, u "arraycopy"), (0, u "(Ljava/lang/Object;ILjava/lang/Object;II)V"), (72, .class_ 802), (0, u "java/lang/System$Logger$Level")] 31

def k5m0 : Method := { name := "<init>", desc := "()V", sig := { parameters := [], returnType := none }, accessFlags := 2, code := none }
def k5m1 : Method := { name := "arraycopy", desc := "(Ljava/lang/Object;ILjava/lang/Object;II)V", sig := { parameters := [(.object "java/lang/Object"), .int, (.object "java/lang/Object"), .int, .int], returnType := none }, accessFlags := 265, code := none }
/-- java/lang/System -/
def k5 : Class := { plain "java/lang/System" (some 0) with
  accessFlags := 49
  interfaces := #[]
  cf := some (fileOf pool5 8 #[.nestMembers #[319, 327, 801, 108, 663, 208]] #[{ accessFlags := 2, nameIndex := 5, descriptorIndex := 6, attributes := #[] }, { accessFlags := 265, nameIndex := 727, descriptorIndex := 728, attributes := #[] }] 49 2 #[] #[{ accessFlags := 25, nameIndex := 507, descriptorIndex := 526, attributes := #[] }, { accessFlags := 25, nameIndex := 399, descriptorIndex := 155, attributes := #[] }, { accessFlags := 25, nameIndex := 396, descriptorIndex := 155, attributes := #[] }, { accessFlags := 10, nameIndex := 525, descriptorIndex := 526, attributes := #[] }, { accessFlags := 26, nameIndex := 674, descriptorIndex := 12, attributes := #[] }, { accessFlags := 26, nameIndex := 677, descriptorIndex := 12, attributes := #[] }, { accessFlags := 10, nameIndex := 11, descriptorIndex := 12, attributes := #[] }, { accessFlags := 74, nameIndex := 175, descriptorIndex := 176, attributes := #[] }, { accessFlags := 10, nameIndex := 491, descriptorIndex := 222, attributes := #[] }, { accessFlags := 74, nameIndex := 29, descriptorIndex := 30, attributes := #[] }, { accessFlags := 74, nameIndex := 154, descriptorIndex := 155, attributes := #[] }, { accessFlags := 10, nameIndex := 217, descriptorIndex := 218, attributes := #[] }, { accessFlags := 10, nameIndex := 221, descriptorIndex := 222, attributes := #[] }, { accessFlags := 8, nameIndex := 562, descriptorIndex := 563, attributes := #[] }])
  fields := #[{ name := "in", type := (.object "java/io/InputStream"), accessFlags := 25, slot := 0, constantValue := 0 }, { name := "out", type := (.object "java/io/PrintStream"), accessFlags := 25, slot := 1, constantValue := 0 }, { name := "err", type := (.object "java/io/PrintStream"), accessFlags := 25, slot := 2, constantValue := 0 }, { name := "initialIn", type := (.object "java/io/InputStream"), accessFlags := 10, slot := 3, constantValue := 0 }, { name := "NEVER", type := .int, accessFlags := 26, slot := 4, constantValue := 0 }, { name := "MAYBE", type := .int, accessFlags := 26, slot := 5, constantValue := 0 }, { name := "allowSecurityManager", type := .int, accessFlags := 10, slot := 6, constantValue := 0 }, { name := "security", type := (.object "java/lang/SecurityManager"), accessFlags := 74, slot := 7, constantValue := 0 }, { name := "notSupportedJnuEncoding", type := (.object "java/lang/String"), accessFlags := 10, slot := 8, constantValue := 0 }, { name := "cons", type := (.object "java/io/Console"), accessFlags := 74, slot := 9, constantValue := 0 }, { name := "initialErrStream", type := (.object "java/io/PrintStream"), accessFlags := 74, slot := 10, constantValue := 0 }, { name := "props", type := (.object "java/util/Properties"), accessFlags := 10, slot := 11, constantValue := 0 }, { name := "lineSeparator", type := (.object "java/lang/String"), accessFlags := 10, slot := 12, constantValue := 0 }, { name := "bootLayer", type := (.object "java/lang/ModuleLayer"), accessFlags := 8, slot := 13, constantValue := 0 }]
  methods := #[k5m0, k5m1]
  instanceTypes := #[]
  staticTypes := #[(.object "java/io/InputStream"), (.object "java/io/PrintStream"), (.object "java/io/PrintStream"), (.object "java/io/InputStream"), .int, .int, .int, (.object "java/lang/SecurityManager"), (.object "java/lang/String"), (.object "java/io/Console"), (.object "java/io/PrintStream"), (.object "java/util/Properties"), (.object "java/lang/String"), (.object "java/lang/ModuleLayer")]
  resolved := Array.replicate 834 none
  statics := none }

def pool6 : Array CpInfo := pool [(1, u "java/lang/Cloneable"), (0, .class_ 1), (0, u "java/lang/Object"), (0, .class_ 3)] 3

/-- java/lang/Cloneable -/
def k6 : Class := { plain "java/lang/Cloneable" (some 0) with
  accessFlags := 1537
  interfaces := #[]
  cf := some (fileOf pool6 2 #[] #[] 1537 4 #[] #[])
  fields := #[]
  methods := #[]
  instanceTypes := #[]
  staticTypes := #[]
  resolved := Array.replicate 8 none
  statics := none }

def pool7 : Array CpInfo := pool [(1, u "java/io/Serializable"), (0, .class_ 1), (0, u "java/lang/Object"), (0, .class_ 3)] 3

/-- java/io/Serializable -/
def k7 : Class := { plain "java/io/Serializable" (some 0) with
  accessFlags := 1537
  interfaces := #[]
  cf := some (fileOf pool7 2 #[] #[] 1537 4 #[] #[])
  fields := #[]
  methods := #[]
  instanceTypes := #[]
  staticTypes := #[]
  resolved := Array.replicate 8 none
  statics := none }

/-- the primitive byte -/
def k8 : Class := { plain "byte" none with kind := .primitive 'B', accessFlags := 0x411 }
/-- [B -/
def k9 : Class := { plain "[B" (some 0) with kind := .array 8 .byte, interfaces := #[6, 7], accessFlags := 1041 }

/-- the primitive int -/
def k10 : Class := { plain "int" none with kind := .primitive 'I', accessFlags := 0x411 }
/-- [I -/
def k11 : Class := { plain "[I" (some 0) with kind := .array 10 .int, interfaces := #[6, 7], accessFlags := 1041 }

def heap : Heap := #[]
def classes : Array Class := #[k0, k1, k2, k3, k4, k5, k6, k7, k8, k9, k10, k11]
def interned : List (Array UInt16 × Addr) := []
def slotsUsed : Nat := 0
def theMethod : MethodId := ⟨1, 1⟩
def args0 : Array Value := #[.int 5, .int 6, .int 7, .int 8, .int 9, .int 10]
def aboutOver (below : List Frame) : State where
  vm := { classes := classes, interned := interned.toArray }
  heap := heap
  slotsUsed := slotsUsed
  threads := #[{ frames := .invoking theMethod args0 :: below }]
def below0 : List Frame := [.native { method := ⟨0, 0⟩, args := #[] }]
def about1 : State := aboutOver below0
def p0 : Program := .bare "" "" ""
def e0 : Env := launch0.env 0 0 0
theorem w_frames : about1.frames = Frame.invoking theMethod args0 :: below0 := rfl
set_option maxRecDepth 65536 in
theorem w_args : argsFit about1.vm theMethod args0 = true := by decide +kernel
set_option maxRecDepth 65536 in
theorem w_heap : heapFits about1 = true := by decide +kernel
set_option maxRecDepth 65536 in
theorem w_runnable : about1.curStatus? = some .runnable := by decide +kernel
set_option maxRecDepth 65536 in
theorem w_alone : about1.alone = true := by decide +kernel
set_option maxRecDepth 65536 in
theorem w_named : about1.methodNamed? x = some theMethod := by decide +kernel
set_option maxRecDepth 65536 in
theorem w_hears : about1.hears theMethod below0 = true := by decide +kernel
set_option maxRecDepth 65536 in
theorem w_ripe : about1.ripe theMethod args0 below0 = true := by decide +kernel
theorem w_running : about1.status = .running := rfl
set_option maxRecDepth 65536 in
theorem w_room : about1.hasRoom e0.platform room_1 = true :=
  launch0.hasRoom_least _ room_1 (by decide +kernel) (by decide +kernel) (by decide +kernel) (by decide +kernel) (by decide +kernel) (by decide +kernel)
theorem allAtoms_all (ts : List Jvm.Cond) (a : Array Jvm.Value) (st : Jvm.State) : (allAtoms ts).before a st = ts.all (fun c => c.before a st) := by
  induction ts with
  | nil => rfl
  | cons c t ih =>
    show (Jvm.Cond.and c (allAtoms t)).before a st = _
    rw [Jvm.Cond.before_and, ih, List.all_cons]
def words1 : List Jvm.Cond := Jvm.Cond.code x code maxLocals ret :: tables_1
/-- a 'code' word, met by the world's own term for the bytes: nothing is compared byte by byte -/
theorem code_word {y : MethodName} {bytes : ByteArray} {mx : Nat} {rt : Option FieldType} {a : Array Value} {s : State} {m : MethodId} {meth : Method} {c : Code} (h1 : s.methodNamed? y = some m) (h2 : s.vm.method? m = some meth) (h3 : meth.code = some c) (h4 : c.code = bytes)
    (h5 : (c.maxLocals == mx && c.exceptionTable.isEmpty && decide (c.maxStack ≤ mostOperands) && decide (meth.sig.returnType = rt) && !meth.locks && decide (parseMethodDescriptor y.desc = some meth.sig)) = true) : (Jvm.Cond.code y bytes mx rt).before a s = true := by
  simp only [Bool.and_eq_true, beq_iff_eq, Bool.not_eq_true', decide_eq_true_eq] at h5
  obtain ⟨⟨⟨⟨⟨g1, g2⟩, g3⟩, g4⟩, g5⟩, g6⟩ := h5
  simp [Cond.before, Cond.holds, Cond.value, h1, h2, h3, h4, g1, g2, g3, g4, g5, g6]
def isCode : Jvm.Cond → Bool
  | .code _ _ _ _ => true
  | _ => false
theorem all_split {L : List Jvm.Cond} {P : Jvm.Cond → Bool} (h1 : L.all (fun c => isCode c || P c) = true) (h2 : ∀ c ∈ L.filter isCode, P c = true) : L.all P = true := by
  refine List.all_eq_true.mpr fun c hc => ?_
  have h := List.all_eq_true.mp h1 c hc
  rcases Bool.eq_false_or_eq_true (isCode c) with hi | hi
  · exact h2 c (List.mem_filter.mpr ⟨hc, hi⟩)
  · simpa [hi] using h
set_option maxRecDepth 65536 in
theorem w_c0 : (Jvm.Cond.code x code maxLocals ret).before args0 about1 = true := code_word (m := ⟨1, 1⟩) (meth := k1m1) (c := k1c1) (by decide +kernel) rfl rfl rfl (by decide +kernel)
set_option maxRecDepth 65536 in
theorem w_c1 : (Jvm.Cond.code ({ cls := "com/example/prompter/prompter/index/Ints", name := "<init>", desc := "()V" } : Jvm.MethodName) prog_12_method_1_code (1 : Nat) (Option.none : Option Jvm.ClassFile.FieldType)).before args0 about1 = true := code_word (m := ⟨2, 0⟩) (meth := k2m0) (c := k2c0) (by decide +kernel) rfl rfl rfl (by decide +kernel)
set_option maxRecDepth 65536 in
theorem w_c2 : (Jvm.Cond.code ({ cls := "java/lang/Object", name := "<init>", desc := "()V" } : Jvm.MethodName) object_method_1_code (1 : Nat) (Option.none : Option Jvm.ClassFile.FieldType)).before args0 about1 = true := code_word (m := ⟨0, 0⟩) (meth := k0m0) (c := k0c0) (by decide +kernel) rfl rfl rfl (by decide +kernel)
set_option maxRecDepth 65536 in
theorem w_c3 : (Jvm.Cond.code ({ cls := "com/example/prompter/prompter/index/Ints", name := "add", desc := "(I)V" } : Jvm.MethodName) prog_12_method_2_code (2 : Nat) (Option.none : Option Jvm.ClassFile.FieldType)).before args0 about1 = true := code_word (m := ⟨2, 1⟩) (meth := k2m1) (c := k2c1) (by decide +kernel) rfl rfl rfl (by decide +kernel)
set_option maxRecDepth 65536 in
theorem w_c4 : (Jvm.Cond.code ({ cls := "com/example/prompter/prompter/index/Ints", name := "removeLast", desc := "()I" } : Jvm.MethodName) prog_12_method_4_code (1 : Nat) (Option.some Jvm.ClassFile.FieldType.int)).before args0 about1 = true := code_word (m := ⟨2, 2⟩) (meth := k2m2) (c := k2c2) (by decide +kernel) rfl rfl rfl (by decide +kernel)
set_option maxRecDepth 65536 in
theorem w_c5 : (Jvm.Cond.code ({ cls := "com/example/prompter/prompter/index/Ints", name := "size", desc := "()I" } : Jvm.MethodName) prog_12_method_5_code (1 : Nat) (Option.some Jvm.ClassFile.FieldType.int)).before args0 about1 = true := code_word (m := ⟨2, 3⟩) (meth := k2m3) (c := k2c3) (by decide +kernel) rfl rfl rfl (by decide +kernel)
set_option maxRecDepth 65536 in
theorem w_c6 : (Jvm.Cond.code ({ cls := "com/example/prompter/prompter/index/Ints", name := "toArray", desc := "()[I" } : Jvm.MethodName) prog_12_method_6_code (1 : Nat) (Option.some (Jvm.ClassFile.FieldType.array Jvm.ClassFile.FieldType.int))).before args0 about1 = true := code_word (m := ⟨2, 4⟩) (meth := k2m4) (c := k2c4) (by decide +kernel) rfl rfl rfl (by decide +kernel)
set_option maxRecDepth 65536 in
theorem w_c7 : (Jvm.Cond.code ({ cls := "java/util/Arrays", name := "copyOf", desc := "([II)[I" } : Jvm.MethodName) jdk_65_method_123_code (3 : Nat) (Option.some (Jvm.ClassFile.FieldType.array Jvm.ClassFile.FieldType.int))).before args0 about1 = true := code_word (m := ⟨3, 1⟩) (meth := k3m1) (c := k3c1) (by decide +kernel) rfl rfl rfl (by decide +kernel)
set_option maxRecDepth 65536 in
theorem w_c8 : (Jvm.Cond.code ({ cls := "java/lang/Math", name := "min", desc := "(II)I" } : Jvm.MethodName) jdk_29_method_69_code (2 : Nat) (Option.some Jvm.ClassFile.FieldType.int)).before args0 about1 = true := code_word (m := ⟨4, 1⟩) (meth := k4m1) (c := k4c1) (by decide +kernel) rfl rfl rfl (by decide +kernel)
def codes1 : List Jvm.Cond := [Jvm.Cond.code x code maxLocals ret, Jvm.Cond.code ({ cls := "com/example/prompter/prompter/index/Ints", name := "<init>", desc := "()V" } : Jvm.MethodName) prog_12_method_1_code (1 : Nat) (Option.none : Option Jvm.ClassFile.FieldType), Jvm.Cond.code ({ cls := "java/lang/Object", name := "<init>", desc := "()V" } : Jvm.MethodName) object_method_1_code (1 : Nat) (Option.none : Option Jvm.ClassFile.FieldType), Jvm.Cond.code ({ cls := "com/example/prompter/prompter/index/Ints", name := "add", desc := "(I)V" } : Jvm.MethodName) prog_12_method_2_code (2 : Nat) (Option.none : Option Jvm.ClassFile.FieldType), Jvm.Cond.code ({ cls := "com/example/prompter/prompter/index/Ints", name := "removeLast", desc := "()I" } : Jvm.MethodName) prog_12_method_4_code (1 : Nat) (Option.some Jvm.ClassFile.FieldType.int), Jvm.Cond.code ({ cls := "com/example/prompter/prompter/index/Ints", name := "size", desc := "()I" } : Jvm.MethodName) prog_12_method_5_code (1 : Nat) (Option.some Jvm.ClassFile.FieldType.int), Jvm.Cond.code ({ cls := "com/example/prompter/prompter/index/Ints", name := "toArray", desc := "()[I" } : Jvm.MethodName) prog_12_method_6_code (1 : Nat) (Option.some (Jvm.ClassFile.FieldType.array Jvm.ClassFile.FieldType.int)), Jvm.Cond.code ({ cls := "java/util/Arrays", name := "copyOf", desc := "([II)[I" } : Jvm.MethodName) jdk_65_method_123_code (3 : Nat) (Option.some (Jvm.ClassFile.FieldType.array Jvm.ClassFile.FieldType.int)), Jvm.Cond.code ({ cls := "java/lang/Math", name := "min", desc := "(II)I" } : Jvm.MethodName) jdk_29_method_69_code (2 : Nat) (Option.some Jvm.ClassFile.FieldType.int)]
set_option maxRecDepth 65536 in
theorem codes_eq : words1.filter isCode = codes1 := rfl
theorem w_codes : ∀ c ∈ words1.filter isCode, c.before args0 about1 = true := by
  rw [codes_eq]
  intro c hc
  simp only [codes1, List.mem_cons, List.not_mem_nil, or_false] at hc
  rcases hc with rfl | rfl | rfl | rfl | rfl | rfl | rfl | rfl | rfl
  · exact w_c0
  · exact w_c1
  · exact w_c2
  · exact w_c3
  · exact w_c4
  · exact w_c5
  · exact w_c6
  · exact w_c7
  · exact w_c8
set_option maxRecDepth 65536 in
theorem w_t1 : (words1.take 24).all (fun c => isCode c || c.before args0 about1) = true := by decide +kernel
set_option maxRecDepth 65536 in
theorem w_t2 : (words1.drop 24).all (fun c => isCode c || c.before args0 about1) = true := by decide +kernel
theorem w_tables : (allAtoms (Jvm.Cond.code x code maxLocals ret :: tables_1)).before args0 about1 = true := by
  rw [allAtoms_all]
  show words1.all (fun c => c.before args0 about1) = true
  refine all_split ?_ w_codes
  rw [← List.take_append_drop 24 words1, List.all_append, w_t1, w_t2]
  rfl
set_option maxRecDepth 65536 in
theorem w_case : (Jvm.Cond.and given_1 narrow_1).before args0 about1 = true := by decide +kernel
theorem w_applies : (headSpec (Jvm.Cond.code x code maxLocals ret :: tables_1) room_1).applies x e0.platform about1 = true :=
  (Spec.applies_iff w_frames).mpr ⟨w_running, w_runnable, w_alone, w_named, w_hears, w_ripe, w_room, w_tables⟩
theorem atStart : AtStart classFile x code maxLocals ret World_1 tables_1 room_1 Calls_1 rest_1 Pre_1 launch0 p0 e0 about1 theMethod args0 below0 :=
  ⟨lists_1, trivial, launch0.admits_env _ _ _, launch0.least_env, fairChoices_fair.cas, fairChoices_fair.clock, w_frames, w_args, w_heap, w_applies, trivial, trivial, w_case⟩
end start1
theorem witness_1 : WitnessClaimed_1 := ⟨start1.p0, start1.e0, start1.about1, start1.theMethod, start1.args0, start1.below0, start1.atStart⟩
end Jvm.Pilot.@@N@@
