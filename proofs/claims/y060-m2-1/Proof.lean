import JvmDerived
import JvmDerived.Pilot.@@N@@Statement
import JvmDerived.Pilot.@@N@@Code
set_option linter.unusedVariables false
set_option linter.unusedSimpArgs false
namespace Jvm.Pilot.@@N@@
open Jvm Jvm.ClassFile Sem Op Lib Jvm.Free Jvm.Stand Jvm.LawKit Jvm.RoadKit Bundle Jvm.Pilot.@@N@@.Jvm.D
/-! the run comes to an end that answers Q -/
def Go (p : Program) (e : Env) (below : List Frame) (Q : Outcome → State → Prop) (T : State) (g : JFrame) : Prop :=
  ∃ s₂ o, Steps p.tables e below (T.setTop g) s₂ ∧ s₂.status = .running ∧ Ended s₂ below o ∧ Q o s₂
section Own
variable {p : Program} {l : Launch} {e : Env} {R : Room} {s : State} {m : MethodId} {args : Array Value} {below : List Frame} {meth : Method} {c : Code} {T T' : State} {locs : List Loc} {cells slots : Nat} {Q : Outcome → State → Prop} {g g' : JFrame}
theorem Go.of (k : ∀ t, Steps p.tables e below (T'.setTop g') t → Steps p.tables e below (T.setTop g) t) (h : Go p e below Q T' g') : Go p e below Q T g := by
  obtain ⟨u, o, h1, h2⟩ := h
  exact ⟨u, o, k _ h1, h2⟩
theorem Go.via (k : Steps p.tables e below (T.setTop g) (T'.setTop g')) (h : Go p e below Q T' g') : Go p e below Q T g := by
  obtain ⟨u, o, h1, h2⟩ := h
  exact ⟨u, o, k.trans h1, h2⟩
theorem Go.cast (q : g = g') (h : Go p e below Q T g') : Go p e below Q T g := q ▸ h
theorem own_out (X : Stand p l e R s m args below meth c T locs cells slots) {v : Option Value} (hv : meth.sig.returnType = none → v = none) (hlocks : meth.locks = false)
    (k : ∀ fs : List Frame, (∀ (f : JFrame) (acts : List Action), f.method = m → f.locked = none → f.entered = [] → (doReturn e (T.setTop f) acts v).1 = T.setFrames fs) → Steps p.tables e below (T.setTop g) (T.setFrames fs))
    (hQ : ∀ u : State, u.heap = T.heap → FrameEnd s (.returned v) u locs cells slots → Q (.returned v) u) : Go p e below Q T g := by
  obtain ⟨fs, hr, hrun, hended, hW, hsame⟩ := X.leave hv hlocks
  exact ⟨_, _, k fs hr, hrun, hended, hQ _ rfl ⟨⟨_, rfl⟩, hW, hsame⟩⟩
theorem own_retN (X : Stand p l e R s m args below meth c T locs cells slots) (hx : p.tables.exec = Jvm.exec) (hlocks : meth.locks = false) {pc : Nat} {Ls : Array Slot} {z : Int32} {t : FieldType} {rest : List Value} (hret : meth.sig.returnType = some t) (ht : t = .boolean ∨ t = .byte ∨ t = .char ∨ t = .short)
    (hd : decode c.code pc = .ok (.ireturn, 1)) (hQ : ∀ u : State, u.heap = T.heap → FrameEnd s (.returned (some (.int (nar t z)))) u locs cells slots → Q (.returned (some (.int (nar t z)))) u) : Go p e below Q T (mkF m pc Ls (.int z :: rest)) :=
  own_out X (fun h => by rw [hret] at h; cases h) hlocks (fun fs hr => retN X hx hret ht hd hr) hQ
theorem own_retW (X : Stand p l e R s m args below meth c T locs cells slots) (hx : p.tables.exec = Jvm.exec) (hlocks : meth.locks = false) {pc : Nat} {Ls : Array Slot} {w : Value} {t : FieldType} {i : Instr} {rest : List Value} (hret : meth.sig.returnType = some t) (hn : narrow t w = w)
    (hi : (i = .ireturn ∧ (t = .int ∨ t = .boolean ∨ t = .byte ∨ t = .char ∨ t = .short) ∧ ∃ z, w = .int z) ∨ (i = .lreturn ∧ t = .long ∧ ∃ z, w = .long z) ∨ (i = .dreturn ∧ t = .double ∧ ∃ z, w = .double z) ∨ (i = .freturn ∧ t = .float ∧ ∃ z, w = .float z) ∨ (i = .areturn ∧ t.isReference = true ∧ w.isRef = true))
    (hd : decode c.code pc = .ok (i, 1)) (hQ : ∀ u : State, u.heap = T.heap → FrameEnd s (.returned (some w)) u locs cells slots → Q (.returned (some w)) u) : Go p e below Q T (mkF m pc Ls (w :: rest)) :=
  own_out X (fun h => by rw [hret] at h; cases h) hlocks (fun fs hr => retOut X hx hret hn hi hd hr) hQ
theorem own_ret0 (X : Stand p l e R s m args below meth c T locs cells slots) (hx : p.tables.exec = Jvm.exec) (hlocks : meth.locks = false) {pc : Nat} {Ls : Array Slot} (hret : meth.sig.returnType = none)
    (hd : decode c.code pc = .ok (.return_, 1)) (hQ : ∀ u : State, u.heap = T.heap → FrameEnd s (.returned none) u locs cells slots → Q (.returned none) u) : Go p e below Q T (mkF m pc Ls []) :=
  own_out X (fun _ => rfl) hlocks (fun fs hr => X.returnOut hx hret hd hr) hQ
theorem own_mono {o : Outcome} {u : State} {k n k' n' : Nat} (h : FrameEnd s o u locs k n) (hk : k ≤ k') (hn : n ≤ n') : FrameEnd s o u locs k' n' := ⟨h.1, h.2.1, h.2.2.mono hk hn⟩
end Own
theorem d2_0 : decode jdk_30_method_1_code 0 = .ok (.aload_n 0, 1) := by decide +kernel
theorem d2_1 : decode jdk_30_method_1_code 1 = .ok (.invokespecial 1, 3) := by decide +kernel
theorem d2_4 : decode jdk_30_method_1_code 4 = .ok (.return_, 1) := by decide +kernel
theorem pn_0 : plainName "java/lang/Record" = true := by first | (simp [plainName, overriddenIn]; done) | decide +kernel
theorem ef_2 (m : MethodId) (r1 : Addr)  : entryFrame m #[(.ref r1)] 1 = mkF m 0 #[.val (.ref r1)] [] := by
  first | (simp [entryFrame, mkF, argsToLocals, Value.category]; done) | rfl
def Q2 (Z : State) (r1 : Addr) (h0 : Heap) (n0 : Nat) (v : Option Value) (h : Heap) (L : List Loc) : Prop := v = none ∧ Fr n0 L ∧ h = h0
set_option maxRecDepth 65536 in
set_option maxHeartbeats 40000000 in
theorem rm2 (l : Launch) (Z : State) (a0 : Array Value) (hw : ∀ d ∈ tables_1, d.before a0 Z = true) (ws : List Jvm.Cond) (r1 : Addr) (h0 : Heap) (n0 : Nat) (Z0 : n0 ≤ h0.size)  :
    MetFree l (⟨"java/lang/Record", "<init>", "()V"⟩ : MethodName) (head1 (Jvm.Cond.code (⟨"java/lang/Record", "<init>", "()V"⟩ : MethodName) jdk_30_method_1_code 1 none :: ws) ({ frames := 1, cells := 0, slots := 0, locals := 12 } : Room)) (fun a U => a = #[(.ref r1)] ∧ Z.Warmed39 U.vm ∧ U.heap = h0) (fun _ _ _ _ _ => True) (fun _ U o U' => ∃ v L, o = .returned v ∧ Q2 Z r1 h0 n0 v U'.heap L ∧ FrameEnd U o U' L ({ frames := 1, cells := 0, slots := 0, locals := 12 } : Room).cells ({ frames := 1, cells := 0, slots := 0, locals := 12 } : Room).slots) := by
  refine MetFree.of_bodySF (plainFor_of_name pn_0) hisR ?_
  intro p e s m args below meth c s₁ Bd hml0 hP hK
  obtain ⟨rfl, hZ, hh⟩ := hP
  have hx := Bd.exec
  have hby := Bd.bytes
  have hml : c.maxLocals = 1 := hml0
  have hown : s.vm.findClass "java/lang/Record" = some m.cls := findClass_of_methodNamed Bd.named
  have hnm := (name_of_methodNamed Bd.named Bd.method).1
  have X0 : Stand p l e ({ frames := 1, cells := 0, slots := 0, locals := 12 } : Room) s m #[(.ref r1)] below meth c s₁ [] 0 0 := Stand.of_body Bd
  have e0 : s₁.heap = h0 := by rw [← hh, Bd.state]; rfl
  have N0 := Fr.nil n0
  suffices H : ∀ Qo : Outcome → State → Prop, (∀ (v : Option Value) (u : State) (L : List Loc), Q2 Z r1 h0 n0 v u.heap L → FrameEnd s (.returned v) u L ({ frames := 1, cells := 0, slots := 0, locals := 12 } : Room).cells ({ frames := 1, cells := 0, slots := 0, locals := 12 } : Room).slots → Qo (.returned v) u) → Go p e below Qo s₁ (mkF m 0 #[.val (.ref r1)] []) from
    Go.cast (ef_2 m r1) (H _ fun v u L h1 h2 => ⟨v, L, rfl, h1, h2⟩)
  intro Qo hQo
  show Go p e below Qo s₁ (mkF m 0 #[.val (.ref r1)] [])
  refine Go.of (fun t k => XS.aloadN X0.here hx rfl (hb hby d2_0) rfl rfl k) ?_
  show Go p e below Qo s₁ (mkF m 1 #[.val (.ref r1)] [(.ref r1)])
  obtain ⟨T1, X1, e1, st1⟩ := initO X0 hx hZ hown (hw _ (List.mem_of_getElem? (i := 11) rfl)) (hw _ (List.mem_of_getElem? (i := 12) rfl)) (hw _ (List.mem_of_getElem? (i := 13) rfl)) e0 (g := (mkF m 1 #[.val (.ref r1)] [(.ref r1)])) rfl (by rw [hml]; rfl) rfl (hb hby d2_1) (by decide) (W := 0) (by show 2 * 0 + _ ≤ _; exact Nat.le_of_eq rfl) (by decide)
  refine Go.of st1 ?_
  show Go p e below Qo T1 (mkF m 4 #[.val (.ref r1)] [])
  exact own_ret0 X1 hx Bd.notSynchronized Bd.returns (hb hby d2_4) (fun u hu hF => hQo _ _ _ ⟨rfl, N0, by rw [hu, e1]⟩ (own_mono hF (by decide) (by decide)))
theorem pd_0 : parseMethodDescriptor "()V" = some ⟨[], none⟩ := by decide +kernel
theorem d1_0 : decode prog_41_method_1_code 0 = .ok (.aload_n 0, 1) := by decide +kernel
theorem d1_1 : decode prog_41_method_1_code 1 = .ok (.invokespecial 1, 3) := by decide +kernel
theorem d1_4 : decode prog_41_method_1_code 4 = .ok (.aload_n 0, 1) := by decide +kernel
theorem d1_5 : decode prog_41_method_1_code 5 = .ok (.iload_n 1, 1) := by decide +kernel
theorem d1_6 : decode prog_41_method_1_code 6 = .ok (.putfield 7, 3) := by decide +kernel
theorem d1_9 : decode prog_41_method_1_code 9 = .ok (.aload_n 0, 1) := by decide +kernel
theorem d1_10 : decode prog_41_method_1_code 10 = .ok (.iload_n 2, 1) := by decide +kernel
theorem d1_11 : decode prog_41_method_1_code 11 = .ok (.putfield 13, 3) := by decide +kernel
theorem d1_14 : decode prog_41_method_1_code 14 = .ok (.return_, 1) := by decide +kernel
theorem pn_1 : plainName "com/example/werktag/werktag/TripAnchor" = true := by first | (simp [plainName, overriddenIn]; done) | decide +kernel
theorem ef_1 (m : MethodId) (r1 : Addr) (i1 : Int32) (i2 : Int32)  : entryFrame m #[(.ref r1), (.int i1), (.int i2)] 3 = mkF m 0 #[.val (.ref r1), .val (.int i1), .val (.int i2)] [] := by
  first | (simp [entryFrame, mkF, argsToLocals, Value.category]; done) | rfl
def Q1 (Z : State) (r1 : Addr) (i1 : Int32) (i2 : Int32) (u_0 : Value) (u_1 : Value) (h0 : Heap) (n0 : Nat) (v : Option Value) (h : Heap) (L : List Loc) : Prop := v = none ∧ Fr n0 L ∧ Keep h0 h [r1] ∧ Exa Z h r1 "com/example/werktag/werktag/TripAnchor" ∧ Fld Z h r1 "com/example/werktag/werktag/TripAnchor" "time" "I" (.int i1) ∧ Fld Z h r1 "com/example/werktag/werktag/TripAnchor" "arrives" "Z" (.int (nar .boolean i2))
set_option maxRecDepth 65536 in
set_option maxHeartbeats 40000000 in
theorem rm1 (l : Launch) (Z : State) (a0 : Array Value) (hw : ∀ d ∈ tables_1, d.before a0 Z = true) (ws : List Jvm.Cond) (r1 : Addr) (i1 : Int32) (i2 : Int32) (u_0 : Value) (u_1 : Value) (h0 : Heap) (n0 : Nat) (Z0 : n0 ≤ h0.size) (f0 : Exa Z h0 r1 "com/example/werktag/werktag/TripAnchor") (f1 : Fld Z h0 r1 "com/example/werktag/werktag/TripAnchor" "time" "I" u_0) (f2 : Fld Z h0 r1 "com/example/werktag/werktag/TripAnchor" "arrives" "Z" u_1) (g_r1 : n0 ≤ r1) :
    MetFree l (⟨"com/example/werktag/werktag/TripAnchor", "<init>", "(IZ)V"⟩ : MethodName) (head1 (Jvm.Cond.code (⟨"com/example/werktag/werktag/TripAnchor", "<init>", "(IZ)V"⟩ : MethodName) prog_41_method_1_code 3 none :: ws) ({ frames := 2, cells := 0, slots := 0, locals := 24 } : Room)) (fun a U => a = #[(.ref r1), (.int i1), (.int i2)] ∧ Z.Warmed39 U.vm ∧ U.heap = h0) (fun _ _ _ _ _ => True) (fun _ U o U' => ∃ v L, o = .returned v ∧ Q1 Z r1 i1 i2 u_0 u_1 h0 n0 v U'.heap L ∧ FrameEnd U o U' L ({ frames := 2, cells := 0, slots := 0, locals := 24 } : Room).cells ({ frames := 2, cells := 0, slots := 0, locals := 24 } : Room).slots) := by
  refine MetFree.of_bodySF (plainFor_of_name pn_1) hisR ?_
  intro p e s m args below meth c s₁ Bd hml0 hP hK
  obtain ⟨rfl, hZ, hh⟩ := hP
  have hx := Bd.exec
  have hby := Bd.bytes
  have hml : c.maxLocals = 3 := hml0
  have hown : s.vm.findClass "com/example/werktag/werktag/TripAnchor" = some m.cls := findClass_of_methodNamed Bd.named
  have hnm := (name_of_methodNamed Bd.named Bd.method).1
  have X0 : Stand p l e ({ frames := 2, cells := 0, slots := 0, locals := 24 } : Room) s m #[(.ref r1), (.int i1), (.int i2)] below meth c s₁ [] 0 0 := Stand.of_body Bd
  have e0 : s₁.heap = h0 := by rw [← hh, Bd.state]; rfl
  have N0 := Fr.nil n0
  suffices H : ∀ Qo : Outcome → State → Prop, (∀ (v : Option Value) (u : State) (L : List Loc), Q1 Z r1 i1 i2 u_0 u_1 h0 n0 v u.heap L → FrameEnd s (.returned v) u L ({ frames := 2, cells := 0, slots := 0, locals := 24 } : Room).cells ({ frames := 2, cells := 0, slots := 0, locals := 24 } : Room).slots → Qo (.returned v) u) → Go p e below Qo s₁ (mkF m 0 #[.val (.ref r1), .val (.int i1), .val (.int i2)] []) from
    Go.cast (ef_1 m r1 i1 i2) (H _ fun v u L h1 h2 => ⟨v, L, rfl, h1, h2⟩)
  intro Qo hQo
  show Go p e below Qo s₁ (mkF m 0 #[.val (.ref r1), .val (.int i1), .val (.int i2)] [])
  refine Go.of (fun t k => XS.aloadN X0.here hx rfl (hb hby d1_0) rfl rfl k) ?_
  show Go p e below Qo s₁ (mkF m 1 #[.val (.ref r1), .val (.int i1), .val (.int i2)] [(.ref r1)])
  obtain ⟨_, _, ⟨T1, L1, k1, n1⟩, -, X1, ⟨Lc1, hQ1, l1, y1, z1⟩, st1⟩ := X0.specialBack hx (y := (⟨"java/lang/Record", "<init>", "()V"⟩ : MethodName)) rfl hown (mvT hZ (hw _ (List.mem_of_getElem? (i := 6) rfl))) (mvT hZ (hw _ (List.mem_of_getElem? (i := 7) rfl))) (mvT hZ (hw _ (List.mem_of_getElem? (i := 10) rfl))) (by decide) (backOf (W := 0) (rm2 l Z a0 hw [] r1 h0 n0 Z0 ) hZ (hw _ (List.mem_of_getElem? (i := 10) rfl)) (hw _ (List.mem_of_getElem? (i := 9) rfl)) (by decide) (by decide)) (g := (mkF m 1 #[.val (.ref r1), .val (.int i1), .val (.int i2)] [(.ref r1)])) rfl (by rw [hml]; rfl) (Steps.refl _) (a := r1) (argsL := []) (rest := []) (lenOf pd_0 rfl) rfl (by show 2 * 0 + _ ≤ _; exact Nat.le_of_eq rfl) (hb hby d1_1) (fun _ _ => ⟨rfl, e0, (by decide : 0 + 0 ≤ _), (by decide : 0 + 0 ≤ _)⟩)
  dsimp only [Pt.U, Pt.locs, Pt.cells, Pt.slots] at X1 l1 y1 z1 st1 hQ1
  subst l1 y1 z1
  obtain ⟨rfl, N2, eh3⟩ := hQ1
  have N4 := Fr.app N0 N2
  refine Go.via st1 ?_
  show Go p e below Qo T1 (mkF m 4 #[.val (.ref r1), .val (.int i1), .val (.int i2)] [])
  refine Go.of (fun t k => XS.aloadN X1.here hx rfl (hb hby d1_4) rfl rfl k) ?_
  show Go p e below Qo T1 (mkF m 5 #[.val (.ref r1), .val (.int i1), .val (.int i2)] [(.ref r1)])
  refine Go.of (fun t k => XS.iloadN X1.here hx rfl (hb hby d1_5) rfl  k) ?_
  show Go p e below Qo T1 (mkF m 6 #[.val (.ref r1), .val (.int i1), .val (.int i2)] [(.int i1), (.ref r1)])
  obtain ⟨T5, h5, X5, e5, W5, st5⟩ := putF X1 hx hZ hown (host := "") (Or.inl (hw _ (List.mem_of_getElem? (i := 14) rfl))) Via.refl eh3 f1 f0 (Or.inr ⟨(hw _ (List.mem_of_getElem? (i := 15) rfl)), rfl, hnm⟩) (hw _ (List.mem_of_getElem? (i := 1) rfl)) (ty := .int) (by decide) rfl rfl (g := (mkF m 6 #[.val (.ref r1), .val (.int i1), .val (.int i2)] [(.int i1), (.ref r1)])) rfl rfl (hb hby d1_6)
  have q6 : Exa Z h5 r1 "com/example/werktag/werktag/TripAnchor" := f0.wr W5
  have q7 : Fld Z h5 r1 "com/example/werktag/werktag/TripAnchor" "time" "I" (.int i1) := f1.same W5
  have q8 : Fld Z h5 r1 "com/example/werktag/werktag/TripAnchor" "arrives" "Z" u_1 := f2.other W5 (Or.inr (slot_ne (Or.inr (hw _ (List.mem_of_getElem? (i := 17) rfl))) (Or.inr (hw _ (List.mem_of_getElem? (i := 15) rfl))) (by decide) (t := .boolean) (t' := .int) (by decide) (by decide)))
  have Z9 : n0 ≤ h5.size := Nat.le_trans Z0 (Keep.of_wr W5).1
  have K10 : Keep h0 h5 [r1] := (Keep.refl h0 [r1]).wr W5 (Or.inl (List.mem_of_getElem? (i := 0) rfl))
  have N11 := Fr.snoc X5 N4 g_r1
  refine Go.of st5 ?_
  show Go p e below Qo T5 (mkF m 9 #[.val (.ref r1), .val (.int i1), .val (.int i2)] [])
  refine Go.of (fun t k => XS.aloadN X5.here hx rfl (hb hby d1_9) rfl rfl k) ?_
  show Go p e below Qo T5 (mkF m 10 #[.val (.ref r1), .val (.int i1), .val (.int i2)] [(.ref r1)])
  refine Go.of (fun t k => XS.iloadN X5.here hx rfl (hb hby d1_10) rfl  k) ?_
  show Go p e below Qo T5 (mkF m 11 #[.val (.ref r1), .val (.int i1), .val (.int i2)] [(.int i2), (.ref r1)])
  obtain ⟨T12, h12, X12, e12, W12, st12⟩ := putFN X5 hx hZ hown (hw _ (List.mem_of_getElem? (i := 16) rfl)) Via.refl e5 q8 q6 (Or.inr ⟨(hw _ (List.mem_of_getElem? (i := 17) rfl)), rfl, hnm⟩) (hw _ (List.mem_of_getElem? (i := 1) rfl)) (ty := .boolean) (v' := (.int (nar .boolean i2))) (by decide) rfl (fits_nar_bool _) (g := (mkF m 11 #[.val (.ref r1), .val (.int i1), .val (.int i2)] [(.int i2), (.ref r1)])) rfl rfl (hb hby d1_11)
  have q13 : Exa Z h12 r1 "com/example/werktag/werktag/TripAnchor" := q6.wr W12
  have q14 : Fld Z h12 r1 "com/example/werktag/werktag/TripAnchor" "time" "I" (.int i1) := q7.other W12 (Or.inr (slot_ne (Or.inr (hw _ (List.mem_of_getElem? (i := 15) rfl))) (Or.inr (hw _ (List.mem_of_getElem? (i := 17) rfl))) (by decide) (t := .int) (t' := .boolean) (by decide) (by decide)))
  have q15 : Fld Z h12 r1 "com/example/werktag/werktag/TripAnchor" "arrives" "Z" (.int (nar .boolean i2)) := q8.same W12
  have Z16 : n0 ≤ h12.size := Nat.le_trans Z9 (Keep.of_wr W12).1
  have K17 : Keep h0 h12 [r1] := K10.wr W12 (Or.inl (List.mem_of_getElem? (i := 0) rfl))
  have N18 := Fr.snoc X12 N11 g_r1
  refine Go.of st12 ?_
  show Go p e below Qo T12 (mkF m 14 #[.val (.ref r1), .val (.int i1), .val (.int i2)] [])
  exact own_ret0 X12 hx Bd.notSynchronized Bd.returns (hb hby d1_14) (fun u hu hF => hQo _ _ _ ⟨rfl, N18, by rw [hu, e12]; exact K17, by rw [hu, e12]; exact q13, by rw [hu, e12]; exact q14, by rw [hu, e12]; exact q15⟩ (own_mono hF (by decide) (by decide)))
theorem d4_0 : decode prog_41_method_5_code 0 = .ok (.aload_n 0, 1) := by decide +kernel
theorem d4_1 : decode prog_41_method_5_code 1 = .ok (.getfield 13, 3) := by decide +kernel
theorem d4_4 : decode prog_41_method_5_code 4 = .ok (.ifCond .eq 11, 3) := by decide +kernel
theorem d4_7 : decode prog_41_method_5_code 7 = .ok (.aload_n 0, 1) := by decide +kernel
theorem d4_8 : decode prog_41_method_5_code 8 = .ok (.getfield 7, 3) := by decide +kernel
theorem d4_11 : decode prog_41_method_5_code 11 = .ok (.i2l, 1) := by decide +kernel
theorem d4_12 : decode prog_41_method_5_code 12 = .ok (.goto 11, 3) := by decide +kernel
theorem d4_15 : decode prog_41_method_5_code 15 = .ok (.aload_n 0, 1) := by decide +kernel
theorem d4_16 : decode prog_41_method_5_code 16 = .ok (.getfield 7, 3) := by decide +kernel
theorem d4_19 : decode prog_41_method_5_code 19 = .ok (.i2l, 1) := by decide +kernel
theorem d4_20 : decode prog_41_method_5_code 20 = .ok (.iload_n 1, 1) := by decide +kernel
theorem d4_21 : decode prog_41_method_5_code 21 = .ok (.i2l, 1) := by decide +kernel
theorem d4_22 : decode prog_41_method_5_code 22 = .ok (.ladd, 1) := by decide +kernel
theorem d4_23 : decode prog_41_method_5_code 23 = .ok (.lreturn, 1) := by decide +kernel
theorem ef_4 (m : MethodId) (r1 : Addr) (tt : Int32)  : entryFrame m #[(.ref r1), (.int tt)] 2 = mkF m 0 #[.val (.ref r1), .val (.int tt)] [] := by
  first | (simp [entryFrame, mkF, argsToLocals, Value.category]; done) | rfl
def F4 (tt : Int32) (w : Int32) (tm : Int32) : Int64 := (if w = (0 : Int32) then ((tm.toInt64) + (tt.toInt64)) else (tm.toInt64))
def Q4 (Z : State) (r1 : Addr) (tt : Int32) (w : Int32) (tm : Int32) (h0 : Heap) (n0 : Nat) (v : Option Value) (h : Heap) (L : List Loc) : Prop := v = some (.long (F4 tt w tm)) ∧ Fr n0 L ∧ h = h0
set_option maxRecDepth 65536 in
set_option maxHeartbeats 40000000 in
theorem rm4 (l : Launch) (Z : State) (a0 : Array Value) (hw : ∀ d ∈ tables_1, d.before a0 Z = true) (ws : List Jvm.Cond) (r1 : Addr) (tt : Int32) (w : Int32) (tm : Int32) (h0 : Heap) (n0 : Nat) (Z0 : n0 ≤ h0.size) (f0 : Fld Z h0 r1 "com/example/werktag/werktag/TripAnchor" "arrives" "Z" (.int w)) (f1 : Fld Z h0 r1 "com/example/werktag/werktag/TripAnchor" "time" "I" (.int tm)) :
    MetFree l (⟨"com/example/werktag/werktag/TripAnchor", "arrival", "(I)J"⟩ : MethodName) (head1 (Jvm.Cond.code (⟨"com/example/werktag/werktag/TripAnchor", "arrival", "(I)J"⟩ : MethodName) prog_41_method_5_code 2 (some .long) :: ws) ({ frames := 0, cells := 0, slots := 0, locals := 0 } : Room)) (fun a U => a = #[(.ref r1), (.int tt)] ∧ Z.Warmed39 U.vm ∧ U.heap = h0) (fun _ _ _ _ _ => True) (fun _ U o U' => ∃ v L, o = .returned v ∧ Q4 Z r1 tt w tm h0 n0 v U'.heap L ∧ FrameEnd U o U' L ({ frames := 0, cells := 0, slots := 0, locals := 0 } : Room).cells ({ frames := 0, cells := 0, slots := 0, locals := 0 } : Room).slots) := by
  refine MetFree.of_bodySF (plainFor_of_name pn_1) hisR ?_
  intro p e s m args below meth c s₁ Bd hml0 hP hK
  obtain ⟨rfl, hZ, hh⟩ := hP
  have hx := Bd.exec
  have hby := Bd.bytes
  have hml : c.maxLocals = 2 := hml0
  have hown : s.vm.findClass "com/example/werktag/werktag/TripAnchor" = some m.cls := findClass_of_methodNamed Bd.named
  have hnm := (name_of_methodNamed Bd.named Bd.method).1
  have X0 : Stand p l e ({ frames := 0, cells := 0, slots := 0, locals := 0 } : Room) s m #[(.ref r1), (.int tt)] below meth c s₁ [] 0 0 := Stand.of_body Bd
  have e0 : s₁.heap = h0 := by rw [← hh, Bd.state]; rfl
  have N0 := Fr.nil n0
  suffices H : ∀ Qo : Outcome → State → Prop, (∀ (v : Option Value) (u : State) (L : List Loc), Q4 Z r1 tt w tm h0 n0 v u.heap L → FrameEnd s (.returned v) u L ({ frames := 0, cells := 0, slots := 0, locals := 0 } : Room).cells ({ frames := 0, cells := 0, slots := 0, locals := 0 } : Room).slots → Qo (.returned v) u) → Go p e below Qo s₁ (mkF m 0 #[.val (.ref r1), .val (.int tt)] []) from
    Go.cast (ef_4 m r1 tt) (H _ fun v u L h1 h2 => ⟨v, L, rfl, h1, h2⟩)
  intro Qo hQo
  show Go p e below Qo s₁ (mkF m 0 #[.val (.ref r1), .val (.int tt)] [])
  refine Go.of (fun t k => XS.aloadN X0.here hx rfl (hb hby d4_0) rfl rfl k) ?_
  show Go p e below Qo s₁ (mkF m 1 #[.val (.ref r1), .val (.int tt)] [(.ref r1)])
  obtain ⟨T1, X1, e1, st1⟩ := getF X0 hx hZ hown (host := "") (Or.inl (hw _ (List.mem_of_getElem? (i := 16) rfl))) Via.refl e0 f0 (g := (mkF m 1 #[.val (.ref r1), .val (.int tt)] [(.ref r1)])) rfl rfl (hb hby d4_1)
  refine Go.of st1 ?_
  show Go p e below Qo T1 (mkF m 4 #[.val (.ref r1), .val (.int tt)] [(.int w)])
  by_cases hc4_2 : w = (0 : Int32)
  · refine Go.of (fun t k => XS.ifYes X1.here hx rfl (pc0 := 4) (pc' := 15) rfl (hb hby d4_4) rfl ((if0 _ _).trans (teq hc4_2).1) (by decide) (by decide) k) ?_
    show Go p e below Qo T1 (mkF m 15 #[.val (.ref r1), .val (.int tt)] [])
    refine Go.of (fun t k => XS.aloadN X1.here hx rfl (hb hby d4_15) rfl rfl k) ?_
    show Go p e below Qo T1 (mkF m 16 #[.val (.ref r1), .val (.int tt)] [(.ref r1)])
    obtain ⟨T3, X3, e3, st3⟩ := getF X1 hx hZ hown (host := "") (Or.inl (hw _ (List.mem_of_getElem? (i := 14) rfl))) Via.refl e1 f1 (g := (mkF m 16 #[.val (.ref r1), .val (.int tt)] [(.ref r1)])) rfl rfl (hb hby d4_16)
    refine Go.of st3 ?_
    show Go p e below Qo T3 (mkF m 19 #[.val (.ref r1), .val (.int tt)] [(.int tm)])
    refine Go.of (fun t k => XS.i2l X3.here hx rfl (hb hby d4_19) rfl k) ?_
    show Go p e below Qo T3 (mkF m 20 #[.val (.ref r1), .val (.int tt)] [(.long (tm.toInt64))])
    refine Go.of (fun t k => XS.iloadN X3.here hx rfl (hb hby d4_20) rfl  k) ?_
    show Go p e below Qo T3 (mkF m 21 #[.val (.ref r1), .val (.int tt)] [(.int tt), (.long (tm.toInt64))])
    refine Go.of (fun t k => XS.i2l X3.here hx rfl (hb hby d4_21) rfl k) ?_
    show Go p e below Qo T3 (mkF m 22 #[.val (.ref r1), .val (.int tt)] [(.long (tt.toInt64)), (.long (tm.toInt64))])
    refine Go.of (fun t k => XS.ladd X3.here hx rfl (hb hby d4_22) rfl k) ?_
    show Go p e below Qo T3 (mkF m 23 #[.val (.ref r1), .val (.int tt)] [(.long ((tm.toInt64) + (tt.toInt64)))])
    exact own_retW X3 hx Bd.notSynchronized Bd.returns rfl (Or.inr (Or.inl ⟨rfl, rfl, _, rfl⟩)) (hb hby d4_23) (fun u hu hF => hQo _ _ _ ⟨by rw [show (F4 tt w tm) = ((tm.toInt64) + (tt.toInt64)) from by rw [F4, if_pos hc4_2]], N0, by rw [hu, e3]⟩ (own_mono hF (by decide) (by decide)))
  · refine Go.of (fun t k => XS.ifNo X1.here hx rfl (hb hby d4_4) rfl ((if0 _ _).trans (feq hc4_2).1) k) ?_
    show Go p e below Qo T1 (mkF m 7 #[.val (.ref r1), .val (.int tt)] [])
    refine Go.of (fun t k => XS.aloadN X1.here hx rfl (hb hby d4_7) rfl rfl k) ?_
    show Go p e below Qo T1 (mkF m 8 #[.val (.ref r1), .val (.int tt)] [(.ref r1)])
    obtain ⟨T4, X4, e4, st4⟩ := getF X1 hx hZ hown (host := "") (Or.inl (hw _ (List.mem_of_getElem? (i := 14) rfl))) Via.refl e1 f1 (g := (mkF m 8 #[.val (.ref r1), .val (.int tt)] [(.ref r1)])) rfl rfl (hb hby d4_8)
    refine Go.of st4 ?_
    show Go p e below Qo T4 (mkF m 11 #[.val (.ref r1), .val (.int tt)] [(.int tm)])
    refine Go.of (fun t k => XS.i2l X4.here hx rfl (hb hby d4_11) rfl k) ?_
    show Go p e below Qo T4 (mkF m 12 #[.val (.ref r1), .val (.int tt)] [(.long (tm.toInt64))])
    refine Go.of (fun t k => XS.goto X4.here hx rfl (pc0 := 12) (pc' := 23) rfl (hb hby d4_12) (by decide) (by decide) k) ?_
    show Go p e below Qo T4 (mkF m 23 #[.val (.ref r1), .val (.int tt)] [(.long (tm.toInt64))])
    exact own_retW X4 hx Bd.notSynchronized Bd.returns rfl (Or.inr (Or.inl ⟨rfl, rfl, _, rfl⟩)) (hb hby d4_23) (fun u hu hF => hQo _ _ _ ⟨by rw [show (F4 tt w tm) = (tm.toInt64) from by rw [F4, if_neg hc4_2]], N0, by rw [hu, e4]⟩ (own_mono hF (by decide) (by decide)))
theorem d5_0 : decode prog_41_method_4_code 0 = .ok (.aload_n 0, 1) := by decide +kernel
theorem d5_1 : decode prog_41_method_4_code 1 = .ok (.getfield 13, 3) := by decide +kernel
theorem d5_4 : decode prog_41_method_4_code 4 = .ok (.ifCond .eq 14, 3) := by decide +kernel
theorem d5_7 : decode prog_41_method_4_code 7 = .ok (.aload_n 0, 1) := by decide +kernel
theorem d5_8 : decode prog_41_method_4_code 8 = .ok (.getfield 7, 3) := by decide +kernel
theorem d5_11 : decode prog_41_method_4_code 11 = .ok (.i2l, 1) := by decide +kernel
theorem d5_12 : decode prog_41_method_4_code 12 = .ok (.iload_n 1, 1) := by decide +kernel
theorem d5_13 : decode prog_41_method_4_code 13 = .ok (.i2l, 1) := by decide +kernel
theorem d5_14 : decode prog_41_method_4_code 14 = .ok (.lsub, 1) := by decide +kernel
theorem d5_15 : decode prog_41_method_4_code 15 = .ok (.goto 8, 3) := by decide +kernel
theorem d5_18 : decode prog_41_method_4_code 18 = .ok (.aload_n 0, 1) := by decide +kernel
theorem d5_19 : decode prog_41_method_4_code 19 = .ok (.getfield 7, 3) := by decide +kernel
theorem d5_22 : decode prog_41_method_4_code 22 = .ok (.i2l, 1) := by decide +kernel
theorem d5_23 : decode prog_41_method_4_code 23 = .ok (.lreturn, 1) := by decide +kernel
theorem ef_5 (m : MethodId) (r1 : Addr) (tt : Int32)  : entryFrame m #[(.ref r1), (.int tt)] 2 = mkF m 0 #[.val (.ref r1), .val (.int tt)] [] := by
  first | (simp [entryFrame, mkF, argsToLocals, Value.category]; done) | rfl
def F5 (tt : Int32) (w : Int32) (tm : Int32) : Int64 := (if w = (0 : Int32) then (tm.toInt64) else ((tm.toInt64) - (tt.toInt64)))
def Q5 (Z : State) (r1 : Addr) (tt : Int32) (w : Int32) (tm : Int32) (h0 : Heap) (n0 : Nat) (v : Option Value) (h : Heap) (L : List Loc) : Prop := v = some (.long (F5 tt w tm)) ∧ Fr n0 L ∧ h = h0
set_option maxRecDepth 65536 in
set_option maxHeartbeats 40000000 in
theorem rm5 (l : Launch) (Z : State) (a0 : Array Value) (hw : ∀ d ∈ tables_1, d.before a0 Z = true) (ws : List Jvm.Cond) (r1 : Addr) (tt : Int32) (w : Int32) (tm : Int32) (h0 : Heap) (n0 : Nat) (Z0 : n0 ≤ h0.size) (f0 : Fld Z h0 r1 "com/example/werktag/werktag/TripAnchor" "arrives" "Z" (.int w)) (f1 : Fld Z h0 r1 "com/example/werktag/werktag/TripAnchor" "time" "I" (.int tm)) :
    MetFree l (⟨"com/example/werktag/werktag/TripAnchor", "departure", "(I)J"⟩ : MethodName) (head1 (Jvm.Cond.code (⟨"com/example/werktag/werktag/TripAnchor", "departure", "(I)J"⟩ : MethodName) prog_41_method_4_code 2 (some .long) :: ws) ({ frames := 0, cells := 0, slots := 0, locals := 0 } : Room)) (fun a U => a = #[(.ref r1), (.int tt)] ∧ Z.Warmed39 U.vm ∧ U.heap = h0) (fun _ _ _ _ _ => True) (fun _ U o U' => ∃ v L, o = .returned v ∧ Q5 Z r1 tt w tm h0 n0 v U'.heap L ∧ FrameEnd U o U' L ({ frames := 0, cells := 0, slots := 0, locals := 0 } : Room).cells ({ frames := 0, cells := 0, slots := 0, locals := 0 } : Room).slots) := by
  refine MetFree.of_bodySF (plainFor_of_name pn_1) hisR ?_
  intro p e s m args below meth c s₁ Bd hml0 hP hK
  obtain ⟨rfl, hZ, hh⟩ := hP
  have hx := Bd.exec
  have hby := Bd.bytes
  have hml : c.maxLocals = 2 := hml0
  have hown : s.vm.findClass "com/example/werktag/werktag/TripAnchor" = some m.cls := findClass_of_methodNamed Bd.named
  have hnm := (name_of_methodNamed Bd.named Bd.method).1
  have X0 : Stand p l e ({ frames := 0, cells := 0, slots := 0, locals := 0 } : Room) s m #[(.ref r1), (.int tt)] below meth c s₁ [] 0 0 := Stand.of_body Bd
  have e0 : s₁.heap = h0 := by rw [← hh, Bd.state]; rfl
  have N0 := Fr.nil n0
  suffices H : ∀ Qo : Outcome → State → Prop, (∀ (v : Option Value) (u : State) (L : List Loc), Q5 Z r1 tt w tm h0 n0 v u.heap L → FrameEnd s (.returned v) u L ({ frames := 0, cells := 0, slots := 0, locals := 0 } : Room).cells ({ frames := 0, cells := 0, slots := 0, locals := 0 } : Room).slots → Qo (.returned v) u) → Go p e below Qo s₁ (mkF m 0 #[.val (.ref r1), .val (.int tt)] []) from
    Go.cast (ef_5 m r1 tt) (H _ fun v u L h1 h2 => ⟨v, L, rfl, h1, h2⟩)
  intro Qo hQo
  show Go p e below Qo s₁ (mkF m 0 #[.val (.ref r1), .val (.int tt)] [])
  refine Go.of (fun t k => XS.aloadN X0.here hx rfl (hb hby d5_0) rfl rfl k) ?_
  show Go p e below Qo s₁ (mkF m 1 #[.val (.ref r1), .val (.int tt)] [(.ref r1)])
  obtain ⟨T1, X1, e1, st1⟩ := getF X0 hx hZ hown (host := "") (Or.inl (hw _ (List.mem_of_getElem? (i := 16) rfl))) Via.refl e0 f0 (g := (mkF m 1 #[.val (.ref r1), .val (.int tt)] [(.ref r1)])) rfl rfl (hb hby d5_1)
  refine Go.of st1 ?_
  show Go p e below Qo T1 (mkF m 4 #[.val (.ref r1), .val (.int tt)] [(.int w)])
  by_cases hc4_2 : w = (0 : Int32)
  · refine Go.of (fun t k => XS.ifYes X1.here hx rfl (pc0 := 4) (pc' := 18) rfl (hb hby d5_4) rfl ((if0 _ _).trans (teq hc4_2).1) (by decide) (by decide) k) ?_
    show Go p e below Qo T1 (mkF m 18 #[.val (.ref r1), .val (.int tt)] [])
    refine Go.of (fun t k => XS.aloadN X1.here hx rfl (hb hby d5_18) rfl rfl k) ?_
    show Go p e below Qo T1 (mkF m 19 #[.val (.ref r1), .val (.int tt)] [(.ref r1)])
    obtain ⟨T3, X3, e3, st3⟩ := getF X1 hx hZ hown (host := "") (Or.inl (hw _ (List.mem_of_getElem? (i := 14) rfl))) Via.refl e1 f1 (g := (mkF m 19 #[.val (.ref r1), .val (.int tt)] [(.ref r1)])) rfl rfl (hb hby d5_19)
    refine Go.of st3 ?_
    show Go p e below Qo T3 (mkF m 22 #[.val (.ref r1), .val (.int tt)] [(.int tm)])
    refine Go.of (fun t k => XS.i2l X3.here hx rfl (hb hby d5_22) rfl k) ?_
    show Go p e below Qo T3 (mkF m 23 #[.val (.ref r1), .val (.int tt)] [(.long (tm.toInt64))])
    exact own_retW X3 hx Bd.notSynchronized Bd.returns rfl (Or.inr (Or.inl ⟨rfl, rfl, _, rfl⟩)) (hb hby d5_23) (fun u hu hF => hQo _ _ _ ⟨by rw [show (F5 tt w tm) = (tm.toInt64) from by rw [F5, if_pos hc4_2]], N0, by rw [hu, e3]⟩ (own_mono hF (by decide) (by decide)))
  · refine Go.of (fun t k => XS.ifNo X1.here hx rfl (hb hby d5_4) rfl ((if0 _ _).trans (feq hc4_2).1) k) ?_
    show Go p e below Qo T1 (mkF m 7 #[.val (.ref r1), .val (.int tt)] [])
    refine Go.of (fun t k => XS.aloadN X1.here hx rfl (hb hby d5_7) rfl rfl k) ?_
    show Go p e below Qo T1 (mkF m 8 #[.val (.ref r1), .val (.int tt)] [(.ref r1)])
    obtain ⟨T4, X4, e4, st4⟩ := getF X1 hx hZ hown (host := "") (Or.inl (hw _ (List.mem_of_getElem? (i := 14) rfl))) Via.refl e1 f1 (g := (mkF m 8 #[.val (.ref r1), .val (.int tt)] [(.ref r1)])) rfl rfl (hb hby d5_8)
    refine Go.of st4 ?_
    show Go p e below Qo T4 (mkF m 11 #[.val (.ref r1), .val (.int tt)] [(.int tm)])
    refine Go.of (fun t k => XS.i2l X4.here hx rfl (hb hby d5_11) rfl k) ?_
    show Go p e below Qo T4 (mkF m 12 #[.val (.ref r1), .val (.int tt)] [(.long (tm.toInt64))])
    refine Go.of (fun t k => XS.iloadN X4.here hx rfl (hb hby d5_12) rfl  k) ?_
    show Go p e below Qo T4 (mkF m 13 #[.val (.ref r1), .val (.int tt)] [(.int tt), (.long (tm.toInt64))])
    refine Go.of (fun t k => XS.i2l X4.here hx rfl (hb hby d5_13) rfl k) ?_
    show Go p e below Qo T4 (mkF m 14 #[.val (.ref r1), .val (.int tt)] [(.long (tt.toInt64)), (.long (tm.toInt64))])
    refine Go.of (fun t k => XS.lsub X4.here hx rfl (hb hby d5_14) rfl k) ?_
    show Go p e below Qo T4 (mkF m 15 #[.val (.ref r1), .val (.int tt)] [(.long ((tm.toInt64) - (tt.toInt64)))])
    refine Go.of (fun t k => XS.goto X4.here hx rfl (pc0 := 15) (pc' := 23) rfl (hb hby d5_15) (by decide) (by decide) k) ?_
    show Go p e below Qo T4 (mkF m 23 #[.val (.ref r1), .val (.int tt)] [(.long ((tm.toInt64) - (tt.toInt64)))])
    exact own_retW X4 hx Bd.notSynchronized Bd.returns rfl (Or.inr (Or.inl ⟨rfl, rfl, _, rfl⟩)) (hb hby d5_23) (fun u hu hF => hQo _ _ _ ⟨by rw [show (F5 tt w tm) = ((tm.toInt64) - (tt.toInt64)) from by rw [F5, if_neg hc4_2]], N0, by rw [hu, e4]⟩ (own_mono hF (by decide) (by decide)))
theorem own_b (v : Int32) (h : v = 0 ∨ v = 1) : nar .boolean v = v := by rcases h with rfl | rfl <;> rfl
theorem own_l1 (a b : Int64) : a + b - a = b := by rw [Int64.add_comm, Int64.add_sub_cancel]
theorem own_l2 (a b : Int64) : a - (a - b) = b := by grind
theorem own_span (tt v tm : Int32) : F4 tt v tm - F5 tt v tm = tt.toInt64 := by
  unfold F4 F5
  by_cases h : v = 0
  · rw [if_pos h, if_pos h]; exact own_l1 _ _
  · rw [if_neg h, if_neg h]; exact own_l2 _ _
theorem own_law (i1 i2 i3 v a b r : Int32) (hv : v = if (i3 &&& 1) = 0 then 0 else 1) (ha : a = if (F4 i2 (nar .boolean v) i1) - (F5 i2 (nar .boolean v) i1) = i2.toInt64 then 1 else 0)
    (hb : b = if v = 0 then (if F5 i2 (nar .boolean v) i1 = i1.toInt64 then 1 else 0) else (if F4 i2 (nar .boolean v) i1 = i1.toInt64 then 1 else 0)) (hr : r = if a = 0 then 0 else if b = 0 then 0 else 1) : r = 1 := by
  have h01 : v = 0 ∨ v = 1 := by rw [hv]; by_cases k : (i3 &&& 1) = 0 <;> simp [k]
  rw [own_b v h01] at ha hb
  rw [if_pos (own_span _ _ _)] at ha
  rw [hr, ha, hb]
  rcases h01 with rfl | rfl
  · simp [F5]
  · simp [F4]
theorem pd_1 : parseMethodDescriptor "(IZ)V" = some ⟨[.int, .boolean], none⟩ := by decide +kernel
theorem pd_2 : parseMethodDescriptor "(I)J" = some ⟨[.int], some .long⟩ := by decide +kernel
theorem pn_2 : plainName "com/example/werktag/werktag/TripAnchorDeparturePinLaw" = true := by first | (simp [plainName, overriddenIn]; done) | decide +kernel
theorem ef_0 (m : MethodId) (i1 : Int32) (i2 : Int32) (i3 : Int32)  : entryFrame m #[(.int i1), (.int i2), (.int i3)] maxLocals = mkF m 0 #[.val (.int i1), .val (.int i2), .val (.int i3), .unset, .unset, .unset, .unset, .unset, .unset, .unset, .unset] [] := by
  first | (simp [entryFrame, mkF, argsToLocals, Value.category, maxLocals]; done) | rfl
def Q0 (Z : State) (i1 : Int32) (i2 : Int32) (i3 : Int32) (h0 : Heap) (n0 : Nat) (v : Option Value) (h : Heap) (L : List Loc) : Prop := v = some (.int 1) ∧ Fr n0 L
set_option maxRecDepth 65536 in
set_option maxHeartbeats 40000000 in
theorem rm0 (l : Launch) (Z : State) (a0 : Array Value) (hw : ∀ d ∈ tables_1, d.before a0 Z = true) (ws : List Jvm.Cond) (i1 : Int32) (i2 : Int32) (i3 : Int32) (h0 : Heap) (n0 : Nat) (Z0 : n0 ≤ h0.size)  :
    MetFree l x (head1 (Jvm.Cond.code x code maxLocals ret :: ws) room_1) (fun a U => a = #[(.int i1), (.int i2), (.int i3)] ∧ Z.Warmed39 U.vm ∧ U.heap = h0) (fun _ _ _ _ _ => True) (fun _ U o U' => ∃ v L, o = .returned v ∧ Q0 Z i1 i2 i3 h0 n0 v U'.heap L ∧ FrameEnd U o U' L 1 2) := by
  refine MetFree.of_bodySF (plainFor_of_name pn_2) hisR ?_
  intro p e s m args below meth c s₁ Bd hml0 hP hK
  obtain ⟨rfl, hZ, hh⟩ := hP
  have hx := Bd.exec
  have hby := Bd.bytes
  have hml : c.maxLocals = 11 := hml0
  have hown : s.vm.findClass "com/example/werktag/werktag/TripAnchorDeparturePinLaw" = some m.cls := findClass_of_methodNamed Bd.named
  have hnm := (name_of_methodNamed Bd.named Bd.method).1
  have X0 : Stand p l e room_1 s m #[(.int i1), (.int i2), (.int i3)] below meth c s₁ [] 0 0 := Stand.of_body Bd
  have e0 : s₁.heap = h0 := by rw [← hh, Bd.state]; rfl
  have N0 := Fr.nil n0
  suffices H : ∀ Qo : Outcome → State → Prop, (∀ (v : Option Value) (u : State) (L : List Loc), Q0 Z i1 i2 i3 h0 n0 v u.heap L → FrameEnd s (.returned v) u L 1 2 → Qo (.returned v) u) → Go p e below Qo s₁ (mkF m 0 #[.val (.int i1), .val (.int i2), .val (.int i3), .unset, .unset, .unset, .unset, .unset, .unset, .unset, .unset] []) from
    Go.cast (ef_0 m i1 i2 i3) (H _ fun v u L h1 h2 => ⟨v, L, rfl, h1, h2⟩)
  intro Qo hQo
  show Go p e below Qo s₁ (mkF m 0 #[.val (.int i1), .val (.int i2), .val (.int i3), .unset, .unset, .unset, .unset, .unset, .unset, .unset, .unset] [])
  refine Go.of (fun t k => XS.iloadN X0.here hx rfl (hb hby at_0) rfl  k) ?_
  show Go p e below Qo s₁ (mkF m 1 #[.val (.int i1), .val (.int i2), .val (.int i3), .unset, .unset, .unset, .unset, .unset, .unset, .unset, .unset] [(.int i3)])
  refine Go.of (fun t k => XS.iconst X0.here hx rfl (hb hby at_1) k) ?_
  show Go p e below Qo s₁ (mkF m 2 #[.val (.int i1), .val (.int i2), .val (.int i3), .unset, .unset, .unset, .unset, .unset, .unset, .unset, .unset] [(.int (1 : Int32)), (.int i3)])
  refine Go.of (fun t k => XS.iand X0.here hx rfl (hb hby at_2) rfl k) ?_
  show Go p e below Qo s₁ (mkF m 3 #[.val (.int i1), .val (.int i2), .val (.int i3), .unset, .unset, .unset, .unset, .unset, .unset, .unset, .unset] [(.int (i3 &&& (1 : Int32)))])
  have J3_3 : ∀ (v3_2 : Int32), v3_2 = (if (i3 &&& (1 : Int32)) = (0 : Int32) then (0 : Int32) else (1 : Int32)) → Go p e below Qo s₁ (mkF m 11 #[.val (.int i1), .val (.int i2), .val (.int i3), .unset, .unset, .unset, .unset, .unset, .unset, .unset, .unset] [(.int v3_2)]) := by
    intro v3_2 hv3_2
    show Go p e below Qo s₁ (mkF m 11 #[.val (.int i1), .val (.int i2), .val (.int i3), .unset, .unset, .unset, .unset, .unset, .unset, .unset, .unset] [(.int v3_2)])
    refine Go.of (fun t k => XS.istoreN X0.here hx rfl (hb hby at_11) rfl (l' := #[.val (.int i1), .val (.int i2), .val (.int i3), .val (.int v3_2), .unset, .unset, .unset, .unset, .unset, .unset, .unset]) rfl k) ?_
    show Go p e below Qo s₁ (mkF m 12 #[.val (.int i1), .val (.int i2), .val (.int i3), .val (.int v3_2), .unset, .unset, .unset, .unset, .unset, .unset, .unset] [])
    obtain ⟨T4, h4, X4, e4, E4, A4, D4, -, st4⟩ := newO X0 hx hZ hown (hw _ (List.mem_of_getElem? (i := 0) rfl)) (hw _ (List.mem_of_getElem? (i := 1) rfl)) (hw _ (List.mem_of_getElem? (i := 2) rfl)) e0 (g := (mkF m 12 #[.val (.int i1), .val (.int i2), .val (.int i3), .val (.int v3_2), .unset, .unset, .unset, .unset, .unset, .unset, .unset] [])) rfl (hb hby at_12) (by decide) (by decide)
    obtain ⟨b4, g4⟩ : ∃ z, z = h0.size := ⟨_, rfl⟩
    rw [← g4] at A4 D4 st4
    have g5 : n0 ≤ b4 := Nat.le_trans Z0 (Nat.le_of_eq g4.symm)
    have Z6 : n0 ≤ h4.size := Nat.le_trans Z0 E4.1
    have q7 : Fld Z h4 b4 "com/example/werktag/werktag/TripAnchor" "time" "I" (.int (0 : Int32)) := D4 (Or.inr (hw _ (List.mem_of_getElem? (i := 15) rfl))) (ty := .int) (by decide)
    have q8 : Fld Z h4 b4 "com/example/werktag/werktag/TripAnchor" "arrives" "Z" (.int (0 : Int32)) := D4 (Or.inr (hw _ (List.mem_of_getElem? (i := 17) rfl))) (ty := .boolean) (by decide)
    refine Go.of st4 ?_
    show Go p e below Qo T4 (mkF m 15 #[.val (.int i1), .val (.int i2), .val (.int i3), .val (.int v3_2), .unset, .unset, .unset, .unset, .unset, .unset, .unset] [(.ref b4)])
    refine Go.of (fun t k => XS.dup X4.here hx rfl (hb hby at_15) rfl rfl k) ?_
    show Go p e below Qo T4 (mkF m 16 #[.val (.int i1), .val (.int i2), .val (.int i3), .val (.int v3_2), .unset, .unset, .unset, .unset, .unset, .unset, .unset] [(.ref b4), (.ref b4)])
    refine Go.of (fun t k => XS.iloadN X4.here hx rfl (hb hby at_16) rfl  k) ?_
    show Go p e below Qo T4 (mkF m 17 #[.val (.int i1), .val (.int i2), .val (.int i3), .val (.int v3_2), .unset, .unset, .unset, .unset, .unset, .unset, .unset] [(.int i1), (.ref b4), (.ref b4)])
    refine Go.of (fun t k => XS.iloadN X4.here hx rfl (hb hby at_17) rfl  k) ?_
    show Go p e below Qo T4 (mkF m 18 #[.val (.int i1), .val (.int i2), .val (.int i3), .val (.int v3_2), .unset, .unset, .unset, .unset, .unset, .unset, .unset] [(.int v3_2), (.int i1), (.ref b4), (.ref b4)])
    obtain ⟨_, _, ⟨T9, L9, k9, n9⟩, -, X9, ⟨Lc9, hQ9, l9, y9, z9⟩, st9⟩ := X4.specialBack hx (y := (⟨"com/example/werktag/werktag/TripAnchor", "<init>", "(IZ)V"⟩ : MethodName)) rfl hown (mvT hZ (hw _ (List.mem_of_getElem? (i := 3) rfl))) (mvT hZ (hw _ (List.mem_of_getElem? (i := 4) rfl))) (mvT hZ (hw _ (List.mem_of_getElem? (i := 5) rfl))) (by decide) (backOf (W := 1) (rm1 l Z a0 hw [] b4 i1 v3_2 (.int (0 : Int32)) (.int (0 : Int32)) h4 n0 Z6 A4 q7 q8 g5) hZ (hw _ (List.mem_of_getElem? (i := 5) rfl)) (hw _ (List.mem_of_getElem? (i := 2) rfl)) (by decide) (by decide)) (g := (mkF m 18 #[.val (.int i1), .val (.int i2), .val (.int i3), .val (.int v3_2), .unset, .unset, .unset, .unset, .unset, .unset, .unset] [(.int v3_2), (.int i1), (.ref b4), (.ref b4)])) rfl (by rw [hml]; rfl) (Steps.refl _) (a := b4) (argsL := [(.int i1), (.int v3_2)]) (rest := [(.ref b4)]) (lenOf pd_1 rfl) rfl (by show 2 * 0 + _ ≤ _; exact Nat.le_of_eq rfl) (hb hby at_18) (fun _ _ => ⟨rfl, e4, (by decide : 1 + 0 ≤ _), (by decide : 2 + 0 ≤ _)⟩)
    dsimp only [Pt.U, Pt.locs, Pt.cells, Pt.slots] at X9 l9 y9 z9 st9 hQ9
    subst l9 y9 z9
    obtain ⟨rfl, N10, Kc11, q12, q13, q14⟩ := hQ9
    have N15 := Fr.app N0 N10
    have Z16 : n0 ≤ T9.heap.size := Nat.le_trans Z6 Kc11.1
    refine Go.via st9 ?_
    show Go p e below Qo T9 (mkF m 21 #[.val (.int i1), .val (.int i2), .val (.int i3), .val (.int v3_2), .unset, .unset, .unset, .unset, .unset, .unset, .unset] [(.ref b4)])
    refine Go.of (fun t k => XS.astore X9.here hx rfl (hb hby at_21) rfl rfl (l' := #[.val (.int i1), .val (.int i2), .val (.int i3), .val (.int v3_2), .val (.ref b4), .unset, .unset, .unset, .unset, .unset, .unset]) rfl k) ?_
    show Go p e below Qo T9 (mkF m 23 #[.val (.int i1), .val (.int i2), .val (.int i3), .val (.int v3_2), .val (.ref b4), .unset, .unset, .unset, .unset, .unset, .unset] [])
    refine Go.of (fun t k => XS.aload X9.here hx rfl (hb hby at_23) rfl rfl k) ?_
    show Go p e below Qo T9 (mkF m 25 #[.val (.int i1), .val (.int i2), .val (.int i3), .val (.int v3_2), .val (.ref b4), .unset, .unset, .unset, .unset, .unset, .unset] [(.ref b4)])
    refine Go.of (fun t k => XS.iloadN X9.here hx rfl (hb hby at_25) rfl  k) ?_
    show Go p e below Qo T9 (mkF m 26 #[.val (.int i1), .val (.int i2), .val (.int i3), .val (.int v3_2), .val (.ref b4), .unset, .unset, .unset, .unset, .unset, .unset] [(.int i2), (.ref b4)])
    obtain ⟨ciq18, kiq18, iq18a, iq18b, iq18c⟩ := isOf hZ rfl q12
    obtain ⟨_, _, ⟨T17, L17, k17, n17⟩, -, X17, ⟨Lc17, hQ17, l17, y17, z17⟩, st17⟩ := X9.virtualBack hx (y := (⟨"com/example/werktag/werktag/TripAnchor", "departure", "(I)J"⟩ : MethodName)) (z := (⟨"com/example/werktag/werktag/TripAnchor", "departure", "(I)J"⟩ : MethodName)) hown (mvT hZ (hw _ (List.mem_of_getElem? (i := 18) rfl))) (mvT hZ (hw _ (List.mem_of_getElem? (i := 19) rfl))) (notFace_of_selects (args := #[]) (mvT hZ (hw _ (List.mem_of_getElem? (i := 21) rfl)))) (mvT hZ (hw _ (List.mem_of_getElem? (i := 21) rfl))) (mvT hZ (hw _ (List.mem_of_getElem? (i := 20) rfl))) (by decide) (backOf (W := 0) (rm5 l Z a0 hw [] b4 i2 (nar .boolean v3_2) i1 T9.heap n0 Z16 q14 q13) hZ (hw _ (List.mem_of_getElem? (i := 22) rfl)) (hw _ (List.mem_of_getElem? (i := 2) rfl)) (by decide) (by decide)) iq18a iq18c (g := (mkF m 26 #[.val (.int i1), .val (.int i2), .val (.int i3), .val (.int v3_2), .val (.ref b4), .unset, .unset, .unset, .unset, .unset, .unset] [(.int i2), (.ref b4)])) rfl (by rw [hml]; rfl) (Steps.refl _) (argsL := [(.int i2)]) (rest := []) (lenOf pd_2 rfl) rfl (by show 2 * 0 + _ ≤ _; exact Nat.le_of_eq rfl) (hb hby at_26) (fun _ _ => ⟨rfl, rfl, (by decide : 1 + 0 ≤ _), (by decide : 2 + 0 ≤ _)⟩)
    dsimp only [Pt.U, Pt.locs, Pt.cells, Pt.slots] at X17 l17 y17 z17 st17 hQ17
    subst l17 y17 z17
    obtain ⟨rfl, N19, eh20⟩ := hQ17
    have N21 := Fr.app N15 N19
    refine Go.via st17 ?_
    show Go p e below Qo T17 (mkF m 29 #[.val (.int i1), .val (.int i2), .val (.int i3), .val (.int v3_2), .val (.ref b4), .unset, .unset, .unset, .unset, .unset, .unset] [(.long (F5 i2 (nar .boolean v3_2) i1))])
    refine Go.of (fun t k => XS.lstore X17.here hx rfl (hb hby at_29) rfl (l' := #[.val (.int i1), .val (.int i2), .val (.int i3), .val (.int v3_2), .val (.ref b4), .val (.long (F5 i2 (nar .boolean v3_2) i1)), .second, .unset, .unset, .unset, .unset]) rfl k) ?_
    show Go p e below Qo T17 (mkF m 31 #[.val (.int i1), .val (.int i2), .val (.int i3), .val (.int v3_2), .val (.ref b4), .val (.long (F5 i2 (nar .boolean v3_2) i1)), .second, .unset, .unset, .unset, .unset] [])
    refine Go.of (fun t k => XS.aload X17.here hx rfl (hb hby at_31) rfl rfl k) ?_
    show Go p e below Qo T17 (mkF m 33 #[.val (.int i1), .val (.int i2), .val (.int i3), .val (.int v3_2), .val (.ref b4), .val (.long (F5 i2 (nar .boolean v3_2) i1)), .second, .unset, .unset, .unset, .unset] [(.ref b4)])
    refine Go.of (fun t k => XS.iloadN X17.here hx rfl (hb hby at_33) rfl  k) ?_
    show Go p e below Qo T17 (mkF m 34 #[.val (.int i1), .val (.int i2), .val (.int i3), .val (.int v3_2), .val (.ref b4), .val (.long (F5 i2 (nar .boolean v3_2) i1)), .second, .unset, .unset, .unset, .unset] [(.int i2), (.ref b4)])
    obtain ⟨ciq23, kiq23, iq23a, iq23b, iq23c⟩ := isOf hZ eh20 q12
    obtain ⟨_, _, ⟨T22, L22, k22, n22⟩, -, X22, ⟨Lc22, hQ22, l22, y22, z22⟩, st22⟩ := X17.virtualBack hx (y := (⟨"com/example/werktag/werktag/TripAnchor", "arrival", "(I)J"⟩ : MethodName)) (z := (⟨"com/example/werktag/werktag/TripAnchor", "arrival", "(I)J"⟩ : MethodName)) hown (mvT hZ (hw _ (List.mem_of_getElem? (i := 23) rfl))) (mvT hZ (hw _ (List.mem_of_getElem? (i := 24) rfl))) (notFace_of_selects (args := #[]) (mvT hZ (hw _ (List.mem_of_getElem? (i := 26) rfl)))) (mvT hZ (hw _ (List.mem_of_getElem? (i := 26) rfl))) (mvT hZ (hw _ (List.mem_of_getElem? (i := 25) rfl))) (by decide) (backOf (W := 0) (rm4 l Z a0 hw [] b4 i2 (nar .boolean v3_2) i1 T9.heap n0 Z16 q14 q13) hZ (hw _ (List.mem_of_getElem? (i := 27) rfl)) (hw _ (List.mem_of_getElem? (i := 2) rfl)) (by decide) (by decide)) iq23a iq23c (g := (mkF m 34 #[.val (.int i1), .val (.int i2), .val (.int i3), .val (.int v3_2), .val (.ref b4), .val (.long (F5 i2 (nar .boolean v3_2) i1)), .second, .unset, .unset, .unset, .unset] [(.int i2), (.ref b4)])) rfl (by rw [hml]; rfl) (Steps.refl _) (argsL := [(.int i2)]) (rest := []) (lenOf pd_2 rfl) rfl (by show 2 * 0 + _ ≤ _; exact Nat.le_of_eq rfl) (hb hby at_34) (fun _ _ => ⟨rfl, eh20, (by decide : 1 + 0 ≤ _), (by decide : 2 + 0 ≤ _)⟩)
    dsimp only [Pt.U, Pt.locs, Pt.cells, Pt.slots] at X22 l22 y22 z22 st22 hQ22
    subst l22 y22 z22
    obtain ⟨rfl, N24, eh25⟩ := hQ22
    have N26 := Fr.app N21 N24
    refine Go.via st22 ?_
    show Go p e below Qo T22 (mkF m 37 #[.val (.int i1), .val (.int i2), .val (.int i3), .val (.int v3_2), .val (.ref b4), .val (.long (F5 i2 (nar .boolean v3_2) i1)), .second, .unset, .unset, .unset, .unset] [(.long (F4 i2 (nar .boolean v3_2) i1))])
    refine Go.of (fun t k => XS.lstore X22.here hx rfl (hb hby at_37) rfl (l' := #[.val (.int i1), .val (.int i2), .val (.int i3), .val (.int v3_2), .val (.ref b4), .val (.long (F5 i2 (nar .boolean v3_2) i1)), .second, .val (.long (F4 i2 (nar .boolean v3_2) i1)), .second, .unset, .unset]) rfl k) ?_
    show Go p e below Qo T22 (mkF m 39 #[.val (.int i1), .val (.int i2), .val (.int i3), .val (.int v3_2), .val (.ref b4), .val (.long (F5 i2 (nar .boolean v3_2) i1)), .second, .val (.long (F4 i2 (nar .boolean v3_2) i1)), .second, .unset, .unset] [])
    refine Go.of (fun t k => XS.lload X22.here hx rfl (hb hby at_39) rfl  k) ?_
    show Go p e below Qo T22 (mkF m 41 #[.val (.int i1), .val (.int i2), .val (.int i3), .val (.int v3_2), .val (.ref b4), .val (.long (F5 i2 (nar .boolean v3_2) i1)), .second, .val (.long (F4 i2 (nar .boolean v3_2) i1)), .second, .unset, .unset] [(.long (F4 i2 (nar .boolean v3_2) i1))])
    refine Go.of (fun t k => XS.lload X22.here hx rfl (hb hby at_41) rfl  k) ?_
    show Go p e below Qo T22 (mkF m 43 #[.val (.int i1), .val (.int i2), .val (.int i3), .val (.int v3_2), .val (.ref b4), .val (.long (F5 i2 (nar .boolean v3_2) i1)), .second, .val (.long (F4 i2 (nar .boolean v3_2) i1)), .second, .unset, .unset] [(.long (F5 i2 (nar .boolean v3_2) i1)), (.long (F4 i2 (nar .boolean v3_2) i1))])
    refine Go.of (fun t k => XS.lsub X22.here hx rfl (hb hby at_43) rfl k) ?_
    show Go p e below Qo T22 (mkF m 44 #[.val (.int i1), .val (.int i2), .val (.int i3), .val (.int v3_2), .val (.ref b4), .val (.long (F5 i2 (nar .boolean v3_2) i1)), .second, .val (.long (F4 i2 (nar .boolean v3_2) i1)), .second, .unset, .unset] [(.long ((F4 i2 (nar .boolean v3_2) i1) - (F5 i2 (nar .boolean v3_2) i1)))])
    refine Go.of (fun t k => XS.iloadN X22.here hx rfl (hb hby at_44) rfl  k) ?_
    show Go p e below Qo T22 (mkF m 45 #[.val (.int i1), .val (.int i2), .val (.int i3), .val (.int v3_2), .val (.ref b4), .val (.long (F5 i2 (nar .boolean v3_2) i1)), .second, .val (.long (F4 i2 (nar .boolean v3_2) i1)), .second, .unset, .unset] [(.int i2), (.long ((F4 i2 (nar .boolean v3_2) i1) - (F5 i2 (nar .boolean v3_2) i1)))])
    refine Go.of (fun t k => XS.i2l X22.here hx rfl (hb hby at_45) rfl k) ?_
    show Go p e below Qo T22 (mkF m 46 #[.val (.int i1), .val (.int i2), .val (.int i3), .val (.int v3_2), .val (.ref b4), .val (.long (F5 i2 (nar .boolean v3_2) i1)), .second, .val (.long (F4 i2 (nar .boolean v3_2) i1)), .second, .unset, .unset] [(.long (i2.toInt64)), (.long ((F4 i2 (nar .boolean v3_2) i1) - (F5 i2 (nar .boolean v3_2) i1)))])
    refine Go.of (fun t k => XS.lcmp X22.here hx rfl (hb hby at_46) rfl k) ?_
    show Go p e below Qo T22 (mkF m 47 #[.val (.int i1), .val (.int i2), .val (.int i3), .val (.int v3_2), .val (.ref b4), .val (.long (F5 i2 (nar .boolean v3_2) i1)), .second, .val (.long (F4 i2 (nar .boolean v3_2) i1)), .second, .unset, .unset] [(.int (lcmpW ((F4 i2 (nar .boolean v3_2) i1) - (F5 i2 (nar .boolean v3_2) i1)) (i2.toInt64)))])
    have J47_29 : ∀ (v47_28 : Int32), v47_28 = (if ((F4 i2 (nar .boolean v3_2) i1) - (F5 i2 (nar .boolean v3_2) i1)) = (i2.toInt64) then (1 : Int32) else (0 : Int32)) → Go p e below Qo T22 (mkF m 55 #[.val (.int i1), .val (.int i2), .val (.int i3), .val (.int v3_2), .val (.ref b4), .val (.long (F5 i2 (nar .boolean v3_2) i1)), .second, .val (.long (F4 i2 (nar .boolean v3_2) i1)), .second, .unset, .unset] [(.int v47_28)]) := by
      intro v47_28 hv47_28
      show Go p e below Qo T22 (mkF m 55 #[.val (.int i1), .val (.int i2), .val (.int i3), .val (.int v3_2), .val (.ref b4), .val (.long (F5 i2 (nar .boolean v3_2) i1)), .second, .val (.long (F4 i2 (nar .boolean v3_2) i1)), .second, .unset, .unset] [(.int v47_28)])
      refine Go.of (fun t k => XS.istore X22.here hx rfl (hb hby at_55) rfl (l' := #[.val (.int i1), .val (.int i2), .val (.int i3), .val (.int v3_2), .val (.ref b4), .val (.long (F5 i2 (nar .boolean v3_2) i1)), .second, .val (.long (F4 i2 (nar .boolean v3_2) i1)), .second, .val (.int v47_28), .unset]) rfl k) ?_
      show Go p e below Qo T22 (mkF m 57 #[.val (.int i1), .val (.int i2), .val (.int i3), .val (.int v3_2), .val (.ref b4), .val (.long (F5 i2 (nar .boolean v3_2) i1)), .second, .val (.long (F4 i2 (nar .boolean v3_2) i1)), .second, .val (.int v47_28), .unset] [])
      refine Go.of (fun t k => XS.iloadN X22.here hx rfl (hb hby at_57) rfl  k) ?_
      show Go p e below Qo T22 (mkF m 58 #[.val (.int i1), .val (.int i2), .val (.int i3), .val (.int v3_2), .val (.ref b4), .val (.long (F5 i2 (nar .boolean v3_2) i1)), .second, .val (.long (F4 i2 (nar .boolean v3_2) i1)), .second, .val (.int v47_28), .unset] [(.int v3_2)])
      have J58_34 : ∀ (v58_33 : Int32), v58_33 = (if v3_2 = (0 : Int32) then (if (F5 i2 (nar .boolean v3_2) i1) = (i1.toInt64) then (1 : Int32) else (0 : Int32)) else (if (F4 i2 (nar .boolean v3_2) i1) = (i1.toInt64) then (1 : Int32) else (0 : Int32))) → Go p e below Qo T22 (mkF m 90 #[.val (.int i1), .val (.int i2), .val (.int i3), .val (.int v3_2), .val (.ref b4), .val (.long (F5 i2 (nar .boolean v3_2) i1)), .second, .val (.long (F4 i2 (nar .boolean v3_2) i1)), .second, .val (.int v47_28), .unset] [(.int v58_33)]) := by
        intro v58_33 hv58_33
        show Go p e below Qo T22 (mkF m 90 #[.val (.int i1), .val (.int i2), .val (.int i3), .val (.int v3_2), .val (.ref b4), .val (.long (F5 i2 (nar .boolean v3_2) i1)), .second, .val (.long (F4 i2 (nar .boolean v3_2) i1)), .second, .val (.int v47_28), .unset] [(.int v58_33)])
        refine Go.of (fun t k => XS.istore X22.here hx rfl (hb hby at_90) rfl (l' := #[.val (.int i1), .val (.int i2), .val (.int i3), .val (.int v3_2), .val (.ref b4), .val (.long (F5 i2 (nar .boolean v3_2) i1)), .second, .val (.long (F4 i2 (nar .boolean v3_2) i1)), .second, .val (.int v47_28), .val (.int v58_33)]) rfl k) ?_
        show Go p e below Qo T22 (mkF m 92 #[.val (.int i1), .val (.int i2), .val (.int i3), .val (.int v3_2), .val (.ref b4), .val (.long (F5 i2 (nar .boolean v3_2) i1)), .second, .val (.long (F4 i2 (nar .boolean v3_2) i1)), .second, .val (.int v47_28), .val (.int v58_33)] [])
        refine Go.of (fun t k => XS.iload X22.here hx rfl (hb hby at_92) rfl  k) ?_
        show Go p e below Qo T22 (mkF m 94 #[.val (.int i1), .val (.int i2), .val (.int i3), .val (.int v3_2), .val (.ref b4), .val (.long (F5 i2 (nar .boolean v3_2) i1)), .second, .val (.long (F4 i2 (nar .boolean v3_2) i1)), .second, .val (.int v47_28), .val (.int v58_33)] [(.int v47_28)])
        have J94_38 : ∀ (v94_37 : Int32), v94_37 = (if v47_28 = (0 : Int32) then (0 : Int32) else (if v58_33 = (0 : Int32) then (0 : Int32) else (1 : Int32))) → Go p e below Qo T22 (mkF m 107 #[.val (.int i1), .val (.int i2), .val (.int i3), .val (.int v3_2), .val (.ref b4), .val (.long (F5 i2 (nar .boolean v3_2) i1)), .second, .val (.long (F4 i2 (nar .boolean v3_2) i1)), .second, .val (.int v47_28), .val (.int v58_33)] [(.int v94_37)]) := by
          intro v94_37 hv94_37
          show Go p e below Qo T22 (mkF m 107 #[.val (.int i1), .val (.int i2), .val (.int i3), .val (.int v3_2), .val (.ref b4), .val (.long (F5 i2 (nar .boolean v3_2) i1)), .second, .val (.long (F4 i2 (nar .boolean v3_2) i1)), .second, .val (.int v47_28), .val (.int v58_33)] [(.int v94_37)])
          have hfin : v94_37 = 1 := by
            exact own_law _ _ _ _ _ _ _ hv3_2 hv47_28 hv58_33 hv94_37
          exact own_retN X22 hx Bd.notSynchronized (t := .boolean) Bd.returns (by simp) (hb hby at_107) (fun u hu hF => hQo _ _ _ ⟨by rw [hfin]; rfl, N26⟩ (own_mono hF (by decide) (by decide)))
        by_cases hc94_39 : v47_28 = (0 : Int32)
        · refine Go.of (fun t k => XS.ifYes X22.here hx rfl (pc0 := 94) (pc' := 106) rfl (hb hby at_94) rfl ((if0 _ _).trans (teq hc94_39).1) (by decide) (by decide) k) ?_
          show Go p e below Qo T22 (mkF m 106 #[.val (.int i1), .val (.int i2), .val (.int i3), .val (.int v3_2), .val (.ref b4), .val (.long (F5 i2 (nar .boolean v3_2) i1)), .second, .val (.long (F4 i2 (nar .boolean v3_2) i1)), .second, .val (.int v47_28), .val (.int v58_33)] [])
          refine Go.of (fun t k => XS.iconst X22.here hx rfl (hb hby at_106) k) ?_
          show Go p e below Qo T22 (mkF m 107 #[.val (.int i1), .val (.int i2), .val (.int i3), .val (.int v3_2), .val (.ref b4), .val (.long (F5 i2 (nar .boolean v3_2) i1)), .second, .val (.long (F4 i2 (nar .boolean v3_2) i1)), .second, .val (.int v47_28), .val (.int v58_33)] [(.int (0 : Int32))])
          exact J94_38 _ (by first | rfl | (rw [if_pos hc94_39]) | (simp only [hc94_39, if_true, if_false]; done) | simp [hc94_39])
        · refine Go.of (fun t k => XS.ifNo X22.here hx rfl (hb hby at_94) rfl ((if0 _ _).trans (feq hc94_39).1) k) ?_
          show Go p e below Qo T22 (mkF m 97 #[.val (.int i1), .val (.int i2), .val (.int i3), .val (.int v3_2), .val (.ref b4), .val (.long (F5 i2 (nar .boolean v3_2) i1)), .second, .val (.long (F4 i2 (nar .boolean v3_2) i1)), .second, .val (.int v47_28), .val (.int v58_33)] [])
          refine Go.of (fun t k => XS.iload X22.here hx rfl (hb hby at_97) rfl  k) ?_
          show Go p e below Qo T22 (mkF m 99 #[.val (.int i1), .val (.int i2), .val (.int i3), .val (.int v3_2), .val (.ref b4), .val (.long (F5 i2 (nar .boolean v3_2) i1)), .second, .val (.long (F4 i2 (nar .boolean v3_2) i1)), .second, .val (.int v47_28), .val (.int v58_33)] [(.int v58_33)])
          by_cases hc99_40 : v58_33 = (0 : Int32)
          · refine Go.of (fun t k => XS.ifYes X22.here hx rfl (pc0 := 99) (pc' := 106) rfl (hb hby at_99) rfl ((if0 _ _).trans (teq hc99_40).1) (by decide) (by decide) k) ?_
            show Go p e below Qo T22 (mkF m 106 #[.val (.int i1), .val (.int i2), .val (.int i3), .val (.int v3_2), .val (.ref b4), .val (.long (F5 i2 (nar .boolean v3_2) i1)), .second, .val (.long (F4 i2 (nar .boolean v3_2) i1)), .second, .val (.int v47_28), .val (.int v58_33)] [])
            refine Go.of (fun t k => XS.iconst X22.here hx rfl (hb hby at_106) k) ?_
            show Go p e below Qo T22 (mkF m 107 #[.val (.int i1), .val (.int i2), .val (.int i3), .val (.int v3_2), .val (.ref b4), .val (.long (F5 i2 (nar .boolean v3_2) i1)), .second, .val (.long (F4 i2 (nar .boolean v3_2) i1)), .second, .val (.int v47_28), .val (.int v58_33)] [(.int (0 : Int32))])
            exact J94_38 _ (by first | rfl | (rw [if_neg hc94_39, if_pos hc99_40]) | (simp only [hc94_39, hc99_40, if_true, if_false]; done) | simp [hc94_39, hc99_40])
          · refine Go.of (fun t k => XS.ifNo X22.here hx rfl (hb hby at_99) rfl ((if0 _ _).trans (feq hc99_40).1) k) ?_
            show Go p e below Qo T22 (mkF m 102 #[.val (.int i1), .val (.int i2), .val (.int i3), .val (.int v3_2), .val (.ref b4), .val (.long (F5 i2 (nar .boolean v3_2) i1)), .second, .val (.long (F4 i2 (nar .boolean v3_2) i1)), .second, .val (.int v47_28), .val (.int v58_33)] [])
            refine Go.of (fun t k => XS.iconst X22.here hx rfl (hb hby at_102) k) ?_
            show Go p e below Qo T22 (mkF m 103 #[.val (.int i1), .val (.int i2), .val (.int i3), .val (.int v3_2), .val (.ref b4), .val (.long (F5 i2 (nar .boolean v3_2) i1)), .second, .val (.long (F4 i2 (nar .boolean v3_2) i1)), .second, .val (.int v47_28), .val (.int v58_33)] [(.int (1 : Int32))])
            refine Go.of (fun t k => XS.goto X22.here hx rfl (pc0 := 103) (pc' := 107) rfl (hb hby at_103) (by decide) (by decide) k) ?_
            show Go p e below Qo T22 (mkF m 107 #[.val (.int i1), .val (.int i2), .val (.int i3), .val (.int v3_2), .val (.ref b4), .val (.long (F5 i2 (nar .boolean v3_2) i1)), .second, .val (.long (F4 i2 (nar .boolean v3_2) i1)), .second, .val (.int v47_28), .val (.int v58_33)] [(.int (1 : Int32))])
            exact J94_38 _ (by first | rfl | (rw [if_neg hc94_39, if_neg hc99_40]) | (simp only [hc94_39, hc99_40, if_true, if_false]; done) | simp [hc94_39, hc99_40])
      by_cases hc58_41 : v3_2 = (0 : Int32)
      · refine Go.of (fun t k => XS.ifYes X22.here hx rfl (pc0 := 58) (pc' := 77) rfl (hb hby at_58) rfl ((if0 _ _).trans (teq hc58_41).1) (by decide) (by decide) k) ?_
        show Go p e below Qo T22 (mkF m 77 #[.val (.int i1), .val (.int i2), .val (.int i3), .val (.int v3_2), .val (.ref b4), .val (.long (F5 i2 (nar .boolean v3_2) i1)), .second, .val (.long (F4 i2 (nar .boolean v3_2) i1)), .second, .val (.int v47_28), .unset] [])
        refine Go.of (fun t k => XS.lload X22.here hx rfl (hb hby at_77) rfl  k) ?_
        show Go p e below Qo T22 (mkF m 79 #[.val (.int i1), .val (.int i2), .val (.int i3), .val (.int v3_2), .val (.ref b4), .val (.long (F5 i2 (nar .boolean v3_2) i1)), .second, .val (.long (F4 i2 (nar .boolean v3_2) i1)), .second, .val (.int v47_28), .unset] [(.long (F5 i2 (nar .boolean v3_2) i1))])
        refine Go.of (fun t k => XS.iloadN X22.here hx rfl (hb hby at_79) rfl  k) ?_
        show Go p e below Qo T22 (mkF m 80 #[.val (.int i1), .val (.int i2), .val (.int i3), .val (.int v3_2), .val (.ref b4), .val (.long (F5 i2 (nar .boolean v3_2) i1)), .second, .val (.long (F4 i2 (nar .boolean v3_2) i1)), .second, .val (.int v47_28), .unset] [(.int i1), (.long (F5 i2 (nar .boolean v3_2) i1))])
        refine Go.of (fun t k => XS.i2l X22.here hx rfl (hb hby at_80) rfl k) ?_
        show Go p e below Qo T22 (mkF m 81 #[.val (.int i1), .val (.int i2), .val (.int i3), .val (.int v3_2), .val (.ref b4), .val (.long (F5 i2 (nar .boolean v3_2) i1)), .second, .val (.long (F4 i2 (nar .boolean v3_2) i1)), .second, .val (.int v47_28), .unset] [(.long (i1.toInt64)), (.long (F5 i2 (nar .boolean v3_2) i1))])
        refine Go.of (fun t k => XS.lcmp X22.here hx rfl (hb hby at_81) rfl k) ?_
        show Go p e below Qo T22 (mkF m 82 #[.val (.int i1), .val (.int i2), .val (.int i3), .val (.int v3_2), .val (.ref b4), .val (.long (F5 i2 (nar .boolean v3_2) i1)), .second, .val (.long (F4 i2 (nar .boolean v3_2) i1)), .second, .val (.int v47_28), .unset] [(.int (lcmpW (F5 i2 (nar .boolean v3_2) i1) (i1.toInt64)))])
        by_cases hc82_42 : (F5 i2 (nar .boolean v3_2) i1) = (i1.toInt64)
        · refine Go.of (fun t k => XS.ifNo X22.here hx rfl (hb hby at_82) rfl ((if0 _ _).trans (teq ((lw_eq (F5 i2 (nar .boolean v3_2) i1) (i1.toInt64)).mpr hc82_42)).2) k) ?_
          show Go p e below Qo T22 (mkF m 85 #[.val (.int i1), .val (.int i2), .val (.int i3), .val (.int v3_2), .val (.ref b4), .val (.long (F5 i2 (nar .boolean v3_2) i1)), .second, .val (.long (F4 i2 (nar .boolean v3_2) i1)), .second, .val (.int v47_28), .unset] [])
          refine Go.of (fun t k => XS.iconst X22.here hx rfl (hb hby at_85) k) ?_
          show Go p e below Qo T22 (mkF m 86 #[.val (.int i1), .val (.int i2), .val (.int i3), .val (.int v3_2), .val (.ref b4), .val (.long (F5 i2 (nar .boolean v3_2) i1)), .second, .val (.long (F4 i2 (nar .boolean v3_2) i1)), .second, .val (.int v47_28), .unset] [(.int (1 : Int32))])
          refine Go.of (fun t k => XS.goto X22.here hx rfl (pc0 := 86) (pc' := 90) rfl (hb hby at_86) (by decide) (by decide) k) ?_
          show Go p e below Qo T22 (mkF m 90 #[.val (.int i1), .val (.int i2), .val (.int i3), .val (.int v3_2), .val (.ref b4), .val (.long (F5 i2 (nar .boolean v3_2) i1)), .second, .val (.long (F4 i2 (nar .boolean v3_2) i1)), .second, .val (.int v47_28), .unset] [(.int (1 : Int32))])
          exact J58_34 _ (by first | rfl | (rw [if_pos hc58_41, if_pos hc82_42]) | (simp only [hc58_41, hc82_42, if_true, if_false]; done) | simp [hc58_41, hc82_42])
        · refine Go.of (fun t k => XS.ifYes X22.here hx rfl (pc0 := 82) (pc' := 89) rfl (hb hby at_82) rfl ((if0 _ _).trans (feq (fun z => hc82_42 ((lw_eq (F5 i2 (nar .boolean v3_2) i1) (i1.toInt64)).mp z))).2) (by decide) (by decide) k) ?_
          show Go p e below Qo T22 (mkF m 89 #[.val (.int i1), .val (.int i2), .val (.int i3), .val (.int v3_2), .val (.ref b4), .val (.long (F5 i2 (nar .boolean v3_2) i1)), .second, .val (.long (F4 i2 (nar .boolean v3_2) i1)), .second, .val (.int v47_28), .unset] [])
          refine Go.of (fun t k => XS.iconst X22.here hx rfl (hb hby at_89) k) ?_
          show Go p e below Qo T22 (mkF m 90 #[.val (.int i1), .val (.int i2), .val (.int i3), .val (.int v3_2), .val (.ref b4), .val (.long (F5 i2 (nar .boolean v3_2) i1)), .second, .val (.long (F4 i2 (nar .boolean v3_2) i1)), .second, .val (.int v47_28), .unset] [(.int (0 : Int32))])
          exact J58_34 _ (by first | rfl | (rw [if_pos hc58_41, if_neg hc82_42]) | (simp only [hc58_41, hc82_42, if_true, if_false]; done) | simp [hc58_41, hc82_42])
      · refine Go.of (fun t k => XS.ifNo X22.here hx rfl (hb hby at_58) rfl ((if0 _ _).trans (feq hc58_41).1) k) ?_
        show Go p e below Qo T22 (mkF m 61 #[.val (.int i1), .val (.int i2), .val (.int i3), .val (.int v3_2), .val (.ref b4), .val (.long (F5 i2 (nar .boolean v3_2) i1)), .second, .val (.long (F4 i2 (nar .boolean v3_2) i1)), .second, .val (.int v47_28), .unset] [])
        refine Go.of (fun t k => XS.lload X22.here hx rfl (hb hby at_61) rfl  k) ?_
        show Go p e below Qo T22 (mkF m 63 #[.val (.int i1), .val (.int i2), .val (.int i3), .val (.int v3_2), .val (.ref b4), .val (.long (F5 i2 (nar .boolean v3_2) i1)), .second, .val (.long (F4 i2 (nar .boolean v3_2) i1)), .second, .val (.int v47_28), .unset] [(.long (F4 i2 (nar .boolean v3_2) i1))])
        refine Go.of (fun t k => XS.iloadN X22.here hx rfl (hb hby at_63) rfl  k) ?_
        show Go p e below Qo T22 (mkF m 64 #[.val (.int i1), .val (.int i2), .val (.int i3), .val (.int v3_2), .val (.ref b4), .val (.long (F5 i2 (nar .boolean v3_2) i1)), .second, .val (.long (F4 i2 (nar .boolean v3_2) i1)), .second, .val (.int v47_28), .unset] [(.int i1), (.long (F4 i2 (nar .boolean v3_2) i1))])
        refine Go.of (fun t k => XS.i2l X22.here hx rfl (hb hby at_64) rfl k) ?_
        show Go p e below Qo T22 (mkF m 65 #[.val (.int i1), .val (.int i2), .val (.int i3), .val (.int v3_2), .val (.ref b4), .val (.long (F5 i2 (nar .boolean v3_2) i1)), .second, .val (.long (F4 i2 (nar .boolean v3_2) i1)), .second, .val (.int v47_28), .unset] [(.long (i1.toInt64)), (.long (F4 i2 (nar .boolean v3_2) i1))])
        refine Go.of (fun t k => XS.lcmp X22.here hx rfl (hb hby at_65) rfl k) ?_
        show Go p e below Qo T22 (mkF m 66 #[.val (.int i1), .val (.int i2), .val (.int i3), .val (.int v3_2), .val (.ref b4), .val (.long (F5 i2 (nar .boolean v3_2) i1)), .second, .val (.long (F4 i2 (nar .boolean v3_2) i1)), .second, .val (.int v47_28), .unset] [(.int (lcmpW (F4 i2 (nar .boolean v3_2) i1) (i1.toInt64)))])
        by_cases hc66_43 : (F4 i2 (nar .boolean v3_2) i1) = (i1.toInt64)
        · refine Go.of (fun t k => XS.ifNo X22.here hx rfl (hb hby at_66) rfl ((if0 _ _).trans (teq ((lw_eq (F4 i2 (nar .boolean v3_2) i1) (i1.toInt64)).mpr hc66_43)).2) k) ?_
          show Go p e below Qo T22 (mkF m 69 #[.val (.int i1), .val (.int i2), .val (.int i3), .val (.int v3_2), .val (.ref b4), .val (.long (F5 i2 (nar .boolean v3_2) i1)), .second, .val (.long (F4 i2 (nar .boolean v3_2) i1)), .second, .val (.int v47_28), .unset] [])
          refine Go.of (fun t k => XS.iconst X22.here hx rfl (hb hby at_69) k) ?_
          show Go p e below Qo T22 (mkF m 70 #[.val (.int i1), .val (.int i2), .val (.int i3), .val (.int v3_2), .val (.ref b4), .val (.long (F5 i2 (nar .boolean v3_2) i1)), .second, .val (.long (F4 i2 (nar .boolean v3_2) i1)), .second, .val (.int v47_28), .unset] [(.int (1 : Int32))])
          refine Go.of (fun t k => XS.goto X22.here hx rfl (pc0 := 70) (pc' := 90) rfl (hb hby at_70) (by decide) (by decide) k) ?_
          show Go p e below Qo T22 (mkF m 90 #[.val (.int i1), .val (.int i2), .val (.int i3), .val (.int v3_2), .val (.ref b4), .val (.long (F5 i2 (nar .boolean v3_2) i1)), .second, .val (.long (F4 i2 (nar .boolean v3_2) i1)), .second, .val (.int v47_28), .unset] [(.int (1 : Int32))])
          exact J58_34 _ (by first | rfl | (rw [if_neg hc58_41, if_pos hc66_43]) | (simp only [hc58_41, hc66_43, if_true, if_false]; done) | simp [hc58_41, hc66_43])
        · refine Go.of (fun t k => XS.ifYes X22.here hx rfl (pc0 := 66) (pc' := 73) rfl (hb hby at_66) rfl ((if0 _ _).trans (feq (fun z => hc66_43 ((lw_eq (F4 i2 (nar .boolean v3_2) i1) (i1.toInt64)).mp z))).2) (by decide) (by decide) k) ?_
          show Go p e below Qo T22 (mkF m 73 #[.val (.int i1), .val (.int i2), .val (.int i3), .val (.int v3_2), .val (.ref b4), .val (.long (F5 i2 (nar .boolean v3_2) i1)), .second, .val (.long (F4 i2 (nar .boolean v3_2) i1)), .second, .val (.int v47_28), .unset] [])
          refine Go.of (fun t k => XS.iconst X22.here hx rfl (hb hby at_73) k) ?_
          show Go p e below Qo T22 (mkF m 74 #[.val (.int i1), .val (.int i2), .val (.int i3), .val (.int v3_2), .val (.ref b4), .val (.long (F5 i2 (nar .boolean v3_2) i1)), .second, .val (.long (F4 i2 (nar .boolean v3_2) i1)), .second, .val (.int v47_28), .unset] [(.int (0 : Int32))])
          refine Go.of (fun t k => XS.goto X22.here hx rfl (pc0 := 74) (pc' := 90) rfl (hb hby at_74) (by decide) (by decide) k) ?_
          show Go p e below Qo T22 (mkF m 90 #[.val (.int i1), .val (.int i2), .val (.int i3), .val (.int v3_2), .val (.ref b4), .val (.long (F5 i2 (nar .boolean v3_2) i1)), .second, .val (.long (F4 i2 (nar .boolean v3_2) i1)), .second, .val (.int v47_28), .unset] [(.int (0 : Int32))])
          exact J58_34 _ (by first | rfl | (rw [if_neg hc58_41, if_neg hc66_43]) | (simp only [hc58_41, hc66_43, if_true, if_false]; done) | simp [hc58_41, hc66_43])
    by_cases hc47_44 : ((F4 i2 (nar .boolean v3_2) i1) - (F5 i2 (nar .boolean v3_2) i1)) = (i2.toInt64)
    · refine Go.of (fun t k => XS.ifNo X22.here hx rfl (hb hby at_47) rfl ((if0 _ _).trans (teq ((lw_eq ((F4 i2 (nar .boolean v3_2) i1) - (F5 i2 (nar .boolean v3_2) i1)) (i2.toInt64)).mpr hc47_44)).2) k) ?_
      show Go p e below Qo T22 (mkF m 50 #[.val (.int i1), .val (.int i2), .val (.int i3), .val (.int v3_2), .val (.ref b4), .val (.long (F5 i2 (nar .boolean v3_2) i1)), .second, .val (.long (F4 i2 (nar .boolean v3_2) i1)), .second, .unset, .unset] [])
      refine Go.of (fun t k => XS.iconst X22.here hx rfl (hb hby at_50) k) ?_
      show Go p e below Qo T22 (mkF m 51 #[.val (.int i1), .val (.int i2), .val (.int i3), .val (.int v3_2), .val (.ref b4), .val (.long (F5 i2 (nar .boolean v3_2) i1)), .second, .val (.long (F4 i2 (nar .boolean v3_2) i1)), .second, .unset, .unset] [(.int (1 : Int32))])
      refine Go.of (fun t k => XS.goto X22.here hx rfl (pc0 := 51) (pc' := 55) rfl (hb hby at_51) (by decide) (by decide) k) ?_
      show Go p e below Qo T22 (mkF m 55 #[.val (.int i1), .val (.int i2), .val (.int i3), .val (.int v3_2), .val (.ref b4), .val (.long (F5 i2 (nar .boolean v3_2) i1)), .second, .val (.long (F4 i2 (nar .boolean v3_2) i1)), .second, .unset, .unset] [(.int (1 : Int32))])
      exact J47_29 _ (by first | rfl | (rw [if_pos hc47_44]) | (simp only [hc47_44, if_true, if_false]; done) | simp [hc47_44])
    · refine Go.of (fun t k => XS.ifYes X22.here hx rfl (pc0 := 47) (pc' := 54) rfl (hb hby at_47) rfl ((if0 _ _).trans (feq (fun z => hc47_44 ((lw_eq ((F4 i2 (nar .boolean v3_2) i1) - (F5 i2 (nar .boolean v3_2) i1)) (i2.toInt64)).mp z))).2) (by decide) (by decide) k) ?_
      show Go p e below Qo T22 (mkF m 54 #[.val (.int i1), .val (.int i2), .val (.int i3), .val (.int v3_2), .val (.ref b4), .val (.long (F5 i2 (nar .boolean v3_2) i1)), .second, .val (.long (F4 i2 (nar .boolean v3_2) i1)), .second, .unset, .unset] [])
      refine Go.of (fun t k => XS.iconst X22.here hx rfl (hb hby at_54) k) ?_
      show Go p e below Qo T22 (mkF m 55 #[.val (.int i1), .val (.int i2), .val (.int i3), .val (.int v3_2), .val (.ref b4), .val (.long (F5 i2 (nar .boolean v3_2) i1)), .second, .val (.long (F4 i2 (nar .boolean v3_2) i1)), .second, .unset, .unset] [(.int (0 : Int32))])
      exact J47_29 _ (by first | rfl | (rw [if_neg hc47_44]) | (simp only [hc47_44, if_true, if_false]; done) | simp [hc47_44])
  by_cases hc3_45 : (i3 &&& (1 : Int32)) = (0 : Int32)
  · refine Go.of (fun t k => XS.ifYes X0.here hx rfl (pc0 := 3) (pc' := 10) rfl (hb hby at_3) rfl ((if0 _ _).trans (teq hc3_45).1) (by decide) (by decide) k) ?_
    show Go p e below Qo s₁ (mkF m 10 #[.val (.int i1), .val (.int i2), .val (.int i3), .unset, .unset, .unset, .unset, .unset, .unset, .unset, .unset] [])
    refine Go.of (fun t k => XS.iconst X0.here hx rfl (hb hby at_10) k) ?_
    show Go p e below Qo s₁ (mkF m 11 #[.val (.int i1), .val (.int i2), .val (.int i3), .unset, .unset, .unset, .unset, .unset, .unset, .unset, .unset] [(.int (0 : Int32))])
    exact J3_3 _ (by first | rfl | (rw [if_pos hc3_45]) | (simp only [hc3_45, if_true, if_false]; done) | simp [hc3_45])
  · refine Go.of (fun t k => XS.ifNo X0.here hx rfl (hb hby at_3) rfl ((if0 _ _).trans (feq hc3_45).1) k) ?_
    show Go p e below Qo s₁ (mkF m 6 #[.val (.int i1), .val (.int i2), .val (.int i3), .unset, .unset, .unset, .unset, .unset, .unset, .unset, .unset] [])
    refine Go.of (fun t k => XS.iconst X0.here hx rfl (hb hby at_6) k) ?_
    show Go p e below Qo s₁ (mkF m 7 #[.val (.int i1), .val (.int i2), .val (.int i3), .unset, .unset, .unset, .unset, .unset, .unset, .unset, .unset] [(.int (1 : Int32))])
    refine Go.of (fun t k => XS.goto X0.here hx rfl (pc0 := 7) (pc' := 11) rfl (hb hby at_7) (by decide) (by decide) k) ?_
    show Go p e below Qo s₁ (mkF m 11 #[.val (.int i1), .val (.int i2), .val (.int i3), .unset, .unset, .unset, .unset, .unset, .unset, .unset, .unset] [(.int (1 : Int32))])
    exact J3_3 _ (by first | rfl | (rw [if_neg hc3_45]) | (simp only [hc3_45, if_true, if_false]; done) | simp [hc3_45])
set_option maxRecDepth 65536 in
set_option maxHeartbeats 40000000 in
theorem comes_1 {Post : Tables → Env → Array Value → State → Outcome → State → Prop} (hpost : ∀ tb e args s v u, (limb_1_1.after args s (.returned v) u = true ∧ limb_1_2.after args s (.returned v) u = true ∧ True) → FrameEnd s (.returned v) u (Jvm.fieldLocs frame_1_writes args s ++ Jvm.arrayLocs frame_1_arrays args s ++ Jvm.staticLocs frame_1_statics s) 16 128 → Post tb e args s (.returned v) u) :
    ArmFor flags0 classFile x code maxLocals ret World_1 tables_1 room_1 Calls_1 rest_1 Pre_1 Post := by
  intro l hfl _ _ p e ha hc hk s m args below hf hA hF happ hP
  obtain ⟨hcalls, hrest, hpre⟩ := hP
  obtain ⟨-, -, -, hnamed, -, -, -, hat⟩ := (Spec.applies_iff hf).mp happ
  obtain ⟨hg, hn⟩ := and_e (Cond.before_iff.mp (show (Jvm.Cond.and given_1 narrow_1).before args s = true from hpre))
  obtain ⟨hg0, hgr0⟩ := and_e hg
  obtain ⟨ha0, hgr1⟩ := and_e hgr0
  obtain ⟨ha1, hgr2⟩ := and_e hgr1
  obtain ⟨w0, w1, w2, rfl⟩ : ∃ w0 w1 w2 : Value, args = #[w0, w1, w2] := by
    have hs : args.size = 3 := by simpa [Cond.value, given_1] using hg0
    obtain ⟨L⟩ := args
    match L, hs with
    | [w0, w1, w2], _ => exact ⟨w0, w1, w2, rfl⟩
  have hw := fun d (hd : d ∈ tables_1) => atoms_spec (ws := Jvm.Cond.code x code maxLocals ret :: tables_1) hat d (List.mem_cons_of_mem _ hd)
  have hfit : Fit s := fun {y c} hc i hi => by
    obtain ⟨ha, rfl⟩ := Array.getElem?_eq_some_iff.mp hc
    have q := List.all_eq_true.mp ((Array.all_eq_true_iff_forall_mem.mp hF) _ (Array.getElem_mem ha)) i (List.mem_range.mpr hi)
    simpa [Array.getElem?_eq_getElem hi] using q
  obtain ⟨i0, ei0⟩ := is_v ha0
  obtain rfl : w0 = (.int i0) := Option.some.inj ei0
  obtain ⟨i1, ei1⟩ := is_v ha1
  obtain rfl : w1 = (.int i1) := Option.some.inj ei1
  obtain ⟨i2, ei2⟩ := is_v hgr2
  obtain rfl : w2 = (.int i2) := Option.some.inj ei2
  obtain ⟨n, o, h1, h2, h3, _, L, rfl, ⟨rfl, N⟩, hq⟩ := rm0 l s _ hw tables_1 i0 i1 i2  s.heap s.heap.size (Nat.le_refl _)  p e ha hc hk s m _ below hf ((Spec.applies_iff_loose hf).mp happ).1 ⟨rfl, State.Warmed39.refl s, rfl⟩ trivial
  refine ⟨n, _, h1, h2, h3, hpost _ _ _ _ _ _ ⟨Cond.after_iff.mpr rfl, Cond.after_iff.mpr (eq_i res_at (Term.int_eval (1)) rfl), trivial⟩ ⟨hq.1, hq.2.1, (hq.2.2.sift fun y hy => Or.inr (N y hy)).mono (by decide) (by decide)⟩⟩
theorem main_1_1 : Claimed_1_1 := comes_1 fun _ _ _ _ _ _ h hF => ⟨h.1, hF⟩
theorem main_1_2 : Claimed_1_2 := comes_1 fun _ _ _ _ _ _ h hF => ⟨h.2.1, hF⟩
end Jvm.Pilot.@@N@@
namespace Jvm.Pilot.@@N@@
open Jvm Jvm.ClassFile Sem Op Lib Jvm.Free Jvm.Stand Jvm.Pilot.@@N@@.Jvm.D
/-! MADE BY PROGRAM (witnessworld.py) out of the Statement's table words and the real class files: 10 classes; the members and pool entries that the words name. The judged class is class 1, her method 1. -/
namespace start1
open Jvm.ClassFile
def u (s : String) : CpInfo := .utf8 (stringToUtf16 s)
/-- a pool by its gaps: so many unusable entries, then the entry; so many at the end -/
def gap : Nat → List CpInfo → List CpInfo
  | 0, r => r
  | n + 1, r => .unusable :: gap n r
def poolList (es : List (Nat × CpInfo)) (last : Nat) : List CpInfo := es.foldr (fun e r => gap e.1 (e.2 :: r)) (gap last [])
def pool (es : List (Nat × CpInfo)) (last : Nat) : Array CpInfo := ⟨poolList es last⟩
def fileOf (pool : Array CpInfo) (this : Nat) (attrs : Array Attribute := #[]) (ms : Array MethodInfo := #[]) (fl : Nat := 33) (sup : Nat := 0) (ifs : Array Nat := #[]) (fds : Array FieldInfo := #[]) : ClassFile where
  minorVersion := 0
  majorVersion := 65
  constantPool := pool
  accessFlags := fl
  thisClass := this
  superClass := sup
  interfaces := ifs
  fields := fds
  methods := ms
  attributes := attrs
def plain (name : String) (sup : Option ClassId) : Class where
  name := name
  kind := .ordinary
  loader := none
  accessFlags := 33
  super := sup
  interfaces := #[]
  cf := none
  fields := #[]
  methods := #[]
  instanceTypes := #[]
  staticTypes := #[]
  resolved := #[]
  callSites := []
  init := .initialized
  statics := none
  mirror := none

def pool0 : Array CpInfo := pool [(5, u "<init>"), (0, u "()V"), (1, .class_ 10), (1, u "java/lang/Object")] 113

def k0c0 : Code := { maxStack := 0, maxLocals := 1, code := object_method_1_code, exceptionTable := #[], attributes := #[] }
def k0m0 : Method := { name := "<init>", desc := "()V", sig := { parameters := [], returnType := none }, accessFlags := 1, code := some k0c0 }
/-- java/lang/Object -/
def k0 : Class := { plain "java/lang/Object" none with
  accessFlags := 33
  interfaces := #[]
  cf := some (fileOf pool0 8 #[] #[{ accessFlags := 1, nameIndex := 5, descriptorIndex := 6, attributes := #[] }] 33 0 #[] #[])
  fields := #[]
  methods := #[k0m0]
  instanceTypes := #[]
  staticTypes := #[]
  resolved := Array.replicate 124 none
  statics := none }

def pool1 : Array CpInfo := pool [(2, .class_ 4), (1, u "java/lang/Object"), (0, u "<init>"), (0, u "()V"), (0, .class_ 8), (0, u "com/example/werktag/werktag/TripAnchor"), (0, .methodref 7 10), (0, .nameAndType 5 11), (0, u "(IZ)V"), (0, .methodref 7 13), (0, .nameAndType 14 15), (0, u "departure"), (0, u "(I)J"), (0, .methodref 7 17), (0, .nameAndType 18 15), (0, u "arrival"), (0, .class_ 20), (0, u "com/example/werktag/werktag/TripAnchorDeparturePinLaw"), (2, u "law"), (0, u "(III)Z")] 3

def k1m0 : Method := { name := "<init>", desc := "()V", sig := { parameters := [], returnType := none }, accessFlags := 1, code := none }
def k1c1 : Code := { maxStack := 4, maxLocals := 11, code := code, exceptionTable := #[], attributes := #[] }
def k1m1 : Method := { name := "law", desc := "(III)Z", sig := { parameters := [.int, .int, .int], returnType := some .boolean }, accessFlags := 9, code := some k1c1 }
/-- com/example/werktag/werktag/TripAnchorDeparturePinLaw -/
def k1 : Class := { plain "com/example/werktag/werktag/TripAnchorDeparturePinLaw" (some 0) with
  accessFlags := 49
  interfaces := #[]
  cf := some (fileOf pool1 19 #[] #[{ accessFlags := 1, nameIndex := 5, descriptorIndex := 6, attributes := #[] }, { accessFlags := 9, nameIndex := 23, descriptorIndex := 24, attributes := #[] }] 49 2 #[] #[])
  fields := #[]
  methods := #[k1m0, k1m1]
  instanceTypes := #[]
  staticTypes := #[]
  resolved := Array.replicate 28 none
  statics := none }

def pool2 : Array CpInfo := pool [(1, .methodref 2 3), (0, .class_ 4), (0, .nameAndType 5 6), (0, u "java/lang/Object"), (0, u "<init>"), (0, u "()V"), (0, .class_ 8), (0, u "java/lang/Record")] 13

def k2c0 : Code := { maxStack := 1, maxLocals := 1, code := jdk_30_method_1_code, exceptionTable := #[], attributes := #[] }
def k2m0 : Method := { name := "<init>", desc := "()V", sig := { parameters := [], returnType := none }, accessFlags := 4, code := some k2c0 }
/-- java/lang/Record -/
def k2 : Class := { plain "java/lang/Record" (some 0) with
  accessFlags := 1057
  interfaces := #[]
  cf := some (fileOf pool2 7 #[] #[{ accessFlags := 4, nameIndex := 5, descriptorIndex := 6, attributes := #[] }] 1057 2 #[] #[])
  fields := #[]
  methods := #[k2m0]
  instanceTypes := #[]
  staticTypes := #[]
  resolved := Array.replicate 22 none
  statics := none }

def pool3 : Array CpInfo := pool [(1, .methodref 2 3), (0, .class_ 4), (0, .nameAndType 5 6), (0, u "java/lang/Record"), (0, u "<init>"), (0, u "()V"), (0, .fieldref 8 9), (0, .class_ 10), (0, .nameAndType 11 12), (0, u "com/example/werktag/werktag/TripAnchor"), (0, u "time"), (0, u "I"), (0, .fieldref 8 14), (0, .nameAndType 15 16), (0, u "arrives"), (0, u "Z"), (2, u "(IZ)V"), (18, u "departure"), (0, u "(I)J"), (1, u "arrival")] 25

def k3c0 : Code := { maxStack := 2, maxLocals := 3, code := prog_41_method_1_code, exceptionTable := #[], attributes := #[] }
def k3m0 : Method := { name := "<init>", desc := "(IZ)V", sig := { parameters := [.int, .boolean], returnType := none }, accessFlags := 0, code := some k3c0 }
def k3c1 : Code := { maxStack := 4, maxLocals := 2, code := prog_41_method_4_code, exceptionTable := #[], attributes := #[] }
def k3m1 : Method := { name := "departure", desc := "(I)J", sig := { parameters := [.int], returnType := some .long }, accessFlags := 0, code := some k3c1 }
def k3c2 : Code := { maxStack := 4, maxLocals := 2, code := prog_41_method_5_code, exceptionTable := #[], attributes := #[] }
def k3m2 : Method := { name := "arrival", desc := "(I)J", sig := { parameters := [.int], returnType := some .long }, accessFlags := 0, code := some k3c2 }
/-- com/example/werktag/werktag/TripAnchor -/
def k3 : Class := { plain "com/example/werktag/werktag/TripAnchor" (some 2) with
  accessFlags := 48
  interfaces := #[]
  cf := some (fileOf pool3 8 #[] #[{ accessFlags := 0, nameIndex := 5, descriptorIndex := 19, attributes := #[] }, { accessFlags := 0, nameIndex := 38, descriptorIndex := 39, attributes := #[] }, { accessFlags := 0, nameIndex := 41, descriptorIndex := 39, attributes := #[] }] 48 2 #[] #[{ accessFlags := 18, nameIndex := 11, descriptorIndex := 12, attributes := #[] }, { accessFlags := 18, nameIndex := 15, descriptorIndex := 16, attributes := #[] }])
  fields := #[{ name := "time", type := .int, accessFlags := 18, slot := 0, constantValue := 0 }, { name := "arrives", type := .boolean, accessFlags := 18, slot := 1, constantValue := 0 }]
  methods := #[k3m0, k3m1, k3m2]
  instanceTypes := #[.int, .boolean]
  staticTypes := #[]
  resolved := Array.replicate 67 none
  statics := none }

def pool4 : Array CpInfo := pool [(1, u "java/lang/Cloneable"), (0, .class_ 1), (0, u "java/lang/Object"), (0, .class_ 3)] 3

/-- java/lang/Cloneable -/
def k4 : Class := { plain "java/lang/Cloneable" (some 0) with
  accessFlags := 1537
  interfaces := #[]
  cf := some (fileOf pool4 2 #[] #[] 1537 4 #[] #[])
  fields := #[]
  methods := #[]
  instanceTypes := #[]
  staticTypes := #[]
  resolved := Array.replicate 8 none
  statics := none }

def pool5 : Array CpInfo := pool [(1, u "java/io/Serializable"), (0, .class_ 1), (0, u "java/lang/Object"), (0, .class_ 3)] 3

/-- java/io/Serializable -/
def k5 : Class := { plain "java/io/Serializable" (some 0) with
  accessFlags := 1537
  interfaces := #[]
  cf := some (fileOf pool5 2 #[] #[] 1537 4 #[] #[])
  fields := #[]
  methods := #[]
  instanceTypes := #[]
  staticTypes := #[]
  resolved := Array.replicate 8 none
  statics := none }

/-- the primitive byte -/
def k6 : Class := { plain "byte" none with kind := .primitive 'B', accessFlags := 0x411 }
/-- [B -/
def k7 : Class := { plain "[B" (some 0) with kind := .array 6 .byte, interfaces := #[4, 5], accessFlags := 1041 }

/-- the primitive int -/
def k8 : Class := { plain "int" none with kind := .primitive 'I', accessFlags := 0x411 }
/-- [I -/
def k9 : Class := { plain "[I" (some 0) with kind := .array 8 .int, interfaces := #[4, 5], accessFlags := 1041 }

def heap : Heap := #[]
def classes : Array Class := #[k0, k1, k2, k3, k4, k5, k6, k7, k8, k9]
def interned : List (Array UInt16 × Addr) := []
def slotsUsed : Nat := 0
def theMethod : MethodId := ⟨1, 1⟩
def args0 : Array Value := #[.int 5, .int 7, .int 1]
def aboutOver (below : List Frame) : State where
  vm := { classes := classes, interned := interned.toArray }
  heap := heap
  slotsUsed := slotsUsed
  threads := #[{ frames := .invoking theMethod args0 :: below }]
def below0 : List Frame := [.native { method := ⟨0, 0⟩, args := #[] }]
def about1 : State := aboutOver below0
def p0 : Program := .bare "" "" ""
def e0 : Env := launch0.env 0 0 0
theorem w_frames : about1.frames = Frame.invoking theMethod args0 :: below0 := rfl
set_option maxRecDepth 65536 in
theorem w_args : argsFit about1.vm theMethod args0 = true := by decide +kernel
set_option maxRecDepth 65536 in
theorem w_heap : heapFits about1 = true := by decide +kernel
set_option maxRecDepth 65536 in
theorem w_runnable : about1.curStatus? = some .runnable := by decide +kernel
set_option maxRecDepth 65536 in
theorem w_alone : about1.alone = true := by decide +kernel
set_option maxRecDepth 65536 in
theorem w_named : about1.methodNamed? x = some theMethod := by decide +kernel
set_option maxRecDepth 65536 in
theorem w_hears : about1.hears theMethod below0 = true := by decide +kernel
set_option maxRecDepth 65536 in
theorem w_ripe : about1.ripe theMethod args0 below0 = true := by decide +kernel
theorem w_running : about1.status = .running := rfl
set_option maxRecDepth 65536 in
theorem w_room : about1.hasRoom e0.platform room_1 = true :=
  launch0.hasRoom_least _ room_1 (by decide +kernel) (by decide +kernel) (by decide +kernel) (by decide +kernel) (by decide +kernel) (by decide +kernel)
theorem allAtoms_all (ts : List Jvm.Cond) (a : Array Jvm.Value) (st : Jvm.State) : (allAtoms ts).before a st = ts.all (fun c => c.before a st) := by
  induction ts with
  | nil => rfl
  | cons c t ih =>
    show (Jvm.Cond.and c (allAtoms t)).before a st = _
    rw [Jvm.Cond.before_and, ih, List.all_cons]
def words1 : List Jvm.Cond := Jvm.Cond.code x code maxLocals ret :: tables_1
/-- a 'code' word, met by the world's own term for the bytes: nothing is compared byte by byte -/
theorem code_word {y : MethodName} {bytes : ByteArray} {mx : Nat} {rt : Option FieldType} {a : Array Value} {s : State} {m : MethodId} {meth : Method} {c : Code} (h1 : s.methodNamed? y = some m) (h2 : s.vm.method? m = some meth) (h3 : meth.code = some c) (h4 : c.code = bytes)
    (h5 : (c.maxLocals == mx && c.exceptionTable.isEmpty && decide (c.maxStack ≤ mostOperands) && decide (meth.sig.returnType = rt) && !meth.locks && decide (parseMethodDescriptor y.desc = some meth.sig)) = true) : (Jvm.Cond.code y bytes mx rt).before a s = true := by
  simp only [Bool.and_eq_true, beq_iff_eq, Bool.not_eq_true', decide_eq_true_eq] at h5
  obtain ⟨⟨⟨⟨⟨g1, g2⟩, g3⟩, g4⟩, g5⟩, g6⟩ := h5
  simp [Cond.before, Cond.holds, Cond.value, h1, h2, h3, h4, g1, g2, g3, g4, g5, g6]
def isCode : Jvm.Cond → Bool
  | .code _ _ _ _ => true
  | _ => false
theorem all_split {L : List Jvm.Cond} {P : Jvm.Cond → Bool} (h1 : L.all (fun c => isCode c || P c) = true) (h2 : ∀ c ∈ L.filter isCode, P c = true) : L.all P = true := by
  refine List.all_eq_true.mpr fun c hc => ?_
  have h := List.all_eq_true.mp h1 c hc
  rcases Bool.eq_false_or_eq_true (isCode c) with hi | hi
  · exact h2 c (List.mem_filter.mpr ⟨hc, hi⟩)
  · simpa [hi] using h
set_option maxRecDepth 65536 in
theorem w_c0 : (Jvm.Cond.code x code maxLocals ret).before args0 about1 = true := code_word (m := ⟨1, 1⟩) (meth := k1m1) (c := k1c1) (by decide +kernel) rfl rfl rfl (by decide +kernel)
set_option maxRecDepth 65536 in
theorem w_c1 : (Jvm.Cond.code ({ cls := "com/example/werktag/werktag/TripAnchor", name := "<init>", desc := "(IZ)V" } : Jvm.MethodName) prog_41_method_1_code (3 : Nat) (Option.none : Option Jvm.ClassFile.FieldType)).before args0 about1 = true := code_word (m := ⟨3, 0⟩) (meth := k3m0) (c := k3c0) (by decide +kernel) rfl rfl rfl (by decide +kernel)
set_option maxRecDepth 65536 in
theorem w_c2 : (Jvm.Cond.code ({ cls := "java/lang/Record", name := "<init>", desc := "()V" } : Jvm.MethodName) jdk_30_method_1_code (1 : Nat) (Option.none : Option Jvm.ClassFile.FieldType)).before args0 about1 = true := code_word (m := ⟨2, 0⟩) (meth := k2m0) (c := k2c0) (by decide +kernel) rfl rfl rfl (by decide +kernel)
set_option maxRecDepth 65536 in
theorem w_c3 : (Jvm.Cond.code ({ cls := "java/lang/Object", name := "<init>", desc := "()V" } : Jvm.MethodName) object_method_1_code (1 : Nat) (Option.none : Option Jvm.ClassFile.FieldType)).before args0 about1 = true := code_word (m := ⟨0, 0⟩) (meth := k0m0) (c := k0c0) (by decide +kernel) rfl rfl rfl (by decide +kernel)
set_option maxRecDepth 65536 in
theorem w_c4 : (Jvm.Cond.code ({ cls := "com/example/werktag/werktag/TripAnchor", name := "departure", desc := "(I)J" } : Jvm.MethodName) prog_41_method_4_code (2 : Nat) (Option.some Jvm.ClassFile.FieldType.long)).before args0 about1 = true := code_word (m := ⟨3, 1⟩) (meth := k3m1) (c := k3c1) (by decide +kernel) rfl rfl rfl (by decide +kernel)
set_option maxRecDepth 65536 in
theorem w_c5 : (Jvm.Cond.code ({ cls := "com/example/werktag/werktag/TripAnchor", name := "arrival", desc := "(I)J" } : Jvm.MethodName) prog_41_method_5_code (2 : Nat) (Option.some Jvm.ClassFile.FieldType.long)).before args0 about1 = true := code_word (m := ⟨3, 2⟩) (meth := k3m2) (c := k3c2) (by decide +kernel) rfl rfl rfl (by decide +kernel)
def codes1 : List Jvm.Cond := [Jvm.Cond.code x code maxLocals ret, Jvm.Cond.code ({ cls := "com/example/werktag/werktag/TripAnchor", name := "<init>", desc := "(IZ)V" } : Jvm.MethodName) prog_41_method_1_code (3 : Nat) (Option.none : Option Jvm.ClassFile.FieldType), Jvm.Cond.code ({ cls := "java/lang/Record", name := "<init>", desc := "()V" } : Jvm.MethodName) jdk_30_method_1_code (1 : Nat) (Option.none : Option Jvm.ClassFile.FieldType), Jvm.Cond.code ({ cls := "java/lang/Object", name := "<init>", desc := "()V" } : Jvm.MethodName) object_method_1_code (1 : Nat) (Option.none : Option Jvm.ClassFile.FieldType), Jvm.Cond.code ({ cls := "com/example/werktag/werktag/TripAnchor", name := "departure", desc := "(I)J" } : Jvm.MethodName) prog_41_method_4_code (2 : Nat) (Option.some Jvm.ClassFile.FieldType.long), Jvm.Cond.code ({ cls := "com/example/werktag/werktag/TripAnchor", name := "arrival", desc := "(I)J" } : Jvm.MethodName) prog_41_method_5_code (2 : Nat) (Option.some Jvm.ClassFile.FieldType.long)]
set_option maxRecDepth 65536 in
theorem codes_eq : words1.filter isCode = codes1 := rfl
theorem w_codes : ∀ c ∈ words1.filter isCode, c.before args0 about1 = true := by
  rw [codes_eq]
  intro c hc
  simp only [codes1, List.mem_cons, List.not_mem_nil, or_false] at hc
  rcases hc with rfl | rfl | rfl | rfl | rfl | rfl
  · exact w_c0
  · exact w_c1
  · exact w_c2
  · exact w_c3
  · exact w_c4
  · exact w_c5
set_option maxRecDepth 65536 in
theorem w_t1 : (words1.take 24).all (fun c => isCode c || c.before args0 about1) = true := by decide +kernel
set_option maxRecDepth 65536 in
theorem w_t2 : (words1.drop 24).all (fun c => isCode c || c.before args0 about1) = true := by decide +kernel
theorem w_tables : (allAtoms (Jvm.Cond.code x code maxLocals ret :: tables_1)).before args0 about1 = true := by
  rw [allAtoms_all]
  show words1.all (fun c => c.before args0 about1) = true
  refine all_split ?_ w_codes
  rw [← List.take_append_drop 24 words1, List.all_append, w_t1, w_t2]
  rfl
set_option maxRecDepth 65536 in
theorem w_case : (Jvm.Cond.and given_1 narrow_1).before args0 about1 = true := by decide +kernel
theorem w_applies : (headSpec (Jvm.Cond.code x code maxLocals ret :: tables_1) room_1).applies x e0.platform about1 = true :=
  (Spec.applies_iff w_frames).mpr ⟨w_running, w_runnable, w_alone, w_named, w_hears, w_ripe, w_room, w_tables⟩
theorem atStart : AtStart classFile x code maxLocals ret World_1 tables_1 room_1 Calls_1 rest_1 Pre_1 launch0 p0 e0 about1 theMethod args0 below0 :=
  ⟨lists_1, trivial, launch0.admits_env _ _ _, launch0.least_env, fairChoices_fair.cas, fairChoices_fair.clock, w_frames, w_args, w_heap, w_applies, trivial, trivial, w_case⟩
end start1
theorem witness_1 : WitnessClaimed_1 := ⟨start1.p0, start1.e0, start1.about1, start1.theMethod, start1.args0, start1.below0, start1.atStart⟩
end Jvm.Pilot.@@N@@
