import JvmDerived
import JvmDerived.Pilot.@@N@@Statement
import JvmDerived.Pilot.@@N@@Code
set_option linter.unusedVariables false
set_option linter.unusedSimpArgs false
namespace Jvm.Pilot.@@N@@
open Jvm Jvm.ClassFile Sem Op Lib Jvm.Free Jvm.Stand Jvm.LawKit Jvm.RoadKit Bundle Jvm.Pilot.@@N@@.Jvm.D
/-! the run comes to an end that answers Q -/
def Go (p : Program) (e : Env) (below : List Frame) (Q : Outcome → State → Prop) (T : State) (g : JFrame) : Prop :=
  ∃ s₂ o, Steps p.tables e below (T.setTop g) s₂ ∧ s₂.status = .running ∧ Ended s₂ below o ∧ Q o s₂
section Own
variable {p : Program} {l : Launch} {e : Env} {R : Room} {s : State} {m : MethodId} {args : Array Value} {below : List Frame} {meth : Method} {c : Code} {T T' : State} {locs : List Loc} {cells slots : Nat} {Q : Outcome → State → Prop} {g g' : JFrame}
theorem Go.of (k : ∀ t, Steps p.tables e below (T'.setTop g') t → Steps p.tables e below (T.setTop g) t) (h : Go p e below Q T' g') : Go p e below Q T g := by
  obtain ⟨u, o, h1, h2⟩ := h
  exact ⟨u, o, k _ h1, h2⟩
theorem Go.via (k : Steps p.tables e below (T.setTop g) (T'.setTop g')) (h : Go p e below Q T' g') : Go p e below Q T g := by
  obtain ⟨u, o, h1, h2⟩ := h
  exact ⟨u, o, k.trans h1, h2⟩
theorem Go.cast (q : g = g') (h : Go p e below Q T g') : Go p e below Q T g := q ▸ h
theorem own_out (X : Stand p l e R s m args below meth c T locs cells slots) {v : Option Value} (hv : meth.sig.returnType = none → v = none) (hlocks : meth.locks = false)
    (k : ∀ fs : List Frame, (∀ (f : JFrame) (acts : List Action), f.method = m → f.locked = none → f.entered = [] → (doReturn e (T.setTop f) acts v).1 = T.setFrames fs) → Steps p.tables e below (T.setTop g) (T.setFrames fs))
    (hQ : ∀ u : State, u.heap = T.heap → FrameEnd s (.returned v) u locs cells slots → Q (.returned v) u) : Go p e below Q T g := by
  obtain ⟨fs, hr, hrun, hended, hW, hsame⟩ := X.leave hv hlocks
  exact ⟨_, _, k fs hr, hrun, hended, hQ _ rfl ⟨⟨_, rfl⟩, hW, hsame⟩⟩
theorem own_retN (X : Stand p l e R s m args below meth c T locs cells slots) (hx : p.tables.exec = Jvm.exec) (hlocks : meth.locks = false) {pc : Nat} {Ls : Array Slot} {z : Int32} {t : FieldType} {rest : List Value} (hret : meth.sig.returnType = some t) (ht : t = .boolean ∨ t = .byte ∨ t = .char ∨ t = .short)
    (hd : decode c.code pc = .ok (.ireturn, 1)) (hQ : ∀ u : State, u.heap = T.heap → FrameEnd s (.returned (some (.int (nar t z)))) u locs cells slots → Q (.returned (some (.int (nar t z)))) u) : Go p e below Q T (mkF m pc Ls (.int z :: rest)) :=
  own_out X (fun h => by rw [hret] at h; cases h) hlocks (fun fs hr => retN X hx hret ht hd hr) hQ
theorem own_retW (X : Stand p l e R s m args below meth c T locs cells slots) (hx : p.tables.exec = Jvm.exec) (hlocks : meth.locks = false) {pc : Nat} {Ls : Array Slot} {w : Value} {t : FieldType} {i : Instr} {rest : List Value} (hret : meth.sig.returnType = some t) (hn : narrow t w = w)
    (hi : (i = .ireturn ∧ (t = .int ∨ t = .boolean ∨ t = .byte ∨ t = .char ∨ t = .short) ∧ ∃ z, w = .int z) ∨ (i = .lreturn ∧ t = .long ∧ ∃ z, w = .long z) ∨ (i = .dreturn ∧ t = .double ∧ ∃ z, w = .double z) ∨ (i = .freturn ∧ t = .float ∧ ∃ z, w = .float z) ∨ (i = .areturn ∧ t.isReference = true ∧ w.isRef = true))
    (hd : decode c.code pc = .ok (i, 1)) (hQ : ∀ u : State, u.heap = T.heap → FrameEnd s (.returned (some w)) u locs cells slots → Q (.returned (some w)) u) : Go p e below Q T (mkF m pc Ls (w :: rest)) :=
  own_out X (fun h => by rw [hret] at h; cases h) hlocks (fun fs hr => retOut X hx hret hn hi hd hr) hQ
theorem own_ret0 (X : Stand p l e R s m args below meth c T locs cells slots) (hx : p.tables.exec = Jvm.exec) (hlocks : meth.locks = false) {pc : Nat} {Ls : Array Slot} (hret : meth.sig.returnType = none)
    (hd : decode c.code pc = .ok (.return_, 1)) (hQ : ∀ u : State, u.heap = T.heap → FrameEnd s (.returned none) u locs cells slots → Q (.returned none) u) : Go p e below Q T (mkF m pc Ls []) :=
  own_out X (fun _ => rfl) hlocks (fun fs hr => X.returnOut hx hret hd hr) hQ
theorem own_mono {o : Outcome} {u : State} {k n k' n' : Nat} (h : FrameEnd s o u locs k n) (hk : k ≤ k') (hn : n ≤ n') : FrameEnd s o u locs k' n' := ⟨h.1, h.2.1, h.2.2.mono hk hn⟩
end Own
def own_at3 (d x y z : Int32) : Int32 := if d = 0 then x else if d = 1 then y else z
theorem own_get3 (d x y z : Int32) (h : ¬ d < 0 ∧ d < 3) : ([(.int x), (.int y), (.int z)] : List Value).getD d.toNatClampNeg (.int (0 : Int32)) = Value.int (own_at3 d x y z) := by
  obtain ⟨h1, h2⟩ := h
  have : d = 0 ∨ d = 1 ∨ d = 2 := by
    simp only [Int32.lt_iff_toInt_lt, ← Int32.toInt_inj] at *
    have e0 : (0 : Int32).toInt = 0 := by decide
    have e1 : (1 : Int32).toInt = 1 := by decide
    have e2 : (2 : Int32).toInt = 2 := by decide
    have e3 : (3 : Int32).toInt = 3 := by decide
    omega
  rcases this with rfl | rfl | rfl <;> rfl
theorem d1_0 : decode prog_15_method_1_code 0 = .ok (.aload_n 0, 1) := by decide +kernel
theorem d1_1 : decode prog_15_method_1_code 1 = .ok (.invokespecial 1, 3) := by decide +kernel
theorem d1_4 : decode prog_15_method_1_code 4 = .ok (.aload_n 0, 1) := by decide +kernel
theorem d1_5 : decode prog_15_method_1_code 5 = .ok (.iload_n 1, 1) := by decide +kernel
theorem d1_6 : decode prog_15_method_1_code 6 = .ok (.putfield 7, 3) := by decide +kernel
theorem d1_9 : decode prog_15_method_1_code 9 = .ok (.aload_n 0, 1) := by decide +kernel
theorem d1_10 : decode prog_15_method_1_code 10 = .ok (.aload_n 2, 1) := by decide +kernel
theorem d1_11 : decode prog_15_method_1_code 11 = .ok (.iload_n 1, 1) := by decide +kernel
theorem d1_12 : decode prog_15_method_1_code 12 = .ok (.iaload, 1) := by decide +kernel
theorem d1_13 : decode prog_15_method_1_code 13 = .ok (.putfield 13, 3) := by decide +kernel
theorem d1_16 : decode prog_15_method_1_code 16 = .ok (.aload_n 0, 1) := by decide +kernel
theorem d1_17 : decode prog_15_method_1_code 17 = .ok (.aload_n 2, 1) := by decide +kernel
theorem d1_18 : decode prog_15_method_1_code 18 = .ok (.putfield 16, 3) := by decide +kernel
theorem d1_21 : decode prog_15_method_1_code 21 = .ok (.aload_n 0, 1) := by decide +kernel
theorem d1_22 : decode prog_15_method_1_code 22 = .ok (.aload_n 3, 1) := by decide +kernel
theorem d1_23 : decode prog_15_method_1_code 23 = .ok (.putfield 20, 3) := by decide +kernel
theorem d1_26 : decode prog_15_method_1_code 26 = .ok (.aload_n 0, 1) := by decide +kernel
theorem d1_27 : decode prog_15_method_1_code 27 = .ok (.aload 4, 2) := by decide +kernel
theorem d1_29 : decode prog_15_method_1_code 29 = .ok (.putfield 23, 3) := by decide +kernel
theorem d1_32 : decode prog_15_method_1_code 32 = .ok (.return_, 1) := by decide +kernel
theorem pn_0 : plainName "com/example/prompter/prompter/index/TermCounts" = true := by first | (simp [plainName, overriddenIn]; done) | decide +kernel
theorem ef_1 (m : MethodId) (r1 : Addr) (i1 : Int32) (r2 : Addr) (r3 : Addr) (r4 : Addr)  : entryFrame m #[(.ref r1), (.int i1), (.ref r2), (.ref r3), (.ref r4)] 5 = mkF m 0 #[.val (.ref r1), .val (.int i1), .val (.ref r2), .val (.ref r3), .val (.ref r4)] [] := by
  first | (simp [entryFrame, mkF, argsToLocals, Value.category]; done) | rfl
def Q1 (Z : State) (r1 : Addr) (i1 : Int32) (r2 : Addr) (r3 : Addr) (r4 : Addr) (u_0 : Value) (u_1 : Value) (u_2 : Value) (u_3 : Value) (u_4 : Value) (k_2 : ClassId) (h0 : Heap) (n0 : Nat) (v : Option Value) (h : Heap) (L : List Loc) : Prop := v = none ∧ Fr n0 L ∧ Keep h0 h [r1] ∧ Exa Z h r1 "com/example/prompter/prompter/index/TermCounts" ∧ Fld Z h r1 "com/example/prompter/prompter/index/TermCounts" "first" "I" (.int i1) ∧ Fld Z h r1 "com/example/prompter/prompter/index/TermCounts" "firstSlot" "I" (.int (0 : Int32)) ∧ Fld Z h r1 "com/example/prompter/prompter/index/TermCounts" "termSlots" "[I" (.ref r2) ∧ Fld Z h r1 "com/example/prompter/prompter/index/TermCounts" "records" "[I" (.ref r3) ∧ Fld Z h r1 "com/example/prompter/prompter/index/TermCounts" "slotRecords" "[I" (.ref r4)
set_option maxRecDepth 65536 in
set_option maxHeartbeats 40000000 in
theorem rm1 (l : Launch) (Z : State) (a0 : Array Value) (hw : ∀ d ∈ tables_1, d.before a0 Z = true) (ws : List Jvm.Cond) (r1 : Addr) (i1 : Int32) (r2 : Addr) (r3 : Addr) (r4 : Addr) (u_0 : Value) (u_1 : Value) (u_2 : Value) (u_3 : Value) (u_4 : Value) (k_2 : ClassId) (h0 : Heap) (n0 : Nat) (Z0 : n0 ≤ h0.size) (f0 : Exa Z h0 r1 "com/example/prompter/prompter/index/TermCounts") (f1 : Fld Z h0 r1 "com/example/prompter/prompter/index/TermCounts" "first" "I" u_0) (f2 : Fld Z h0 r1 "com/example/prompter/prompter/index/TermCounts" "firstSlot" "I" u_1) (f3 : Fld Z h0 r1 "com/example/prompter/prompter/index/TermCounts" "termSlots" "[I" u_2) (f4 : Fld Z h0 r1 "com/example/prompter/prompter/index/TermCounts" "records" "[I" u_3) (f5 : Fld Z h0 r1 "com/example/prompter/prompter/index/TermCounts" "slotRecords" "[I" u_4) (f6 : Arv Z h0 r2 k_2 .int (9 : Int32) [(.int (0 : Int32)), (.int (0 : Int32)), (.int (0 : Int32)), (.int (0 : Int32)), (.int (0 : Int32)), (.int (0 : Int32)), (.int (0 : Int32)), (.int (0 : Int32)), (.int (0 : Int32))] (.int (0 : Int32))) (g_r1 : n0 ≤ r1) (ne_r2_r1 : r2 ≠ r1) (hr : ¬ i1 < 0 ∧ i1 < 9) :
    MetFree l (⟨"com/example/prompter/prompter/index/TermCounts", "<init>", "(I[I[I[I)V"⟩ : MethodName) (head1 (Jvm.Cond.code (⟨"com/example/prompter/prompter/index/TermCounts", "<init>", "(I[I[I[I)V"⟩ : MethodName) prog_15_method_1_code 5 none :: ws) ({ frames := 1, cells := 0, slots := 0, locals := 12 } : Room)) (fun a U => a = #[(.ref r1), (.int i1), (.ref r2), (.ref r3), (.ref r4)] ∧ Z.Warmed39 U.vm ∧ U.heap = h0) (fun _ _ _ _ _ => True) (fun _ U o U' => ∃ v L, o = .returned v ∧ Q1 Z r1 i1 r2 r3 r4 u_0 u_1 u_2 u_3 u_4 k_2 h0 n0 v U'.heap L ∧ FrameEnd U o U' L ({ frames := 1, cells := 0, slots := 0, locals := 12 } : Room).cells ({ frames := 1, cells := 0, slots := 0, locals := 12 } : Room).slots) := by
  refine MetFree.of_bodySF (plainFor_of_name pn_0) hisR ?_
  intro p e s m args below meth c s₁ Bd hml0 hP hK
  obtain ⟨rfl, hZ, hh⟩ := hP
  have hx := Bd.exec
  have hby := Bd.bytes
  have hml : c.maxLocals = 5 := hml0
  have hown : s.vm.findClass "com/example/prompter/prompter/index/TermCounts" = some m.cls := findClass_of_methodNamed Bd.named
  have hnm := (name_of_methodNamed Bd.named Bd.method).1
  have X0 : Stand p l e ({ frames := 1, cells := 0, slots := 0, locals := 12 } : Room) s m #[(.ref r1), (.int i1), (.ref r2), (.ref r3), (.ref r4)] below meth c s₁ [] 0 0 := Stand.of_body Bd
  have e0 : s₁.heap = h0 := by rw [← hh, Bd.state]; rfl
  have N0 := Fr.nil n0
  suffices H : ∀ Qo : Outcome → State → Prop, (∀ (v : Option Value) (u : State) (L : List Loc), Q1 Z r1 i1 r2 r3 r4 u_0 u_1 u_2 u_3 u_4 k_2 h0 n0 v u.heap L → FrameEnd s (.returned v) u L ({ frames := 1, cells := 0, slots := 0, locals := 12 } : Room).cells ({ frames := 1, cells := 0, slots := 0, locals := 12 } : Room).slots → Qo (.returned v) u) → Go p e below Qo s₁ (mkF m 0 #[.val (.ref r1), .val (.int i1), .val (.ref r2), .val (.ref r3), .val (.ref r4)] []) from
    Go.cast (ef_1 m r1 i1 r2 r3 r4) (H _ fun v u L h1 h2 => ⟨v, L, rfl, h1, h2⟩)
  intro Qo hQo
  show Go p e below Qo s₁ (mkF m 0 #[.val (.ref r1), .val (.int i1), .val (.ref r2), .val (.ref r3), .val (.ref r4)] [])
  refine Go.of (fun t k => XS.aloadN X0.here hx rfl (hb hby d1_0) rfl rfl k) ?_
  show Go p e below Qo s₁ (mkF m 1 #[.val (.ref r1), .val (.int i1), .val (.ref r2), .val (.ref r3), .val (.ref r4)] [(.ref r1)])
  obtain ⟨T1, X1, e1, st1⟩ := initO X0 hx hZ hown (hw _ (List.mem_of_getElem? (i := 7) rfl)) (hw _ (List.mem_of_getElem? (i := 8) rfl)) (hw _ (List.mem_of_getElem? (i := 9) rfl)) e0 (g := (mkF m 1 #[.val (.ref r1), .val (.int i1), .val (.ref r2), .val (.ref r3), .val (.ref r4)] [(.ref r1)])) rfl (by rw [hml]; rfl) rfl (hb hby d1_1) (by decide) (W := 0) (by show 2 * 0 + _ ≤ _; exact Nat.le_of_eq rfl) (by decide)
  refine Go.of st1 ?_
  show Go p e below Qo T1 (mkF m 4 #[.val (.ref r1), .val (.int i1), .val (.ref r2), .val (.ref r3), .val (.ref r4)] [])
  refine Go.of (fun t k => XS.aloadN X1.here hx rfl (hb hby d1_4) rfl rfl k) ?_
  show Go p e below Qo T1 (mkF m 5 #[.val (.ref r1), .val (.int i1), .val (.ref r2), .val (.ref r3), .val (.ref r4)] [(.ref r1)])
  refine Go.of (fun t k => XS.iloadN X1.here hx rfl (hb hby d1_5) rfl  k) ?_
  show Go p e below Qo T1 (mkF m 6 #[.val (.ref r1), .val (.int i1), .val (.ref r2), .val (.ref r3), .val (.ref r4)] [(.int i1), (.ref r1)])
  obtain ⟨T2, h2, X2, e2, W2, st2⟩ := putF X1 hx hZ hown (host := "") (Or.inl (hw _ (List.mem_of_getElem? (i := 10) rfl))) Via.refl e1 f1 f0 (Or.inr ⟨(hw _ (List.mem_of_getElem? (i := 11) rfl)), rfl, hnm⟩) (hw _ (List.mem_of_getElem? (i := 2) rfl)) (ty := .int) (by decide) rfl rfl (g := (mkF m 6 #[.val (.ref r1), .val (.int i1), .val (.ref r2), .val (.ref r3), .val (.ref r4)] [(.int i1), (.ref r1)])) rfl rfl (hb hby d1_6)
  have q3 : Exa Z h2 r1 "com/example/prompter/prompter/index/TermCounts" := f0.wr W2
  have q4 : Fld Z h2 r1 "com/example/prompter/prompter/index/TermCounts" "first" "I" (.int i1) := f1.same W2
  have q5 : Fld Z h2 r1 "com/example/prompter/prompter/index/TermCounts" "firstSlot" "I" u_1 := f2.other W2 (Or.inr (slot_ne (Or.inr (hw _ (List.mem_of_getElem? (i := 13) rfl))) (Or.inr (hw _ (List.mem_of_getElem? (i := 11) rfl))) (by decide) (t := .int) (t' := .int) (by decide) (by decide)))
  have q6 : Fld Z h2 r1 "com/example/prompter/prompter/index/TermCounts" "termSlots" "[I" u_2 := f3.other W2 (Or.inr (slot_ne (Or.inr (hw _ (List.mem_of_getElem? (i := 15) rfl))) (Or.inr (hw _ (List.mem_of_getElem? (i := 11) rfl))) (by decide) (t := (.array .int)) (t' := .int) (by decide) (by decide)))
  have q7 : Fld Z h2 r1 "com/example/prompter/prompter/index/TermCounts" "records" "[I" u_3 := f4.other W2 (Or.inr (slot_ne (Or.inr (hw _ (List.mem_of_getElem? (i := 17) rfl))) (Or.inr (hw _ (List.mem_of_getElem? (i := 11) rfl))) (by decide) (t := (.array .int)) (t' := .int) (by decide) (by decide)))
  have q8 : Fld Z h2 r1 "com/example/prompter/prompter/index/TermCounts" "slotRecords" "[I" u_4 := f5.other W2 (Or.inr (slot_ne (Or.inr (hw _ (List.mem_of_getElem? (i := 19) rfl))) (Or.inr (hw _ (List.mem_of_getElem? (i := 11) rfl))) (by decide) (t := (.array .int)) (t' := .int) (by decide) (by decide)))
  have q9 : Arv Z h2 r2 k_2 .int (9 : Int32) [(.int (0 : Int32)), (.int (0 : Int32)), (.int (0 : Int32)), (.int (0 : Int32)), (.int (0 : Int32)), (.int (0 : Int32)), (.int (0 : Int32)), (.int (0 : Int32)), (.int (0 : Int32))] (.int (0 : Int32)) := f6.other W2 ne_r2_r1
  have Z10 : n0 ≤ h2.size := Nat.le_trans Z0 (Keep.of_wr W2).1
  have K11 : Keep h0 h2 [r1] := (Keep.refl h0 [r1]).wr W2 (Or.inl (List.mem_of_getElem? (i := 0) rfl))
  have N12 := Fr.snoc X2 N0 g_r1
  refine Go.of st2 ?_
  show Go p e below Qo T2 (mkF m 9 #[.val (.ref r1), .val (.int i1), .val (.ref r2), .val (.ref r3), .val (.ref r4)] [])
  refine Go.of (fun t k => XS.aloadN X2.here hx rfl (hb hby d1_9) rfl rfl k) ?_
  show Go p e below Qo T2 (mkF m 10 #[.val (.ref r1), .val (.int i1), .val (.ref r2), .val (.ref r3), .val (.ref r4)] [(.ref r1)])
  refine Go.of (fun t k => XS.aloadN X2.here hx rfl (hb hby d1_10) rfl rfl k) ?_
  show Go p e below Qo T2 (mkF m 11 #[.val (.ref r1), .val (.int i1), .val (.ref r2), .val (.ref r3), .val (.ref r4)] [(.ref r2), (.ref r1)])
  refine Go.of (fun t k => XS.iloadN X2.here hx rfl (hb hby d1_11) rfl  k) ?_
  show Go p e below Qo T2 (mkF m 12 #[.val (.ref r1), .val (.int i1), .val (.ref r2), .val (.ref r3), .val (.ref r4)] [(.int i1), (.ref r2), (.ref r1)])
  have cpo13 := q9
  obtain ⟨clo13, Aro13, qco13, So13, Mo13, Ho13, Go13⟩ := cpo13
  have hin14 : ¬ (i1 < 0 ∨ clo13.slots.size ≤ i1.toNatClampNeg) := (inb_of So13 hr)
  refine Go.of (fun t k => X2.iaload hx (j := i1) (v := (.int (0 : Int32))) (by rw [e2]; exact Aro13.1) (State.isArrayOf_alike hZ.alike Aro13.2.1) Aro13.2.2 hin14 (Ho13.at hin14 (pad_rep [] (.int (0 : Int32)) 9 _)) (g := (mkF m 12 #[.val (.ref r1), .val (.int i1), .val (.ref r2), .val (.ref r3), .val (.ref r4)] [(.int i1), (.ref r2), (.ref r1)])) rfl rfl (hb hby d1_12) t k) ?_
  show Go p e below Qo T2 (mkF m 13 #[.val (.ref r1), .val (.int i1), .val (.ref r2), .val (.ref r3), .val (.ref r4)] [(.int (0 : Int32)), (.ref r1)])
  obtain ⟨T15, h15, X15, e15, W15, st15⟩ := putF X2 hx hZ hown (host := "") (Or.inl (hw _ (List.mem_of_getElem? (i := 12) rfl))) Via.refl e2 q5 q3 (Or.inr ⟨(hw _ (List.mem_of_getElem? (i := 13) rfl)), rfl, hnm⟩) (hw _ (List.mem_of_getElem? (i := 2) rfl)) (ty := .int) (by decide) rfl rfl (g := (mkF m 13 #[.val (.ref r1), .val (.int i1), .val (.ref r2), .val (.ref r3), .val (.ref r4)] [(.int (0 : Int32)), (.ref r1)])) rfl rfl (hb hby d1_13)
  have q16 : Exa Z h15 r1 "com/example/prompter/prompter/index/TermCounts" := q3.wr W15
  have q17 : Fld Z h15 r1 "com/example/prompter/prompter/index/TermCounts" "first" "I" (.int i1) := q4.other W15 (Or.inr (slot_ne (Or.inr (hw _ (List.mem_of_getElem? (i := 11) rfl))) (Or.inr (hw _ (List.mem_of_getElem? (i := 13) rfl))) (by decide) (t := .int) (t' := .int) (by decide) (by decide)))
  have q18 : Fld Z h15 r1 "com/example/prompter/prompter/index/TermCounts" "firstSlot" "I" (.int (0 : Int32)) := q5.same W15
  have q19 : Fld Z h15 r1 "com/example/prompter/prompter/index/TermCounts" "termSlots" "[I" u_2 := q6.other W15 (Or.inr (slot_ne (Or.inr (hw _ (List.mem_of_getElem? (i := 15) rfl))) (Or.inr (hw _ (List.mem_of_getElem? (i := 13) rfl))) (by decide) (t := (.array .int)) (t' := .int) (by decide) (by decide)))
  have q20 : Fld Z h15 r1 "com/example/prompter/prompter/index/TermCounts" "records" "[I" u_3 := q7.other W15 (Or.inr (slot_ne (Or.inr (hw _ (List.mem_of_getElem? (i := 17) rfl))) (Or.inr (hw _ (List.mem_of_getElem? (i := 13) rfl))) (by decide) (t := (.array .int)) (t' := .int) (by decide) (by decide)))
  have q21 : Fld Z h15 r1 "com/example/prompter/prompter/index/TermCounts" "slotRecords" "[I" u_4 := q8.other W15 (Or.inr (slot_ne (Or.inr (hw _ (List.mem_of_getElem? (i := 19) rfl))) (Or.inr (hw _ (List.mem_of_getElem? (i := 13) rfl))) (by decide) (t := (.array .int)) (t' := .int) (by decide) (by decide)))
  have q22 : Arv Z h15 r2 k_2 .int (9 : Int32) [(.int (0 : Int32)), (.int (0 : Int32)), (.int (0 : Int32)), (.int (0 : Int32)), (.int (0 : Int32)), (.int (0 : Int32)), (.int (0 : Int32)), (.int (0 : Int32)), (.int (0 : Int32))] (.int (0 : Int32)) := q9.other W15 ne_r2_r1
  have Z23 : n0 ≤ h15.size := Nat.le_trans Z10 (Keep.of_wr W15).1
  have K24 : Keep h0 h15 [r1] := K11.wr W15 (Or.inl (List.mem_of_getElem? (i := 0) rfl))
  have N25 := Fr.snoc X15 N12 g_r1
  refine Go.of st15 ?_
  show Go p e below Qo T15 (mkF m 16 #[.val (.ref r1), .val (.int i1), .val (.ref r2), .val (.ref r3), .val (.ref r4)] [])
  refine Go.of (fun t k => XS.aloadN X15.here hx rfl (hb hby d1_16) rfl rfl k) ?_
  show Go p e below Qo T15 (mkF m 17 #[.val (.ref r1), .val (.int i1), .val (.ref r2), .val (.ref r3), .val (.ref r4)] [(.ref r1)])
  refine Go.of (fun t k => XS.aloadN X15.here hx rfl (hb hby d1_17) rfl rfl k) ?_
  show Go p e below Qo T15 (mkF m 18 #[.val (.ref r1), .val (.int i1), .val (.ref r2), .val (.ref r3), .val (.ref r4)] [(.ref r2), (.ref r1)])
  obtain ⟨T26, h26, X26, e26, W26, st26⟩ := putF X15 hx hZ hown (host := "") (Or.inl (hw _ (List.mem_of_getElem? (i := 14) rfl))) Via.refl e15 q19 q16 (Or.inr ⟨(hw _ (List.mem_of_getElem? (i := 15) rfl)), rfl, hnm⟩) (hw _ (List.mem_of_getElem? (i := 2) rfl)) (ty := (.array .int)) (by decide) rfl rfl (g := (mkF m 18 #[.val (.ref r1), .val (.int i1), .val (.ref r2), .val (.ref r3), .val (.ref r4)] [(.ref r2), (.ref r1)])) rfl rfl (hb hby d1_18)
  have q27 : Exa Z h26 r1 "com/example/prompter/prompter/index/TermCounts" := q16.wr W26
  have q28 : Fld Z h26 r1 "com/example/prompter/prompter/index/TermCounts" "first" "I" (.int i1) := q17.other W26 (Or.inr (slot_ne (Or.inr (hw _ (List.mem_of_getElem? (i := 11) rfl))) (Or.inr (hw _ (List.mem_of_getElem? (i := 15) rfl))) (by decide) (t := .int) (t' := (.array .int)) (by decide) (by decide)))
  have q29 : Fld Z h26 r1 "com/example/prompter/prompter/index/TermCounts" "firstSlot" "I" (.int (0 : Int32)) := q18.other W26 (Or.inr (slot_ne (Or.inr (hw _ (List.mem_of_getElem? (i := 13) rfl))) (Or.inr (hw _ (List.mem_of_getElem? (i := 15) rfl))) (by decide) (t := .int) (t' := (.array .int)) (by decide) (by decide)))
  have q30 : Fld Z h26 r1 "com/example/prompter/prompter/index/TermCounts" "termSlots" "[I" (.ref r2) := q19.same W26
  have q31 : Fld Z h26 r1 "com/example/prompter/prompter/index/TermCounts" "records" "[I" u_3 := q20.other W26 (Or.inr (slot_ne (Or.inr (hw _ (List.mem_of_getElem? (i := 17) rfl))) (Or.inr (hw _ (List.mem_of_getElem? (i := 15) rfl))) (by decide) (t := (.array .int)) (t' := (.array .int)) (by decide) (by decide)))
  have q32 : Fld Z h26 r1 "com/example/prompter/prompter/index/TermCounts" "slotRecords" "[I" u_4 := q21.other W26 (Or.inr (slot_ne (Or.inr (hw _ (List.mem_of_getElem? (i := 19) rfl))) (Or.inr (hw _ (List.mem_of_getElem? (i := 15) rfl))) (by decide) (t := (.array .int)) (t' := (.array .int)) (by decide) (by decide)))
  have q33 : Arv Z h26 r2 k_2 .int (9 : Int32) [(.int (0 : Int32)), (.int (0 : Int32)), (.int (0 : Int32)), (.int (0 : Int32)), (.int (0 : Int32)), (.int (0 : Int32)), (.int (0 : Int32)), (.int (0 : Int32)), (.int (0 : Int32))] (.int (0 : Int32)) := q22.other W26 ne_r2_r1
  have Z34 : n0 ≤ h26.size := Nat.le_trans Z23 (Keep.of_wr W26).1
  have K35 : Keep h0 h26 [r1] := K24.wr W26 (Or.inl (List.mem_of_getElem? (i := 0) rfl))
  have N36 := Fr.snoc X26 N25 g_r1
  refine Go.of st26 ?_
  show Go p e below Qo T26 (mkF m 21 #[.val (.ref r1), .val (.int i1), .val (.ref r2), .val (.ref r3), .val (.ref r4)] [])
  refine Go.of (fun t k => XS.aloadN X26.here hx rfl (hb hby d1_21) rfl rfl k) ?_
  show Go p e below Qo T26 (mkF m 22 #[.val (.ref r1), .val (.int i1), .val (.ref r2), .val (.ref r3), .val (.ref r4)] [(.ref r1)])
  refine Go.of (fun t k => XS.aloadN X26.here hx rfl (hb hby d1_22) rfl rfl k) ?_
  show Go p e below Qo T26 (mkF m 23 #[.val (.ref r1), .val (.int i1), .val (.ref r2), .val (.ref r3), .val (.ref r4)] [(.ref r3), (.ref r1)])
  obtain ⟨T37, h37, X37, e37, W37, st37⟩ := putF X26 hx hZ hown (host := "") (Or.inl (hw _ (List.mem_of_getElem? (i := 16) rfl))) Via.refl e26 q31 q27 (Or.inr ⟨(hw _ (List.mem_of_getElem? (i := 17) rfl)), rfl, hnm⟩) (hw _ (List.mem_of_getElem? (i := 2) rfl)) (ty := (.array .int)) (by decide) rfl rfl (g := (mkF m 23 #[.val (.ref r1), .val (.int i1), .val (.ref r2), .val (.ref r3), .val (.ref r4)] [(.ref r3), (.ref r1)])) rfl rfl (hb hby d1_23)
  have q38 : Exa Z h37 r1 "com/example/prompter/prompter/index/TermCounts" := q27.wr W37
  have q39 : Fld Z h37 r1 "com/example/prompter/prompter/index/TermCounts" "first" "I" (.int i1) := q28.other W37 (Or.inr (slot_ne (Or.inr (hw _ (List.mem_of_getElem? (i := 11) rfl))) (Or.inr (hw _ (List.mem_of_getElem? (i := 17) rfl))) (by decide) (t := .int) (t' := (.array .int)) (by decide) (by decide)))
  have q40 : Fld Z h37 r1 "com/example/prompter/prompter/index/TermCounts" "firstSlot" "I" (.int (0 : Int32)) := q29.other W37 (Or.inr (slot_ne (Or.inr (hw _ (List.mem_of_getElem? (i := 13) rfl))) (Or.inr (hw _ (List.mem_of_getElem? (i := 17) rfl))) (by decide) (t := .int) (t' := (.array .int)) (by decide) (by decide)))
  have q41 : Fld Z h37 r1 "com/example/prompter/prompter/index/TermCounts" "termSlots" "[I" (.ref r2) := q30.other W37 (Or.inr (slot_ne (Or.inr (hw _ (List.mem_of_getElem? (i := 15) rfl))) (Or.inr (hw _ (List.mem_of_getElem? (i := 17) rfl))) (by decide) (t := (.array .int)) (t' := (.array .int)) (by decide) (by decide)))
  have q42 : Fld Z h37 r1 "com/example/prompter/prompter/index/TermCounts" "records" "[I" (.ref r3) := q31.same W37
  have q43 : Fld Z h37 r1 "com/example/prompter/prompter/index/TermCounts" "slotRecords" "[I" u_4 := q32.other W37 (Or.inr (slot_ne (Or.inr (hw _ (List.mem_of_getElem? (i := 19) rfl))) (Or.inr (hw _ (List.mem_of_getElem? (i := 17) rfl))) (by decide) (t := (.array .int)) (t' := (.array .int)) (by decide) (by decide)))
  have q44 : Arv Z h37 r2 k_2 .int (9 : Int32) [(.int (0 : Int32)), (.int (0 : Int32)), (.int (0 : Int32)), (.int (0 : Int32)), (.int (0 : Int32)), (.int (0 : Int32)), (.int (0 : Int32)), (.int (0 : Int32)), (.int (0 : Int32))] (.int (0 : Int32)) := q33.other W37 ne_r2_r1
  have Z45 : n0 ≤ h37.size := Nat.le_trans Z34 (Keep.of_wr W37).1
  have K46 : Keep h0 h37 [r1] := K35.wr W37 (Or.inl (List.mem_of_getElem? (i := 0) rfl))
  have N47 := Fr.snoc X37 N36 g_r1
  refine Go.of st37 ?_
  show Go p e below Qo T37 (mkF m 26 #[.val (.ref r1), .val (.int i1), .val (.ref r2), .val (.ref r3), .val (.ref r4)] [])
  refine Go.of (fun t k => XS.aloadN X37.here hx rfl (hb hby d1_26) rfl rfl k) ?_
  show Go p e below Qo T37 (mkF m 27 #[.val (.ref r1), .val (.int i1), .val (.ref r2), .val (.ref r3), .val (.ref r4)] [(.ref r1)])
  refine Go.of (fun t k => XS.aload X37.here hx rfl (hb hby d1_27) rfl rfl k) ?_
  show Go p e below Qo T37 (mkF m 29 #[.val (.ref r1), .val (.int i1), .val (.ref r2), .val (.ref r3), .val (.ref r4)] [(.ref r4), (.ref r1)])
  obtain ⟨T48, h48, X48, e48, W48, st48⟩ := putF X37 hx hZ hown (host := "") (Or.inl (hw _ (List.mem_of_getElem? (i := 18) rfl))) Via.refl e37 q43 q38 (Or.inr ⟨(hw _ (List.mem_of_getElem? (i := 19) rfl)), rfl, hnm⟩) (hw _ (List.mem_of_getElem? (i := 2) rfl)) (ty := (.array .int)) (by decide) rfl rfl (g := (mkF m 29 #[.val (.ref r1), .val (.int i1), .val (.ref r2), .val (.ref r3), .val (.ref r4)] [(.ref r4), (.ref r1)])) rfl rfl (hb hby d1_29)
  have q49 : Exa Z h48 r1 "com/example/prompter/prompter/index/TermCounts" := q38.wr W48
  have q50 : Fld Z h48 r1 "com/example/prompter/prompter/index/TermCounts" "first" "I" (.int i1) := q39.other W48 (Or.inr (slot_ne (Or.inr (hw _ (List.mem_of_getElem? (i := 11) rfl))) (Or.inr (hw _ (List.mem_of_getElem? (i := 19) rfl))) (by decide) (t := .int) (t' := (.array .int)) (by decide) (by decide)))
  have q51 : Fld Z h48 r1 "com/example/prompter/prompter/index/TermCounts" "firstSlot" "I" (.int (0 : Int32)) := q40.other W48 (Or.inr (slot_ne (Or.inr (hw _ (List.mem_of_getElem? (i := 13) rfl))) (Or.inr (hw _ (List.mem_of_getElem? (i := 19) rfl))) (by decide) (t := .int) (t' := (.array .int)) (by decide) (by decide)))
  have q52 : Fld Z h48 r1 "com/example/prompter/prompter/index/TermCounts" "termSlots" "[I" (.ref r2) := q41.other W48 (Or.inr (slot_ne (Or.inr (hw _ (List.mem_of_getElem? (i := 15) rfl))) (Or.inr (hw _ (List.mem_of_getElem? (i := 19) rfl))) (by decide) (t := (.array .int)) (t' := (.array .int)) (by decide) (by decide)))
  have q53 : Fld Z h48 r1 "com/example/prompter/prompter/index/TermCounts" "records" "[I" (.ref r3) := q42.other W48 (Or.inr (slot_ne (Or.inr (hw _ (List.mem_of_getElem? (i := 17) rfl))) (Or.inr (hw _ (List.mem_of_getElem? (i := 19) rfl))) (by decide) (t := (.array .int)) (t' := (.array .int)) (by decide) (by decide)))
  have q54 : Fld Z h48 r1 "com/example/prompter/prompter/index/TermCounts" "slotRecords" "[I" (.ref r4) := q43.same W48
  have q55 : Arv Z h48 r2 k_2 .int (9 : Int32) [(.int (0 : Int32)), (.int (0 : Int32)), (.int (0 : Int32)), (.int (0 : Int32)), (.int (0 : Int32)), (.int (0 : Int32)), (.int (0 : Int32)), (.int (0 : Int32)), (.int (0 : Int32))] (.int (0 : Int32)) := q44.other W48 ne_r2_r1
  have Z56 : n0 ≤ h48.size := Nat.le_trans Z45 (Keep.of_wr W48).1
  have K57 : Keep h0 h48 [r1] := K46.wr W48 (Or.inl (List.mem_of_getElem? (i := 0) rfl))
  have N58 := Fr.snoc X48 N47 g_r1
  refine Go.of st48 ?_
  show Go p e below Qo T48 (mkF m 32 #[.val (.ref r1), .val (.int i1), .val (.ref r2), .val (.ref r3), .val (.ref r4)] [])
  exact own_ret0 X48 hx Bd.notSynchronized Bd.returns (hb hby d1_32) (fun u hu hF => hQo _ _ _ ⟨rfl, N58, by rw [hu, e48]; exact K57, by rw [hu, e48]; exact q49, by rw [hu, e48]; exact q50, by rw [hu, e48]; exact q51, by rw [hu, e48]; exact q52, by rw [hu, e48]; exact q53, by rw [hu, e48]; exact q54⟩ (own_mono hF (by decide) (by decide)))
theorem d3_0 : decode prog_15_method_2_code 0 = .ok (.aload_n 0, 1) := by decide +kernel
theorem d3_1 : decode prog_15_method_2_code 1 = .ok (.getfield 20, 3) := by decide +kernel
theorem d3_4 : decode prog_15_method_2_code 4 = .ok (.iload_n 1, 1) := by decide +kernel
theorem d3_5 : decode prog_15_method_2_code 5 = .ok (.aload_n 0, 1) := by decide +kernel
theorem d3_6 : decode prog_15_method_2_code 6 = .ok (.getfield 7, 3) := by decide +kernel
theorem d3_9 : decode prog_15_method_2_code 9 = .ok (.isub, 1) := by decide +kernel
theorem d3_10 : decode prog_15_method_2_code 10 = .ok (.iaload, 1) := by decide +kernel
theorem d3_11 : decode prog_15_method_2_code 11 = .ok (.ireturn, 1) := by decide +kernel
theorem ef_3 (m : MethodId) (r1 : Addr) (i1 : Int32)  : entryFrame m #[(.ref r1), (.int i1)] 2 = mkF m 0 #[.val (.ref r1), .val (.int i1)] [] := by
  first | (simp [entryFrame, mkF, argsToLocals, Value.category]; done) | rfl
def Q3 (Z : State) (r1 : Addr) (i1 : Int32) (r2 : Addr) (w1 : Int32) (k_2 : ClassId) (x0 : Int32) (x1 : Int32) (x2 : Int32) (h0 : Heap) (n0 : Nat) (v : Option Value) (h : Heap) (L : List Loc) : Prop := v = some (.int (own_at3 (i1 - w1) x0 x1 x2)) ∧ Fr n0 L ∧ h = h0
set_option maxRecDepth 65536 in
set_option maxHeartbeats 40000000 in
theorem rm3 (l : Launch) (Z : State) (a0 : Array Value) (hw : ∀ d ∈ tables_1, d.before a0 Z = true) (ws : List Jvm.Cond) (r1 : Addr) (i1 : Int32) (r2 : Addr) (w1 : Int32) (k_2 : ClassId) (x0 : Int32) (x1 : Int32) (x2 : Int32) (h0 : Heap) (n0 : Nat) (Z0 : n0 ≤ h0.size) (f0 : Fld Z h0 r1 "com/example/prompter/prompter/index/TermCounts" "records" "[I" (.ref r2)) (f1 : Fld Z h0 r1 "com/example/prompter/prompter/index/TermCounts" "first" "I" (.int w1)) (f2 : Arv Z h0 r2 k_2 .int (3 : Int32) [(.int x0), (.int x1), (.int x2)] (.int (0 : Int32))) (hr : ¬ (i1 - w1) < 0 ∧ (i1 - w1) < 3) :
    MetFree l (⟨"com/example/prompter/prompter/index/TermCounts", "records", "(I)I"⟩ : MethodName) (head1 (Jvm.Cond.code (⟨"com/example/prompter/prompter/index/TermCounts", "records", "(I)I"⟩ : MethodName) prog_15_method_2_code 2 (some .int) :: ws) ({ frames := 0, cells := 0, slots := 0, locals := 0 } : Room)) (fun a U => a = #[(.ref r1), (.int i1)] ∧ Z.Warmed39 U.vm ∧ U.heap = h0) (fun _ _ _ _ _ => True) (fun _ U o U' => ∃ v L, o = .returned v ∧ Q3 Z r1 i1 r2 w1 k_2 x0 x1 x2 h0 n0 v U'.heap L ∧ FrameEnd U o U' L ({ frames := 0, cells := 0, slots := 0, locals := 0 } : Room).cells ({ frames := 0, cells := 0, slots := 0, locals := 0 } : Room).slots) := by
  refine MetFree.of_bodySF (plainFor_of_name pn_0) hisR ?_
  intro p e s m args below meth c s₁ Bd hml0 hP hK
  obtain ⟨rfl, hZ, hh⟩ := hP
  have hx := Bd.exec
  have hby := Bd.bytes
  have hml : c.maxLocals = 2 := hml0
  have hown : s.vm.findClass "com/example/prompter/prompter/index/TermCounts" = some m.cls := findClass_of_methodNamed Bd.named
  have hnm := (name_of_methodNamed Bd.named Bd.method).1
  have X0 : Stand p l e ({ frames := 0, cells := 0, slots := 0, locals := 0 } : Room) s m #[(.ref r1), (.int i1)] below meth c s₁ [] 0 0 := Stand.of_body Bd
  have e0 : s₁.heap = h0 := by rw [← hh, Bd.state]; rfl
  have N0 := Fr.nil n0
  suffices H : ∀ Qo : Outcome → State → Prop, (∀ (v : Option Value) (u : State) (L : List Loc), Q3 Z r1 i1 r2 w1 k_2 x0 x1 x2 h0 n0 v u.heap L → FrameEnd s (.returned v) u L ({ frames := 0, cells := 0, slots := 0, locals := 0 } : Room).cells ({ frames := 0, cells := 0, slots := 0, locals := 0 } : Room).slots → Qo (.returned v) u) → Go p e below Qo s₁ (mkF m 0 #[.val (.ref r1), .val (.int i1)] []) from
    Go.cast (ef_3 m r1 i1) (H _ fun v u L h1 h2 => ⟨v, L, rfl, h1, h2⟩)
  intro Qo hQo
  show Go p e below Qo s₁ (mkF m 0 #[.val (.ref r1), .val (.int i1)] [])
  refine Go.of (fun t k => XS.aloadN X0.here hx rfl (hb hby d3_0) rfl rfl k) ?_
  show Go p e below Qo s₁ (mkF m 1 #[.val (.ref r1), .val (.int i1)] [(.ref r1)])
  obtain ⟨T1, X1, e1, st1⟩ := getF X0 hx hZ hown (host := "") (Or.inl (hw _ (List.mem_of_getElem? (i := 16) rfl))) Via.refl e0 f0 (g := (mkF m 1 #[.val (.ref r1), .val (.int i1)] [(.ref r1)])) rfl rfl (hb hby d3_1)
  refine Go.of st1 ?_
  show Go p e below Qo T1 (mkF m 4 #[.val (.ref r1), .val (.int i1)] [(.ref r2)])
  refine Go.of (fun t k => XS.iloadN X1.here hx rfl (hb hby d3_4) rfl  k) ?_
  show Go p e below Qo T1 (mkF m 5 #[.val (.ref r1), .val (.int i1)] [(.int i1), (.ref r2)])
  refine Go.of (fun t k => XS.aloadN X1.here hx rfl (hb hby d3_5) rfl rfl k) ?_
  show Go p e below Qo T1 (mkF m 6 #[.val (.ref r1), .val (.int i1)] [(.ref r1), (.int i1), (.ref r2)])
  obtain ⟨T2, X2, e2, st2⟩ := getF X1 hx hZ hown (host := "") (Or.inl (hw _ (List.mem_of_getElem? (i := 10) rfl))) Via.refl e1 f1 (g := (mkF m 6 #[.val (.ref r1), .val (.int i1)] [(.ref r1), (.int i1), (.ref r2)])) rfl rfl (hb hby d3_6)
  refine Go.of st2 ?_
  show Go p e below Qo T2 (mkF m 9 #[.val (.ref r1), .val (.int i1)] [(.int w1), (.int i1), (.ref r2)])
  refine Go.of (fun t k => XS.isub X2.here hx rfl (hb hby d3_9) rfl k) ?_
  show Go p e below Qo T2 (mkF m 10 #[.val (.ref r1), .val (.int i1)] [(.int (i1 - w1)), (.ref r2)])
  have cpo3 := f2
  obtain ⟨clo3, Aro3, qco3, So3, Mo3, Ho3, Go3⟩ := cpo3
  have hin4 : ¬ ((i1 - w1) < 0 ∨ clo3.slots.size ≤ (i1 - w1).toNatClampNeg) := (inb_of So3 hr)
  refine Go.of (fun t k => X2.iaload hx (j := (i1 - w1)) (v := (.int (own_at3 (i1 - w1) x0 x1 x2))) (by rw [e2]; exact Aro3.1) (State.isArrayOf_alike hZ.alike Aro3.2.1) Aro3.2.2 hin4 (Ho3.at hin4 (own_get3 _ _ _ _ hr)) (g := (mkF m 10 #[.val (.ref r1), .val (.int i1)] [(.int (i1 - w1)), (.ref r2)])) rfl rfl (hb hby d3_10) t k) ?_
  show Go p e below Qo T2 (mkF m 11 #[.val (.ref r1), .val (.int i1)] [(.int (own_at3 (i1 - w1) x0 x1 x2))])
  exact own_retW X2 hx Bd.notSynchronized Bd.returns rfl (Or.inl ⟨rfl, Or.inl rfl, _, rfl⟩) (hb hby d3_11) (fun u hu hF => hQo _ _ _ ⟨rfl, N0, by rw [hu, e2]⟩ (own_mono hF (by decide) (by decide)))
theorem own_s0 (d : Int32) : d - d = 0 := Int32.sub_self d
theorem own_s1 (d : Int32) : d + 1 - d = 1 := by grind
theorem own_s2 (d : Int32) : d + 2 - d = 2 := by grind
theorem own_m (x : Int32) : ¬ (x &&& 7) < 0 ∧ (x &&& 7) < 9 := by
  have h := c_and x 7 (by decide)
  have e0 : (0 : Int32).toInt = 0 := by decide
  have e7 : (7 : Int32).toInt = 7 := by decide
  have e9 : (9 : Int32).toInt = 9 := by decide
  rw [Int32.lt_iff_toInt_lt, Int32.lt_iff_toInt_lt]; omega
theorem pd_0 : parseMethodDescriptor "(I[I[I[I)V" = some ⟨[.int, (.array .int), (.array .int), (.array .int)], none⟩ := by decide +kernel
theorem pd_1 : parseMethodDescriptor "(I)I" = some ⟨[.int], some .int⟩ := by decide +kernel
theorem pn_1 : plainName "com/example/prompter/prompter/index/TermCountsRecordsPinLaw" = true := by first | (simp [plainName, overriddenIn]; done) | decide +kernel
theorem ef_0 (m : MethodId) (i1 : Int32) (i2 : Int32) (i3 : Int32) (i4 : Int32)  : entryFrame m #[(.int i1), (.int i2), (.int i3), (.int i4)] maxLocals = mkF m 0 #[.val (.int i1), .val (.int i2), .val (.int i3), .val (.int i4), .unset, .unset, .unset, .unset, .unset] [] := by
  first | (simp [entryFrame, mkF, argsToLocals, Value.category, maxLocals]; done) | rfl
def Q0 (Z : State) (i1 : Int32) (i2 : Int32) (i3 : Int32) (i4 : Int32) (h0 : Heap) (n0 : Nat) (v : Option Value) (h : Heap) (L : List Loc) : Prop := v = some (.int 1) ∧ Fr n0 L
set_option maxRecDepth 65536 in
set_option maxHeartbeats 40000000 in
theorem rm0 (l : Launch) (Z : State) (a0 : Array Value) (hw : ∀ d ∈ tables_1, d.before a0 Z = true) (ws : List Jvm.Cond) (i1 : Int32) (i2 : Int32) (i3 : Int32) (i4 : Int32) (h0 : Heap) (n0 : Nat) (Z0 : n0 ≤ h0.size)  :
    MetFree l x (head1 (Jvm.Cond.code x code maxLocals ret :: ws) room_1) (fun a U => a = #[(.int i1), (.int i2), (.int i3), (.int i4)] ∧ Z.Warmed39 U.vm ∧ U.heap = h0) (fun _ _ _ _ _ => True) (fun _ U o U' => ∃ v L, o = .returned v ∧ Q0 Z i1 i2 i3 i4 h0 n0 v U'.heap L ∧ FrameEnd U o U' L 4 17) := by
  refine MetFree.of_bodySF (plainFor_of_name pn_1) hisR ?_
  intro p e s m args below meth c s₁ Bd hml0 hP hK
  obtain ⟨rfl, hZ, hh⟩ := hP
  have hx := Bd.exec
  have hby := Bd.bytes
  have hml : c.maxLocals = 9 := hml0
  have hown : s.vm.findClass "com/example/prompter/prompter/index/TermCountsRecordsPinLaw" = some m.cls := findClass_of_methodNamed Bd.named
  have hnm := (name_of_methodNamed Bd.named Bd.method).1
  have X0 : Stand p l e room_1 s m #[(.int i1), (.int i2), (.int i3), (.int i4)] below meth c s₁ [] 0 0 := Stand.of_body Bd
  have e0 : s₁.heap = h0 := by rw [← hh, Bd.state]; rfl
  have N0 := Fr.nil n0
  suffices H : ∀ Qo : Outcome → State → Prop, (∀ (v : Option Value) (u : State) (L : List Loc), Q0 Z i1 i2 i3 i4 h0 n0 v u.heap L → FrameEnd s (.returned v) u L 4 17 → Qo (.returned v) u) → Go p e below Qo s₁ (mkF m 0 #[.val (.int i1), .val (.int i2), .val (.int i3), .val (.int i4), .unset, .unset, .unset, .unset, .unset] []) from
    Go.cast (ef_0 m i1 i2 i3 i4) (H _ fun v u L h1 h2 => ⟨v, L, rfl, h1, h2⟩)
  intro Qo hQo
  show Go p e below Qo s₁ (mkF m 0 #[.val (.int i1), .val (.int i2), .val (.int i3), .val (.int i4), .unset, .unset, .unset, .unset, .unset] [])
  refine Go.of (fun t k => XS.iloadN X0.here hx rfl (hb hby at_0) rfl  k) ?_
  show Go p e below Qo s₁ (mkF m 1 #[.val (.int i1), .val (.int i2), .val (.int i3), .val (.int i4), .unset, .unset, .unset, .unset, .unset] [(.int i1)])
  refine Go.of (fun t k => XS.bipush X0.here hx rfl (hb hby at_1) k) ?_
  show Go p e below Qo s₁ (mkF m 3 #[.val (.int i1), .val (.int i2), .val (.int i3), .val (.int i4), .unset, .unset, .unset, .unset, .unset] [(.int (7 : Int32)), (.int i1)])
  refine Go.of (fun t k => XS.iand X0.here hx rfl (hb hby at_3) rfl k) ?_
  show Go p e below Qo s₁ (mkF m 4 #[.val (.int i1), .val (.int i2), .val (.int i3), .val (.int i4), .unset, .unset, .unset, .unset, .unset] [(.int (i1 &&& (7 : Int32)))])
  refine Go.of (fun t k => XS.istore X0.here hx rfl (hb hby at_4) rfl (l' := #[.val (.int i1), .val (.int i2), .val (.int i3), .val (.int i4), .val (.int (i1 &&& (7 : Int32))), .unset, .unset, .unset, .unset]) rfl k) ?_
  show Go p e below Qo s₁ (mkF m 6 #[.val (.int i1), .val (.int i2), .val (.int i3), .val (.int i4), .val (.int (i1 &&& (7 : Int32))), .unset, .unset, .unset, .unset] [])
  refine Go.of (fun t k => XS.bipush X0.here hx rfl (hb hby at_6) k) ?_
  show Go p e below Qo s₁ (mkF m 8 #[.val (.int i1), .val (.int i2), .val (.int i3), .val (.int i4), .val (.int (i1 &&& (7 : Int32))), .unset, .unset, .unset, .unset] [(.int (9 : Int32))])
  obtain ⟨T1, h1, k1, X1, e1, E1, A1, st1⟩ := newP X0 hx hZ (hw _ (List.mem_of_getElem? (i := 0) rfl)) e0 (g := (mkF m 8 #[.val (.int i1), .val (.int i2), .val (.int i3), .val (.int i4), .val (.int (i1 &&& (7 : Int32))), .unset, .unset, .unset, .unset] [(.int (9 : Int32))])) rfl (hb hby at_8) rfl (by decide) (cap := 9) (by decide) (by decide) (by decide) (by decide)
  obtain ⟨b1, g1⟩ : ∃ z, z = h0.size := ⟨_, rfl⟩
  rw [← g1] at A1 st1
  have g2 : n0 ≤ b1 := Nat.le_trans Z0 (Nat.le_of_eq g1.symm)
  have Z3 : n0 ≤ h1.size := Nat.le_trans Z0 E1.1
  have q4 : Arv Z h1 b1 k1 .int (9 : Int32) [(.int (0 : Int32)), (.int (0 : Int32)), (.int (0 : Int32)), (.int (0 : Int32)), (.int (0 : Int32)), (.int (0 : Int32)), (.int (0 : Int32)), (.int (0 : Int32)), (.int (0 : Int32))] (.int (0 : Int32)) := (Arv.new A1 (by decide)).pad (pad_rep [] (.int (0 : Int32)) 9)
  refine Go.of st1 ?_
  show Go p e below Qo T1 (mkF m 10 #[.val (.int i1), .val (.int i2), .val (.int i3), .val (.int i4), .val (.int (i1 &&& (7 : Int32))), .unset, .unset, .unset, .unset] [(.ref b1)])
  refine Go.of (fun t k => XS.astore X1.here hx rfl (hb hby at_10) rfl rfl (l' := #[.val (.int i1), .val (.int i2), .val (.int i3), .val (.int i4), .val (.int (i1 &&& (7 : Int32))), .val (.ref b1), .unset, .unset, .unset]) rfl k) ?_
  show Go p e below Qo T1 (mkF m 12 #[.val (.int i1), .val (.int i2), .val (.int i3), .val (.int i4), .val (.int (i1 &&& (7 : Int32))), .val (.ref b1), .unset, .unset, .unset] [])
  refine Go.of (fun t k => XS.iconst X1.here hx rfl (hb hby at_12) k) ?_
  show Go p e below Qo T1 (mkF m 13 #[.val (.int i1), .val (.int i2), .val (.int i3), .val (.int i4), .val (.int (i1 &&& (7 : Int32))), .val (.ref b1), .unset, .unset, .unset] [(.int (3 : Int32))])
  obtain ⟨T5, h5, k5, X5, e5, E5, A5, st5⟩ := newP X1 hx hZ (hw _ (List.mem_of_getElem? (i := 0) rfl)) e1 (g := (mkF m 13 #[.val (.int i1), .val (.int i2), .val (.int i3), .val (.int i4), .val (.int (i1 &&& (7 : Int32))), .val (.ref b1), .unset, .unset, .unset] [(.int (3 : Int32))])) rfl (hb hby at_13) rfl (by decide) (cap := 3) (by decide) (by decide) (by decide) (by decide)
  obtain ⟨b5, g5⟩ : ∃ z, z = h1.size := ⟨_, rfl⟩
  rw [← g5] at A5 st5
  have ne6 : b1 ≠ b5 := Nat.ne_of_lt (Nat.lt_of_lt_of_le q4.lt (Nat.le_of_eq g5.symm))
  have g7 : n0 ≤ b5 := Nat.le_trans Z3 (Nat.le_of_eq g5.symm)
  have q8 : Arv Z h5 b1 k1 .int (9 : Int32) [(.int (0 : Int32)), (.int (0 : Int32)), (.int (0 : Int32)), (.int (0 : Int32)), (.int (0 : Int32)), (.int (0 : Int32)), (.int (0 : Int32)), (.int (0 : Int32)), (.int (0 : Int32))] (.int (0 : Int32)) := q4.ext E5
  have Z9 : n0 ≤ h5.size := Nat.le_trans Z3 E5.1
  have q10 : Arv Z h5 b5 k5 .int (3 : Int32) [(.int (0 : Int32)), (.int (0 : Int32)), (.int (0 : Int32))] (.int (0 : Int32)) := (Arv.new A5 (by decide)).pad (pad_rep [] (.int (0 : Int32)) 3)
  refine Go.of st5 ?_
  show Go p e below Qo T5 (mkF m 15 #[.val (.int i1), .val (.int i2), .val (.int i3), .val (.int i4), .val (.int (i1 &&& (7 : Int32))), .val (.ref b1), .unset, .unset, .unset] [(.ref b5)])
  refine Go.of (fun t k => XS.dup X5.here hx rfl (hb hby at_15) rfl rfl k) ?_
  show Go p e below Qo T5 (mkF m 16 #[.val (.int i1), .val (.int i2), .val (.int i3), .val (.int i4), .val (.int (i1 &&& (7 : Int32))), .val (.ref b1), .unset, .unset, .unset] [(.ref b5), (.ref b5)])
  refine Go.of (fun t k => XS.iconst X5.here hx rfl (hb hby at_16) k) ?_
  show Go p e below Qo T5 (mkF m 17 #[.val (.int i1), .val (.int i2), .val (.int i3), .val (.int i4), .val (.int (i1 &&& (7 : Int32))), .val (.ref b1), .unset, .unset, .unset] [(.int (0 : Int32)), (.ref b5), (.ref b5)])
  refine Go.of (fun t k => XS.iloadN X5.here hx rfl (hb hby at_17) rfl  k) ?_
  show Go p e below Qo T5 (mkF m 18 #[.val (.int i1), .val (.int i2), .val (.int i3), .val (.int i4), .val (.int (i1 &&& (7 : Int32))), .val (.ref b1), .unset, .unset, .unset] [(.int i2), (.int (0 : Int32)), (.ref b5), (.ref b5)])
  have cpo11 := q10
  obtain ⟨clo11, Aro11, qco11, So11, Mo11, Ho11, Go11⟩ := cpo11
  have hin12 : ¬ ((0 : Int32) < 0 ∨ clo11.slots.size ≤ (0 : Int32).toNatClampNeg) := (inb_of So11 ⟨by decide, by decide⟩)
  obtain ⟨T13, h13, X13, e13, W13, st13⟩ := stI X5 hx hZ e5 Aro11 (j := (0 : Int32)) hin12 (g := (mkF m 18 #[.val (.int i1), .val (.int i2), .val (.int i3), .val (.int i4), .val (.int (i1 &&& (7 : Int32))), .val (.ref b1), .unset, .unset, .unset] [(.int i2), (.int (0 : Int32)), (.ref b5), (.ref b5)])) rfl rfl (hb hby at_18)
  have q14 : Arv Z h13 b1 k1 .int (9 : Int32) [(.int (0 : Int32)), (.int (0 : Int32)), (.int (0 : Int32)), (.int (0 : Int32)), (.int (0 : Int32)), (.int (0 : Int32)), (.int (0 : Int32)), (.int (0 : Int32)), (.int (0 : Int32))] (.int (0 : Int32)) := q8.other W13 ne6
  have q15 : Arv Z h13 b5 k5 .int (3 : Int32) [(.int i2), (.int (0 : Int32)), (.int (0 : Int32))] (.int (0 : Int32)) := Arv.set Aro11 qco11 So11 Mo11 Ho11 Go11 rfl W13 0 rfl (Nat.le_of_ble_eq_true rfl)
  have Z16 : n0 ≤ h13.size := Nat.le_trans Z9 (Keep.of_wr W13).1
  have N17 := Fr.snoc X13 N0 g7
  refine Go.of st13 ?_
  show Go p e below Qo T13 (mkF m 19 #[.val (.int i1), .val (.int i2), .val (.int i3), .val (.int i4), .val (.int (i1 &&& (7 : Int32))), .val (.ref b1), .unset, .unset, .unset] [(.ref b5)])
  refine Go.of (fun t k => XS.dup X13.here hx rfl (hb hby at_19) rfl rfl k) ?_
  show Go p e below Qo T13 (mkF m 20 #[.val (.int i1), .val (.int i2), .val (.int i3), .val (.int i4), .val (.int (i1 &&& (7 : Int32))), .val (.ref b1), .unset, .unset, .unset] [(.ref b5), (.ref b5)])
  refine Go.of (fun t k => XS.iconst X13.here hx rfl (hb hby at_20) k) ?_
  show Go p e below Qo T13 (mkF m 21 #[.val (.int i1), .val (.int i2), .val (.int i3), .val (.int i4), .val (.int (i1 &&& (7 : Int32))), .val (.ref b1), .unset, .unset, .unset] [(.int (1 : Int32)), (.ref b5), (.ref b5)])
  refine Go.of (fun t k => XS.iloadN X13.here hx rfl (hb hby at_21) rfl  k) ?_
  show Go p e below Qo T13 (mkF m 22 #[.val (.int i1), .val (.int i2), .val (.int i3), .val (.int i4), .val (.int (i1 &&& (7 : Int32))), .val (.ref b1), .unset, .unset, .unset] [(.int i3), (.int (1 : Int32)), (.ref b5), (.ref b5)])
  have cpo18 := q15
  obtain ⟨clo18, Aro18, qco18, So18, Mo18, Ho18, Go18⟩ := cpo18
  have hin19 : ¬ ((1 : Int32) < 0 ∨ clo18.slots.size ≤ (1 : Int32).toNatClampNeg) := (inb_of So18 ⟨by decide, by decide⟩)
  obtain ⟨T20, h20, X20, e20, W20, st20⟩ := stI X13 hx hZ e13 Aro18 (j := (1 : Int32)) hin19 (g := (mkF m 22 #[.val (.int i1), .val (.int i2), .val (.int i3), .val (.int i4), .val (.int (i1 &&& (7 : Int32))), .val (.ref b1), .unset, .unset, .unset] [(.int i3), (.int (1 : Int32)), (.ref b5), (.ref b5)])) rfl rfl (hb hby at_22)
  have q21 : Arv Z h20 b1 k1 .int (9 : Int32) [(.int (0 : Int32)), (.int (0 : Int32)), (.int (0 : Int32)), (.int (0 : Int32)), (.int (0 : Int32)), (.int (0 : Int32)), (.int (0 : Int32)), (.int (0 : Int32)), (.int (0 : Int32))] (.int (0 : Int32)) := q14.other W20 ne6
  have q22 : Arv Z h20 b5 k5 .int (3 : Int32) [(.int i2), (.int i3), (.int (0 : Int32))] (.int (0 : Int32)) := Arv.set Aro18 qco18 So18 Mo18 Ho18 Go18 rfl W20 1 rfl (Nat.le_of_ble_eq_true rfl)
  have Z23 : n0 ≤ h20.size := Nat.le_trans Z16 (Keep.of_wr W20).1
  have N24 := Fr.snoc X20 N17 g7
  refine Go.of st20 ?_
  show Go p e below Qo T20 (mkF m 23 #[.val (.int i1), .val (.int i2), .val (.int i3), .val (.int i4), .val (.int (i1 &&& (7 : Int32))), .val (.ref b1), .unset, .unset, .unset] [(.ref b5)])
  refine Go.of (fun t k => XS.dup X20.here hx rfl (hb hby at_23) rfl rfl k) ?_
  show Go p e below Qo T20 (mkF m 24 #[.val (.int i1), .val (.int i2), .val (.int i3), .val (.int i4), .val (.int (i1 &&& (7 : Int32))), .val (.ref b1), .unset, .unset, .unset] [(.ref b5), (.ref b5)])
  refine Go.of (fun t k => XS.iconst X20.here hx rfl (hb hby at_24) k) ?_
  show Go p e below Qo T20 (mkF m 25 #[.val (.int i1), .val (.int i2), .val (.int i3), .val (.int i4), .val (.int (i1 &&& (7 : Int32))), .val (.ref b1), .unset, .unset, .unset] [(.int (2 : Int32)), (.ref b5), (.ref b5)])
  refine Go.of (fun t k => XS.iloadN X20.here hx rfl (hb hby at_25) rfl  k) ?_
  show Go p e below Qo T20 (mkF m 26 #[.val (.int i1), .val (.int i2), .val (.int i3), .val (.int i4), .val (.int (i1 &&& (7 : Int32))), .val (.ref b1), .unset, .unset, .unset] [(.int i4), (.int (2 : Int32)), (.ref b5), (.ref b5)])
  have cpo25 := q22
  obtain ⟨clo25, Aro25, qco25, So25, Mo25, Ho25, Go25⟩ := cpo25
  have hin26 : ¬ ((2 : Int32) < 0 ∨ clo25.slots.size ≤ (2 : Int32).toNatClampNeg) := (inb_of So25 ⟨by decide, by decide⟩)
  obtain ⟨T27, h27, X27, e27, W27, st27⟩ := stI X20 hx hZ e20 Aro25 (j := (2 : Int32)) hin26 (g := (mkF m 26 #[.val (.int i1), .val (.int i2), .val (.int i3), .val (.int i4), .val (.int (i1 &&& (7 : Int32))), .val (.ref b1), .unset, .unset, .unset] [(.int i4), (.int (2 : Int32)), (.ref b5), (.ref b5)])) rfl rfl (hb hby at_26)
  have q28 : Arv Z h27 b1 k1 .int (9 : Int32) [(.int (0 : Int32)), (.int (0 : Int32)), (.int (0 : Int32)), (.int (0 : Int32)), (.int (0 : Int32)), (.int (0 : Int32)), (.int (0 : Int32)), (.int (0 : Int32)), (.int (0 : Int32))] (.int (0 : Int32)) := q21.other W27 ne6
  have q29 : Arv Z h27 b5 k5 .int (3 : Int32) [(.int i2), (.int i3), (.int i4)] (.int (0 : Int32)) := Arv.set Aro25 qco25 So25 Mo25 Ho25 Go25 rfl W27 2 rfl (Nat.le_of_ble_eq_true rfl)
  have Z30 : n0 ≤ h27.size := Nat.le_trans Z23 (Keep.of_wr W27).1
  have N31 := Fr.snoc X27 N24 g7
  refine Go.of st27 ?_
  show Go p e below Qo T27 (mkF m 27 #[.val (.int i1), .val (.int i2), .val (.int i3), .val (.int i4), .val (.int (i1 &&& (7 : Int32))), .val (.ref b1), .unset, .unset, .unset] [(.ref b5)])
  refine Go.of (fun t k => XS.astore X27.here hx rfl (hb hby at_27) rfl rfl (l' := #[.val (.int i1), .val (.int i2), .val (.int i3), .val (.int i4), .val (.int (i1 &&& (7 : Int32))), .val (.ref b1), .val (.ref b5), .unset, .unset]) rfl k) ?_
  show Go p e below Qo T27 (mkF m 29 #[.val (.int i1), .val (.int i2), .val (.int i3), .val (.int i4), .val (.int (i1 &&& (7 : Int32))), .val (.ref b1), .val (.ref b5), .unset, .unset] [])
  refine Go.of (fun t k => XS.iconst X27.here hx rfl (hb hby at_29) k) ?_
  show Go p e below Qo T27 (mkF m 30 #[.val (.int i1), .val (.int i2), .val (.int i3), .val (.int i4), .val (.int (i1 &&& (7 : Int32))), .val (.ref b1), .val (.ref b5), .unset, .unset] [(.int (0 : Int32))])
  obtain ⟨T32, h32, k32, X32, e32, E32, A32, st32⟩ := newP X27 hx hZ (hw _ (List.mem_of_getElem? (i := 0) rfl)) e27 (g := (mkF m 30 #[.val (.int i1), .val (.int i2), .val (.int i3), .val (.int i4), .val (.int (i1 &&& (7 : Int32))), .val (.ref b1), .val (.ref b5), .unset, .unset] [(.int (0 : Int32))])) rfl (hb hby at_30) rfl (by decide) (cap := 0) (by decide) (by decide) (by decide) (by decide)
  obtain ⟨b32, g32⟩ : ∃ z, z = h27.size := ⟨_, rfl⟩
  rw [← g32] at A32 st32
  have ne33 : b1 ≠ b32 := Nat.ne_of_lt (Nat.lt_of_lt_of_le q28.lt (Nat.le_of_eq g32.symm))
  have ne34 : b5 ≠ b32 := Nat.ne_of_lt (Nat.lt_of_lt_of_le q29.lt (Nat.le_of_eq g32.symm))
  have g35 : n0 ≤ b32 := Nat.le_trans Z30 (Nat.le_of_eq g32.symm)
  have q36 : Arv Z h32 b1 k1 .int (9 : Int32) [(.int (0 : Int32)), (.int (0 : Int32)), (.int (0 : Int32)), (.int (0 : Int32)), (.int (0 : Int32)), (.int (0 : Int32)), (.int (0 : Int32)), (.int (0 : Int32)), (.int (0 : Int32))] (.int (0 : Int32)) := q28.ext E32
  have q37 : Arv Z h32 b5 k5 .int (3 : Int32) [(.int i2), (.int i3), (.int i4)] (.int (0 : Int32)) := q29.ext E32
  have Z38 : n0 ≤ h32.size := Nat.le_trans Z30 E32.1
  have q39 : Arv Z h32 b32 k32 .int (0 : Int32) [] (.int (0 : Int32)) := (Arv.new A32 (by decide)).pad (pad_rep [] (.int (0 : Int32)) 0)
  refine Go.of st32 ?_
  show Go p e below Qo T32 (mkF m 32 #[.val (.int i1), .val (.int i2), .val (.int i3), .val (.int i4), .val (.int (i1 &&& (7 : Int32))), .val (.ref b1), .val (.ref b5), .unset, .unset] [(.ref b32)])
  refine Go.of (fun t k => XS.astore X32.here hx rfl (hb hby at_32) rfl rfl (l' := #[.val (.int i1), .val (.int i2), .val (.int i3), .val (.int i4), .val (.int (i1 &&& (7 : Int32))), .val (.ref b1), .val (.ref b5), .val (.ref b32), .unset]) rfl k) ?_
  show Go p e below Qo T32 (mkF m 34 #[.val (.int i1), .val (.int i2), .val (.int i3), .val (.int i4), .val (.int (i1 &&& (7 : Int32))), .val (.ref b1), .val (.ref b5), .val (.ref b32), .unset] [])
  obtain ⟨T40, h40, X40, e40, E40, A40, D40, -, st40⟩ := newO X32 hx hZ hown (hw _ (List.mem_of_getElem? (i := 1) rfl)) (hw _ (List.mem_of_getElem? (i := 2) rfl)) (hw _ (List.mem_of_getElem? (i := 3) rfl)) e32 (g := (mkF m 34 #[.val (.int i1), .val (.int i2), .val (.int i3), .val (.int i4), .val (.int (i1 &&& (7 : Int32))), .val (.ref b1), .val (.ref b5), .val (.ref b32), .unset] [])) rfl (hb hby at_34) (by decide) (by decide)
  obtain ⟨b40, g40⟩ : ∃ z, z = h32.size := ⟨_, rfl⟩
  rw [← g40] at A40 D40 st40
  have ne41 : b1 ≠ b40 := Nat.ne_of_lt (Nat.lt_of_lt_of_le q36.lt (Nat.le_of_eq g40.symm))
  have ne42 : b5 ≠ b40 := Nat.ne_of_lt (Nat.lt_of_lt_of_le q37.lt (Nat.le_of_eq g40.symm))
  have ne43 : b32 ≠ b40 := Nat.ne_of_lt (Nat.lt_of_lt_of_le q39.lt (Nat.le_of_eq g40.symm))
  have g44 : n0 ≤ b40 := Nat.le_trans Z38 (Nat.le_of_eq g40.symm)
  have q45 : Arv Z h40 b1 k1 .int (9 : Int32) [(.int (0 : Int32)), (.int (0 : Int32)), (.int (0 : Int32)), (.int (0 : Int32)), (.int (0 : Int32)), (.int (0 : Int32)), (.int (0 : Int32)), (.int (0 : Int32)), (.int (0 : Int32))] (.int (0 : Int32)) := q36.ext E40
  have q46 : Arv Z h40 b5 k5 .int (3 : Int32) [(.int i2), (.int i3), (.int i4)] (.int (0 : Int32)) := q37.ext E40
  have q47 : Arv Z h40 b32 k32 .int (0 : Int32) [] (.int (0 : Int32)) := q39.ext E40
  have Z48 : n0 ≤ h40.size := Nat.le_trans Z38 E40.1
  have q49 : Fld Z h40 b40 "com/example/prompter/prompter/index/TermCounts" "first" "I" (.int (0 : Int32)) := D40 (Or.inr (hw _ (List.mem_of_getElem? (i := 11) rfl))) (ty := .int) (by decide)
  have q50 : Fld Z h40 b40 "com/example/prompter/prompter/index/TermCounts" "firstSlot" "I" (.int (0 : Int32)) := D40 (Or.inr (hw _ (List.mem_of_getElem? (i := 13) rfl))) (ty := .int) (by decide)
  have q51 : Fld Z h40 b40 "com/example/prompter/prompter/index/TermCounts" "termSlots" "[I" .null := D40 (Or.inr (hw _ (List.mem_of_getElem? (i := 15) rfl))) (ty := (.array .int)) (by decide)
  have q52 : Fld Z h40 b40 "com/example/prompter/prompter/index/TermCounts" "records" "[I" .null := D40 (Or.inr (hw _ (List.mem_of_getElem? (i := 17) rfl))) (ty := (.array .int)) (by decide)
  have q53 : Fld Z h40 b40 "com/example/prompter/prompter/index/TermCounts" "slotRecords" "[I" .null := D40 (Or.inr (hw _ (List.mem_of_getElem? (i := 19) rfl))) (ty := (.array .int)) (by decide)
  refine Go.of st40 ?_
  show Go p e below Qo T40 (mkF m 37 #[.val (.int i1), .val (.int i2), .val (.int i3), .val (.int i4), .val (.int (i1 &&& (7 : Int32))), .val (.ref b1), .val (.ref b5), .val (.ref b32), .unset] [(.ref b40)])
  refine Go.of (fun t k => XS.dup X40.here hx rfl (hb hby at_37) rfl rfl k) ?_
  show Go p e below Qo T40 (mkF m 38 #[.val (.int i1), .val (.int i2), .val (.int i3), .val (.int i4), .val (.int (i1 &&& (7 : Int32))), .val (.ref b1), .val (.ref b5), .val (.ref b32), .unset] [(.ref b40), (.ref b40)])
  refine Go.of (fun t k => XS.iload X40.here hx rfl (hb hby at_38) rfl  k) ?_
  show Go p e below Qo T40 (mkF m 40 #[.val (.int i1), .val (.int i2), .val (.int i3), .val (.int i4), .val (.int (i1 &&& (7 : Int32))), .val (.ref b1), .val (.ref b5), .val (.ref b32), .unset] [(.int (i1 &&& (7 : Int32))), (.ref b40), (.ref b40)])
  refine Go.of (fun t k => XS.aload X40.here hx rfl (hb hby at_40) rfl rfl k) ?_
  show Go p e below Qo T40 (mkF m 42 #[.val (.int i1), .val (.int i2), .val (.int i3), .val (.int i4), .val (.int (i1 &&& (7 : Int32))), .val (.ref b1), .val (.ref b5), .val (.ref b32), .unset] [(.ref b1), (.int (i1 &&& (7 : Int32))), (.ref b40), (.ref b40)])
  refine Go.of (fun t k => XS.aload X40.here hx rfl (hb hby at_42) rfl rfl k) ?_
  show Go p e below Qo T40 (mkF m 44 #[.val (.int i1), .val (.int i2), .val (.int i3), .val (.int i4), .val (.int (i1 &&& (7 : Int32))), .val (.ref b1), .val (.ref b5), .val (.ref b32), .unset] [(.ref b5), (.ref b1), (.int (i1 &&& (7 : Int32))), (.ref b40), (.ref b40)])
  refine Go.of (fun t k => XS.aload X40.here hx rfl (hb hby at_44) rfl rfl k) ?_
  show Go p e below Qo T40 (mkF m 46 #[.val (.int i1), .val (.int i2), .val (.int i3), .val (.int i4), .val (.int (i1 &&& (7 : Int32))), .val (.ref b1), .val (.ref b5), .val (.ref b32), .unset] [(.ref b32), (.ref b5), (.ref b1), (.int (i1 &&& (7 : Int32))), (.ref b40), (.ref b40)])
  obtain ⟨_, _, ⟨T54, L54, k54, n54⟩, -, X54, ⟨Lc54, hQ54, l54, y54, z54⟩, st54⟩ := X40.specialBack hx (y := (⟨"com/example/prompter/prompter/index/TermCounts", "<init>", "(I[I[I[I)V"⟩ : MethodName)) rfl hown (mvT hZ (hw _ (List.mem_of_getElem? (i := 4) rfl))) (mvT hZ (hw _ (List.mem_of_getElem? (i := 5) rfl))) (mvT hZ (hw _ (List.mem_of_getElem? (i := 6) rfl))) (by decide) (backOf (W := 1) (rm1 l Z a0 hw [] b40 (i1 &&& (7 : Int32)) b1 b5 b32 (.int (0 : Int32)) (.int (0 : Int32)) .null .null .null k1 h40 n0 Z48 A40 q49 q50 q51 q52 q53 q45 g44 ne41 (own_m _)) hZ (hw _ (List.mem_of_getElem? (i := 6) rfl)) (hw _ (List.mem_of_getElem? (i := 3) rfl)) (by decide) (by decide)) (g := (mkF m 46 #[.val (.int i1), .val (.int i2), .val (.int i3), .val (.int i4), .val (.int (i1 &&& (7 : Int32))), .val (.ref b1), .val (.ref b5), .val (.ref b32), .unset] [(.ref b32), (.ref b5), (.ref b1), (.int (i1 &&& (7 : Int32))), (.ref b40), (.ref b40)])) rfl (by rw [hml]; rfl) (Steps.refl _) (a := b40) (argsL := [(.int (i1 &&& (7 : Int32))), (.ref b1), (.ref b5), (.ref b32)]) (rest := [(.ref b40)]) (lenOf pd_0 rfl) rfl (by show 2 * 0 + _ ≤ _; exact Nat.le_of_eq rfl) (hb hby at_46) (fun _ _ => ⟨rfl, e40, (by decide : 4 + 0 ≤ _), (by decide : 17 + 0 ≤ _)⟩)
  dsimp only [Pt.U, Pt.locs, Pt.cells, Pt.slots] at X54 l54 y54 z54 st54 hQ54
  subst l54 y54 z54
  obtain ⟨rfl, N55, Kc56, q57, q58, q59, q60, q61, q62⟩ := hQ54
  have N63 := Fr.app N31 N55
  have q64 : Arv Z T54.heap b1 k1 .int (9 : Int32) [(.int (0 : Int32)), (.int (0 : Int32)), (.int (0 : Int32)), (.int (0 : Int32)), (.int (0 : Int32)), (.int (0 : Int32)), (.int (0 : Int32)), (.int (0 : Int32)), (.int (0 : Int32))] (.int (0 : Int32)) := q45.keep Kc56 (ninS ne41 nin0)
  have q65 : Arv Z T54.heap b5 k5 .int (3 : Int32) [(.int i2), (.int i3), (.int i4)] (.int (0 : Int32)) := q46.keep Kc56 (ninS ne42 nin0)
  have q66 : Arv Z T54.heap b32 k32 .int (0 : Int32) [] (.int (0 : Int32)) := q47.keep Kc56 (ninS ne43 nin0)
  have Z67 : n0 ≤ T54.heap.size := Nat.le_trans Z48 Kc56.1
  refine Go.via st54 ?_
  show Go p e below Qo T54 (mkF m 49 #[.val (.int i1), .val (.int i2), .val (.int i3), .val (.int i4), .val (.int (i1 &&& (7 : Int32))), .val (.ref b1), .val (.ref b5), .val (.ref b32), .unset] [(.ref b40)])
  refine Go.of (fun t k => XS.astore X54.here hx rfl (hb hby at_49) rfl rfl (l' := #[.val (.int i1), .val (.int i2), .val (.int i3), .val (.int i4), .val (.int (i1 &&& (7 : Int32))), .val (.ref b1), .val (.ref b5), .val (.ref b32), .val (.ref b40)]) rfl k) ?_
  show Go p e below Qo T54 (mkF m 51 #[.val (.int i1), .val (.int i2), .val (.int i3), .val (.int i4), .val (.int (i1 &&& (7 : Int32))), .val (.ref b1), .val (.ref b5), .val (.ref b32), .val (.ref b40)] [])
  refine Go.of (fun t k => XS.aload X54.here hx rfl (hb hby at_51) rfl rfl k) ?_
  show Go p e below Qo T54 (mkF m 53 #[.val (.int i1), .val (.int i2), .val (.int i3), .val (.int i4), .val (.int (i1 &&& (7 : Int32))), .val (.ref b1), .val (.ref b5), .val (.ref b32), .val (.ref b40)] [(.ref b40)])
  refine Go.of (fun t k => XS.iload X54.here hx rfl (hb hby at_53) rfl  k) ?_
  show Go p e below Qo T54 (mkF m 55 #[.val (.int i1), .val (.int i2), .val (.int i3), .val (.int i4), .val (.int (i1 &&& (7 : Int32))), .val (.ref b1), .val (.ref b5), .val (.ref b32), .val (.ref b40)] [(.int (i1 &&& (7 : Int32))), (.ref b40)])
  obtain ⟨ciq69, kiq69, iq69a, iq69b, iq69c⟩ := isOf hZ rfl q57
  obtain ⟨_, _, ⟨T68, L68, k68, n68⟩, -, X68, ⟨Lc68, hQ68, l68, y68, z68⟩, st68⟩ := X54.virtualBack hx (y := (⟨"com/example/prompter/prompter/index/TermCounts", "records", "(I)I"⟩ : MethodName)) (z := (⟨"com/example/prompter/prompter/index/TermCounts", "records", "(I)I"⟩ : MethodName)) hown (mvT hZ (hw _ (List.mem_of_getElem? (i := 20) rfl))) (mvT hZ (hw _ (List.mem_of_getElem? (i := 21) rfl))) (notFace_of_selects (args := #[]) (mvT hZ (hw _ (List.mem_of_getElem? (i := 23) rfl)))) (mvT hZ (hw _ (List.mem_of_getElem? (i := 23) rfl))) (mvT hZ (hw _ (List.mem_of_getElem? (i := 22) rfl))) (by decide) (backOf (W := 0) (rm3 l Z a0 hw [] b40 (i1 &&& (7 : Int32)) b5 (i1 &&& (7 : Int32)) k5 i2 i3 i4 T54.heap n0 Z67 q61 q58 q65 (by rw [own_s0]; decide)) hZ (hw _ (List.mem_of_getElem? (i := 24) rfl)) (hw _ (List.mem_of_getElem? (i := 3) rfl)) (by decide) (by decide)) iq69a iq69c (g := (mkF m 55 #[.val (.int i1), .val (.int i2), .val (.int i3), .val (.int i4), .val (.int (i1 &&& (7 : Int32))), .val (.ref b1), .val (.ref b5), .val (.ref b32), .val (.ref b40)] [(.int (i1 &&& (7 : Int32))), (.ref b40)])) rfl (by rw [hml]; rfl) (Steps.refl _) (argsL := [(.int (i1 &&& (7 : Int32)))]) (rest := []) (lenOf pd_1 rfl) rfl (by show 2 * 0 + _ ≤ _; exact Nat.le_of_eq rfl) (hb hby at_55) (fun _ _ => ⟨rfl, rfl, (by decide : 4 + 0 ≤ _), (by decide : 17 + 0 ≤ _)⟩)
  dsimp only [Pt.U, Pt.locs, Pt.cells, Pt.slots] at X68 l68 y68 z68 st68 hQ68
  subst l68 y68 z68
  obtain ⟨rfl, N70, eh71⟩ := hQ68
  have N72 := Fr.app N63 N70
  refine Go.via st68 ?_
  show Go p e below Qo T68 (mkF m 58 #[.val (.int i1), .val (.int i2), .val (.int i3), .val (.int i4), .val (.int (i1 &&& (7 : Int32))), .val (.ref b1), .val (.ref b5), .val (.ref b32), .val (.ref b40)] [(.int (own_at3 ((i1 &&& (7 : Int32)) - (i1 &&& (7 : Int32))) i2 i3 i4))])
  refine Go.of (fun t k => XS.iloadN X68.here hx rfl (hb hby at_58) rfl  k) ?_
  show Go p e below Qo T68 (mkF m 59 #[.val (.int i1), .val (.int i2), .val (.int i3), .val (.int i4), .val (.int (i1 &&& (7 : Int32))), .val (.ref b1), .val (.ref b5), .val (.ref b32), .val (.ref b40)] [(.int i2), (.int (own_at3 ((i1 &&& (7 : Int32)) - (i1 &&& (7 : Int32))) i2 i3 i4))])
  by_cases hc59_73 : (own_at3 ((i1 &&& (7 : Int32)) - (i1 &&& (7 : Int32))) i2 i3 i4) = i2
  · refine Go.of (fun t k => XS.icmpNo X68.here hx rfl (hb hby at_59) rfl (teq hc59_73).2 k) ?_
    show Go p e below Qo T68 (mkF m 62 #[.val (.int i1), .val (.int i2), .val (.int i3), .val (.int i4), .val (.int (i1 &&& (7 : Int32))), .val (.ref b1), .val (.ref b5), .val (.ref b32), .val (.ref b40)] [])
    refine Go.of (fun t k => XS.aload X68.here hx rfl (hb hby at_62) rfl rfl k) ?_
    show Go p e below Qo T68 (mkF m 64 #[.val (.int i1), .val (.int i2), .val (.int i3), .val (.int i4), .val (.int (i1 &&& (7 : Int32))), .val (.ref b1), .val (.ref b5), .val (.ref b32), .val (.ref b40)] [(.ref b40)])
    refine Go.of (fun t k => XS.iload X68.here hx rfl (hb hby at_64) rfl  k) ?_
    show Go p e below Qo T68 (mkF m 66 #[.val (.int i1), .val (.int i2), .val (.int i3), .val (.int i4), .val (.int (i1 &&& (7 : Int32))), .val (.ref b1), .val (.ref b5), .val (.ref b32), .val (.ref b40)] [(.int (i1 &&& (7 : Int32))), (.ref b40)])
    refine Go.of (fun t k => XS.iconst X68.here hx rfl (hb hby at_66) k) ?_
    show Go p e below Qo T68 (mkF m 67 #[.val (.int i1), .val (.int i2), .val (.int i3), .val (.int i4), .val (.int (i1 &&& (7 : Int32))), .val (.ref b1), .val (.ref b5), .val (.ref b32), .val (.ref b40)] [(.int (1 : Int32)), (.int (i1 &&& (7 : Int32))), (.ref b40)])
    refine Go.of (fun t k => XS.iadd X68.here hx rfl (hb hby at_67) rfl k) ?_
    show Go p e below Qo T68 (mkF m 68 #[.val (.int i1), .val (.int i2), .val (.int i3), .val (.int i4), .val (.int (i1 &&& (7 : Int32))), .val (.ref b1), .val (.ref b5), .val (.ref b32), .val (.ref b40)] [(.int ((i1 &&& (7 : Int32)) + (1 : Int32))), (.ref b40)])
    obtain ⟨ciq75, kiq75, iq75a, iq75b, iq75c⟩ := isOf hZ eh71 q57
    obtain ⟨_, _, ⟨T74, L74, k74, n74⟩, -, X74, ⟨Lc74, hQ74, l74, y74, z74⟩, st74⟩ := X68.virtualBack hx (y := (⟨"com/example/prompter/prompter/index/TermCounts", "records", "(I)I"⟩ : MethodName)) (z := (⟨"com/example/prompter/prompter/index/TermCounts", "records", "(I)I"⟩ : MethodName)) hown (mvT hZ (hw _ (List.mem_of_getElem? (i := 20) rfl))) (mvT hZ (hw _ (List.mem_of_getElem? (i := 21) rfl))) (notFace_of_selects (args := #[]) (mvT hZ (hw _ (List.mem_of_getElem? (i := 23) rfl)))) (mvT hZ (hw _ (List.mem_of_getElem? (i := 23) rfl))) (mvT hZ (hw _ (List.mem_of_getElem? (i := 22) rfl))) (by decide) (backOf (W := 0) (rm3 l Z a0 hw [] b40 ((i1 &&& (7 : Int32)) + (1 : Int32)) b5 (i1 &&& (7 : Int32)) k5 i2 i3 i4 T54.heap n0 Z67 q61 q58 q65 (by rw [own_s1]; decide)) hZ (hw _ (List.mem_of_getElem? (i := 24) rfl)) (hw _ (List.mem_of_getElem? (i := 3) rfl)) (by decide) (by decide)) iq75a iq75c (g := (mkF m 68 #[.val (.int i1), .val (.int i2), .val (.int i3), .val (.int i4), .val (.int (i1 &&& (7 : Int32))), .val (.ref b1), .val (.ref b5), .val (.ref b32), .val (.ref b40)] [(.int ((i1 &&& (7 : Int32)) + (1 : Int32))), (.ref b40)])) rfl (by rw [hml]; rfl) (Steps.refl _) (argsL := [(.int ((i1 &&& (7 : Int32)) + (1 : Int32)))]) (rest := []) (lenOf pd_1 rfl) rfl (by show 2 * 0 + _ ≤ _; exact Nat.le_of_eq rfl) (hb hby at_68) (fun _ _ => ⟨rfl, eh71, (by decide : 4 + 0 ≤ _), (by decide : 17 + 0 ≤ _)⟩)
    dsimp only [Pt.U, Pt.locs, Pt.cells, Pt.slots] at X74 l74 y74 z74 st74 hQ74
    subst l74 y74 z74
    obtain ⟨rfl, N76, eh77⟩ := hQ74
    have N78 := Fr.app N72 N76
    refine Go.via st74 ?_
    show Go p e below Qo T74 (mkF m 71 #[.val (.int i1), .val (.int i2), .val (.int i3), .val (.int i4), .val (.int (i1 &&& (7 : Int32))), .val (.ref b1), .val (.ref b5), .val (.ref b32), .val (.ref b40)] [(.int (own_at3 (((i1 &&& (7 : Int32)) + (1 : Int32)) - (i1 &&& (7 : Int32))) i2 i3 i4))])
    refine Go.of (fun t k => XS.iloadN X74.here hx rfl (hb hby at_71) rfl  k) ?_
    show Go p e below Qo T74 (mkF m 72 #[.val (.int i1), .val (.int i2), .val (.int i3), .val (.int i4), .val (.int (i1 &&& (7 : Int32))), .val (.ref b1), .val (.ref b5), .val (.ref b32), .val (.ref b40)] [(.int i3), (.int (own_at3 (((i1 &&& (7 : Int32)) + (1 : Int32)) - (i1 &&& (7 : Int32))) i2 i3 i4))])
    by_cases hc72_79 : (own_at3 (((i1 &&& (7 : Int32)) + (1 : Int32)) - (i1 &&& (7 : Int32))) i2 i3 i4) = i3
    · refine Go.of (fun t k => XS.icmpNo X74.here hx rfl (hb hby at_72) rfl (teq hc72_79).2 k) ?_
      show Go p e below Qo T74 (mkF m 75 #[.val (.int i1), .val (.int i2), .val (.int i3), .val (.int i4), .val (.int (i1 &&& (7 : Int32))), .val (.ref b1), .val (.ref b5), .val (.ref b32), .val (.ref b40)] [])
      refine Go.of (fun t k => XS.aload X74.here hx rfl (hb hby at_75) rfl rfl k) ?_
      show Go p e below Qo T74 (mkF m 77 #[.val (.int i1), .val (.int i2), .val (.int i3), .val (.int i4), .val (.int (i1 &&& (7 : Int32))), .val (.ref b1), .val (.ref b5), .val (.ref b32), .val (.ref b40)] [(.ref b40)])
      refine Go.of (fun t k => XS.iload X74.here hx rfl (hb hby at_77) rfl  k) ?_
      show Go p e below Qo T74 (mkF m 79 #[.val (.int i1), .val (.int i2), .val (.int i3), .val (.int i4), .val (.int (i1 &&& (7 : Int32))), .val (.ref b1), .val (.ref b5), .val (.ref b32), .val (.ref b40)] [(.int (i1 &&& (7 : Int32))), (.ref b40)])
      refine Go.of (fun t k => XS.iconst X74.here hx rfl (hb hby at_79) k) ?_
      show Go p e below Qo T74 (mkF m 80 #[.val (.int i1), .val (.int i2), .val (.int i3), .val (.int i4), .val (.int (i1 &&& (7 : Int32))), .val (.ref b1), .val (.ref b5), .val (.ref b32), .val (.ref b40)] [(.int (2 : Int32)), (.int (i1 &&& (7 : Int32))), (.ref b40)])
      refine Go.of (fun t k => XS.iadd X74.here hx rfl (hb hby at_80) rfl k) ?_
      show Go p e below Qo T74 (mkF m 81 #[.val (.int i1), .val (.int i2), .val (.int i3), .val (.int i4), .val (.int (i1 &&& (7 : Int32))), .val (.ref b1), .val (.ref b5), .val (.ref b32), .val (.ref b40)] [(.int ((i1 &&& (7 : Int32)) + (2 : Int32))), (.ref b40)])
      obtain ⟨ciq81, kiq81, iq81a, iq81b, iq81c⟩ := isOf hZ eh77 q57
      obtain ⟨_, _, ⟨T80, L80, k80, n80⟩, -, X80, ⟨Lc80, hQ80, l80, y80, z80⟩, st80⟩ := X74.virtualBack hx (y := (⟨"com/example/prompter/prompter/index/TermCounts", "records", "(I)I"⟩ : MethodName)) (z := (⟨"com/example/prompter/prompter/index/TermCounts", "records", "(I)I"⟩ : MethodName)) hown (mvT hZ (hw _ (List.mem_of_getElem? (i := 20) rfl))) (mvT hZ (hw _ (List.mem_of_getElem? (i := 21) rfl))) (notFace_of_selects (args := #[]) (mvT hZ (hw _ (List.mem_of_getElem? (i := 23) rfl)))) (mvT hZ (hw _ (List.mem_of_getElem? (i := 23) rfl))) (mvT hZ (hw _ (List.mem_of_getElem? (i := 22) rfl))) (by decide) (backOf (W := 0) (rm3 l Z a0 hw [] b40 ((i1 &&& (7 : Int32)) + (2 : Int32)) b5 (i1 &&& (7 : Int32)) k5 i2 i3 i4 T54.heap n0 Z67 q61 q58 q65 (by rw [own_s2]; decide)) hZ (hw _ (List.mem_of_getElem? (i := 24) rfl)) (hw _ (List.mem_of_getElem? (i := 3) rfl)) (by decide) (by decide)) iq81a iq81c (g := (mkF m 81 #[.val (.int i1), .val (.int i2), .val (.int i3), .val (.int i4), .val (.int (i1 &&& (7 : Int32))), .val (.ref b1), .val (.ref b5), .val (.ref b32), .val (.ref b40)] [(.int ((i1 &&& (7 : Int32)) + (2 : Int32))), (.ref b40)])) rfl (by rw [hml]; rfl) (Steps.refl _) (argsL := [(.int ((i1 &&& (7 : Int32)) + (2 : Int32)))]) (rest := []) (lenOf pd_1 rfl) rfl (by show 2 * 0 + _ ≤ _; exact Nat.le_of_eq rfl) (hb hby at_81) (fun _ _ => ⟨rfl, eh77, (by decide : 4 + 0 ≤ _), (by decide : 17 + 0 ≤ _)⟩)
      dsimp only [Pt.U, Pt.locs, Pt.cells, Pt.slots] at X80 l80 y80 z80 st80 hQ80
      subst l80 y80 z80
      obtain ⟨rfl, N82, eh83⟩ := hQ80
      have N84 := Fr.app N78 N82
      refine Go.via st80 ?_
      show Go p e below Qo T80 (mkF m 84 #[.val (.int i1), .val (.int i2), .val (.int i3), .val (.int i4), .val (.int (i1 &&& (7 : Int32))), .val (.ref b1), .val (.ref b5), .val (.ref b32), .val (.ref b40)] [(.int (own_at3 (((i1 &&& (7 : Int32)) + (2 : Int32)) - (i1 &&& (7 : Int32))) i2 i3 i4))])
      refine Go.of (fun t k => XS.iloadN X80.here hx rfl (hb hby at_84) rfl  k) ?_
      show Go p e below Qo T80 (mkF m 85 #[.val (.int i1), .val (.int i2), .val (.int i3), .val (.int i4), .val (.int (i1 &&& (7 : Int32))), .val (.ref b1), .val (.ref b5), .val (.ref b32), .val (.ref b40)] [(.int i4), (.int (own_at3 (((i1 &&& (7 : Int32)) + (2 : Int32)) - (i1 &&& (7 : Int32))) i2 i3 i4))])
      have J85_87 : ∀ (v85_86 : Int32), v85_86 = (if (own_at3 (((i1 &&& (7 : Int32)) + (2 : Int32)) - (i1 &&& (7 : Int32))) i2 i3 i4) = i4 then (1 : Int32) else (0 : Int32)) → Go p e below Qo T80 (mkF m 93 #[.val (.int i1), .val (.int i2), .val (.int i3), .val (.int i4), .val (.int (i1 &&& (7 : Int32))), .val (.ref b1), .val (.ref b5), .val (.ref b32), .val (.ref b40)] [(.int v85_86)]) := by
        intro v85_86 hv85_86
        show Go p e below Qo T80 (mkF m 93 #[.val (.int i1), .val (.int i2), .val (.int i3), .val (.int i4), .val (.int (i1 &&& (7 : Int32))), .val (.ref b1), .val (.ref b5), .val (.ref b32), .val (.ref b40)] [(.int v85_86)])
        have hfin : v85_86 = 1 := by
          exact hv85_86.trans (if_pos (by rw [own_s2]; rfl))
        exact own_retN X80 hx Bd.notSynchronized (t := .boolean) Bd.returns (by simp) (hb hby at_93) (fun u hu hF => hQo _ _ _ ⟨by rw [hfin]; rfl, N84⟩ (own_mono hF (by decide) (by decide)))
      by_cases hc85_88 : (own_at3 (((i1 &&& (7 : Int32)) + (2 : Int32)) - (i1 &&& (7 : Int32))) i2 i3 i4) = i4
      · refine Go.of (fun t k => XS.icmpNo X80.here hx rfl (hb hby at_85) rfl (teq hc85_88).2 k) ?_
        show Go p e below Qo T80 (mkF m 88 #[.val (.int i1), .val (.int i2), .val (.int i3), .val (.int i4), .val (.int (i1 &&& (7 : Int32))), .val (.ref b1), .val (.ref b5), .val (.ref b32), .val (.ref b40)] [])
        refine Go.of (fun t k => XS.iconst X80.here hx rfl (hb hby at_88) k) ?_
        show Go p e below Qo T80 (mkF m 89 #[.val (.int i1), .val (.int i2), .val (.int i3), .val (.int i4), .val (.int (i1 &&& (7 : Int32))), .val (.ref b1), .val (.ref b5), .val (.ref b32), .val (.ref b40)] [(.int (1 : Int32))])
        refine Go.of (fun t k => XS.goto X80.here hx rfl (pc0 := 89) (pc' := 93) rfl (hb hby at_89) (by decide) (by decide) k) ?_
        show Go p e below Qo T80 (mkF m 93 #[.val (.int i1), .val (.int i2), .val (.int i3), .val (.int i4), .val (.int (i1 &&& (7 : Int32))), .val (.ref b1), .val (.ref b5), .val (.ref b32), .val (.ref b40)] [(.int (1 : Int32))])
        exact J85_87 _ (by first | rfl | (rw [if_pos hc85_88]) | (simp only [hc85_88, if_true, if_false]; done) | simp [hc85_88])
      · refine Go.of (fun t k => XS.icmpYes X80.here hx rfl (pc0 := 85) (pc' := 92) rfl (hb hby at_85) rfl (feq hc85_88).2 (by decide) (by decide) k) ?_
        show Go p e below Qo T80 (mkF m 92 #[.val (.int i1), .val (.int i2), .val (.int i3), .val (.int i4), .val (.int (i1 &&& (7 : Int32))), .val (.ref b1), .val (.ref b5), .val (.ref b32), .val (.ref b40)] [])
        refine Go.of (fun t k => XS.iconst X80.here hx rfl (hb hby at_92) k) ?_
        show Go p e below Qo T80 (mkF m 93 #[.val (.int i1), .val (.int i2), .val (.int i3), .val (.int i4), .val (.int (i1 &&& (7 : Int32))), .val (.ref b1), .val (.ref b5), .val (.ref b32), .val (.ref b40)] [(.int (0 : Int32))])
        exact J85_87 _ (by first | rfl | (rw [if_neg hc85_88]) | (simp only [hc85_88, if_true, if_false]; done) | simp [hc85_88])
    · refine Go.of (fun t k => XS.icmpYes X74.here hx rfl (pc0 := 72) (pc' := 92) rfl (hb hby at_72) rfl (feq hc72_79).2 (by decide) (by decide) k) ?_
      show Go p e below Qo T74 (mkF m 92 #[.val (.int i1), .val (.int i2), .val (.int i3), .val (.int i4), .val (.int (i1 &&& (7 : Int32))), .val (.ref b1), .val (.ref b5), .val (.ref b32), .val (.ref b40)] [])
      refine Go.of (fun t k => XS.iconst X74.here hx rfl (hb hby at_92) k) ?_
      show Go p e below Qo T74 (mkF m 93 #[.val (.int i1), .val (.int i2), .val (.int i3), .val (.int i4), .val (.int (i1 &&& (7 : Int32))), .val (.ref b1), .val (.ref b5), .val (.ref b32), .val (.ref b40)] [(.int (0 : Int32))])
      exfalso
      exact hc72_79 (by rw [own_s1]; rfl)
  · refine Go.of (fun t k => XS.icmpYes X68.here hx rfl (pc0 := 59) (pc' := 92) rfl (hb hby at_59) rfl (feq hc59_73).2 (by decide) (by decide) k) ?_
    show Go p e below Qo T68 (mkF m 92 #[.val (.int i1), .val (.int i2), .val (.int i3), .val (.int i4), .val (.int (i1 &&& (7 : Int32))), .val (.ref b1), .val (.ref b5), .val (.ref b32), .val (.ref b40)] [])
    refine Go.of (fun t k => XS.iconst X68.here hx rfl (hb hby at_92) k) ?_
    show Go p e below Qo T68 (mkF m 93 #[.val (.int i1), .val (.int i2), .val (.int i3), .val (.int i4), .val (.int (i1 &&& (7 : Int32))), .val (.ref b1), .val (.ref b5), .val (.ref b32), .val (.ref b40)] [(.int (0 : Int32))])
    exfalso
    exact hc59_73 (by rw [own_s0]; rfl)
set_option maxRecDepth 65536 in
set_option maxHeartbeats 40000000 in
theorem comes_1 {Post : Tables → Env → Array Value → State → Outcome → State → Prop} (hpost : ∀ tb e args s v u, (limb_1_1.after args s (.returned v) u = true ∧ limb_1_2.after args s (.returned v) u = true ∧ True) → FrameEnd s (.returned v) u (Jvm.fieldLocs frame_1_writes args s ++ Jvm.arrayLocs frame_1_arrays args s ++ Jvm.staticLocs frame_1_statics s) 16 128 → Post tb e args s (.returned v) u) :
    ArmFor flags0 classFile x code maxLocals ret World_1 tables_1 room_1 Calls_1 rest_1 Pre_1 Post := by
  intro l hfl _ _ p e ha hc hk s m args below hf hA hF happ hP
  obtain ⟨hcalls, hrest, hpre⟩ := hP
  obtain ⟨-, -, -, hnamed, -, -, -, hat⟩ := (Spec.applies_iff hf).mp happ
  obtain ⟨hg, hn⟩ := and_e (Cond.before_iff.mp (show (Jvm.Cond.and given_1 narrow_1).before args s = true from hpre))
  obtain ⟨hg0, hgr0⟩ := and_e hg
  obtain ⟨ha0, hgr1⟩ := and_e hgr0
  obtain ⟨ha1, hgr2⟩ := and_e hgr1
  obtain ⟨ha2, hgr3⟩ := and_e hgr2
  obtain ⟨w0, w1, w2, w3, rfl⟩ : ∃ w0 w1 w2 w3 : Value, args = #[w0, w1, w2, w3] := by
    have hs : args.size = 4 := by simpa [Cond.value, given_1] using hg0
    obtain ⟨L⟩ := args
    match L, hs with
    | [w0, w1, w2, w3], _ => exact ⟨w0, w1, w2, w3, rfl⟩
  have hw := fun d (hd : d ∈ tables_1) => atoms_spec (ws := Jvm.Cond.code x code maxLocals ret :: tables_1) hat d (List.mem_cons_of_mem _ hd)
  have hfit : Fit s := fun {y c} hc i hi => by
    obtain ⟨ha, rfl⟩ := Array.getElem?_eq_some_iff.mp hc
    have q := List.all_eq_true.mp ((Array.all_eq_true_iff_forall_mem.mp hF) _ (Array.getElem_mem ha)) i (List.mem_range.mpr hi)
    simpa [Array.getElem?_eq_getElem hi] using q
  obtain ⟨i0, ei0⟩ := is_v ha0
  obtain rfl : w0 = (.int i0) := Option.some.inj ei0
  obtain ⟨i1, ei1⟩ := is_v ha1
  obtain rfl : w1 = (.int i1) := Option.some.inj ei1
  obtain ⟨i2, ei2⟩ := is_v ha2
  obtain rfl : w2 = (.int i2) := Option.some.inj ei2
  obtain ⟨i3, ei3⟩ := is_v hgr3
  obtain rfl : w3 = (.int i3) := Option.some.inj ei3
  obtain ⟨n, o, h1, h2, h3, _, L, rfl, ⟨rfl, N⟩, hq⟩ := rm0 l s _ hw tables_1 i0 i1 i2 i3  s.heap s.heap.size (Nat.le_refl _)  p e ha hc hk s m _ below hf ((Spec.applies_iff_loose hf).mp happ).1 ⟨rfl, State.Warmed39.refl s, rfl⟩ trivial
  refine ⟨n, _, h1, h2, h3, hpost _ _ _ _ _ _ ⟨Cond.after_iff.mpr rfl, Cond.after_iff.mpr (eq_i res_at (Term.int_eval (1)) rfl), trivial⟩ ⟨hq.1, hq.2.1, (hq.2.2.sift fun y hy => Or.inr (N y hy)).mono (by decide) (by decide)⟩⟩
theorem main_1_1 : Claimed_1_1 := comes_1 fun _ _ _ _ _ _ h hF => ⟨h.1, hF⟩
theorem main_1_2 : Claimed_1_2 := comes_1 fun _ _ _ _ _ _ h hF => ⟨h.2.1, hF⟩
end Jvm.Pilot.@@N@@
namespace Jvm.Pilot.@@N@@
open Jvm Jvm.ClassFile Sem Op Lib Jvm.Free Jvm.Stand Jvm.Pilot.@@N@@.Jvm.D
/-! MADE BY PROGRAM (witnessworld.py) out of the Statement's table words and the real class files: 9 classes; the members and pool entries that the words name. The judged class is class 1, her method 1. -/
namespace start1
open Jvm.ClassFile
def u (s : String) : CpInfo := .utf8 (stringToUtf16 s)
/-- a pool by its gaps: so many unusable entries, then the entry; so many at the end -/
def gap : Nat → List CpInfo → List CpInfo
  | 0, r => r
  | n + 1, r => .unusable :: gap n r
def poolList (es : List (Nat × CpInfo)) (last : Nat) : List CpInfo := es.foldr (fun e r => gap e.1 (e.2 :: r)) (gap last [])
def pool (es : List (Nat × CpInfo)) (last : Nat) : Array CpInfo := ⟨poolList es last⟩
def fileOf (pool : Array CpInfo) (this : Nat) (attrs : Array Attribute := #[]) (ms : Array MethodInfo := #[]) (fl : Nat := 33) (sup : Nat := 0) (ifs : Array Nat := #[]) (fds : Array FieldInfo := #[]) : ClassFile where
  minorVersion := 0
  majorVersion := 65
  constantPool := pool
  accessFlags := fl
  thisClass := this
  superClass := sup
  interfaces := ifs
  fields := fds
  methods := ms
  attributes := attrs
def plain (name : String) (sup : Option ClassId) : Class where
  name := name
  kind := .ordinary
  loader := none
  accessFlags := 33
  super := sup
  interfaces := #[]
  cf := none
  fields := #[]
  methods := #[]
  instanceTypes := #[]
  staticTypes := #[]
  resolved := #[]
  callSites := []
  init := .initialized
  statics := none
  mirror := none

def pool0 : Array CpInfo := pool [(5, u "<init>"), (0, u "()V"), (1, .class_ 10), (1, u "java/lang/Object")] 113

def k0c0 : Code := { maxStack := 0, maxLocals := 1, code := object_method_1_code, exceptionTable := #[], attributes := #[] }
def k0m0 : Method := { name := "<init>", desc := "()V", sig := { parameters := [], returnType := none }, accessFlags := 1, code := some k0c0 }
/-- java/lang/Object -/
def k0 : Class := { plain "java/lang/Object" none with
  accessFlags := 33
  interfaces := #[]
  cf := some (fileOf pool0 8 #[] #[{ accessFlags := 1, nameIndex := 5, descriptorIndex := 6, attributes := #[] }] 33 0 #[] #[])
  fields := #[]
  methods := #[k0m0]
  instanceTypes := #[]
  staticTypes := #[]
  resolved := Array.replicate 124 none
  statics := none }

def pool1 : Array CpInfo := pool [(2, .class_ 4), (1, u "java/lang/Object"), (0, u "<init>"), (0, u "()V"), (0, .class_ 8), (0, u "com/example/prompter/prompter/index/TermCounts"), (0, .methodref 7 10), (0, .nameAndType 5 11), (0, u "(I[I[I[I)V"), (0, .methodref 7 13), (0, .nameAndType 14 15), (0, u "records"), (0, u "(I)I"), (0, .class_ 17), (0, u "com/example/prompter/prompter/index/TermCountsRecordsPinLaw"), (2, u "law"), (0, u "(IIII)Z")] 5

def k1m0 : Method := { name := "<init>", desc := "()V", sig := { parameters := [], returnType := none }, accessFlags := 1, code := none }
def k1c1 : Code := { maxStack := 6, maxLocals := 9, code := code, exceptionTable := #[], attributes := #[] }
def k1m1 : Method := { name := "law", desc := "(IIII)Z", sig := { parameters := [.int, .int, .int, .int], returnType := some .boolean }, accessFlags := 9, code := some k1c1 }
/-- com/example/prompter/prompter/index/TermCountsRecordsPinLaw -/
def k1 : Class := { plain "com/example/prompter/prompter/index/TermCountsRecordsPinLaw" (some 0) with
  accessFlags := 49
  interfaces := #[]
  cf := some (fileOf pool1 16 #[] #[{ accessFlags := 1, nameIndex := 5, descriptorIndex := 6, attributes := #[] }, { accessFlags := 9, nameIndex := 20, descriptorIndex := 21, attributes := #[] }] 49 2 #[] #[])
  fields := #[]
  methods := #[k1m0, k1m1]
  instanceTypes := #[]
  staticTypes := #[]
  resolved := Array.replicate 27 none
  statics := none }

def pool2 : Array CpInfo := pool [(1, .methodref 2 3), (0, .class_ 4), (0, .nameAndType 5 6), (0, u "java/lang/Object"), (0, u "<init>"), (0, u "()V"), (0, .fieldref 8 9), (0, .class_ 10), (0, .nameAndType 11 12), (0, u "com/example/prompter/prompter/index/TermCounts"), (0, u "first"), (0, u "I"), (0, .fieldref 8 14), (0, .nameAndType 15 12), (0, u "firstSlot"), (0, .fieldref 8 17), (0, .nameAndType 18 19), (0, u "termSlots"), (0, u "[I"), (0, .fieldref 8 21), (0, .nameAndType 22 19), (0, u "records"), (0, .fieldref 8 24), (0, .nameAndType 25 19), (0, u "slotRecords"), (9, u "(I[I[I[I)V"), (2, u "(I)I")] 20

def k2c0 : Code := { maxStack := 3, maxLocals := 5, code := prog_15_method_1_code, exceptionTable := #[], attributes := #[] }
def k2m0 : Method := { name := "<init>", desc := "(I[I[I[I)V", sig := { parameters := [.int, (.array .int), (.array .int), (.array .int)], returnType := none }, accessFlags := 0, code := some k2c0 }
def k2c1 : Code := { maxStack := 3, maxLocals := 2, code := prog_15_method_2_code, exceptionTable := #[], attributes := #[] }
def k2m1 : Method := { name := "records", desc := "(I)I", sig := { parameters := [.int], returnType := some .int }, accessFlags := 1, code := some k2c1 }
/-- com/example/prompter/prompter/index/TermCounts -/
def k2 : Class := { plain "com/example/prompter/prompter/index/TermCounts" (some 0) with
  accessFlags := 33
  interfaces := #[]
  cf := some (fileOf pool2 8 #[] #[{ accessFlags := 0, nameIndex := 5, descriptorIndex := 35, attributes := #[] }, { accessFlags := 1, nameIndex := 22, descriptorIndex := 38, attributes := #[] }] 33 2 #[] #[{ accessFlags := 18, nameIndex := 11, descriptorIndex := 12, attributes := #[] }, { accessFlags := 18, nameIndex := 15, descriptorIndex := 12, attributes := #[] }, { accessFlags := 18, nameIndex := 18, descriptorIndex := 19, attributes := #[] }, { accessFlags := 18, nameIndex := 22, descriptorIndex := 19, attributes := #[] }, { accessFlags := 18, nameIndex := 25, descriptorIndex := 19, attributes := #[] }])
  fields := #[{ name := "first", type := .int, accessFlags := 18, slot := 0, constantValue := 0 }, { name := "firstSlot", type := .int, accessFlags := 18, slot := 1, constantValue := 0 }, { name := "termSlots", type := (.array .int), accessFlags := 18, slot := 2, constantValue := 0 }, { name := "records", type := (.array .int), accessFlags := 18, slot := 3, constantValue := 0 }, { name := "slotRecords", type := (.array .int), accessFlags := 18, slot := 4, constantValue := 0 }]
  methods := #[k2m0, k2m1]
  instanceTypes := #[.int, .int, (.array .int), (.array .int), (.array .int)]
  staticTypes := #[]
  resolved := Array.replicate 59 none
  statics := none }

def pool3 : Array CpInfo := pool [(1, u "java/lang/Cloneable"), (0, .class_ 1), (0, u "java/lang/Object"), (0, .class_ 3)] 3

/-- java/lang/Cloneable -/
def k3 : Class := { plain "java/lang/Cloneable" (some 0) with
  accessFlags := 1537
  interfaces := #[]
  cf := some (fileOf pool3 2 #[] #[] 1537 4 #[] #[])
  fields := #[]
  methods := #[]
  instanceTypes := #[]
  staticTypes := #[]
  resolved := Array.replicate 8 none
  statics := none }

def pool4 : Array CpInfo := pool [(1, u "java/io/Serializable"), (0, .class_ 1), (0, u "java/lang/Object"), (0, .class_ 3)] 3

/-- java/io/Serializable -/
def k4 : Class := { plain "java/io/Serializable" (some 0) with
  accessFlags := 1537
  interfaces := #[]
  cf := some (fileOf pool4 2 #[] #[] 1537 4 #[] #[])
  fields := #[]
  methods := #[]
  instanceTypes := #[]
  staticTypes := #[]
  resolved := Array.replicate 8 none
  statics := none }

/-- the primitive byte -/
def k5 : Class := { plain "byte" none with kind := .primitive 'B', accessFlags := 0x411 }
/-- [B -/
def k6 : Class := { plain "[B" (some 0) with kind := .array 5 .byte, interfaces := #[3, 4], accessFlags := 1041 }

/-- the primitive int -/
def k7 : Class := { plain "int" none with kind := .primitive 'I', accessFlags := 0x411 }
/-- [I -/
def k8 : Class := { plain "[I" (some 0) with kind := .array 7 .int, interfaces := #[3, 4], accessFlags := 1041 }

def heap : Heap := #[]
def classes : Array Class := #[k0, k1, k2, k3, k4, k5, k6, k7, k8]
def interned : List (Array UInt16 × Addr) := []
def slotsUsed : Nat := 0
def theMethod : MethodId := ⟨1, 1⟩
def args0 : Array Value := #[.int 5, .int 7, .int 1, .int 2]
def aboutOver (below : List Frame) : State where
  vm := { classes := classes, interned := interned.toArray }
  heap := heap
  slotsUsed := slotsUsed
  threads := #[{ frames := .invoking theMethod args0 :: below }]
def below0 : List Frame := [.native { method := ⟨0, 0⟩, args := #[] }]
def about1 : State := aboutOver below0
def p0 : Program := .bare "" "" ""
def e0 : Env := launch0.env 0 0 0
theorem w_frames : about1.frames = Frame.invoking theMethod args0 :: below0 := rfl
set_option maxRecDepth 65536 in
theorem w_args : argsFit about1.vm theMethod args0 = true := by decide +kernel
set_option maxRecDepth 65536 in
theorem w_heap : heapFits about1 = true := by decide +kernel
set_option maxRecDepth 65536 in
theorem w_runnable : about1.curStatus? = some .runnable := by decide +kernel
set_option maxRecDepth 65536 in
theorem w_alone : about1.alone = true := by decide +kernel
set_option maxRecDepth 65536 in
theorem w_named : about1.methodNamed? x = some theMethod := by decide +kernel
set_option maxRecDepth 65536 in
theorem w_hears : about1.hears theMethod below0 = true := by decide +kernel
set_option maxRecDepth 65536 in
theorem w_ripe : about1.ripe theMethod args0 below0 = true := by decide +kernel
theorem w_running : about1.status = .running := rfl
set_option maxRecDepth 65536 in
theorem w_room : about1.hasRoom e0.platform room_1 = true :=
  launch0.hasRoom_least _ room_1 (by decide +kernel) (by decide +kernel) (by decide +kernel) (by decide +kernel) (by decide +kernel) (by decide +kernel)
theorem allAtoms_all (ts : List Jvm.Cond) (a : Array Jvm.Value) (st : Jvm.State) : (allAtoms ts).before a st = ts.all (fun c => c.before a st) := by
  induction ts with
  | nil => rfl
  | cons c t ih =>
    show (Jvm.Cond.and c (allAtoms t)).before a st = _
    rw [Jvm.Cond.before_and, ih, List.all_cons]
def words1 : List Jvm.Cond := Jvm.Cond.code x code maxLocals ret :: tables_1
/-- a 'code' word, met by the world's own term for the bytes: nothing is compared byte by byte -/
theorem code_word {y : MethodName} {bytes : ByteArray} {mx : Nat} {rt : Option FieldType} {a : Array Value} {s : State} {m : MethodId} {meth : Method} {c : Code} (h1 : s.methodNamed? y = some m) (h2 : s.vm.method? m = some meth) (h3 : meth.code = some c) (h4 : c.code = bytes)
    (h5 : (c.maxLocals == mx && c.exceptionTable.isEmpty && decide (c.maxStack ≤ mostOperands) && decide (meth.sig.returnType = rt) && !meth.locks && decide (parseMethodDescriptor y.desc = some meth.sig)) = true) : (Jvm.Cond.code y bytes mx rt).before a s = true := by
  simp only [Bool.and_eq_true, beq_iff_eq, Bool.not_eq_true', decide_eq_true_eq] at h5
  obtain ⟨⟨⟨⟨⟨g1, g2⟩, g3⟩, g4⟩, g5⟩, g6⟩ := h5
  simp [Cond.before, Cond.holds, Cond.value, h1, h2, h3, h4, g1, g2, g3, g4, g5, g6]
def isCode : Jvm.Cond → Bool
  | .code _ _ _ _ => true
  | _ => false
theorem all_split {L : List Jvm.Cond} {P : Jvm.Cond → Bool} (h1 : L.all (fun c => isCode c || P c) = true) (h2 : ∀ c ∈ L.filter isCode, P c = true) : L.all P = true := by
  refine List.all_eq_true.mpr fun c hc => ?_
  have h := List.all_eq_true.mp h1 c hc
  rcases Bool.eq_false_or_eq_true (isCode c) with hi | hi
  · exact h2 c (List.mem_filter.mpr ⟨hc, hi⟩)
  · simpa [hi] using h
set_option maxRecDepth 65536 in
theorem w_c0 : (Jvm.Cond.code x code maxLocals ret).before args0 about1 = true := code_word (m := ⟨1, 1⟩) (meth := k1m1) (c := k1c1) (by decide +kernel) rfl rfl rfl (by decide +kernel)
set_option maxRecDepth 65536 in
theorem w_c1 : (Jvm.Cond.code ({ cls := "com/example/prompter/prompter/index/TermCounts", name := "<init>", desc := "(I[I[I[I)V" } : Jvm.MethodName) prog_15_method_1_code (5 : Nat) (Option.none : Option Jvm.ClassFile.FieldType)).before args0 about1 = true := code_word (m := ⟨2, 0⟩) (meth := k2m0) (c := k2c0) (by decide +kernel) rfl rfl rfl (by decide +kernel)
set_option maxRecDepth 65536 in
theorem w_c2 : (Jvm.Cond.code ({ cls := "java/lang/Object", name := "<init>", desc := "()V" } : Jvm.MethodName) object_method_1_code (1 : Nat) (Option.none : Option Jvm.ClassFile.FieldType)).before args0 about1 = true := code_word (m := ⟨0, 0⟩) (meth := k0m0) (c := k0c0) (by decide +kernel) rfl rfl rfl (by decide +kernel)
set_option maxRecDepth 65536 in
theorem w_c3 : (Jvm.Cond.code ({ cls := "com/example/prompter/prompter/index/TermCounts", name := "records", desc := "(I)I" } : Jvm.MethodName) prog_15_method_2_code (2 : Nat) (Option.some Jvm.ClassFile.FieldType.int)).before args0 about1 = true := code_word (m := ⟨2, 1⟩) (meth := k2m1) (c := k2c1) (by decide +kernel) rfl rfl rfl (by decide +kernel)
def codes1 : List Jvm.Cond := [Jvm.Cond.code x code maxLocals ret, Jvm.Cond.code ({ cls := "com/example/prompter/prompter/index/TermCounts", name := "<init>", desc := "(I[I[I[I)V" } : Jvm.MethodName) prog_15_method_1_code (5 : Nat) (Option.none : Option Jvm.ClassFile.FieldType), Jvm.Cond.code ({ cls := "java/lang/Object", name := "<init>", desc := "()V" } : Jvm.MethodName) object_method_1_code (1 : Nat) (Option.none : Option Jvm.ClassFile.FieldType), Jvm.Cond.code ({ cls := "com/example/prompter/prompter/index/TermCounts", name := "records", desc := "(I)I" } : Jvm.MethodName) prog_15_method_2_code (2 : Nat) (Option.some Jvm.ClassFile.FieldType.int)]
set_option maxRecDepth 65536 in
theorem codes_eq : words1.filter isCode = codes1 := rfl
theorem w_codes : ∀ c ∈ words1.filter isCode, c.before args0 about1 = true := by
  rw [codes_eq]
  intro c hc
  simp only [codes1, List.mem_cons, List.not_mem_nil, or_false] at hc
  rcases hc with rfl | rfl | rfl | rfl
  · exact w_c0
  · exact w_c1
  · exact w_c2
  · exact w_c3
set_option maxRecDepth 65536 in
theorem w_t1 : (words1.take 24).all (fun c => isCode c || c.before args0 about1) = true := by decide +kernel
set_option maxRecDepth 65536 in
theorem w_t2 : (words1.drop 24).all (fun c => isCode c || c.before args0 about1) = true := by decide +kernel
theorem w_tables : (allAtoms (Jvm.Cond.code x code maxLocals ret :: tables_1)).before args0 about1 = true := by
  rw [allAtoms_all]
  show words1.all (fun c => c.before args0 about1) = true
  refine all_split ?_ w_codes
  rw [← List.take_append_drop 24 words1, List.all_append, w_t1, w_t2]
  rfl
set_option maxRecDepth 65536 in
theorem w_case : (Jvm.Cond.and given_1 narrow_1).before args0 about1 = true := by decide +kernel
theorem w_applies : (headSpec (Jvm.Cond.code x code maxLocals ret :: tables_1) room_1).applies x e0.platform about1 = true :=
  (Spec.applies_iff w_frames).mpr ⟨w_running, w_runnable, w_alone, w_named, w_hears, w_ripe, w_room, w_tables⟩
theorem atStart : AtStart classFile x code maxLocals ret World_1 tables_1 room_1 Calls_1 rest_1 Pre_1 launch0 p0 e0 about1 theMethod args0 below0 :=
  ⟨lists_1, trivial, launch0.admits_env _ _ _, launch0.least_env, fairChoices_fair.cas, fairChoices_fair.clock, w_frames, w_args, w_heap, w_applies, trivial, trivial, w_case⟩
end start1
theorem witness_1 : WitnessClaimed_1 := ⟨start1.p0, start1.e0, start1.about1, start1.theMethod, start1.args0, start1.below0, start1.atStart⟩
end Jvm.Pilot.@@N@@
