import JvmDerived
import JvmDerived.Pilot.@@N@@Statement
import JvmDerived.Pilot.@@N@@Code
set_option linter.unusedVariables false
set_option linter.unusedSimpArgs false
namespace Jvm.Pilot.@@N@@
open Jvm Jvm.ClassFile Sem Op Lib Jvm.Free Jvm.Stand Jvm.LawKit Jvm.RoadKit Bundle Jvm.Pilot.@@N@@.Jvm.D
/-! the run comes to an end that answers Q -/
def Go (p : Program) (e : Env) (below : List Frame) (Q : Outcome → State → Prop) (T : State) (g : JFrame) : Prop :=
  ∃ s₂ o, Steps p.tables e below (T.setTop g) s₂ ∧ s₂.status = .running ∧ Ended s₂ below o ∧ Q o s₂
section Own
variable {p : Program} {l : Launch} {e : Env} {R : Room} {s : State} {m : MethodId} {args : Array Value} {below : List Frame} {meth : Method} {c : Code} {T T' : State} {locs : List Loc} {cells slots : Nat} {Q : Outcome → State → Prop} {g g' : JFrame}
theorem Go.of (k : ∀ t, Steps p.tables e below (T'.setTop g') t → Steps p.tables e below (T.setTop g) t) (h : Go p e below Q T' g') : Go p e below Q T g := by
  obtain ⟨u, o, h1, h2⟩ := h
  exact ⟨u, o, k _ h1, h2⟩
theorem Go.via (k : Steps p.tables e below (T.setTop g) (T'.setTop g')) (h : Go p e below Q T' g') : Go p e below Q T g := by
  obtain ⟨u, o, h1, h2⟩ := h
  exact ⟨u, o, k.trans h1, h2⟩
theorem Go.cast (q : g = g') (h : Go p e below Q T g') : Go p e below Q T g := q ▸ h
theorem own_out (X : Stand p l e R s m args below meth c T locs cells slots) {v : Option Value} (hv : meth.sig.returnType = none → v = none) (hlocks : meth.locks = false)
    (k : ∀ fs : List Frame, (∀ (f : JFrame) (acts : List Action), f.method = m → f.locked = none → f.entered = [] → (doReturn e (T.setTop f) acts v).1 = T.setFrames fs) → Steps p.tables e below (T.setTop g) (T.setFrames fs))
    (hQ : ∀ u : State, u.heap = T.heap → FrameEnd s (.returned v) u locs cells slots → Q (.returned v) u) : Go p e below Q T g := by
  obtain ⟨fs, hr, hrun, hended, hW, hsame⟩ := X.leave hv hlocks
  exact ⟨_, _, k fs hr, hrun, hended, hQ _ rfl ⟨⟨_, rfl⟩, hW, hsame⟩⟩
theorem own_retN (X : Stand p l e R s m args below meth c T locs cells slots) (hx : p.tables.exec = Jvm.exec) (hlocks : meth.locks = false) {pc : Nat} {Ls : Array Slot} {z : Int32} {t : FieldType} {rest : List Value} (hret : meth.sig.returnType = some t) (ht : t = .boolean ∨ t = .byte ∨ t = .char ∨ t = .short)
    (hd : decode c.code pc = .ok (.ireturn, 1)) (hQ : ∀ u : State, u.heap = T.heap → FrameEnd s (.returned (some (.int (nar t z)))) u locs cells slots → Q (.returned (some (.int (nar t z)))) u) : Go p e below Q T (mkF m pc Ls (.int z :: rest)) :=
  own_out X (fun h => by rw [hret] at h; cases h) hlocks (fun fs hr => retN X hx hret ht hd hr) hQ
theorem own_retW (X : Stand p l e R s m args below meth c T locs cells slots) (hx : p.tables.exec = Jvm.exec) (hlocks : meth.locks = false) {pc : Nat} {Ls : Array Slot} {w : Value} {t : FieldType} {i : Instr} {rest : List Value} (hret : meth.sig.returnType = some t) (hn : narrow t w = w)
    (hi : (i = .ireturn ∧ (t = .int ∨ t = .boolean ∨ t = .byte ∨ t = .char ∨ t = .short) ∧ ∃ z, w = .int z) ∨ (i = .lreturn ∧ t = .long ∧ ∃ z, w = .long z) ∨ (i = .dreturn ∧ t = .double ∧ ∃ z, w = .double z) ∨ (i = .freturn ∧ t = .float ∧ ∃ z, w = .float z) ∨ (i = .areturn ∧ t.isReference = true ∧ w.isRef = true))
    (hd : decode c.code pc = .ok (i, 1)) (hQ : ∀ u : State, u.heap = T.heap → FrameEnd s (.returned (some w)) u locs cells slots → Q (.returned (some w)) u) : Go p e below Q T (mkF m pc Ls (w :: rest)) :=
  own_out X (fun h => by rw [hret] at h; cases h) hlocks (fun fs hr => retOut X hx hret hn hi hd hr) hQ
theorem own_ret0 (X : Stand p l e R s m args below meth c T locs cells slots) (hx : p.tables.exec = Jvm.exec) (hlocks : meth.locks = false) {pc : Nat} {Ls : Array Slot} (hret : meth.sig.returnType = none)
    (hd : decode c.code pc = .ok (.return_, 1)) (hQ : ∀ u : State, u.heap = T.heap → FrameEnd s (.returned none) u locs cells slots → Q (.returned none) u) : Go p e below Q T (mkF m pc Ls []) :=
  own_out X (fun _ => rfl) hlocks (fun fs hr => X.returnOut hx hret hd hr) hQ
theorem own_mono {o : Outcome} {u : State} {k n k' n' : Nat} (h : FrameEnd s o u locs k n) (hk : k ≤ k') (hn : n ≤ n') : FrameEnd s o u locs k' n' := ⟨h.1, h.2.1, h.2.2.mono hk hn⟩
end Own
theorem own_eqI {args : Array Value} {s : State} {t : Term} {k : Int32} (h : (Cond.eq t (.int k)).value args s none s [] = some true) : t.eval args s none [] s = some (.int k) := by
  simp only [Cond.value, Term.eval] at h
  cases ht : t.eval args s none [] s with
  | none => simp [ht] at h
  | some x => cases x <;> simp [ht] at h ⊢; exact h
theorem own_staKeep {Z : State} {h h' : Heap} {C n d : String} {v : Value} {ws : List Addr} (F : Sta Z h C n d v) (K : Keep h h' ws) (q : ∀ x ∈ ws, ∀ cell : Cell, h[x]? = some cell → cell.vm.isStatics = false) : Sta Z h' C n d v := by
  obtain ⟨cf, i, k, f, st, cell, h1, h2, h3, h4, h5, h6, h7⟩ := F
  have hn : st ∉ ws := fun y => by have := q st y cell h5; rw [this] at h6; cases h6
  exact ⟨cf, i, k, f, st, cell, h1, h2, h3, h4, K.2.1 st cell h5 hn, h6, h7⟩
theorem own_plainE {Z : State} {h : Heap} {a : Addr} {C : String} (F : Exa Z h a C) : ∀ cell : Cell, h[a]? = some cell → cell.vm.isStatics = false := fun cell hc => by
  obtain ⟨c, _, h1, -, -, h4, -⟩ := F
  cases h1.symm.trans hc; exact h4
theorem own_plainV {Z : State} {h : Heap} {a : Addr} {k : ClassId} {ty : FieldType} {n : Int32} {vs : List Value} {d : Value} (F : Arv Z h a k ty n vs d) : ∀ cell : Cell, h[a]? = some cell → cell.vm.isStatics = false := fun cell hc => by
  obtain ⟨c, A, -⟩ := F
  cases A.1.symm.trans hc; exact A.plain
theorem own_narR {t : FieldType} {w : Value} (h : w.isRef = true) : narrow t w = w := by rcases ref_cases h with rfl | ⟨_, rfl⟩ <;> cases t <;> rfl
theorem own_fitR {C : String} {w : Value} (h : w.isRef = true) : fits (.object C) w = true := by rcases ref_cases h with rfl | ⟨_, rfl⟩ <;> rfl
theorem own_getR {L : List Value} {d : Value} (h : ∀ v ∈ L, v.isRef = true) (hd : d.isRef = true) (j : Nat) : (L.getD j d).isRef = true := by
  rw [List.getD_eq_getElem?_getD]
  cases q : L[j]? with
  | none => exact hd
  | some v => exact h v (List.mem_of_getElem? q)
theorem d2_0 : decode prog_59_method_1_code 0 = .ok (.aload_n 0, 1) := by decide +kernel
theorem d2_1 : decode prog_59_method_1_code 1 = .ok (.invokespecial 1, 3) := by decide +kernel
theorem d2_4 : decode prog_59_method_1_code 4 = .ok (.return_, 1) := by decide +kernel
theorem pn_0 : plainName "com/example/interleave/interleave/schedule/Instruction" = true := by first | (simp [plainName, overriddenIn]; done) | decide +kernel
theorem ef_2 (m : MethodId) (r1 : Addr)  : entryFrame m #[(.ref r1)] 1 = mkF m 0 #[.val (.ref r1)] [] := by
  first | (simp [entryFrame, mkF, argsToLocals, Value.category]; done) | rfl
def Q2 (Z : State) (r1 : Addr) (h0 : Heap) (n0 : Nat) (v : Option Value) (h : Heap) (L : List Loc) : Prop := v = none ∧ Fr n0 L ∧ h = h0
set_option maxRecDepth 65536 in
set_option maxHeartbeats 40000000 in
theorem rm2 (l : Launch) (Z : State) (a0 : Array Value) (hw : ∀ d ∈ tables_1, d.before a0 Z = true) (ws : List Jvm.Cond) (r1 : Addr) (h0 : Heap) (n0 : Nat) (Z0 : n0 ≤ h0.size)  :
    MetFree l (⟨"com/example/interleave/interleave/schedule/Instruction", "<init>", "()V"⟩ : MethodName) (head1 (Jvm.Cond.code (⟨"com/example/interleave/interleave/schedule/Instruction", "<init>", "()V"⟩ : MethodName) prog_59_method_1_code 1 none :: ws) ({ frames := 1, cells := 0, slots := 0, locals := 12 } : Room)) (fun a U => a = #[(.ref r1)] ∧ Z.Warmed39 U.vm ∧ U.heap = h0) (fun _ _ _ _ _ => True) (fun _ U o U' => ∃ v L, o = .returned v ∧ Q2 Z r1 h0 n0 v U'.heap L ∧ FrameEnd U o U' L ({ frames := 1, cells := 0, slots := 0, locals := 12 } : Room).cells ({ frames := 1, cells := 0, slots := 0, locals := 12 } : Room).slots) := by
  refine MetFree.of_bodySF (plainFor_of_name pn_0) hisR ?_
  intro p e s m args below meth c s₁ Bd hml0 hP hK
  obtain ⟨rfl, hZ, hh⟩ := hP
  have hx := Bd.exec
  have hby := Bd.bytes
  have hml : c.maxLocals = 1 := hml0
  have hown : s.vm.findClass "com/example/interleave/interleave/schedule/Instruction" = some m.cls := findClass_of_methodNamed Bd.named
  have hnm := (name_of_methodNamed Bd.named Bd.method).1
  have X0 : Stand p l e ({ frames := 1, cells := 0, slots := 0, locals := 12 } : Room) s m #[(.ref r1)] below meth c s₁ [] 0 0 := Stand.of_body Bd
  have e0 : s₁.heap = h0 := by rw [← hh, Bd.state]; rfl
  have N0 := Fr.nil n0
  suffices H : ∀ Qo : Outcome → State → Prop, (∀ (v : Option Value) (u : State) (L : List Loc), Q2 Z r1 h0 n0 v u.heap L → FrameEnd s (.returned v) u L ({ frames := 1, cells := 0, slots := 0, locals := 12 } : Room).cells ({ frames := 1, cells := 0, slots := 0, locals := 12 } : Room).slots → Qo (.returned v) u) → Go p e below Qo s₁ (mkF m 0 #[.val (.ref r1)] []) from
    Go.cast (ef_2 m r1) (H _ fun v u L h1 h2 => ⟨v, L, rfl, h1, h2⟩)
  intro Qo hQo
  show Go p e below Qo s₁ (mkF m 0 #[.val (.ref r1)] [])
  refine Go.of (fun t k => XS.aloadN X0.here hx rfl (hb hby d2_0) rfl rfl k) ?_
  show Go p e below Qo s₁ (mkF m 1 #[.val (.ref r1)] [(.ref r1)])
  obtain ⟨T1, X1, e1, st1⟩ := initO X0 hx hZ hown (hw _ (List.mem_of_getElem? (i := 26) rfl)) (hw _ (List.mem_of_getElem? (i := 27) rfl)) (hw _ (List.mem_of_getElem? (i := 28) rfl)) e0 (g := (mkF m 1 #[.val (.ref r1)] [(.ref r1)])) rfl (by rw [hml]; rfl) rfl (hb hby d2_1) (by decide) (W := 0) (by show 2 * 0 + _ ≤ _; exact Nat.le_of_eq rfl) (by decide)
  refine Go.of st1 ?_
  show Go p e below Qo T1 (mkF m 4 #[.val (.ref r1)] [])
  exact own_ret0 X1 hx Bd.notSynchronized Bd.returns (hb hby d2_4) (fun u hu hF => hQo _ _ _ ⟨rfl, N0, by rw [hu, e1]⟩ (own_mono hF (by decide) (by decide)))
theorem pd_0 : parseMethodDescriptor "()V" = some ⟨[], none⟩ := by decide +kernel
theorem d1_0 : decode prog_62_method_1_code 0 = .ok (.aload_n 0, 1) := by decide +kernel
theorem d1_1 : decode prog_62_method_1_code 1 = .ok (.invokespecial 1, 3) := by decide +kernel
theorem d1_4 : decode prog_62_method_1_code 4 = .ok (.aload_n 0, 1) := by decide +kernel
theorem d1_5 : decode prog_62_method_1_code 5 = .ok (.aload_n 1, 1) := by decide +kernel
theorem d1_6 : decode prog_62_method_1_code 6 = .ok (.putfield 7, 3) := by decide +kernel
theorem d1_9 : decode prog_62_method_1_code 9 = .ok (.return_, 1) := by decide +kernel
theorem pn_1 : plainName "com/example/interleave/interleave/schedule/Instruction$Begin" = true := by first | (simp [plainName, overriddenIn]; done) | decide +kernel
theorem ef_1 (m : MethodId) (r1 : Addr) (x1 : Value) (ir_x1 : x1.isRef = true) : entryFrame m #[(.ref r1), x1] 2 = mkF m 0 #[.val (.ref r1), .val x1] [] := by
  rcases ref_cases ir_x1 with rfl | ⟨_, rfl⟩ <;> first | (simp [entryFrame, mkF, argsToLocals, Value.category]; done) | rfl
def Q1 (Z : State) (r1 : Addr) (x1 : Value) (u_0 : Value) (h0 : Heap) (n0 : Nat) (v : Option Value) (h : Heap) (L : List Loc) : Prop := v = none ∧ Fr n0 L ∧ Keep h0 h [r1] ∧ Exa Z h r1 "com/example/interleave/interleave/schedule/Instruction$Begin" ∧ Fld Z h r1 "com/example/interleave/interleave/schedule/Instruction$Begin" "level" "Lcom/example/interleave/interleave/IsolationLevel;" x1
set_option maxRecDepth 65536 in
set_option maxHeartbeats 40000000 in
theorem rm1 (l : Launch) (Z : State) (a0 : Array Value) (hw : ∀ d ∈ tables_1, d.before a0 Z = true) (ws : List Jvm.Cond) (r1 : Addr) (x1 : Value) (u_0 : Value) (h0 : Heap) (n0 : Nat) (Z0 : n0 ≤ h0.size) (f0 : Exa Z h0 r1 "com/example/interleave/interleave/schedule/Instruction$Begin") (f1 : Fld Z h0 r1 "com/example/interleave/interleave/schedule/Instruction$Begin" "level" "Lcom/example/interleave/interleave/IsolationLevel;" u_0) (g_r1 : n0 ≤ r1) (ir_x1 : x1.isRef = true) :
    MetFree l (⟨"com/example/interleave/interleave/schedule/Instruction$Begin", "<init>", "(Lcom/example/interleave/interleave/IsolationLevel;)V"⟩ : MethodName) (head1 (Jvm.Cond.code (⟨"com/example/interleave/interleave/schedule/Instruction$Begin", "<init>", "(Lcom/example/interleave/interleave/IsolationLevel;)V"⟩ : MethodName) prog_62_method_1_code 2 none :: ws) ({ frames := 2, cells := 0, slots := 0, locals := 24 } : Room)) (fun a U => a = #[(.ref r1), x1] ∧ Z.Warmed39 U.vm ∧ U.heap = h0) (fun _ _ _ _ _ => True) (fun _ U o U' => ∃ v L, o = .returned v ∧ Q1 Z r1 x1 u_0 h0 n0 v U'.heap L ∧ FrameEnd U o U' L ({ frames := 2, cells := 0, slots := 0, locals := 24 } : Room).cells ({ frames := 2, cells := 0, slots := 0, locals := 24 } : Room).slots) := by
  refine MetFree.of_bodySF (plainFor_of_name pn_1) hisR ?_
  intro p e s m args below meth c s₁ Bd hml0 hP hK
  obtain ⟨rfl, hZ, hh⟩ := hP
  have hx := Bd.exec
  have hby := Bd.bytes
  have hml : c.maxLocals = 2 := hml0
  have hown : s.vm.findClass "com/example/interleave/interleave/schedule/Instruction$Begin" = some m.cls := findClass_of_methodNamed Bd.named
  have hnm := (name_of_methodNamed Bd.named Bd.method).1
  have X0 : Stand p l e ({ frames := 2, cells := 0, slots := 0, locals := 24 } : Room) s m #[(.ref r1), x1] below meth c s₁ [] 0 0 := Stand.of_body Bd
  have e0 : s₁.heap = h0 := by rw [← hh, Bd.state]; rfl
  have N0 := Fr.nil n0
  suffices H : ∀ Qo : Outcome → State → Prop, (∀ (v : Option Value) (u : State) (L : List Loc), Q1 Z r1 x1 u_0 h0 n0 v u.heap L → FrameEnd s (.returned v) u L ({ frames := 2, cells := 0, slots := 0, locals := 24 } : Room).cells ({ frames := 2, cells := 0, slots := 0, locals := 24 } : Room).slots → Qo (.returned v) u) → Go p e below Qo s₁ (mkF m 0 #[.val (.ref r1), .val x1] []) from
    Go.cast (ef_1 m r1 x1 ir_x1) (H _ fun v u L h1 h2 => ⟨v, L, rfl, h1, h2⟩)
  intro Qo hQo
  show Go p e below Qo s₁ (mkF m 0 #[.val (.ref r1), .val x1] [])
  refine Go.of (fun t k => XS.aloadN X0.here hx rfl (hb hby d1_0) rfl rfl k) ?_
  show Go p e below Qo s₁ (mkF m 1 #[.val (.ref r1), .val x1] [(.ref r1)])
  obtain ⟨_, _, ⟨T1, L1, k1, n1⟩, -, X1, ⟨Lc1, hQ1, l1, y1, z1⟩, st1⟩ := X0.specialBack hx (y := (⟨"com/example/interleave/interleave/schedule/Instruction", "<init>", "()V"⟩ : MethodName)) rfl hown (mvT hZ (hw _ (List.mem_of_getElem? (i := 21) rfl))) (mvT hZ (hw _ (List.mem_of_getElem? (i := 22) rfl))) (mvT hZ (hw _ (List.mem_of_getElem? (i := 25) rfl))) (by decide) (backOf (W := 0) (rm2 l Z a0 hw [] r1 h0 n0 Z0 ) hZ (hw _ (List.mem_of_getElem? (i := 25) rfl)) (hw _ (List.mem_of_getElem? (i := 24) rfl)) (by decide) (by decide)) (g := (mkF m 1 #[.val (.ref r1), .val x1] [(.ref r1)])) rfl (by rw [hml]; rfl) (Steps.refl _) (a := r1) (argsL := []) (rest := []) (lenOf pd_0 rfl) rfl (by show 2 * 0 + _ ≤ _; exact Nat.le_of_eq rfl) (hb hby d1_1) (fun _ _ => ⟨rfl, e0, (by decide : 0 + 0 ≤ _), (by decide : 0 + 0 ≤ _)⟩)
  dsimp only [Pt.U, Pt.locs, Pt.cells, Pt.slots] at X1 l1 y1 z1 st1 hQ1
  subst l1 y1 z1
  obtain ⟨rfl, N2, eh3⟩ := hQ1
  have N4 := Fr.app N0 N2
  refine Go.via st1 ?_
  show Go p e below Qo T1 (mkF m 4 #[.val (.ref r1), .val x1] [])
  refine Go.of (fun t k => XS.aloadN X1.here hx rfl (hb hby d1_4) rfl rfl k) ?_
  show Go p e below Qo T1 (mkF m 5 #[.val (.ref r1), .val x1] [(.ref r1)])
  refine Go.of (fun t k => XS.aloadN X1.here hx rfl (hb hby d1_5) rfl ir_x1 k) ?_
  show Go p e below Qo T1 (mkF m 6 #[.val (.ref r1), .val x1] [x1, (.ref r1)])
  obtain ⟨T5, h5, X5, e5, W5, st5⟩ := putF X1 hx hZ hown (host := "") (Or.inl (hw _ (List.mem_of_getElem? (i := 29) rfl))) Via.refl eh3 f1 f0 (Or.inr ⟨(hw _ (List.mem_of_getElem? (i := 30) rfl)), rfl, hnm⟩) (hw _ (List.mem_of_getElem? (i := 16) rfl)) (ty := (.object "com/example/interleave/interleave/IsolationLevel")) (by decide) (own_narR ir_x1) (own_fitR ir_x1) (g := (mkF m 6 #[.val (.ref r1), .val x1] [x1, (.ref r1)])) rfl rfl (hb hby d1_6)
  have q6 : Exa Z h5 r1 "com/example/interleave/interleave/schedule/Instruction$Begin" := f0.wr W5
  have q7 : Fld Z h5 r1 "com/example/interleave/interleave/schedule/Instruction$Begin" "level" "Lcom/example/interleave/interleave/IsolationLevel;" x1 := f1.same W5
  have Z8 : n0 ≤ h5.size := Nat.le_trans Z0 (Keep.of_wr W5).1
  have K9 : Keep h0 h5 [r1] := (Keep.refl h0 [r1]).wr W5 (Or.inl (List.mem_of_getElem? (i := 0) rfl))
  have N10 := Fr.snoc X5 N4 g_r1
  refine Go.of st5 ?_
  show Go p e below Qo T5 (mkF m 9 #[.val (.ref r1), .val x1] [])
  exact own_ret0 X5 hx Bd.notSynchronized Bd.returns (hb hby d1_9) (fun u hu hF => hQo _ _ _ ⟨rfl, N10, by rw [hu, e5]; exact K9, by rw [hu, e5]; exact q6, by rw [hu, e5]; exact q7⟩ (own_mono hF (by decide) (by decide)))
theorem d4_0 : decode prog_62_method_2_code 0 = .ok (.aload_n 0, 1) := by decide +kernel
theorem d4_1 : decode prog_62_method_2_code 1 = .ok (.getfield 7, 3) := by decide +kernel
theorem d4_4 : decode prog_62_method_2_code 4 = .ok (.ifnull 10, 3) := by decide +kernel
theorem d4_14 : decode prog_62_method_2_code 14 = .ok (.aload_n 1, 1) := by decide +kernel
theorem d4_15 : decode prog_62_method_2_code 15 = .ok (.areturn, 1) := by decide +kernel
theorem ef_4 (m : MethodId) (r1 : Addr) (x1 : Value) (ir_x1 : x1.isRef = true) : entryFrame m #[(.ref r1), x1] 2 = mkF m 0 #[.val (.ref r1), .val x1] [] := by
  rcases ref_cases ir_x1 with rfl | ⟨_, rfl⟩ <;> first | (simp [entryFrame, mkF, argsToLocals, Value.category]; done) | rfl
def Q4 (Z : State) (r1 : Addr) (x1 : Value) (h0 : Heap) (n0 : Nat) (v : Option Value) (h : Heap) (L : List Loc) : Prop := v = some x1 ∧ Fr n0 L ∧ h = h0
set_option maxRecDepth 65536 in
set_option maxHeartbeats 40000000 in
theorem rm4 (l : Launch) (Z : State) (a0 : Array Value) (hw : ∀ d ∈ tables_1, d.before a0 Z = true) (ws : List Jvm.Cond) (r1 : Addr) (x1 : Value) (h0 : Heap) (n0 : Nat) (Z0 : n0 ≤ h0.size) (f0 : Fld Z h0 r1 "com/example/interleave/interleave/schedule/Instruction$Begin" "level" "Lcom/example/interleave/interleave/IsolationLevel;" .null) (ir_x1 : x1.isRef = true) :
    MetFree l (⟨"com/example/interleave/interleave/schedule/Instruction$Begin", "level", "(Lcom/example/interleave/interleave/IsolationLevel;)Lcom/example/interleave/interleave/IsolationLevel;"⟩ : MethodName) (head1 (Jvm.Cond.code (⟨"com/example/interleave/interleave/schedule/Instruction$Begin", "level", "(Lcom/example/interleave/interleave/IsolationLevel;)Lcom/example/interleave/interleave/IsolationLevel;"⟩ : MethodName) prog_62_method_2_code 2 (some (.object "com/example/interleave/interleave/IsolationLevel")) :: ws) ({ frames := 0, cells := 0, slots := 0, locals := 0 } : Room)) (fun a U => a = #[(.ref r1), x1] ∧ Z.Warmed39 U.vm ∧ U.heap = h0) (fun _ _ _ _ _ => True) (fun _ U o U' => ∃ v L, o = .returned v ∧ Q4 Z r1 x1 h0 n0 v U'.heap L ∧ FrameEnd U o U' L ({ frames := 0, cells := 0, slots := 0, locals := 0 } : Room).cells ({ frames := 0, cells := 0, slots := 0, locals := 0 } : Room).slots) := by
  refine MetFree.of_bodySF (plainFor_of_name pn_1) hisR ?_
  intro p e s m args below meth c s₁ Bd hml0 hP hK
  obtain ⟨rfl, hZ, hh⟩ := hP
  have hx := Bd.exec
  have hby := Bd.bytes
  have hml : c.maxLocals = 2 := hml0
  have hown : s.vm.findClass "com/example/interleave/interleave/schedule/Instruction$Begin" = some m.cls := findClass_of_methodNamed Bd.named
  have hnm := (name_of_methodNamed Bd.named Bd.method).1
  have X0 : Stand p l e ({ frames := 0, cells := 0, slots := 0, locals := 0 } : Room) s m #[(.ref r1), x1] below meth c s₁ [] 0 0 := Stand.of_body Bd
  have e0 : s₁.heap = h0 := by rw [← hh, Bd.state]; rfl
  have N0 := Fr.nil n0
  suffices H : ∀ Qo : Outcome → State → Prop, (∀ (v : Option Value) (u : State) (L : List Loc), Q4 Z r1 x1 h0 n0 v u.heap L → FrameEnd s (.returned v) u L ({ frames := 0, cells := 0, slots := 0, locals := 0 } : Room).cells ({ frames := 0, cells := 0, slots := 0, locals := 0 } : Room).slots → Qo (.returned v) u) → Go p e below Qo s₁ (mkF m 0 #[.val (.ref r1), .val x1] []) from
    Go.cast (ef_4 m r1 x1 ir_x1) (H _ fun v u L h1 h2 => ⟨v, L, rfl, h1, h2⟩)
  intro Qo hQo
  show Go p e below Qo s₁ (mkF m 0 #[.val (.ref r1), .val x1] [])
  refine Go.of (fun t k => XS.aloadN X0.here hx rfl (hb hby d4_0) rfl rfl k) ?_
  show Go p e below Qo s₁ (mkF m 1 #[.val (.ref r1), .val x1] [(.ref r1)])
  obtain ⟨T1, X1, e1, st1⟩ := getF X0 hx hZ hown (host := "") (Or.inl (hw _ (List.mem_of_getElem? (i := 29) rfl))) Via.refl e0 f0 (g := (mkF m 1 #[.val (.ref r1), .val x1] [(.ref r1)])) rfl rfl (hb hby d4_1)
  refine Go.of st1 ?_
  show Go p e below Qo T1 (mkF m 4 #[.val (.ref r1), .val x1] [.null])
  refine Go.of (fun t k => XS.ifnullYes X1.here hx rfl (pc0 := 4) (pc' := 14) rfl (hb hby d4_4) rfl (by decide) (by decide) k) ?_
  show Go p e below Qo T1 (mkF m 14 #[.val (.ref r1), .val x1] [])
  refine Go.of (fun t k => XS.aloadN X1.here hx rfl (hb hby d4_14) rfl ir_x1 k) ?_
  show Go p e below Qo T1 (mkF m 15 #[.val (.ref r1), .val x1] [x1])
  exact own_retW X1 hx Bd.notSynchronized Bd.returns (own_narR ir_x1) (Or.inr (Or.inr (Or.inr (Or.inr ⟨rfl, rfl, ir_x1⟩)))) (hb hby d4_15) (fun u hu hF => hQo _ _ _ ⟨rfl, N0, by rw [hu, e1]⟩ (own_mono hF (by decide) (by decide)))
theorem d5_0 : decode prog_62_method_2_code 0 = .ok (.aload_n 0, 1) := by decide +kernel
theorem d5_1 : decode prog_62_method_2_code 1 = .ok (.getfield 7, 3) := by decide +kernel
theorem d5_4 : decode prog_62_method_2_code 4 = .ok (.ifnull 10, 3) := by decide +kernel
theorem d5_7 : decode prog_62_method_2_code 7 = .ok (.aload_n 0, 1) := by decide +kernel
theorem d5_8 : decode prog_62_method_2_code 8 = .ok (.getfield 7, 3) := by decide +kernel
theorem d5_11 : decode prog_62_method_2_code 11 = .ok (.goto 4, 3) := by decide +kernel
theorem d5_15 : decode prog_62_method_2_code 15 = .ok (.areturn, 1) := by decide +kernel
theorem ef_5 (m : MethodId) (r1 : Addr) (x1 : Value) (ir_x1 : x1.isRef = true) : entryFrame m #[(.ref r1), x1] 2 = mkF m 0 #[.val (.ref r1), .val x1] [] := by
  rcases ref_cases ir_x1 with rfl | ⟨_, rfl⟩ <;> first | (simp [entryFrame, mkF, argsToLocals, Value.category]; done) | rfl
def Q5 (Z : State) (r1 : Addr) (x1 : Value) (r3 : Addr) (h0 : Heap) (n0 : Nat) (v : Option Value) (h : Heap) (L : List Loc) : Prop := v = some (.ref r3) ∧ Fr n0 L ∧ h = h0
set_option maxRecDepth 65536 in
set_option maxHeartbeats 40000000 in
theorem rm5 (l : Launch) (Z : State) (a0 : Array Value) (hw : ∀ d ∈ tables_1, d.before a0 Z = true) (ws : List Jvm.Cond) (r1 : Addr) (x1 : Value) (r3 : Addr) (h0 : Heap) (n0 : Nat) (Z0 : n0 ≤ h0.size) (f0 : Fld Z h0 r1 "com/example/interleave/interleave/schedule/Instruction$Begin" "level" "Lcom/example/interleave/interleave/IsolationLevel;" (.ref r3)) (ir_x1 : x1.isRef = true) :
    MetFree l (⟨"com/example/interleave/interleave/schedule/Instruction$Begin", "level", "(Lcom/example/interleave/interleave/IsolationLevel;)Lcom/example/interleave/interleave/IsolationLevel;"⟩ : MethodName) (head1 (Jvm.Cond.code (⟨"com/example/interleave/interleave/schedule/Instruction$Begin", "level", "(Lcom/example/interleave/interleave/IsolationLevel;)Lcom/example/interleave/interleave/IsolationLevel;"⟩ : MethodName) prog_62_method_2_code 2 (some (.object "com/example/interleave/interleave/IsolationLevel")) :: ws) ({ frames := 0, cells := 0, slots := 0, locals := 0 } : Room)) (fun a U => a = #[(.ref r1), x1] ∧ Z.Warmed39 U.vm ∧ U.heap = h0) (fun _ _ _ _ _ => True) (fun _ U o U' => ∃ v L, o = .returned v ∧ Q5 Z r1 x1 r3 h0 n0 v U'.heap L ∧ FrameEnd U o U' L ({ frames := 0, cells := 0, slots := 0, locals := 0 } : Room).cells ({ frames := 0, cells := 0, slots := 0, locals := 0 } : Room).slots) := by
  refine MetFree.of_bodySF (plainFor_of_name pn_1) hisR ?_
  intro p e s m args below meth c s₁ Bd hml0 hP hK
  obtain ⟨rfl, hZ, hh⟩ := hP
  have hx := Bd.exec
  have hby := Bd.bytes
  have hml : c.maxLocals = 2 := hml0
  have hown : s.vm.findClass "com/example/interleave/interleave/schedule/Instruction$Begin" = some m.cls := findClass_of_methodNamed Bd.named
  have hnm := (name_of_methodNamed Bd.named Bd.method).1
  have X0 : Stand p l e ({ frames := 0, cells := 0, slots := 0, locals := 0 } : Room) s m #[(.ref r1), x1] below meth c s₁ [] 0 0 := Stand.of_body Bd
  have e0 : s₁.heap = h0 := by rw [← hh, Bd.state]; rfl
  have N0 := Fr.nil n0
  suffices H : ∀ Qo : Outcome → State → Prop, (∀ (v : Option Value) (u : State) (L : List Loc), Q5 Z r1 x1 r3 h0 n0 v u.heap L → FrameEnd s (.returned v) u L ({ frames := 0, cells := 0, slots := 0, locals := 0 } : Room).cells ({ frames := 0, cells := 0, slots := 0, locals := 0 } : Room).slots → Qo (.returned v) u) → Go p e below Qo s₁ (mkF m 0 #[.val (.ref r1), .val x1] []) from
    Go.cast (ef_5 m r1 x1 ir_x1) (H _ fun v u L h1 h2 => ⟨v, L, rfl, h1, h2⟩)
  intro Qo hQo
  show Go p e below Qo s₁ (mkF m 0 #[.val (.ref r1), .val x1] [])
  refine Go.of (fun t k => XS.aloadN X0.here hx rfl (hb hby d5_0) rfl rfl k) ?_
  show Go p e below Qo s₁ (mkF m 1 #[.val (.ref r1), .val x1] [(.ref r1)])
  obtain ⟨T1, X1, e1, st1⟩ := getF X0 hx hZ hown (host := "") (Or.inl (hw _ (List.mem_of_getElem? (i := 29) rfl))) Via.refl e0 f0 (g := (mkF m 1 #[.val (.ref r1), .val x1] [(.ref r1)])) rfl rfl (hb hby d5_1)
  refine Go.of st1 ?_
  show Go p e below Qo T1 (mkF m 4 #[.val (.ref r1), .val x1] [(.ref r3)])
  refine Go.of (fun t k => XS.ifnullNo X1.here hx rfl (hb hby d5_4) rfl k) ?_
  show Go p e below Qo T1 (mkF m 7 #[.val (.ref r1), .val x1] [])
  refine Go.of (fun t k => XS.aloadN X1.here hx rfl (hb hby d5_7) rfl rfl k) ?_
  show Go p e below Qo T1 (mkF m 8 #[.val (.ref r1), .val x1] [(.ref r1)])
  obtain ⟨T2, X2, e2, st2⟩ := getF X1 hx hZ hown (host := "") (Or.inl (hw _ (List.mem_of_getElem? (i := 29) rfl))) Via.refl e1 f0 (g := (mkF m 8 #[.val (.ref r1), .val x1] [(.ref r1)])) rfl rfl (hb hby d5_8)
  refine Go.of st2 ?_
  show Go p e below Qo T2 (mkF m 11 #[.val (.ref r1), .val x1] [(.ref r3)])
  refine Go.of (fun t k => XS.goto X2.here hx rfl (pc0 := 11) (pc' := 15) rfl (hb hby d5_11) (by decide) (by decide) k) ?_
  show Go p e below Qo T2 (mkF m 15 #[.val (.ref r1), .val x1] [(.ref r3)])
  exact own_retW X2 hx Bd.notSynchronized Bd.returns rfl (Or.inr (Or.inr (Or.inr (Or.inr ⟨rfl, rfl, rfl⟩)))) (hb hby d5_15) (fun u hu hF => hQo _ _ _ ⟨rfl, N0, by rw [hu, e2]⟩ (own_mono hF (by decide) (by decide)))
theorem own_six (x : Int32) : (x &&& (2147483647 : Int32)) % (6 : Int32) = 0 ∨ (x &&& (2147483647 : Int32)) % (6 : Int32) = 1 ∨ (x &&& (2147483647 : Int32)) % (6 : Int32) = 2 ∨ (x &&& (2147483647 : Int32)) % (6 : Int32) = 3 ∨ (x &&& (2147483647 : Int32)) % (6 : Int32) = 4 ∨ (x &&& (2147483647 : Int32)) % (6 : Int32) = 5 := by
  have h := c_and x 2147483647 (by decide)
  have e6 : (6 : Int32).toInt = 6 := by decide
  have k := (c_irem (x &&& 2147483647) 6 6 e6).1 h.1
  simp only [← Int32.toInt_inj]
  have e0 : (0 : Int32).toInt = 0 := by decide
  have e1 : (1 : Int32).toInt = 1 := by decide
  have e2 : (2 : Int32).toInt = 2 := by decide
  have e3 : (3 : Int32).toInt = 3 := by decide
  have e4 : (4 : Int32).toInt = 4 := by decide
  have e5 : (5 : Int32).toInt = 5 := by decide
  rw [e0, e1, e2, e3, e4, e5, k]
  omega
theorem own_rng (x : Int32) : ¬ (x &&& (2147483647 : Int32)) % (6 : Int32) < 0 ∧ (x &&& (2147483647 : Int32)) % (6 : Int32) < 6 := by
  rcases own_six x with h | h | h | h | h | h <;> rw [h] <;> decide
theorem pd_1 : parseMethodDescriptor "(Lcom/example/interleave/interleave/IsolationLevel;)V" = some ⟨[(.object "com/example/interleave/interleave/IsolationLevel")], none⟩ := by decide +kernel
theorem pd_2 : parseMethodDescriptor "(Lcom/example/interleave/interleave/IsolationLevel;)Lcom/example/interleave/interleave/IsolationLevel;" = some ⟨[(.object "com/example/interleave/interleave/IsolationLevel")], some (.object "com/example/interleave/interleave/IsolationLevel")⟩ := by decide +kernel
theorem pn_2 : plainName "com/example/interleave/interleave/schedule/BeginLevelPinLaw" = true := by first | (simp [plainName, overriddenIn]; done) | decide +kernel
theorem ef_0 (m : MethodId) (i1 : Int32) (i2 : Int32)  : entryFrame m #[(.int i1), (.int i2)] maxLocals = mkF m 0 #[.val (.int i1), .val (.int i2), .unset, .unset, .unset, .unset, .unset, .unset] [] := by
  first | (simp [entryFrame, mkF, argsToLocals, Value.category, maxLocals]; done) | rfl
def Q0 (Z : State) (i1 : Int32) (i2 : Int32) (z_READ_UNCOMMITTED : Addr) (z_READ_COMMITTED : Addr) (z_REPEATABLE_READ : Addr) (z_SNAPSHOT : Addr) (z_SERIALIZABLE : Addr) (h0 : Heap) (n0 : Nat) (v : Option Value) (h : Heap) (L : List Loc) : Prop := v = some (.int 1) ∧ Fr n0 L
set_option maxRecDepth 65536 in
set_option maxHeartbeats 40000000 in
theorem rm0 (l : Launch) (Z : State) (a0 : Array Value) (hw : ∀ d ∈ tables_1, d.before a0 Z = true) (ws : List Jvm.Cond) (i1 : Int32) (i2 : Int32) (z_READ_UNCOMMITTED : Addr) (z_READ_COMMITTED : Addr) (z_REPEATABLE_READ : Addr) (z_SNAPSHOT : Addr) (z_SERIALIZABLE : Addr) (h0 : Heap) (n0 : Nat) (Z0 : n0 ≤ h0.size) (f0 : Sta Z h0 "com/example/interleave/interleave/IsolationLevel" "READ_UNCOMMITTED" "Lcom/example/interleave/interleave/IsolationLevel;" (.ref z_READ_UNCOMMITTED)) (f1 : Exa Z h0 z_READ_UNCOMMITTED "com/example/interleave/interleave/IsolationLevel") (f2 : Sta Z h0 "com/example/interleave/interleave/IsolationLevel" "READ_COMMITTED" "Lcom/example/interleave/interleave/IsolationLevel;" (.ref z_READ_COMMITTED)) (f3 : Exa Z h0 z_READ_COMMITTED "com/example/interleave/interleave/IsolationLevel") (f4 : Sta Z h0 "com/example/interleave/interleave/IsolationLevel" "REPEATABLE_READ" "Lcom/example/interleave/interleave/IsolationLevel;" (.ref z_REPEATABLE_READ)) (f5 : Exa Z h0 z_REPEATABLE_READ "com/example/interleave/interleave/IsolationLevel") (f6 : Sta Z h0 "com/example/interleave/interleave/IsolationLevel" "SNAPSHOT" "Lcom/example/interleave/interleave/IsolationLevel;" (.ref z_SNAPSHOT)) (f7 : Exa Z h0 z_SNAPSHOT "com/example/interleave/interleave/IsolationLevel") (f8 : Sta Z h0 "com/example/interleave/interleave/IsolationLevel" "SERIALIZABLE" "Lcom/example/interleave/interleave/IsolationLevel;" (.ref z_SERIALIZABLE)) (f9 : Exa Z h0 z_SERIALIZABLE "com/example/interleave/interleave/IsolationLevel") :
    MetFree l x (head1 (Jvm.Cond.code x code maxLocals ret :: ws) room_1) (fun a U => a = #[(.int i1), (.int i2)] ∧ Z.Warmed39 U.vm ∧ U.heap = h0) (fun _ _ _ _ _ => True) (fun _ U o U' => ∃ v L, o = .returned v ∧ Q0 Z i1 i2 z_READ_UNCOMMITTED z_READ_COMMITTED z_REPEATABLE_READ z_SNAPSHOT z_SERIALIZABLE h0 n0 v U'.heap L ∧ FrameEnd U o U' L 2 7) := by
  refine MetFree.of_bodySF (plainFor_of_name pn_2) hisR ?_
  intro p e s m args below meth c s₁ Bd hml0 hP hK
  obtain ⟨rfl, hZ, hh⟩ := hP
  have hx := Bd.exec
  have hby := Bd.bytes
  have hml : c.maxLocals = 8 := hml0
  have hown : s.vm.findClass "com/example/interleave/interleave/schedule/BeginLevelPinLaw" = some m.cls := findClass_of_methodNamed Bd.named
  have hnm := (name_of_methodNamed Bd.named Bd.method).1
  have X0 : Stand p l e room_1 s m #[(.int i1), (.int i2)] below meth c s₁ [] 0 0 := Stand.of_body Bd
  have e0 : s₁.heap = h0 := by rw [← hh, Bd.state]; rfl
  have N0 := Fr.nil n0
  suffices H : ∀ Qo : Outcome → State → Prop, (∀ (v : Option Value) (u : State) (L : List Loc), Q0 Z i1 i2 z_READ_UNCOMMITTED z_READ_COMMITTED z_REPEATABLE_READ z_SNAPSHOT z_SERIALIZABLE h0 n0 v u.heap L → FrameEnd s (.returned v) u L 2 7 → Qo (.returned v) u) → Go p e below Qo s₁ (mkF m 0 #[.val (.int i1), .val (.int i2), .unset, .unset, .unset, .unset, .unset, .unset] []) from
    Go.cast (ef_0 m i1 i2) (H _ fun v u L h1 h2 => ⟨v, L, rfl, h1, h2⟩)
  intro Qo hQo
  show Go p e below Qo s₁ (mkF m 0 #[.val (.int i1), .val (.int i2), .unset, .unset, .unset, .unset, .unset, .unset] [])
  refine Go.of (fun t k => XS.bipush X0.here hx rfl (hb hby at_0) k) ?_
  show Go p e below Qo s₁ (mkF m 2 #[.val (.int i1), .val (.int i2), .unset, .unset, .unset, .unset, .unset, .unset] [(.int (6 : Int32))])
  obtain ⟨T1, h1, k1, X1, e1, E1, A1, O1, st1⟩ := newR X0 hx hZ hown (hw _ (List.mem_of_getElem? (i := 0) rfl)) (hw _ (List.mem_of_getElem? (i := 1) rfl)) e0 (g := (mkF m 2 #[.val (.int i1), .val (.int i2), .unset, .unset, .unset, .unset, .unset, .unset] [(.int (6 : Int32))])) rfl (hb hby at_2) rfl (by decide) (cap := 6) (by decide) (by decide) (by decide) (by decide)
  obtain ⟨b1, g1⟩ : ∃ z, z = h0.size := ⟨_, rfl⟩
  rw [← g1] at A1 st1
  have ne2 : z_READ_UNCOMMITTED ≠ b1 := Nat.ne_of_lt (Nat.lt_of_lt_of_le f1.lt (Nat.le_of_eq g1.symm))
  have ne3 : z_READ_COMMITTED ≠ b1 := Nat.ne_of_lt (Nat.lt_of_lt_of_le f3.lt (Nat.le_of_eq g1.symm))
  have ne4 : z_REPEATABLE_READ ≠ b1 := Nat.ne_of_lt (Nat.lt_of_lt_of_le f5.lt (Nat.le_of_eq g1.symm))
  have ne5 : z_SNAPSHOT ≠ b1 := Nat.ne_of_lt (Nat.lt_of_lt_of_le f7.lt (Nat.le_of_eq g1.symm))
  have ne6 : z_SERIALIZABLE ≠ b1 := Nat.ne_of_lt (Nat.lt_of_lt_of_le f9.lt (Nat.le_of_eq g1.symm))
  have g7 : n0 ≤ b1 := Nat.le_trans Z0 (Nat.le_of_eq g1.symm)
  have q8 : Sta Z h1 "com/example/interleave/interleave/IsolationLevel" "READ_UNCOMMITTED" "Lcom/example/interleave/interleave/IsolationLevel;" (.ref z_READ_UNCOMMITTED) := f0.ext E1
  have q9 : Exa Z h1 z_READ_UNCOMMITTED "com/example/interleave/interleave/IsolationLevel" := f1.ext E1
  have q10 : Sta Z h1 "com/example/interleave/interleave/IsolationLevel" "READ_COMMITTED" "Lcom/example/interleave/interleave/IsolationLevel;" (.ref z_READ_COMMITTED) := f2.ext E1
  have q11 : Exa Z h1 z_READ_COMMITTED "com/example/interleave/interleave/IsolationLevel" := f3.ext E1
  have q12 : Sta Z h1 "com/example/interleave/interleave/IsolationLevel" "REPEATABLE_READ" "Lcom/example/interleave/interleave/IsolationLevel;" (.ref z_REPEATABLE_READ) := f4.ext E1
  have q13 : Exa Z h1 z_REPEATABLE_READ "com/example/interleave/interleave/IsolationLevel" := f5.ext E1
  have q14 : Sta Z h1 "com/example/interleave/interleave/IsolationLevel" "SNAPSHOT" "Lcom/example/interleave/interleave/IsolationLevel;" (.ref z_SNAPSHOT) := f6.ext E1
  have q15 : Exa Z h1 z_SNAPSHOT "com/example/interleave/interleave/IsolationLevel" := f7.ext E1
  have q16 : Sta Z h1 "com/example/interleave/interleave/IsolationLevel" "SERIALIZABLE" "Lcom/example/interleave/interleave/IsolationLevel;" (.ref z_SERIALIZABLE) := f8.ext E1
  have q17 : Exa Z h1 z_SERIALIZABLE "com/example/interleave/interleave/IsolationLevel" := f9.ext E1
  have Z18 : n0 ≤ h1.size := Nat.le_trans Z0 E1.1
  have q19 : Arv Z h1 b1 k1 (.object "com/example/interleave/interleave/IsolationLevel") (6 : Int32) [.null, .null, .null, .null, .null, .null] .null := (Arv.new A1 (by decide)).pad (pad_rep [] .null 6)
  refine Go.of st1 ?_
  show Go p e below Qo T1 (mkF m 5 #[.val (.int i1), .val (.int i2), .unset, .unset, .unset, .unset, .unset, .unset] [(.ref b1)])
  refine Go.of (fun t k => XS.dup X1.here hx rfl (hb hby at_5) rfl rfl k) ?_
  show Go p e below Qo T1 (mkF m 6 #[.val (.int i1), .val (.int i2), .unset, .unset, .unset, .unset, .unset, .unset] [(.ref b1), (.ref b1)])
  refine Go.of (fun t k => XS.iconst X1.here hx rfl (hb hby at_6) k) ?_
  show Go p e below Qo T1 (mkF m 7 #[.val (.int i1), .val (.int i2), .unset, .unset, .unset, .unset, .unset, .unset] [(.int (0 : Int32)), (.ref b1), (.ref b1)])
  refine Go.of (fun t k => XS.aconstNull X1.here hx rfl (hb hby at_7) k) ?_
  show Go p e below Qo T1 (mkF m 8 #[.val (.int i1), .val (.int i2), .unset, .unset, .unset, .unset, .unset, .unset] [.null, (.int (0 : Int32)), (.ref b1), (.ref b1)])
  have cpo20 := q19
  obtain ⟨clo20, Aro20, qco20, So20, Mo20, Ho20, Go20⟩ := cpo20
  have hin21 : ¬ ((0 : Int32) < 0 ∨ clo20.slots.size ≤ (0 : Int32).toNatClampNeg) := (inb_of So20 ⟨by decide, by decide⟩)
  obtain ⟨T22, h22, X22, e22, W22, st22⟩ := stR X1 hx hZ e1 Aro20 (j := (0 : Int32)) hin21 rfl (Or.inl rfl) (g := (mkF m 8 #[.val (.int i1), .val (.int i2), .unset, .unset, .unset, .unset, .unset, .unset] [.null, (.int (0 : Int32)), (.ref b1), (.ref b1)])) rfl rfl (hb hby at_8)
  have q23 : Sta Z h22 "com/example/interleave/interleave/IsolationLevel" "READ_UNCOMMITTED" "Lcom/example/interleave/interleave/IsolationLevel;" (.ref z_READ_UNCOMMITTED) := q8.wr W22
  have q24 : Exa Z h22 z_READ_UNCOMMITTED "com/example/interleave/interleave/IsolationLevel" := q9.wr W22
  have q25 : Sta Z h22 "com/example/interleave/interleave/IsolationLevel" "READ_COMMITTED" "Lcom/example/interleave/interleave/IsolationLevel;" (.ref z_READ_COMMITTED) := q10.wr W22
  have q26 : Exa Z h22 z_READ_COMMITTED "com/example/interleave/interleave/IsolationLevel" := q11.wr W22
  have q27 : Sta Z h22 "com/example/interleave/interleave/IsolationLevel" "REPEATABLE_READ" "Lcom/example/interleave/interleave/IsolationLevel;" (.ref z_REPEATABLE_READ) := q12.wr W22
  have q28 : Exa Z h22 z_REPEATABLE_READ "com/example/interleave/interleave/IsolationLevel" := q13.wr W22
  have q29 : Sta Z h22 "com/example/interleave/interleave/IsolationLevel" "SNAPSHOT" "Lcom/example/interleave/interleave/IsolationLevel;" (.ref z_SNAPSHOT) := q14.wr W22
  have q30 : Exa Z h22 z_SNAPSHOT "com/example/interleave/interleave/IsolationLevel" := q15.wr W22
  have q31 : Sta Z h22 "com/example/interleave/interleave/IsolationLevel" "SERIALIZABLE" "Lcom/example/interleave/interleave/IsolationLevel;" (.ref z_SERIALIZABLE) := q16.wr W22
  have q32 : Exa Z h22 z_SERIALIZABLE "com/example/interleave/interleave/IsolationLevel" := q17.wr W22
  have q33 : Arv Z h22 b1 k1 (.object "com/example/interleave/interleave/IsolationLevel") (6 : Int32) [.null, .null, .null, .null, .null, .null] .null := Arv.set Aro20 qco20 So20 Mo20 Ho20 Go20 rfl W22 0 rfl (Nat.le_of_ble_eq_true rfl)
  have Z34 : n0 ≤ h22.size := Nat.le_trans Z18 (Keep.of_wr W22).1
  have N35 := Fr.snoc X22 N0 g7
  refine Go.of st22 ?_
  show Go p e below Qo T22 (mkF m 9 #[.val (.int i1), .val (.int i2), .unset, .unset, .unset, .unset, .unset, .unset] [(.ref b1)])
  refine Go.of (fun t k => XS.dup X22.here hx rfl (hb hby at_9) rfl rfl k) ?_
  show Go p e below Qo T22 (mkF m 10 #[.val (.int i1), .val (.int i2), .unset, .unset, .unset, .unset, .unset, .unset] [(.ref b1), (.ref b1)])
  refine Go.of (fun t k => XS.iconst X22.here hx rfl (hb hby at_10) k) ?_
  show Go p e below Qo T22 (mkF m 11 #[.val (.int i1), .val (.int i2), .unset, .unset, .unset, .unset, .unset, .unset] [(.int (1 : Int32)), (.ref b1), (.ref b1)])
  obtain ⟨T36, X36, e36, st36⟩ := getS X22 hx hZ (host := "") hown (hw _ (List.mem_of_getElem? (i := 2) rfl)) Via.refl e22 q23 (g := (mkF m 11 #[.val (.int i1), .val (.int i2), .unset, .unset, .unset, .unset, .unset, .unset] [(.int (1 : Int32)), (.ref b1), (.ref b1)])) rfl (hb hby at_11)
  refine Go.of st36 ?_
  show Go p e below Qo T36 (mkF m 14 #[.val (.int i1), .val (.int i2), .unset, .unset, .unset, .unset, .unset, .unset] [(.ref z_READ_UNCOMMITTED), (.int (1 : Int32)), (.ref b1), (.ref b1)])
  have cpo37 := q33
  obtain ⟨clo37, Aro37, qco37, So37, Mo37, Ho37, Go37⟩ := cpo37
  have hin38 : ¬ ((1 : Int32) < 0 ∨ clo37.slots.size ≤ (1 : Int32).toNatClampNeg) := (inb_of So37 ⟨by decide, by decide⟩)
  obtain ⟨T39, h39, X39, e39, W39, st39⟩ := stR X36 hx hZ e36 Aro37 (j := (1 : Int32)) hin38 rfl (Sto.ofV Aro37 qco37 O1 (Ins.self q24)) (g := (mkF m 14 #[.val (.int i1), .val (.int i2), .unset, .unset, .unset, .unset, .unset, .unset] [(.ref z_READ_UNCOMMITTED), (.int (1 : Int32)), (.ref b1), (.ref b1)])) rfl rfl (hb hby at_14)
  have q40 : Sta Z h39 "com/example/interleave/interleave/IsolationLevel" "READ_UNCOMMITTED" "Lcom/example/interleave/interleave/IsolationLevel;" (.ref z_READ_UNCOMMITTED) := q23.wr W39
  have q41 : Exa Z h39 z_READ_UNCOMMITTED "com/example/interleave/interleave/IsolationLevel" := q24.wr W39
  have q42 : Sta Z h39 "com/example/interleave/interleave/IsolationLevel" "READ_COMMITTED" "Lcom/example/interleave/interleave/IsolationLevel;" (.ref z_READ_COMMITTED) := q25.wr W39
  have q43 : Exa Z h39 z_READ_COMMITTED "com/example/interleave/interleave/IsolationLevel" := q26.wr W39
  have q44 : Sta Z h39 "com/example/interleave/interleave/IsolationLevel" "REPEATABLE_READ" "Lcom/example/interleave/interleave/IsolationLevel;" (.ref z_REPEATABLE_READ) := q27.wr W39
  have q45 : Exa Z h39 z_REPEATABLE_READ "com/example/interleave/interleave/IsolationLevel" := q28.wr W39
  have q46 : Sta Z h39 "com/example/interleave/interleave/IsolationLevel" "SNAPSHOT" "Lcom/example/interleave/interleave/IsolationLevel;" (.ref z_SNAPSHOT) := q29.wr W39
  have q47 : Exa Z h39 z_SNAPSHOT "com/example/interleave/interleave/IsolationLevel" := q30.wr W39
  have q48 : Sta Z h39 "com/example/interleave/interleave/IsolationLevel" "SERIALIZABLE" "Lcom/example/interleave/interleave/IsolationLevel;" (.ref z_SERIALIZABLE) := q31.wr W39
  have q49 : Exa Z h39 z_SERIALIZABLE "com/example/interleave/interleave/IsolationLevel" := q32.wr W39
  have q50 : Arv Z h39 b1 k1 (.object "com/example/interleave/interleave/IsolationLevel") (6 : Int32) [.null, (.ref z_READ_UNCOMMITTED), .null, .null, .null, .null] .null := Arv.set Aro37 qco37 So37 Mo37 Ho37 Go37 rfl W39 1 rfl (Nat.le_of_ble_eq_true rfl)
  have Z51 : n0 ≤ h39.size := Nat.le_trans Z34 (Keep.of_wr W39).1
  have N52 := Fr.snoc X39 N35 g7
  refine Go.of st39 ?_
  show Go p e below Qo T39 (mkF m 15 #[.val (.int i1), .val (.int i2), .unset, .unset, .unset, .unset, .unset, .unset] [(.ref b1)])
  refine Go.of (fun t k => XS.dup X39.here hx rfl (hb hby at_15) rfl rfl k) ?_
  show Go p e below Qo T39 (mkF m 16 #[.val (.int i1), .val (.int i2), .unset, .unset, .unset, .unset, .unset, .unset] [(.ref b1), (.ref b1)])
  refine Go.of (fun t k => XS.iconst X39.here hx rfl (hb hby at_16) k) ?_
  show Go p e below Qo T39 (mkF m 17 #[.val (.int i1), .val (.int i2), .unset, .unset, .unset, .unset, .unset, .unset] [(.int (2 : Int32)), (.ref b1), (.ref b1)])
  obtain ⟨T53, X53, e53, st53⟩ := getS X39 hx hZ (host := "") hown (hw _ (List.mem_of_getElem? (i := 6) rfl)) Via.refl e39 q42 (g := (mkF m 17 #[.val (.int i1), .val (.int i2), .unset, .unset, .unset, .unset, .unset, .unset] [(.int (2 : Int32)), (.ref b1), (.ref b1)])) rfl (hb hby at_17)
  refine Go.of st53 ?_
  show Go p e below Qo T53 (mkF m 20 #[.val (.int i1), .val (.int i2), .unset, .unset, .unset, .unset, .unset, .unset] [(.ref z_READ_COMMITTED), (.int (2 : Int32)), (.ref b1), (.ref b1)])
  have cpo54 := q50
  obtain ⟨clo54, Aro54, qco54, So54, Mo54, Ho54, Go54⟩ := cpo54
  have hin55 : ¬ ((2 : Int32) < 0 ∨ clo54.slots.size ≤ (2 : Int32).toNatClampNeg) := (inb_of So54 ⟨by decide, by decide⟩)
  obtain ⟨T56, h56, X56, e56, W56, st56⟩ := stR X53 hx hZ e53 Aro54 (j := (2 : Int32)) hin55 rfl (Sto.ofV Aro54 qco54 O1 (Ins.self q43)) (g := (mkF m 20 #[.val (.int i1), .val (.int i2), .unset, .unset, .unset, .unset, .unset, .unset] [(.ref z_READ_COMMITTED), (.int (2 : Int32)), (.ref b1), (.ref b1)])) rfl rfl (hb hby at_20)
  have q57 : Sta Z h56 "com/example/interleave/interleave/IsolationLevel" "READ_UNCOMMITTED" "Lcom/example/interleave/interleave/IsolationLevel;" (.ref z_READ_UNCOMMITTED) := q40.wr W56
  have q58 : Exa Z h56 z_READ_UNCOMMITTED "com/example/interleave/interleave/IsolationLevel" := q41.wr W56
  have q59 : Sta Z h56 "com/example/interleave/interleave/IsolationLevel" "READ_COMMITTED" "Lcom/example/interleave/interleave/IsolationLevel;" (.ref z_READ_COMMITTED) := q42.wr W56
  have q60 : Exa Z h56 z_READ_COMMITTED "com/example/interleave/interleave/IsolationLevel" := q43.wr W56
  have q61 : Sta Z h56 "com/example/interleave/interleave/IsolationLevel" "REPEATABLE_READ" "Lcom/example/interleave/interleave/IsolationLevel;" (.ref z_REPEATABLE_READ) := q44.wr W56
  have q62 : Exa Z h56 z_REPEATABLE_READ "com/example/interleave/interleave/IsolationLevel" := q45.wr W56
  have q63 : Sta Z h56 "com/example/interleave/interleave/IsolationLevel" "SNAPSHOT" "Lcom/example/interleave/interleave/IsolationLevel;" (.ref z_SNAPSHOT) := q46.wr W56
  have q64 : Exa Z h56 z_SNAPSHOT "com/example/interleave/interleave/IsolationLevel" := q47.wr W56
  have q65 : Sta Z h56 "com/example/interleave/interleave/IsolationLevel" "SERIALIZABLE" "Lcom/example/interleave/interleave/IsolationLevel;" (.ref z_SERIALIZABLE) := q48.wr W56
  have q66 : Exa Z h56 z_SERIALIZABLE "com/example/interleave/interleave/IsolationLevel" := q49.wr W56
  have q67 : Arv Z h56 b1 k1 (.object "com/example/interleave/interleave/IsolationLevel") (6 : Int32) [.null, (.ref z_READ_UNCOMMITTED), (.ref z_READ_COMMITTED), .null, .null, .null] .null := Arv.set Aro54 qco54 So54 Mo54 Ho54 Go54 rfl W56 2 rfl (Nat.le_of_ble_eq_true rfl)
  have Z68 : n0 ≤ h56.size := Nat.le_trans Z51 (Keep.of_wr W56).1
  have N69 := Fr.snoc X56 N52 g7
  refine Go.of st56 ?_
  show Go p e below Qo T56 (mkF m 21 #[.val (.int i1), .val (.int i2), .unset, .unset, .unset, .unset, .unset, .unset] [(.ref b1)])
  refine Go.of (fun t k => XS.dup X56.here hx rfl (hb hby at_21) rfl rfl k) ?_
  show Go p e below Qo T56 (mkF m 22 #[.val (.int i1), .val (.int i2), .unset, .unset, .unset, .unset, .unset, .unset] [(.ref b1), (.ref b1)])
  refine Go.of (fun t k => XS.iconst X56.here hx rfl (hb hby at_22) k) ?_
  show Go p e below Qo T56 (mkF m 23 #[.val (.int i1), .val (.int i2), .unset, .unset, .unset, .unset, .unset, .unset] [(.int (3 : Int32)), (.ref b1), (.ref b1)])
  obtain ⟨T70, X70, e70, st70⟩ := getS X56 hx hZ (host := "") hown (hw _ (List.mem_of_getElem? (i := 8) rfl)) Via.refl e56 q61 (g := (mkF m 23 #[.val (.int i1), .val (.int i2), .unset, .unset, .unset, .unset, .unset, .unset] [(.int (3 : Int32)), (.ref b1), (.ref b1)])) rfl (hb hby at_23)
  refine Go.of st70 ?_
  show Go p e below Qo T70 (mkF m 26 #[.val (.int i1), .val (.int i2), .unset, .unset, .unset, .unset, .unset, .unset] [(.ref z_REPEATABLE_READ), (.int (3 : Int32)), (.ref b1), (.ref b1)])
  have cpo71 := q67
  obtain ⟨clo71, Aro71, qco71, So71, Mo71, Ho71, Go71⟩ := cpo71
  have hin72 : ¬ ((3 : Int32) < 0 ∨ clo71.slots.size ≤ (3 : Int32).toNatClampNeg) := (inb_of So71 ⟨by decide, by decide⟩)
  obtain ⟨T73, h73, X73, e73, W73, st73⟩ := stR X70 hx hZ e70 Aro71 (j := (3 : Int32)) hin72 rfl (Sto.ofV Aro71 qco71 O1 (Ins.self q62)) (g := (mkF m 26 #[.val (.int i1), .val (.int i2), .unset, .unset, .unset, .unset, .unset, .unset] [(.ref z_REPEATABLE_READ), (.int (3 : Int32)), (.ref b1), (.ref b1)])) rfl rfl (hb hby at_26)
  have q74 : Sta Z h73 "com/example/interleave/interleave/IsolationLevel" "READ_UNCOMMITTED" "Lcom/example/interleave/interleave/IsolationLevel;" (.ref z_READ_UNCOMMITTED) := q57.wr W73
  have q75 : Exa Z h73 z_READ_UNCOMMITTED "com/example/interleave/interleave/IsolationLevel" := q58.wr W73
  have q76 : Sta Z h73 "com/example/interleave/interleave/IsolationLevel" "READ_COMMITTED" "Lcom/example/interleave/interleave/IsolationLevel;" (.ref z_READ_COMMITTED) := q59.wr W73
  have q77 : Exa Z h73 z_READ_COMMITTED "com/example/interleave/interleave/IsolationLevel" := q60.wr W73
  have q78 : Sta Z h73 "com/example/interleave/interleave/IsolationLevel" "REPEATABLE_READ" "Lcom/example/interleave/interleave/IsolationLevel;" (.ref z_REPEATABLE_READ) := q61.wr W73
  have q79 : Exa Z h73 z_REPEATABLE_READ "com/example/interleave/interleave/IsolationLevel" := q62.wr W73
  have q80 : Sta Z h73 "com/example/interleave/interleave/IsolationLevel" "SNAPSHOT" "Lcom/example/interleave/interleave/IsolationLevel;" (.ref z_SNAPSHOT) := q63.wr W73
  have q81 : Exa Z h73 z_SNAPSHOT "com/example/interleave/interleave/IsolationLevel" := q64.wr W73
  have q82 : Sta Z h73 "com/example/interleave/interleave/IsolationLevel" "SERIALIZABLE" "Lcom/example/interleave/interleave/IsolationLevel;" (.ref z_SERIALIZABLE) := q65.wr W73
  have q83 : Exa Z h73 z_SERIALIZABLE "com/example/interleave/interleave/IsolationLevel" := q66.wr W73
  have q84 : Arv Z h73 b1 k1 (.object "com/example/interleave/interleave/IsolationLevel") (6 : Int32) [.null, (.ref z_READ_UNCOMMITTED), (.ref z_READ_COMMITTED), (.ref z_REPEATABLE_READ), .null, .null] .null := Arv.set Aro71 qco71 So71 Mo71 Ho71 Go71 rfl W73 3 rfl (Nat.le_of_ble_eq_true rfl)
  have Z85 : n0 ≤ h73.size := Nat.le_trans Z68 (Keep.of_wr W73).1
  have N86 := Fr.snoc X73 N69 g7
  refine Go.of st73 ?_
  show Go p e below Qo T73 (mkF m 27 #[.val (.int i1), .val (.int i2), .unset, .unset, .unset, .unset, .unset, .unset] [(.ref b1)])
  refine Go.of (fun t k => XS.dup X73.here hx rfl (hb hby at_27) rfl rfl k) ?_
  show Go p e below Qo T73 (mkF m 28 #[.val (.int i1), .val (.int i2), .unset, .unset, .unset, .unset, .unset, .unset] [(.ref b1), (.ref b1)])
  refine Go.of (fun t k => XS.iconst X73.here hx rfl (hb hby at_28) k) ?_
  show Go p e below Qo T73 (mkF m 29 #[.val (.int i1), .val (.int i2), .unset, .unset, .unset, .unset, .unset, .unset] [(.int (4 : Int32)), (.ref b1), (.ref b1)])
  obtain ⟨T87, X87, e87, st87⟩ := getS X73 hx hZ (host := "") hown (hw _ (List.mem_of_getElem? (i := 10) rfl)) Via.refl e73 q80 (g := (mkF m 29 #[.val (.int i1), .val (.int i2), .unset, .unset, .unset, .unset, .unset, .unset] [(.int (4 : Int32)), (.ref b1), (.ref b1)])) rfl (hb hby at_29)
  refine Go.of st87 ?_
  show Go p e below Qo T87 (mkF m 32 #[.val (.int i1), .val (.int i2), .unset, .unset, .unset, .unset, .unset, .unset] [(.ref z_SNAPSHOT), (.int (4 : Int32)), (.ref b1), (.ref b1)])
  have cpo88 := q84
  obtain ⟨clo88, Aro88, qco88, So88, Mo88, Ho88, Go88⟩ := cpo88
  have hin89 : ¬ ((4 : Int32) < 0 ∨ clo88.slots.size ≤ (4 : Int32).toNatClampNeg) := (inb_of So88 ⟨by decide, by decide⟩)
  obtain ⟨T90, h90, X90, e90, W90, st90⟩ := stR X87 hx hZ e87 Aro88 (j := (4 : Int32)) hin89 rfl (Sto.ofV Aro88 qco88 O1 (Ins.self q81)) (g := (mkF m 32 #[.val (.int i1), .val (.int i2), .unset, .unset, .unset, .unset, .unset, .unset] [(.ref z_SNAPSHOT), (.int (4 : Int32)), (.ref b1), (.ref b1)])) rfl rfl (hb hby at_32)
  have q91 : Sta Z h90 "com/example/interleave/interleave/IsolationLevel" "READ_UNCOMMITTED" "Lcom/example/interleave/interleave/IsolationLevel;" (.ref z_READ_UNCOMMITTED) := q74.wr W90
  have q92 : Exa Z h90 z_READ_UNCOMMITTED "com/example/interleave/interleave/IsolationLevel" := q75.wr W90
  have q93 : Sta Z h90 "com/example/interleave/interleave/IsolationLevel" "READ_COMMITTED" "Lcom/example/interleave/interleave/IsolationLevel;" (.ref z_READ_COMMITTED) := q76.wr W90
  have q94 : Exa Z h90 z_READ_COMMITTED "com/example/interleave/interleave/IsolationLevel" := q77.wr W90
  have q95 : Sta Z h90 "com/example/interleave/interleave/IsolationLevel" "REPEATABLE_READ" "Lcom/example/interleave/interleave/IsolationLevel;" (.ref z_REPEATABLE_READ) := q78.wr W90
  have q96 : Exa Z h90 z_REPEATABLE_READ "com/example/interleave/interleave/IsolationLevel" := q79.wr W90
  have q97 : Sta Z h90 "com/example/interleave/interleave/IsolationLevel" "SNAPSHOT" "Lcom/example/interleave/interleave/IsolationLevel;" (.ref z_SNAPSHOT) := q80.wr W90
  have q98 : Exa Z h90 z_SNAPSHOT "com/example/interleave/interleave/IsolationLevel" := q81.wr W90
  have q99 : Sta Z h90 "com/example/interleave/interleave/IsolationLevel" "SERIALIZABLE" "Lcom/example/interleave/interleave/IsolationLevel;" (.ref z_SERIALIZABLE) := q82.wr W90
  have q100 : Exa Z h90 z_SERIALIZABLE "com/example/interleave/interleave/IsolationLevel" := q83.wr W90
  have q101 : Arv Z h90 b1 k1 (.object "com/example/interleave/interleave/IsolationLevel") (6 : Int32) [.null, (.ref z_READ_UNCOMMITTED), (.ref z_READ_COMMITTED), (.ref z_REPEATABLE_READ), (.ref z_SNAPSHOT), .null] .null := Arv.set Aro88 qco88 So88 Mo88 Ho88 Go88 rfl W90 4 rfl (Nat.le_of_ble_eq_true rfl)
  have Z102 : n0 ≤ h90.size := Nat.le_trans Z85 (Keep.of_wr W90).1
  have N103 := Fr.snoc X90 N86 g7
  refine Go.of st90 ?_
  show Go p e below Qo T90 (mkF m 33 #[.val (.int i1), .val (.int i2), .unset, .unset, .unset, .unset, .unset, .unset] [(.ref b1)])
  refine Go.of (fun t k => XS.dup X90.here hx rfl (hb hby at_33) rfl rfl k) ?_
  show Go p e below Qo T90 (mkF m 34 #[.val (.int i1), .val (.int i2), .unset, .unset, .unset, .unset, .unset, .unset] [(.ref b1), (.ref b1)])
  refine Go.of (fun t k => XS.iconst X90.here hx rfl (hb hby at_34) k) ?_
  show Go p e below Qo T90 (mkF m 35 #[.val (.int i1), .val (.int i2), .unset, .unset, .unset, .unset, .unset, .unset] [(.int (5 : Int32)), (.ref b1), (.ref b1)])
  obtain ⟨T104, X104, e104, st104⟩ := getS X90 hx hZ (host := "") hown (hw _ (List.mem_of_getElem? (i := 12) rfl)) Via.refl e90 q99 (g := (mkF m 35 #[.val (.int i1), .val (.int i2), .unset, .unset, .unset, .unset, .unset, .unset] [(.int (5 : Int32)), (.ref b1), (.ref b1)])) rfl (hb hby at_35)
  refine Go.of st104 ?_
  show Go p e below Qo T104 (mkF m 38 #[.val (.int i1), .val (.int i2), .unset, .unset, .unset, .unset, .unset, .unset] [(.ref z_SERIALIZABLE), (.int (5 : Int32)), (.ref b1), (.ref b1)])
  have cpo105 := q101
  obtain ⟨clo105, Aro105, qco105, So105, Mo105, Ho105, Go105⟩ := cpo105
  have hin106 : ¬ ((5 : Int32) < 0 ∨ clo105.slots.size ≤ (5 : Int32).toNatClampNeg) := (inb_of So105 ⟨by decide, by decide⟩)
  obtain ⟨T107, h107, X107, e107, W107, st107⟩ := stR X104 hx hZ e104 Aro105 (j := (5 : Int32)) hin106 rfl (Sto.ofV Aro105 qco105 O1 (Ins.self q100)) (g := (mkF m 38 #[.val (.int i1), .val (.int i2), .unset, .unset, .unset, .unset, .unset, .unset] [(.ref z_SERIALIZABLE), (.int (5 : Int32)), (.ref b1), (.ref b1)])) rfl rfl (hb hby at_38)
  have q108 : Sta Z h107 "com/example/interleave/interleave/IsolationLevel" "READ_UNCOMMITTED" "Lcom/example/interleave/interleave/IsolationLevel;" (.ref z_READ_UNCOMMITTED) := q91.wr W107
  have q109 : Exa Z h107 z_READ_UNCOMMITTED "com/example/interleave/interleave/IsolationLevel" := q92.wr W107
  have q110 : Sta Z h107 "com/example/interleave/interleave/IsolationLevel" "READ_COMMITTED" "Lcom/example/interleave/interleave/IsolationLevel;" (.ref z_READ_COMMITTED) := q93.wr W107
  have q111 : Exa Z h107 z_READ_COMMITTED "com/example/interleave/interleave/IsolationLevel" := q94.wr W107
  have q112 : Sta Z h107 "com/example/interleave/interleave/IsolationLevel" "REPEATABLE_READ" "Lcom/example/interleave/interleave/IsolationLevel;" (.ref z_REPEATABLE_READ) := q95.wr W107
  have q113 : Exa Z h107 z_REPEATABLE_READ "com/example/interleave/interleave/IsolationLevel" := q96.wr W107
  have q114 : Sta Z h107 "com/example/interleave/interleave/IsolationLevel" "SNAPSHOT" "Lcom/example/interleave/interleave/IsolationLevel;" (.ref z_SNAPSHOT) := q97.wr W107
  have q115 : Exa Z h107 z_SNAPSHOT "com/example/interleave/interleave/IsolationLevel" := q98.wr W107
  have q116 : Sta Z h107 "com/example/interleave/interleave/IsolationLevel" "SERIALIZABLE" "Lcom/example/interleave/interleave/IsolationLevel;" (.ref z_SERIALIZABLE) := q99.wr W107
  have q117 : Exa Z h107 z_SERIALIZABLE "com/example/interleave/interleave/IsolationLevel" := q100.wr W107
  have q118 : Arv Z h107 b1 k1 (.object "com/example/interleave/interleave/IsolationLevel") (6 : Int32) [.null, (.ref z_READ_UNCOMMITTED), (.ref z_READ_COMMITTED), (.ref z_REPEATABLE_READ), (.ref z_SNAPSHOT), (.ref z_SERIALIZABLE)] .null := Arv.set Aro105 qco105 So105 Mo105 Ho105 Go105 rfl W107 5 rfl (Nat.le_of_ble_eq_true rfl)
  have Z119 : n0 ≤ h107.size := Nat.le_trans Z102 (Keep.of_wr W107).1
  have N120 := Fr.snoc X107 N103 g7
  refine Go.of st107 ?_
  show Go p e below Qo T107 (mkF m 39 #[.val (.int i1), .val (.int i2), .unset, .unset, .unset, .unset, .unset, .unset] [(.ref b1)])
  refine Go.of (fun t k => XS.astoreN X107.here hx rfl (hb hby at_39) rfl rfl (l' := #[.val (.int i1), .val (.int i2), .val (.ref b1), .unset, .unset, .unset, .unset, .unset]) rfl k) ?_
  show Go p e below Qo T107 (mkF m 40 #[.val (.int i1), .val (.int i2), .val (.ref b1), .unset, .unset, .unset, .unset, .unset] [])
  refine Go.of (fun t k => XS.iloadN X107.here hx rfl (hb hby at_40) rfl  k) ?_
  show Go p e below Qo T107 (mkF m 41 #[.val (.int i1), .val (.int i2), .val (.ref b1), .unset, .unset, .unset, .unset, .unset] [(.int i1)])
  refine Go.of (fun t k => X107.ldcInt hx hown (mvT hZ (hw _ (List.mem_of_getElem? (i := 14) rfl))) (g := (mkF m 41 #[.val (.int i1), .val (.int i2), .val (.ref b1), .unset, .unset, .unset, .unset, .unset] [(.int i1)])) rfl (hb hby at_41) t k) ?_
  show Go p e below Qo T107 (mkF m 43 #[.val (.int i1), .val (.int i2), .val (.ref b1), .unset, .unset, .unset, .unset, .unset] [(.int (2147483647 : Int32)), (.int i1)])
  refine Go.of (fun t k => XS.iand X107.here hx rfl (hb hby at_43) rfl k) ?_
  show Go p e below Qo T107 (mkF m 44 #[.val (.int i1), .val (.int i2), .val (.ref b1), .unset, .unset, .unset, .unset, .unset] [(.int (i1 &&& (2147483647 : Int32)))])
  refine Go.of (fun t k => XS.bipush X107.here hx rfl (hb hby at_44) k) ?_
  show Go p e below Qo T107 (mkF m 46 #[.val (.int i1), .val (.int i2), .val (.ref b1), .unset, .unset, .unset, .unset, .unset] [(.int (6 : Int32)), (.int (i1 &&& (2147483647 : Int32)))])
  refine Go.of (fun t k => iremM X107 hx rfl (hb hby at_46) rfl (by decide) k) ?_
  show Go p e below Qo T107 (mkF m 47 #[.val (.int i1), .val (.int i2), .val (.ref b1), .unset, .unset, .unset, .unset, .unset] [(.int ((i1 &&& (2147483647 : Int32)) % (6 : Int32)))])
  refine Go.of (fun t k => XS.istoreN X107.here hx rfl (hb hby at_47) rfl (l' := #[.val (.int i1), .val (.int i2), .val (.ref b1), .val (.int ((i1 &&& (2147483647 : Int32)) % (6 : Int32))), .unset, .unset, .unset, .unset]) rfl k) ?_
  show Go p e below Qo T107 (mkF m 48 #[.val (.int i1), .val (.int i2), .val (.ref b1), .val (.int ((i1 &&& (2147483647 : Int32)) % (6 : Int32))), .unset, .unset, .unset, .unset] [])
  refine Go.of (fun t k => XS.iloadN X107.here hx rfl (hb hby at_48) rfl  k) ?_
  show Go p e below Qo T107 (mkF m 49 #[.val (.int i1), .val (.int i2), .val (.ref b1), .val (.int ((i1 &&& (2147483647 : Int32)) % (6 : Int32))), .unset, .unset, .unset, .unset] [(.int i2)])
  refine Go.of (fun t k => X107.ldcInt hx hown (mvT hZ (hw _ (List.mem_of_getElem? (i := 14) rfl))) (g := (mkF m 49 #[.val (.int i1), .val (.int i2), .val (.ref b1), .val (.int ((i1 &&& (2147483647 : Int32)) % (6 : Int32))), .unset, .unset, .unset, .unset] [(.int i2)])) rfl (hb hby at_49) t k) ?_
  show Go p e below Qo T107 (mkF m 51 #[.val (.int i1), .val (.int i2), .val (.ref b1), .val (.int ((i1 &&& (2147483647 : Int32)) % (6 : Int32))), .unset, .unset, .unset, .unset] [(.int (2147483647 : Int32)), (.int i2)])
  refine Go.of (fun t k => XS.iand X107.here hx rfl (hb hby at_51) rfl k) ?_
  show Go p e below Qo T107 (mkF m 52 #[.val (.int i1), .val (.int i2), .val (.ref b1), .val (.int ((i1 &&& (2147483647 : Int32)) % (6 : Int32))), .unset, .unset, .unset, .unset] [(.int (i2 &&& (2147483647 : Int32)))])
  refine Go.of (fun t k => XS.bipush X107.here hx rfl (hb hby at_52) k) ?_
  show Go p e below Qo T107 (mkF m 54 #[.val (.int i1), .val (.int i2), .val (.ref b1), .val (.int ((i1 &&& (2147483647 : Int32)) % (6 : Int32))), .unset, .unset, .unset, .unset] [(.int (6 : Int32)), (.int (i2 &&& (2147483647 : Int32)))])
  refine Go.of (fun t k => iremM X107 hx rfl (hb hby at_54) rfl (by decide) k) ?_
  show Go p e below Qo T107 (mkF m 55 #[.val (.int i1), .val (.int i2), .val (.ref b1), .val (.int ((i1 &&& (2147483647 : Int32)) % (6 : Int32))), .unset, .unset, .unset, .unset] [(.int ((i2 &&& (2147483647 : Int32)) % (6 : Int32)))])
  refine Go.of (fun t k => XS.istore X107.here hx rfl (hb hby at_55) rfl (l' := #[.val (.int i1), .val (.int i2), .val (.ref b1), .val (.int ((i1 &&& (2147483647 : Int32)) % (6 : Int32))), .val (.int ((i2 &&& (2147483647 : Int32)) % (6 : Int32))), .unset, .unset, .unset]) rfl k) ?_
  show Go p e below Qo T107 (mkF m 57 #[.val (.int i1), .val (.int i2), .val (.ref b1), .val (.int ((i1 &&& (2147483647 : Int32)) % (6 : Int32))), .val (.int ((i2 &&& (2147483647 : Int32)) % (6 : Int32))), .unset, .unset, .unset] [])
  rcases own_six i1 with qv121 | qv121 | qv121 | qv121 | qv121 | qv121
  · rw [qv121]
    show Go p e below Qo T107 (mkF m 57 #[.val (.int i1), .val (.int i2), .val (.ref b1), .val (.int (0 : Int32)), .val (.int ((i2 &&& (2147483647 : Int32)) % (6 : Int32))), .unset, .unset, .unset] [])
    obtain ⟨T122, h122, X122, e122, E122, A122, D122, -, st122⟩ := newO X107 hx hZ hown (hw _ (List.mem_of_getElem? (i := 15) rfl)) (hw _ (List.mem_of_getElem? (i := 16) rfl)) (hw _ (List.mem_of_getElem? (i := 17) rfl)) e107 (g := (mkF m 57 #[.val (.int i1), .val (.int i2), .val (.ref b1), .val (.int (0 : Int32)), .val (.int ((i2 &&& (2147483647 : Int32)) % (6 : Int32))), .unset, .unset, .unset] [])) rfl (hb hby at_57) (by decide) (by decide)
    obtain ⟨b122, g122⟩ : ∃ z, z = h107.size := ⟨_, rfl⟩
    rw [← g122] at A122 D122 st122
    have ne123 : z_READ_UNCOMMITTED ≠ b122 := Nat.ne_of_lt (Nat.lt_of_lt_of_le q109.lt (Nat.le_of_eq g122.symm))
    have ne124 : z_READ_COMMITTED ≠ b122 := Nat.ne_of_lt (Nat.lt_of_lt_of_le q111.lt (Nat.le_of_eq g122.symm))
    have ne125 : z_REPEATABLE_READ ≠ b122 := Nat.ne_of_lt (Nat.lt_of_lt_of_le q113.lt (Nat.le_of_eq g122.symm))
    have ne126 : z_SNAPSHOT ≠ b122 := Nat.ne_of_lt (Nat.lt_of_lt_of_le q115.lt (Nat.le_of_eq g122.symm))
    have ne127 : z_SERIALIZABLE ≠ b122 := Nat.ne_of_lt (Nat.lt_of_lt_of_le q117.lt (Nat.le_of_eq g122.symm))
    have ne128 : b1 ≠ b122 := Nat.ne_of_lt (Nat.lt_of_lt_of_le q118.lt (Nat.le_of_eq g122.symm))
    have g129 : n0 ≤ b122 := Nat.le_trans Z119 (Nat.le_of_eq g122.symm)
    have q130 : Sta Z h122 "com/example/interleave/interleave/IsolationLevel" "READ_UNCOMMITTED" "Lcom/example/interleave/interleave/IsolationLevel;" (.ref z_READ_UNCOMMITTED) := q108.ext E122
    have q131 : Exa Z h122 z_READ_UNCOMMITTED "com/example/interleave/interleave/IsolationLevel" := q109.ext E122
    have q132 : Sta Z h122 "com/example/interleave/interleave/IsolationLevel" "READ_COMMITTED" "Lcom/example/interleave/interleave/IsolationLevel;" (.ref z_READ_COMMITTED) := q110.ext E122
    have q133 : Exa Z h122 z_READ_COMMITTED "com/example/interleave/interleave/IsolationLevel" := q111.ext E122
    have q134 : Sta Z h122 "com/example/interleave/interleave/IsolationLevel" "REPEATABLE_READ" "Lcom/example/interleave/interleave/IsolationLevel;" (.ref z_REPEATABLE_READ) := q112.ext E122
    have q135 : Exa Z h122 z_REPEATABLE_READ "com/example/interleave/interleave/IsolationLevel" := q113.ext E122
    have q136 : Sta Z h122 "com/example/interleave/interleave/IsolationLevel" "SNAPSHOT" "Lcom/example/interleave/interleave/IsolationLevel;" (.ref z_SNAPSHOT) := q114.ext E122
    have q137 : Exa Z h122 z_SNAPSHOT "com/example/interleave/interleave/IsolationLevel" := q115.ext E122
    have q138 : Sta Z h122 "com/example/interleave/interleave/IsolationLevel" "SERIALIZABLE" "Lcom/example/interleave/interleave/IsolationLevel;" (.ref z_SERIALIZABLE) := q116.ext E122
    have q139 : Exa Z h122 z_SERIALIZABLE "com/example/interleave/interleave/IsolationLevel" := q117.ext E122
    have q140 : Arv Z h122 b1 k1 (.object "com/example/interleave/interleave/IsolationLevel") (6 : Int32) [.null, (.ref z_READ_UNCOMMITTED), (.ref z_READ_COMMITTED), (.ref z_REPEATABLE_READ), (.ref z_SNAPSHOT), (.ref z_SERIALIZABLE)] .null := q118.ext E122
    have Z141 : n0 ≤ h122.size := Nat.le_trans Z119 E122.1
    have q142 : Fld Z h122 b122 "com/example/interleave/interleave/schedule/Instruction$Begin" "level" "Lcom/example/interleave/interleave/IsolationLevel;" .null := D122 (Or.inr (hw _ (List.mem_of_getElem? (i := 30) rfl))) (ty := (.object "com/example/interleave/interleave/IsolationLevel")) (by decide)
    refine Go.of st122 ?_
    show Go p e below Qo T122 (mkF m 60 #[.val (.int i1), .val (.int i2), .val (.ref b1), .val (.int (0 : Int32)), .val (.int ((i2 &&& (2147483647 : Int32)) % (6 : Int32))), .unset, .unset, .unset] [(.ref b122)])
    refine Go.of (fun t k => XS.dup X122.here hx rfl (hb hby at_60) rfl rfl k) ?_
    show Go p e below Qo T122 (mkF m 61 #[.val (.int i1), .val (.int i2), .val (.ref b1), .val (.int (0 : Int32)), .val (.int ((i2 &&& (2147483647 : Int32)) % (6 : Int32))), .unset, .unset, .unset] [(.ref b122), (.ref b122)])
    refine Go.of (fun t k => XS.aloadN X122.here hx rfl (hb hby at_61) rfl rfl k) ?_
    show Go p e below Qo T122 (mkF m 62 #[.val (.int i1), .val (.int i2), .val (.ref b1), .val (.int (0 : Int32)), .val (.int ((i2 &&& (2147483647 : Int32)) % (6 : Int32))), .unset, .unset, .unset] [(.ref b1), (.ref b122), (.ref b122)])
    refine Go.of (fun t k => XS.iloadN X122.here hx rfl (hb hby at_62) rfl  k) ?_
    show Go p e below Qo T122 (mkF m 63 #[.val (.int i1), .val (.int i2), .val (.ref b1), .val (.int (0 : Int32)), .val (.int ((i2 &&& (2147483647 : Int32)) % (6 : Int32))), .unset, .unset, .unset] [(.int (0 : Int32)), (.ref b1), (.ref b122), (.ref b122)])
    have cpo143 := q140
    obtain ⟨clo143, Aro143, qco143, So143, Mo143, Ho143, Go143⟩ := cpo143
    have hin144 : ¬ ((0 : Int32) < 0 ∨ clo143.slots.size ≤ (0 : Int32).toNatClampNeg) := (inb_of So143 ⟨by decide, by decide⟩)
    refine Go.of (fun t k => X122.aaload hx (j := (0 : Int32)) (v := .null) (by rw [e122]; exact Aro143.1) (State.isArrayOf_alike hZ.alike Aro143.2.1) rfl Aro143.2.2 hin144 (Ho143.at hin144 rfl) (g := (mkF m 63 #[.val (.int i1), .val (.int i2), .val (.ref b1), .val (.int (0 : Int32)), .val (.int ((i2 &&& (2147483647 : Int32)) % (6 : Int32))), .unset, .unset, .unset] [(.int (0 : Int32)), (.ref b1), (.ref b122), (.ref b122)])) rfl rfl (hb hby at_63) t k) ?_
    show Go p e below Qo T122 (mkF m 64 #[.val (.int i1), .val (.int i2), .val (.ref b1), .val (.int (0 : Int32)), .val (.int ((i2 &&& (2147483647 : Int32)) % (6 : Int32))), .unset, .unset, .unset] [.null, (.ref b122), (.ref b122)])
    obtain ⟨_, _, ⟨T145, L145, k145, n145⟩, -, X145, ⟨Lc145, hQ145, l145, y145, z145⟩, st145⟩ := X122.specialBack hx (y := (⟨"com/example/interleave/interleave/schedule/Instruction$Begin", "<init>", "(Lcom/example/interleave/interleave/IsolationLevel;)V"⟩ : MethodName)) rfl hown (mvT hZ (hw _ (List.mem_of_getElem? (i := 18) rfl))) (mvT hZ (hw _ (List.mem_of_getElem? (i := 19) rfl))) (mvT hZ (hw _ (List.mem_of_getElem? (i := 20) rfl))) (by decide) (backOf (W := 1) (rm1 l Z a0 hw [] b122 .null .null h122 n0 Z141 A122 q142 g129 rfl) hZ (hw _ (List.mem_of_getElem? (i := 20) rfl)) (hw _ (List.mem_of_getElem? (i := 17) rfl)) (by decide) (by decide)) (g := (mkF m 64 #[.val (.int i1), .val (.int i2), .val (.ref b1), .val (.int (0 : Int32)), .val (.int ((i2 &&& (2147483647 : Int32)) % (6 : Int32))), .unset, .unset, .unset] [.null, (.ref b122), (.ref b122)])) rfl (by rw [hml]; rfl) (Steps.refl _) (a := b122) (argsL := [.null]) (rest := [(.ref b122)]) (lenOf pd_1 rfl) rfl (by show 2 * 0 + _ ≤ _; exact Nat.le_of_eq rfl) (hb hby at_64) (fun _ _ => ⟨rfl, e122, (by decide : 2 + 0 ≤ _), (by decide : 7 + 0 ≤ _)⟩)
    dsimp only [Pt.U, Pt.locs, Pt.cells, Pt.slots] at X145 l145 y145 z145 st145 hQ145
    subst l145 y145 z145
    obtain ⟨rfl, N146, Kc147, q148, q149⟩ := hQ145
    have N150 := Fr.app N120 N146
    have q151 : Sta Z T145.heap "com/example/interleave/interleave/IsolationLevel" "READ_UNCOMMITTED" "Lcom/example/interleave/interleave/IsolationLevel;" (.ref z_READ_UNCOMMITTED) := own_staKeep q130 Kc147 (allS (own_plainE A122) all0)
    have q152 : Exa Z T145.heap z_READ_UNCOMMITTED "com/example/interleave/interleave/IsolationLevel" := q131.keep Kc147
    have q153 : Sta Z T145.heap "com/example/interleave/interleave/IsolationLevel" "READ_COMMITTED" "Lcom/example/interleave/interleave/IsolationLevel;" (.ref z_READ_COMMITTED) := own_staKeep q132 Kc147 (allS (own_plainE A122) all0)
    have q154 : Exa Z T145.heap z_READ_COMMITTED "com/example/interleave/interleave/IsolationLevel" := q133.keep Kc147
    have q155 : Sta Z T145.heap "com/example/interleave/interleave/IsolationLevel" "REPEATABLE_READ" "Lcom/example/interleave/interleave/IsolationLevel;" (.ref z_REPEATABLE_READ) := own_staKeep q134 Kc147 (allS (own_plainE A122) all0)
    have q156 : Exa Z T145.heap z_REPEATABLE_READ "com/example/interleave/interleave/IsolationLevel" := q135.keep Kc147
    have q157 : Sta Z T145.heap "com/example/interleave/interleave/IsolationLevel" "SNAPSHOT" "Lcom/example/interleave/interleave/IsolationLevel;" (.ref z_SNAPSHOT) := own_staKeep q136 Kc147 (allS (own_plainE A122) all0)
    have q158 : Exa Z T145.heap z_SNAPSHOT "com/example/interleave/interleave/IsolationLevel" := q137.keep Kc147
    have q159 : Sta Z T145.heap "com/example/interleave/interleave/IsolationLevel" "SERIALIZABLE" "Lcom/example/interleave/interleave/IsolationLevel;" (.ref z_SERIALIZABLE) := own_staKeep q138 Kc147 (allS (own_plainE A122) all0)
    have q160 : Exa Z T145.heap z_SERIALIZABLE "com/example/interleave/interleave/IsolationLevel" := q139.keep Kc147
    have q161 : Arv Z T145.heap b1 k1 (.object "com/example/interleave/interleave/IsolationLevel") (6 : Int32) [.null, (.ref z_READ_UNCOMMITTED), (.ref z_READ_COMMITTED), (.ref z_REPEATABLE_READ), (.ref z_SNAPSHOT), (.ref z_SERIALIZABLE)] .null := q140.keep Kc147 (ninS ne128 nin0)
    have Z162 : n0 ≤ T145.heap.size := Nat.le_trans Z141 Kc147.1
    refine Go.via st145 ?_
    show Go p e below Qo T145 (mkF m 67 #[.val (.int i1), .val (.int i2), .val (.ref b1), .val (.int (0 : Int32)), .val (.int ((i2 &&& (2147483647 : Int32)) % (6 : Int32))), .unset, .unset, .unset] [(.ref b122)])
    refine Go.of (fun t k => XS.astore X145.here hx rfl (hb hby at_67) rfl rfl (l' := #[.val (.int i1), .val (.int i2), .val (.ref b1), .val (.int (0 : Int32)), .val (.int ((i2 &&& (2147483647 : Int32)) % (6 : Int32))), .val (.ref b122), .unset, .unset]) rfl k) ?_
    show Go p e below Qo T145 (mkF m 69 #[.val (.int i1), .val (.int i2), .val (.ref b1), .val (.int (0 : Int32)), .val (.int ((i2 &&& (2147483647 : Int32)) % (6 : Int32))), .val (.ref b122), .unset, .unset] [])
    refine Go.of (fun t k => XS.aload X145.here hx rfl (hb hby at_69) rfl rfl k) ?_
    show Go p e below Qo T145 (mkF m 71 #[.val (.int i1), .val (.int i2), .val (.ref b1), .val (.int (0 : Int32)), .val (.int ((i2 &&& (2147483647 : Int32)) % (6 : Int32))), .val (.ref b122), .unset, .unset] [(.ref b122)])
    refine Go.of (fun t k => XS.aloadN X145.here hx rfl (hb hby at_71) rfl rfl k) ?_
    show Go p e below Qo T145 (mkF m 72 #[.val (.int i1), .val (.int i2), .val (.ref b1), .val (.int (0 : Int32)), .val (.int ((i2 &&& (2147483647 : Int32)) % (6 : Int32))), .val (.ref b122), .unset, .unset] [(.ref b1), (.ref b122)])
    refine Go.of (fun t k => XS.iload X145.here hx rfl (hb hby at_72) rfl  k) ?_
    show Go p e below Qo T145 (mkF m 74 #[.val (.int i1), .val (.int i2), .val (.ref b1), .val (.int (0 : Int32)), .val (.int ((i2 &&& (2147483647 : Int32)) % (6 : Int32))), .val (.ref b122), .unset, .unset] [(.int ((i2 &&& (2147483647 : Int32)) % (6 : Int32))), (.ref b1), (.ref b122)])
    rcases own_six i2 with qv163 | qv163 | qv163 | qv163 | qv163 | qv163
    · rw [qv163]
      show Go p e below Qo T145 (mkF m 74 #[.val (.int i1), .val (.int i2), .val (.ref b1), .val (.int (0 : Int32)), .val (.int (0 : Int32)), .val (.ref b122), .unset, .unset] [(.int (0 : Int32)), (.ref b1), (.ref b122)])
      have cpo164 := q161
      obtain ⟨clo164, Aro164, qco164, So164, Mo164, Ho164, Go164⟩ := cpo164
      have hin165 : ¬ ((0 : Int32) < 0 ∨ clo164.slots.size ≤ (0 : Int32).toNatClampNeg) := (inb_of So164 ⟨by decide, by decide⟩)
      refine Go.of (fun t k => X145.aaload hx (j := (0 : Int32)) (v := .null) Aro164.1 (State.isArrayOf_alike hZ.alike Aro164.2.1) rfl Aro164.2.2 hin165 (Ho164.at hin165 rfl) (g := (mkF m 74 #[.val (.int i1), .val (.int i2), .val (.ref b1), .val (.int (0 : Int32)), .val (.int (0 : Int32)), .val (.ref b122), .unset, .unset] [(.int (0 : Int32)), (.ref b1), (.ref b122)])) rfl rfl (hb hby at_74) t k) ?_
      show Go p e below Qo T145 (mkF m 75 #[.val (.int i1), .val (.int i2), .val (.ref b1), .val (.int (0 : Int32)), .val (.int (0 : Int32)), .val (.ref b122), .unset, .unset] [.null, (.ref b122)])
      obtain ⟨ciq167, kiq167, iq167a, iq167b, iq167c⟩ := isOf hZ rfl q148
      obtain ⟨_, _, ⟨T166, L166, k166, n166⟩, -, X166, ⟨Lc166, hQ166, l166, y166, z166⟩, st166⟩ := X145.virtualBack hx (y := (⟨"com/example/interleave/interleave/schedule/Instruction$Begin", "level", "(Lcom/example/interleave/interleave/IsolationLevel;)Lcom/example/interleave/interleave/IsolationLevel;"⟩ : MethodName)) (z := (⟨"com/example/interleave/interleave/schedule/Instruction$Begin", "level", "(Lcom/example/interleave/interleave/IsolationLevel;)Lcom/example/interleave/interleave/IsolationLevel;"⟩ : MethodName)) hown (mvT hZ (hw _ (List.mem_of_getElem? (i := 31) rfl))) (mvT hZ (hw _ (List.mem_of_getElem? (i := 32) rfl))) (notFace_of_selects (args := #[]) (mvT hZ (hw _ (List.mem_of_getElem? (i := 34) rfl)))) (mvT hZ (hw _ (List.mem_of_getElem? (i := 34) rfl))) (mvT hZ (hw _ (List.mem_of_getElem? (i := 33) rfl))) (by decide) (backOf (W := 0) (rm4 l Z a0 hw [] b122 .null T145.heap n0 Z162 q149 rfl) hZ (hw _ (List.mem_of_getElem? (i := 35) rfl)) (hw _ (List.mem_of_getElem? (i := 17) rfl)) (by decide) (by decide)) iq167a iq167c (g := (mkF m 75 #[.val (.int i1), .val (.int i2), .val (.ref b1), .val (.int (0 : Int32)), .val (.int (0 : Int32)), .val (.ref b122), .unset, .unset] [.null, (.ref b122)])) rfl (by rw [hml]; rfl) (Steps.refl _) (argsL := [.null]) (rest := []) (lenOf pd_2 rfl) rfl (by show 2 * 0 + _ ≤ _; exact Nat.le_of_eq rfl) (hb hby at_75) (fun _ _ => ⟨rfl, rfl, (by decide : 2 + 0 ≤ _), (by decide : 7 + 0 ≤ _)⟩)
      dsimp only [Pt.U, Pt.locs, Pt.cells, Pt.slots] at X166 l166 y166 z166 st166 hQ166
      subst l166 y166 z166
      obtain ⟨rfl, N168, eh169⟩ := hQ166
      have N170 := Fr.app N150 N168
      refine Go.via st166 ?_
      show Go p e below Qo T166 (mkF m 78 #[.val (.int i1), .val (.int i2), .val (.ref b1), .val (.int (0 : Int32)), .val (.int (0 : Int32)), .val (.ref b122), .unset, .unset] [.null])
      refine Go.of (fun t k => XS.astore X166.here hx rfl (hb hby at_78) rfl rfl (l' := #[.val (.int i1), .val (.int i2), .val (.ref b1), .val (.int (0 : Int32)), .val (.int (0 : Int32)), .val (.ref b122), .val .null, .unset]) rfl k) ?_
      show Go p e below Qo T166 (mkF m 80 #[.val (.int i1), .val (.int i2), .val (.ref b1), .val (.int (0 : Int32)), .val (.int (0 : Int32)), .val (.ref b122), .val .null, .unset] [])
      refine Go.of (fun t k => XS.iloadN X166.here hx rfl (hb hby at_80) rfl  k) ?_
      show Go p e below Qo T166 (mkF m 81 #[.val (.int i1), .val (.int i2), .val (.ref b1), .val (.int (0 : Int32)), .val (.int (0 : Int32)), .val (.ref b122), .val .null, .unset] [(.int (0 : Int32))])
      refine Go.of (fun t k => XS.ifYes X166.here hx rfl (pc0 := 81) (pc' := 88) rfl (hb hby at_81) rfl ((if0 _ _).trans (teq (by decide : (0 : Int32) = (0 : Int32))).1) (by decide) (by decide) k) ?_
      show Go p e below Qo T166 (mkF m 88 #[.val (.int i1), .val (.int i2), .val (.ref b1), .val (.int (0 : Int32)), .val (.int (0 : Int32)), .val (.ref b122), .val .null, .unset] [])
      refine Go.of (fun t k => XS.iload X166.here hx rfl (hb hby at_88) rfl  k) ?_
      show Go p e below Qo T166 (mkF m 90 #[.val (.int i1), .val (.int i2), .val (.ref b1), .val (.int (0 : Int32)), .val (.int (0 : Int32)), .val (.ref b122), .val .null, .unset] [(.int (0 : Int32))])
      refine Go.of (fun t k => XS.istore X166.here hx rfl (hb hby at_90) rfl (l' := #[.val (.int i1), .val (.int i2), .val (.ref b1), .val (.int (0 : Int32)), .val (.int (0 : Int32)), .val (.ref b122), .val .null, .val (.int (0 : Int32))]) rfl k) ?_
      show Go p e below Qo T166 (mkF m 92 #[.val (.int i1), .val (.int i2), .val (.ref b1), .val (.int (0 : Int32)), .val (.int (0 : Int32)), .val (.ref b122), .val .null, .val (.int (0 : Int32))] [])
      refine Go.of (fun t k => XS.aload X166.here hx rfl (hb hby at_92) rfl rfl k) ?_
      show Go p e below Qo T166 (mkF m 94 #[.val (.int i1), .val (.int i2), .val (.ref b1), .val (.int (0 : Int32)), .val (.int (0 : Int32)), .val (.ref b122), .val .null, .val (.int (0 : Int32))] [.null])
      refine Go.of (fun t k => XS.aloadN X166.here hx rfl (hb hby at_94) rfl rfl k) ?_
      show Go p e below Qo T166 (mkF m 95 #[.val (.int i1), .val (.int i2), .val (.ref b1), .val (.int (0 : Int32)), .val (.int (0 : Int32)), .val (.ref b122), .val .null, .val (.int (0 : Int32))] [(.ref b1), .null])
      refine Go.of (fun t k => XS.iload X166.here hx rfl (hb hby at_95) rfl  k) ?_
      show Go p e below Qo T166 (mkF m 97 #[.val (.int i1), .val (.int i2), .val (.ref b1), .val (.int (0 : Int32)), .val (.int (0 : Int32)), .val (.ref b122), .val .null, .val (.int (0 : Int32))] [(.int (0 : Int32)), (.ref b1), .null])
      have cpo171 := q161
      obtain ⟨clo171, Aro171, qco171, So171, Mo171, Ho171, Go171⟩ := cpo171
      have hin172 : ¬ ((0 : Int32) < 0 ∨ clo171.slots.size ≤ (0 : Int32).toNatClampNeg) := (inb_of So171 ⟨by decide, by decide⟩)
      refine Go.of (fun t k => X166.aaload hx (j := (0 : Int32)) (v := .null) (by rw [eh169]; exact Aro171.1) (State.isArrayOf_alike hZ.alike Aro171.2.1) rfl Aro171.2.2 hin172 (Ho171.at hin172 rfl) (g := (mkF m 97 #[.val (.int i1), .val (.int i2), .val (.ref b1), .val (.int (0 : Int32)), .val (.int (0 : Int32)), .val (.ref b122), .val .null, .val (.int (0 : Int32))] [(.int (0 : Int32)), (.ref b1), .null])) rfl rfl (hb hby at_97) t k) ?_
      show Go p e below Qo T166 (mkF m 98 #[.val (.int i1), .val (.int i2), .val (.ref b1), .val (.int (0 : Int32)), .val (.int (0 : Int32)), .val (.ref b122), .val .null, .val (.int (0 : Int32))] [.null, .null])
      refine Go.of (fun t k => Jvm.RoadKit.acmp (g := (mkF m 98 #[.val (.int i1), .val (.int i2), .val (.ref b1), .val (.int (0 : Int32)), .val (.int (0 : Int32)), .val (.ref b122), .val .null, .val (.int (0 : Int32))] [.null, .null])) X166 hx rfl rfl rfl (pc0 := 98) (pc' := 101) (same := true) rfl (hb hby at_98) rfl (decide_eq_true rfl) (by decide) (by decide) k) ?_
      show Go p e below Qo T166 (mkF m 101 #[.val (.int i1), .val (.int i2), .val (.ref b1), .val (.int (0 : Int32)), .val (.int (0 : Int32)), .val (.ref b122), .val .null, .val (.int (0 : Int32))] [])
      refine Go.of (fun t k => XS.iconst X166.here hx rfl (hb hby at_101) k) ?_
      show Go p e below Qo T166 (mkF m 102 #[.val (.int i1), .val (.int i2), .val (.ref b1), .val (.int (0 : Int32)), .val (.int (0 : Int32)), .val (.ref b122), .val .null, .val (.int (0 : Int32))] [(.int (1 : Int32))])
      refine Go.of (fun t k => XS.goto X166.here hx rfl (pc0 := 102) (pc' := 106) rfl (hb hby at_102) (by decide) (by decide) k) ?_
      show Go p e below Qo T166 (mkF m 106 #[.val (.int i1), .val (.int i2), .val (.ref b1), .val (.int (0 : Int32)), .val (.int (0 : Int32)), .val (.ref b122), .val .null, .val (.int (0 : Int32))] [(.int (1 : Int32))])
      exact own_retN X166 hx Bd.notSynchronized (t := .boolean) Bd.returns (by simp) (hb hby at_106) (fun u hu hF => hQo _ _ _ ⟨rfl, N170⟩ (own_mono hF (by decide) (by decide)))
    · rw [qv163]
      show Go p e below Qo T145 (mkF m 74 #[.val (.int i1), .val (.int i2), .val (.ref b1), .val (.int (0 : Int32)), .val (.int (1 : Int32)), .val (.ref b122), .unset, .unset] [(.int (1 : Int32)), (.ref b1), (.ref b122)])
      have cpo173 := q161
      obtain ⟨clo173, Aro173, qco173, So173, Mo173, Ho173, Go173⟩ := cpo173
      have hin174 : ¬ ((1 : Int32) < 0 ∨ clo173.slots.size ≤ (1 : Int32).toNatClampNeg) := (inb_of So173 ⟨by decide, by decide⟩)
      refine Go.of (fun t k => X145.aaload hx (j := (1 : Int32)) (v := (.ref z_READ_UNCOMMITTED)) Aro173.1 (State.isArrayOf_alike hZ.alike Aro173.2.1) rfl Aro173.2.2 hin174 (Ho173.at hin174 rfl) (g := (mkF m 74 #[.val (.int i1), .val (.int i2), .val (.ref b1), .val (.int (0 : Int32)), .val (.int (1 : Int32)), .val (.ref b122), .unset, .unset] [(.int (1 : Int32)), (.ref b1), (.ref b122)])) rfl rfl (hb hby at_74) t k) ?_
      show Go p e below Qo T145 (mkF m 75 #[.val (.int i1), .val (.int i2), .val (.ref b1), .val (.int (0 : Int32)), .val (.int (1 : Int32)), .val (.ref b122), .unset, .unset] [(.ref z_READ_UNCOMMITTED), (.ref b122)])
      obtain ⟨ciq176, kiq176, iq176a, iq176b, iq176c⟩ := isOf hZ rfl q148
      obtain ⟨_, _, ⟨T175, L175, k175, n175⟩, -, X175, ⟨Lc175, hQ175, l175, y175, z175⟩, st175⟩ := X145.virtualBack hx (y := (⟨"com/example/interleave/interleave/schedule/Instruction$Begin", "level", "(Lcom/example/interleave/interleave/IsolationLevel;)Lcom/example/interleave/interleave/IsolationLevel;"⟩ : MethodName)) (z := (⟨"com/example/interleave/interleave/schedule/Instruction$Begin", "level", "(Lcom/example/interleave/interleave/IsolationLevel;)Lcom/example/interleave/interleave/IsolationLevel;"⟩ : MethodName)) hown (mvT hZ (hw _ (List.mem_of_getElem? (i := 31) rfl))) (mvT hZ (hw _ (List.mem_of_getElem? (i := 32) rfl))) (notFace_of_selects (args := #[]) (mvT hZ (hw _ (List.mem_of_getElem? (i := 34) rfl)))) (mvT hZ (hw _ (List.mem_of_getElem? (i := 34) rfl))) (mvT hZ (hw _ (List.mem_of_getElem? (i := 33) rfl))) (by decide) (backOf (W := 0) (rm4 l Z a0 hw [] b122 (.ref z_READ_UNCOMMITTED) T145.heap n0 Z162 q149 rfl) hZ (hw _ (List.mem_of_getElem? (i := 35) rfl)) (hw _ (List.mem_of_getElem? (i := 17) rfl)) (by decide) (by decide)) iq176a iq176c (g := (mkF m 75 #[.val (.int i1), .val (.int i2), .val (.ref b1), .val (.int (0 : Int32)), .val (.int (1 : Int32)), .val (.ref b122), .unset, .unset] [(.ref z_READ_UNCOMMITTED), (.ref b122)])) rfl (by rw [hml]; rfl) (Steps.refl _) (argsL := [(.ref z_READ_UNCOMMITTED)]) (rest := []) (lenOf pd_2 rfl) rfl (by show 2 * 0 + _ ≤ _; exact Nat.le_of_eq rfl) (hb hby at_75) (fun _ _ => ⟨rfl, rfl, (by decide : 2 + 0 ≤ _), (by decide : 7 + 0 ≤ _)⟩)
      dsimp only [Pt.U, Pt.locs, Pt.cells, Pt.slots] at X175 l175 y175 z175 st175 hQ175
      subst l175 y175 z175
      obtain ⟨rfl, N177, eh178⟩ := hQ175
      have N179 := Fr.app N150 N177
      refine Go.via st175 ?_
      show Go p e below Qo T175 (mkF m 78 #[.val (.int i1), .val (.int i2), .val (.ref b1), .val (.int (0 : Int32)), .val (.int (1 : Int32)), .val (.ref b122), .unset, .unset] [(.ref z_READ_UNCOMMITTED)])
      refine Go.of (fun t k => XS.astore X175.here hx rfl (hb hby at_78) rfl rfl (l' := #[.val (.int i1), .val (.int i2), .val (.ref b1), .val (.int (0 : Int32)), .val (.int (1 : Int32)), .val (.ref b122), .val (.ref z_READ_UNCOMMITTED), .unset]) rfl k) ?_
      show Go p e below Qo T175 (mkF m 80 #[.val (.int i1), .val (.int i2), .val (.ref b1), .val (.int (0 : Int32)), .val (.int (1 : Int32)), .val (.ref b122), .val (.ref z_READ_UNCOMMITTED), .unset] [])
      refine Go.of (fun t k => XS.iloadN X175.here hx rfl (hb hby at_80) rfl  k) ?_
      show Go p e below Qo T175 (mkF m 81 #[.val (.int i1), .val (.int i2), .val (.ref b1), .val (.int (0 : Int32)), .val (.int (1 : Int32)), .val (.ref b122), .val (.ref z_READ_UNCOMMITTED), .unset] [(.int (0 : Int32))])
      refine Go.of (fun t k => XS.ifYes X175.here hx rfl (pc0 := 81) (pc' := 88) rfl (hb hby at_81) rfl ((if0 _ _).trans (teq (by decide : (0 : Int32) = (0 : Int32))).1) (by decide) (by decide) k) ?_
      show Go p e below Qo T175 (mkF m 88 #[.val (.int i1), .val (.int i2), .val (.ref b1), .val (.int (0 : Int32)), .val (.int (1 : Int32)), .val (.ref b122), .val (.ref z_READ_UNCOMMITTED), .unset] [])
      refine Go.of (fun t k => XS.iload X175.here hx rfl (hb hby at_88) rfl  k) ?_
      show Go p e below Qo T175 (mkF m 90 #[.val (.int i1), .val (.int i2), .val (.ref b1), .val (.int (0 : Int32)), .val (.int (1 : Int32)), .val (.ref b122), .val (.ref z_READ_UNCOMMITTED), .unset] [(.int (1 : Int32))])
      refine Go.of (fun t k => XS.istore X175.here hx rfl (hb hby at_90) rfl (l' := #[.val (.int i1), .val (.int i2), .val (.ref b1), .val (.int (0 : Int32)), .val (.int (1 : Int32)), .val (.ref b122), .val (.ref z_READ_UNCOMMITTED), .val (.int (1 : Int32))]) rfl k) ?_
      show Go p e below Qo T175 (mkF m 92 #[.val (.int i1), .val (.int i2), .val (.ref b1), .val (.int (0 : Int32)), .val (.int (1 : Int32)), .val (.ref b122), .val (.ref z_READ_UNCOMMITTED), .val (.int (1 : Int32))] [])
      refine Go.of (fun t k => XS.aload X175.here hx rfl (hb hby at_92) rfl rfl k) ?_
      show Go p e below Qo T175 (mkF m 94 #[.val (.int i1), .val (.int i2), .val (.ref b1), .val (.int (0 : Int32)), .val (.int (1 : Int32)), .val (.ref b122), .val (.ref z_READ_UNCOMMITTED), .val (.int (1 : Int32))] [(.ref z_READ_UNCOMMITTED)])
      refine Go.of (fun t k => XS.aloadN X175.here hx rfl (hb hby at_94) rfl rfl k) ?_
      show Go p e below Qo T175 (mkF m 95 #[.val (.int i1), .val (.int i2), .val (.ref b1), .val (.int (0 : Int32)), .val (.int (1 : Int32)), .val (.ref b122), .val (.ref z_READ_UNCOMMITTED), .val (.int (1 : Int32))] [(.ref b1), (.ref z_READ_UNCOMMITTED)])
      refine Go.of (fun t k => XS.iload X175.here hx rfl (hb hby at_95) rfl  k) ?_
      show Go p e below Qo T175 (mkF m 97 #[.val (.int i1), .val (.int i2), .val (.ref b1), .val (.int (0 : Int32)), .val (.int (1 : Int32)), .val (.ref b122), .val (.ref z_READ_UNCOMMITTED), .val (.int (1 : Int32))] [(.int (1 : Int32)), (.ref b1), (.ref z_READ_UNCOMMITTED)])
      have cpo180 := q161
      obtain ⟨clo180, Aro180, qco180, So180, Mo180, Ho180, Go180⟩ := cpo180
      have hin181 : ¬ ((1 : Int32) < 0 ∨ clo180.slots.size ≤ (1 : Int32).toNatClampNeg) := (inb_of So180 ⟨by decide, by decide⟩)
      refine Go.of (fun t k => X175.aaload hx (j := (1 : Int32)) (v := (.ref z_READ_UNCOMMITTED)) (by rw [eh178]; exact Aro180.1) (State.isArrayOf_alike hZ.alike Aro180.2.1) rfl Aro180.2.2 hin181 (Ho180.at hin181 rfl) (g := (mkF m 97 #[.val (.int i1), .val (.int i2), .val (.ref b1), .val (.int (0 : Int32)), .val (.int (1 : Int32)), .val (.ref b122), .val (.ref z_READ_UNCOMMITTED), .val (.int (1 : Int32))] [(.int (1 : Int32)), (.ref b1), (.ref z_READ_UNCOMMITTED)])) rfl rfl (hb hby at_97) t k) ?_
      show Go p e below Qo T175 (mkF m 98 #[.val (.int i1), .val (.int i2), .val (.ref b1), .val (.int (0 : Int32)), .val (.int (1 : Int32)), .val (.ref b122), .val (.ref z_READ_UNCOMMITTED), .val (.int (1 : Int32))] [(.ref z_READ_UNCOMMITTED), (.ref z_READ_UNCOMMITTED)])
      refine Go.of (fun t k => Jvm.RoadKit.acmp (g := (mkF m 98 #[.val (.int i1), .val (.int i2), .val (.ref b1), .val (.int (0 : Int32)), .val (.int (1 : Int32)), .val (.ref b122), .val (.ref z_READ_UNCOMMITTED), .val (.int (1 : Int32))] [(.ref z_READ_UNCOMMITTED), (.ref z_READ_UNCOMMITTED)])) X175 hx rfl rfl rfl (pc0 := 98) (pc' := 101) (same := true) rfl (hb hby at_98) rfl (decide_eq_true rfl) (by decide) (by decide) k) ?_
      show Go p e below Qo T175 (mkF m 101 #[.val (.int i1), .val (.int i2), .val (.ref b1), .val (.int (0 : Int32)), .val (.int (1 : Int32)), .val (.ref b122), .val (.ref z_READ_UNCOMMITTED), .val (.int (1 : Int32))] [])
      refine Go.of (fun t k => XS.iconst X175.here hx rfl (hb hby at_101) k) ?_
      show Go p e below Qo T175 (mkF m 102 #[.val (.int i1), .val (.int i2), .val (.ref b1), .val (.int (0 : Int32)), .val (.int (1 : Int32)), .val (.ref b122), .val (.ref z_READ_UNCOMMITTED), .val (.int (1 : Int32))] [(.int (1 : Int32))])
      refine Go.of (fun t k => XS.goto X175.here hx rfl (pc0 := 102) (pc' := 106) rfl (hb hby at_102) (by decide) (by decide) k) ?_
      show Go p e below Qo T175 (mkF m 106 #[.val (.int i1), .val (.int i2), .val (.ref b1), .val (.int (0 : Int32)), .val (.int (1 : Int32)), .val (.ref b122), .val (.ref z_READ_UNCOMMITTED), .val (.int (1 : Int32))] [(.int (1 : Int32))])
      exact own_retN X175 hx Bd.notSynchronized (t := .boolean) Bd.returns (by simp) (hb hby at_106) (fun u hu hF => hQo _ _ _ ⟨rfl, N179⟩ (own_mono hF (by decide) (by decide)))
    · rw [qv163]
      show Go p e below Qo T145 (mkF m 74 #[.val (.int i1), .val (.int i2), .val (.ref b1), .val (.int (0 : Int32)), .val (.int (2 : Int32)), .val (.ref b122), .unset, .unset] [(.int (2 : Int32)), (.ref b1), (.ref b122)])
      have cpo182 := q161
      obtain ⟨clo182, Aro182, qco182, So182, Mo182, Ho182, Go182⟩ := cpo182
      have hin183 : ¬ ((2 : Int32) < 0 ∨ clo182.slots.size ≤ (2 : Int32).toNatClampNeg) := (inb_of So182 ⟨by decide, by decide⟩)
      refine Go.of (fun t k => X145.aaload hx (j := (2 : Int32)) (v := (.ref z_READ_COMMITTED)) Aro182.1 (State.isArrayOf_alike hZ.alike Aro182.2.1) rfl Aro182.2.2 hin183 (Ho182.at hin183 rfl) (g := (mkF m 74 #[.val (.int i1), .val (.int i2), .val (.ref b1), .val (.int (0 : Int32)), .val (.int (2 : Int32)), .val (.ref b122), .unset, .unset] [(.int (2 : Int32)), (.ref b1), (.ref b122)])) rfl rfl (hb hby at_74) t k) ?_
      show Go p e below Qo T145 (mkF m 75 #[.val (.int i1), .val (.int i2), .val (.ref b1), .val (.int (0 : Int32)), .val (.int (2 : Int32)), .val (.ref b122), .unset, .unset] [(.ref z_READ_COMMITTED), (.ref b122)])
      obtain ⟨ciq185, kiq185, iq185a, iq185b, iq185c⟩ := isOf hZ rfl q148
      obtain ⟨_, _, ⟨T184, L184, k184, n184⟩, -, X184, ⟨Lc184, hQ184, l184, y184, z184⟩, st184⟩ := X145.virtualBack hx (y := (⟨"com/example/interleave/interleave/schedule/Instruction$Begin", "level", "(Lcom/example/interleave/interleave/IsolationLevel;)Lcom/example/interleave/interleave/IsolationLevel;"⟩ : MethodName)) (z := (⟨"com/example/interleave/interleave/schedule/Instruction$Begin", "level", "(Lcom/example/interleave/interleave/IsolationLevel;)Lcom/example/interleave/interleave/IsolationLevel;"⟩ : MethodName)) hown (mvT hZ (hw _ (List.mem_of_getElem? (i := 31) rfl))) (mvT hZ (hw _ (List.mem_of_getElem? (i := 32) rfl))) (notFace_of_selects (args := #[]) (mvT hZ (hw _ (List.mem_of_getElem? (i := 34) rfl)))) (mvT hZ (hw _ (List.mem_of_getElem? (i := 34) rfl))) (mvT hZ (hw _ (List.mem_of_getElem? (i := 33) rfl))) (by decide) (backOf (W := 0) (rm4 l Z a0 hw [] b122 (.ref z_READ_COMMITTED) T145.heap n0 Z162 q149 rfl) hZ (hw _ (List.mem_of_getElem? (i := 35) rfl)) (hw _ (List.mem_of_getElem? (i := 17) rfl)) (by decide) (by decide)) iq185a iq185c (g := (mkF m 75 #[.val (.int i1), .val (.int i2), .val (.ref b1), .val (.int (0 : Int32)), .val (.int (2 : Int32)), .val (.ref b122), .unset, .unset] [(.ref z_READ_COMMITTED), (.ref b122)])) rfl (by rw [hml]; rfl) (Steps.refl _) (argsL := [(.ref z_READ_COMMITTED)]) (rest := []) (lenOf pd_2 rfl) rfl (by show 2 * 0 + _ ≤ _; exact Nat.le_of_eq rfl) (hb hby at_75) (fun _ _ => ⟨rfl, rfl, (by decide : 2 + 0 ≤ _), (by decide : 7 + 0 ≤ _)⟩)
      dsimp only [Pt.U, Pt.locs, Pt.cells, Pt.slots] at X184 l184 y184 z184 st184 hQ184
      subst l184 y184 z184
      obtain ⟨rfl, N186, eh187⟩ := hQ184
      have N188 := Fr.app N150 N186
      refine Go.via st184 ?_
      show Go p e below Qo T184 (mkF m 78 #[.val (.int i1), .val (.int i2), .val (.ref b1), .val (.int (0 : Int32)), .val (.int (2 : Int32)), .val (.ref b122), .unset, .unset] [(.ref z_READ_COMMITTED)])
      refine Go.of (fun t k => XS.astore X184.here hx rfl (hb hby at_78) rfl rfl (l' := #[.val (.int i1), .val (.int i2), .val (.ref b1), .val (.int (0 : Int32)), .val (.int (2 : Int32)), .val (.ref b122), .val (.ref z_READ_COMMITTED), .unset]) rfl k) ?_
      show Go p e below Qo T184 (mkF m 80 #[.val (.int i1), .val (.int i2), .val (.ref b1), .val (.int (0 : Int32)), .val (.int (2 : Int32)), .val (.ref b122), .val (.ref z_READ_COMMITTED), .unset] [])
      refine Go.of (fun t k => XS.iloadN X184.here hx rfl (hb hby at_80) rfl  k) ?_
      show Go p e below Qo T184 (mkF m 81 #[.val (.int i1), .val (.int i2), .val (.ref b1), .val (.int (0 : Int32)), .val (.int (2 : Int32)), .val (.ref b122), .val (.ref z_READ_COMMITTED), .unset] [(.int (0 : Int32))])
      refine Go.of (fun t k => XS.ifYes X184.here hx rfl (pc0 := 81) (pc' := 88) rfl (hb hby at_81) rfl ((if0 _ _).trans (teq (by decide : (0 : Int32) = (0 : Int32))).1) (by decide) (by decide) k) ?_
      show Go p e below Qo T184 (mkF m 88 #[.val (.int i1), .val (.int i2), .val (.ref b1), .val (.int (0 : Int32)), .val (.int (2 : Int32)), .val (.ref b122), .val (.ref z_READ_COMMITTED), .unset] [])
      refine Go.of (fun t k => XS.iload X184.here hx rfl (hb hby at_88) rfl  k) ?_
      show Go p e below Qo T184 (mkF m 90 #[.val (.int i1), .val (.int i2), .val (.ref b1), .val (.int (0 : Int32)), .val (.int (2 : Int32)), .val (.ref b122), .val (.ref z_READ_COMMITTED), .unset] [(.int (2 : Int32))])
      refine Go.of (fun t k => XS.istore X184.here hx rfl (hb hby at_90) rfl (l' := #[.val (.int i1), .val (.int i2), .val (.ref b1), .val (.int (0 : Int32)), .val (.int (2 : Int32)), .val (.ref b122), .val (.ref z_READ_COMMITTED), .val (.int (2 : Int32))]) rfl k) ?_
      show Go p e below Qo T184 (mkF m 92 #[.val (.int i1), .val (.int i2), .val (.ref b1), .val (.int (0 : Int32)), .val (.int (2 : Int32)), .val (.ref b122), .val (.ref z_READ_COMMITTED), .val (.int (2 : Int32))] [])
      refine Go.of (fun t k => XS.aload X184.here hx rfl (hb hby at_92) rfl rfl k) ?_
      show Go p e below Qo T184 (mkF m 94 #[.val (.int i1), .val (.int i2), .val (.ref b1), .val (.int (0 : Int32)), .val (.int (2 : Int32)), .val (.ref b122), .val (.ref z_READ_COMMITTED), .val (.int (2 : Int32))] [(.ref z_READ_COMMITTED)])
      refine Go.of (fun t k => XS.aloadN X184.here hx rfl (hb hby at_94) rfl rfl k) ?_
      show Go p e below Qo T184 (mkF m 95 #[.val (.int i1), .val (.int i2), .val (.ref b1), .val (.int (0 : Int32)), .val (.int (2 : Int32)), .val (.ref b122), .val (.ref z_READ_COMMITTED), .val (.int (2 : Int32))] [(.ref b1), (.ref z_READ_COMMITTED)])
      refine Go.of (fun t k => XS.iload X184.here hx rfl (hb hby at_95) rfl  k) ?_
      show Go p e below Qo T184 (mkF m 97 #[.val (.int i1), .val (.int i2), .val (.ref b1), .val (.int (0 : Int32)), .val (.int (2 : Int32)), .val (.ref b122), .val (.ref z_READ_COMMITTED), .val (.int (2 : Int32))] [(.int (2 : Int32)), (.ref b1), (.ref z_READ_COMMITTED)])
      have cpo189 := q161
      obtain ⟨clo189, Aro189, qco189, So189, Mo189, Ho189, Go189⟩ := cpo189
      have hin190 : ¬ ((2 : Int32) < 0 ∨ clo189.slots.size ≤ (2 : Int32).toNatClampNeg) := (inb_of So189 ⟨by decide, by decide⟩)
      refine Go.of (fun t k => X184.aaload hx (j := (2 : Int32)) (v := (.ref z_READ_COMMITTED)) (by rw [eh187]; exact Aro189.1) (State.isArrayOf_alike hZ.alike Aro189.2.1) rfl Aro189.2.2 hin190 (Ho189.at hin190 rfl) (g := (mkF m 97 #[.val (.int i1), .val (.int i2), .val (.ref b1), .val (.int (0 : Int32)), .val (.int (2 : Int32)), .val (.ref b122), .val (.ref z_READ_COMMITTED), .val (.int (2 : Int32))] [(.int (2 : Int32)), (.ref b1), (.ref z_READ_COMMITTED)])) rfl rfl (hb hby at_97) t k) ?_
      show Go p e below Qo T184 (mkF m 98 #[.val (.int i1), .val (.int i2), .val (.ref b1), .val (.int (0 : Int32)), .val (.int (2 : Int32)), .val (.ref b122), .val (.ref z_READ_COMMITTED), .val (.int (2 : Int32))] [(.ref z_READ_COMMITTED), (.ref z_READ_COMMITTED)])
      refine Go.of (fun t k => Jvm.RoadKit.acmp (g := (mkF m 98 #[.val (.int i1), .val (.int i2), .val (.ref b1), .val (.int (0 : Int32)), .val (.int (2 : Int32)), .val (.ref b122), .val (.ref z_READ_COMMITTED), .val (.int (2 : Int32))] [(.ref z_READ_COMMITTED), (.ref z_READ_COMMITTED)])) X184 hx rfl rfl rfl (pc0 := 98) (pc' := 101) (same := true) rfl (hb hby at_98) rfl (decide_eq_true rfl) (by decide) (by decide) k) ?_
      show Go p e below Qo T184 (mkF m 101 #[.val (.int i1), .val (.int i2), .val (.ref b1), .val (.int (0 : Int32)), .val (.int (2 : Int32)), .val (.ref b122), .val (.ref z_READ_COMMITTED), .val (.int (2 : Int32))] [])
      refine Go.of (fun t k => XS.iconst X184.here hx rfl (hb hby at_101) k) ?_
      show Go p e below Qo T184 (mkF m 102 #[.val (.int i1), .val (.int i2), .val (.ref b1), .val (.int (0 : Int32)), .val (.int (2 : Int32)), .val (.ref b122), .val (.ref z_READ_COMMITTED), .val (.int (2 : Int32))] [(.int (1 : Int32))])
      refine Go.of (fun t k => XS.goto X184.here hx rfl (pc0 := 102) (pc' := 106) rfl (hb hby at_102) (by decide) (by decide) k) ?_
      show Go p e below Qo T184 (mkF m 106 #[.val (.int i1), .val (.int i2), .val (.ref b1), .val (.int (0 : Int32)), .val (.int (2 : Int32)), .val (.ref b122), .val (.ref z_READ_COMMITTED), .val (.int (2 : Int32))] [(.int (1 : Int32))])
      exact own_retN X184 hx Bd.notSynchronized (t := .boolean) Bd.returns (by simp) (hb hby at_106) (fun u hu hF => hQo _ _ _ ⟨rfl, N188⟩ (own_mono hF (by decide) (by decide)))
    · rw [qv163]
      show Go p e below Qo T145 (mkF m 74 #[.val (.int i1), .val (.int i2), .val (.ref b1), .val (.int (0 : Int32)), .val (.int (3 : Int32)), .val (.ref b122), .unset, .unset] [(.int (3 : Int32)), (.ref b1), (.ref b122)])
      have cpo191 := q161
      obtain ⟨clo191, Aro191, qco191, So191, Mo191, Ho191, Go191⟩ := cpo191
      have hin192 : ¬ ((3 : Int32) < 0 ∨ clo191.slots.size ≤ (3 : Int32).toNatClampNeg) := (inb_of So191 ⟨by decide, by decide⟩)
      refine Go.of (fun t k => X145.aaload hx (j := (3 : Int32)) (v := (.ref z_REPEATABLE_READ)) Aro191.1 (State.isArrayOf_alike hZ.alike Aro191.2.1) rfl Aro191.2.2 hin192 (Ho191.at hin192 rfl) (g := (mkF m 74 #[.val (.int i1), .val (.int i2), .val (.ref b1), .val (.int (0 : Int32)), .val (.int (3 : Int32)), .val (.ref b122), .unset, .unset] [(.int (3 : Int32)), (.ref b1), (.ref b122)])) rfl rfl (hb hby at_74) t k) ?_
      show Go p e below Qo T145 (mkF m 75 #[.val (.int i1), .val (.int i2), .val (.ref b1), .val (.int (0 : Int32)), .val (.int (3 : Int32)), .val (.ref b122), .unset, .unset] [(.ref z_REPEATABLE_READ), (.ref b122)])
      obtain ⟨ciq194, kiq194, iq194a, iq194b, iq194c⟩ := isOf hZ rfl q148
      obtain ⟨_, _, ⟨T193, L193, k193, n193⟩, -, X193, ⟨Lc193, hQ193, l193, y193, z193⟩, st193⟩ := X145.virtualBack hx (y := (⟨"com/example/interleave/interleave/schedule/Instruction$Begin", "level", "(Lcom/example/interleave/interleave/IsolationLevel;)Lcom/example/interleave/interleave/IsolationLevel;"⟩ : MethodName)) (z := (⟨"com/example/interleave/interleave/schedule/Instruction$Begin", "level", "(Lcom/example/interleave/interleave/IsolationLevel;)Lcom/example/interleave/interleave/IsolationLevel;"⟩ : MethodName)) hown (mvT hZ (hw _ (List.mem_of_getElem? (i := 31) rfl))) (mvT hZ (hw _ (List.mem_of_getElem? (i := 32) rfl))) (notFace_of_selects (args := #[]) (mvT hZ (hw _ (List.mem_of_getElem? (i := 34) rfl)))) (mvT hZ (hw _ (List.mem_of_getElem? (i := 34) rfl))) (mvT hZ (hw _ (List.mem_of_getElem? (i := 33) rfl))) (by decide) (backOf (W := 0) (rm4 l Z a0 hw [] b122 (.ref z_REPEATABLE_READ) T145.heap n0 Z162 q149 rfl) hZ (hw _ (List.mem_of_getElem? (i := 35) rfl)) (hw _ (List.mem_of_getElem? (i := 17) rfl)) (by decide) (by decide)) iq194a iq194c (g := (mkF m 75 #[.val (.int i1), .val (.int i2), .val (.ref b1), .val (.int (0 : Int32)), .val (.int (3 : Int32)), .val (.ref b122), .unset, .unset] [(.ref z_REPEATABLE_READ), (.ref b122)])) rfl (by rw [hml]; rfl) (Steps.refl _) (argsL := [(.ref z_REPEATABLE_READ)]) (rest := []) (lenOf pd_2 rfl) rfl (by show 2 * 0 + _ ≤ _; exact Nat.le_of_eq rfl) (hb hby at_75) (fun _ _ => ⟨rfl, rfl, (by decide : 2 + 0 ≤ _), (by decide : 7 + 0 ≤ _)⟩)
      dsimp only [Pt.U, Pt.locs, Pt.cells, Pt.slots] at X193 l193 y193 z193 st193 hQ193
      subst l193 y193 z193
      obtain ⟨rfl, N195, eh196⟩ := hQ193
      have N197 := Fr.app N150 N195
      refine Go.via st193 ?_
      show Go p e below Qo T193 (mkF m 78 #[.val (.int i1), .val (.int i2), .val (.ref b1), .val (.int (0 : Int32)), .val (.int (3 : Int32)), .val (.ref b122), .unset, .unset] [(.ref z_REPEATABLE_READ)])
      refine Go.of (fun t k => XS.astore X193.here hx rfl (hb hby at_78) rfl rfl (l' := #[.val (.int i1), .val (.int i2), .val (.ref b1), .val (.int (0 : Int32)), .val (.int (3 : Int32)), .val (.ref b122), .val (.ref z_REPEATABLE_READ), .unset]) rfl k) ?_
      show Go p e below Qo T193 (mkF m 80 #[.val (.int i1), .val (.int i2), .val (.ref b1), .val (.int (0 : Int32)), .val (.int (3 : Int32)), .val (.ref b122), .val (.ref z_REPEATABLE_READ), .unset] [])
      refine Go.of (fun t k => XS.iloadN X193.here hx rfl (hb hby at_80) rfl  k) ?_
      show Go p e below Qo T193 (mkF m 81 #[.val (.int i1), .val (.int i2), .val (.ref b1), .val (.int (0 : Int32)), .val (.int (3 : Int32)), .val (.ref b122), .val (.ref z_REPEATABLE_READ), .unset] [(.int (0 : Int32))])
      refine Go.of (fun t k => XS.ifYes X193.here hx rfl (pc0 := 81) (pc' := 88) rfl (hb hby at_81) rfl ((if0 _ _).trans (teq (by decide : (0 : Int32) = (0 : Int32))).1) (by decide) (by decide) k) ?_
      show Go p e below Qo T193 (mkF m 88 #[.val (.int i1), .val (.int i2), .val (.ref b1), .val (.int (0 : Int32)), .val (.int (3 : Int32)), .val (.ref b122), .val (.ref z_REPEATABLE_READ), .unset] [])
      refine Go.of (fun t k => XS.iload X193.here hx rfl (hb hby at_88) rfl  k) ?_
      show Go p e below Qo T193 (mkF m 90 #[.val (.int i1), .val (.int i2), .val (.ref b1), .val (.int (0 : Int32)), .val (.int (3 : Int32)), .val (.ref b122), .val (.ref z_REPEATABLE_READ), .unset] [(.int (3 : Int32))])
      refine Go.of (fun t k => XS.istore X193.here hx rfl (hb hby at_90) rfl (l' := #[.val (.int i1), .val (.int i2), .val (.ref b1), .val (.int (0 : Int32)), .val (.int (3 : Int32)), .val (.ref b122), .val (.ref z_REPEATABLE_READ), .val (.int (3 : Int32))]) rfl k) ?_
      show Go p e below Qo T193 (mkF m 92 #[.val (.int i1), .val (.int i2), .val (.ref b1), .val (.int (0 : Int32)), .val (.int (3 : Int32)), .val (.ref b122), .val (.ref z_REPEATABLE_READ), .val (.int (3 : Int32))] [])
      refine Go.of (fun t k => XS.aload X193.here hx rfl (hb hby at_92) rfl rfl k) ?_
      show Go p e below Qo T193 (mkF m 94 #[.val (.int i1), .val (.int i2), .val (.ref b1), .val (.int (0 : Int32)), .val (.int (3 : Int32)), .val (.ref b122), .val (.ref z_REPEATABLE_READ), .val (.int (3 : Int32))] [(.ref z_REPEATABLE_READ)])
      refine Go.of (fun t k => XS.aloadN X193.here hx rfl (hb hby at_94) rfl rfl k) ?_
      show Go p e below Qo T193 (mkF m 95 #[.val (.int i1), .val (.int i2), .val (.ref b1), .val (.int (0 : Int32)), .val (.int (3 : Int32)), .val (.ref b122), .val (.ref z_REPEATABLE_READ), .val (.int (3 : Int32))] [(.ref b1), (.ref z_REPEATABLE_READ)])
      refine Go.of (fun t k => XS.iload X193.here hx rfl (hb hby at_95) rfl  k) ?_
      show Go p e below Qo T193 (mkF m 97 #[.val (.int i1), .val (.int i2), .val (.ref b1), .val (.int (0 : Int32)), .val (.int (3 : Int32)), .val (.ref b122), .val (.ref z_REPEATABLE_READ), .val (.int (3 : Int32))] [(.int (3 : Int32)), (.ref b1), (.ref z_REPEATABLE_READ)])
      have cpo198 := q161
      obtain ⟨clo198, Aro198, qco198, So198, Mo198, Ho198, Go198⟩ := cpo198
      have hin199 : ¬ ((3 : Int32) < 0 ∨ clo198.slots.size ≤ (3 : Int32).toNatClampNeg) := (inb_of So198 ⟨by decide, by decide⟩)
      refine Go.of (fun t k => X193.aaload hx (j := (3 : Int32)) (v := (.ref z_REPEATABLE_READ)) (by rw [eh196]; exact Aro198.1) (State.isArrayOf_alike hZ.alike Aro198.2.1) rfl Aro198.2.2 hin199 (Ho198.at hin199 rfl) (g := (mkF m 97 #[.val (.int i1), .val (.int i2), .val (.ref b1), .val (.int (0 : Int32)), .val (.int (3 : Int32)), .val (.ref b122), .val (.ref z_REPEATABLE_READ), .val (.int (3 : Int32))] [(.int (3 : Int32)), (.ref b1), (.ref z_REPEATABLE_READ)])) rfl rfl (hb hby at_97) t k) ?_
      show Go p e below Qo T193 (mkF m 98 #[.val (.int i1), .val (.int i2), .val (.ref b1), .val (.int (0 : Int32)), .val (.int (3 : Int32)), .val (.ref b122), .val (.ref z_REPEATABLE_READ), .val (.int (3 : Int32))] [(.ref z_REPEATABLE_READ), (.ref z_REPEATABLE_READ)])
      refine Go.of (fun t k => Jvm.RoadKit.acmp (g := (mkF m 98 #[.val (.int i1), .val (.int i2), .val (.ref b1), .val (.int (0 : Int32)), .val (.int (3 : Int32)), .val (.ref b122), .val (.ref z_REPEATABLE_READ), .val (.int (3 : Int32))] [(.ref z_REPEATABLE_READ), (.ref z_REPEATABLE_READ)])) X193 hx rfl rfl rfl (pc0 := 98) (pc' := 101) (same := true) rfl (hb hby at_98) rfl (decide_eq_true rfl) (by decide) (by decide) k) ?_
      show Go p e below Qo T193 (mkF m 101 #[.val (.int i1), .val (.int i2), .val (.ref b1), .val (.int (0 : Int32)), .val (.int (3 : Int32)), .val (.ref b122), .val (.ref z_REPEATABLE_READ), .val (.int (3 : Int32))] [])
      refine Go.of (fun t k => XS.iconst X193.here hx rfl (hb hby at_101) k) ?_
      show Go p e below Qo T193 (mkF m 102 #[.val (.int i1), .val (.int i2), .val (.ref b1), .val (.int (0 : Int32)), .val (.int (3 : Int32)), .val (.ref b122), .val (.ref z_REPEATABLE_READ), .val (.int (3 : Int32))] [(.int (1 : Int32))])
      refine Go.of (fun t k => XS.goto X193.here hx rfl (pc0 := 102) (pc' := 106) rfl (hb hby at_102) (by decide) (by decide) k) ?_
      show Go p e below Qo T193 (mkF m 106 #[.val (.int i1), .val (.int i2), .val (.ref b1), .val (.int (0 : Int32)), .val (.int (3 : Int32)), .val (.ref b122), .val (.ref z_REPEATABLE_READ), .val (.int (3 : Int32))] [(.int (1 : Int32))])
      exact own_retN X193 hx Bd.notSynchronized (t := .boolean) Bd.returns (by simp) (hb hby at_106) (fun u hu hF => hQo _ _ _ ⟨rfl, N197⟩ (own_mono hF (by decide) (by decide)))
    · rw [qv163]
      show Go p e below Qo T145 (mkF m 74 #[.val (.int i1), .val (.int i2), .val (.ref b1), .val (.int (0 : Int32)), .val (.int (4 : Int32)), .val (.ref b122), .unset, .unset] [(.int (4 : Int32)), (.ref b1), (.ref b122)])
      have cpo200 := q161
      obtain ⟨clo200, Aro200, qco200, So200, Mo200, Ho200, Go200⟩ := cpo200
      have hin201 : ¬ ((4 : Int32) < 0 ∨ clo200.slots.size ≤ (4 : Int32).toNatClampNeg) := (inb_of So200 ⟨by decide, by decide⟩)
      refine Go.of (fun t k => X145.aaload hx (j := (4 : Int32)) (v := (.ref z_SNAPSHOT)) Aro200.1 (State.isArrayOf_alike hZ.alike Aro200.2.1) rfl Aro200.2.2 hin201 (Ho200.at hin201 rfl) (g := (mkF m 74 #[.val (.int i1), .val (.int i2), .val (.ref b1), .val (.int (0 : Int32)), .val (.int (4 : Int32)), .val (.ref b122), .unset, .unset] [(.int (4 : Int32)), (.ref b1), (.ref b122)])) rfl rfl (hb hby at_74) t k) ?_
      show Go p e below Qo T145 (mkF m 75 #[.val (.int i1), .val (.int i2), .val (.ref b1), .val (.int (0 : Int32)), .val (.int (4 : Int32)), .val (.ref b122), .unset, .unset] [(.ref z_SNAPSHOT), (.ref b122)])
      obtain ⟨ciq203, kiq203, iq203a, iq203b, iq203c⟩ := isOf hZ rfl q148
      obtain ⟨_, _, ⟨T202, L202, k202, n202⟩, -, X202, ⟨Lc202, hQ202, l202, y202, z202⟩, st202⟩ := X145.virtualBack hx (y := (⟨"com/example/interleave/interleave/schedule/Instruction$Begin", "level", "(Lcom/example/interleave/interleave/IsolationLevel;)Lcom/example/interleave/interleave/IsolationLevel;"⟩ : MethodName)) (z := (⟨"com/example/interleave/interleave/schedule/Instruction$Begin", "level", "(Lcom/example/interleave/interleave/IsolationLevel;)Lcom/example/interleave/interleave/IsolationLevel;"⟩ : MethodName)) hown (mvT hZ (hw _ (List.mem_of_getElem? (i := 31) rfl))) (mvT hZ (hw _ (List.mem_of_getElem? (i := 32) rfl))) (notFace_of_selects (args := #[]) (mvT hZ (hw _ (List.mem_of_getElem? (i := 34) rfl)))) (mvT hZ (hw _ (List.mem_of_getElem? (i := 34) rfl))) (mvT hZ (hw _ (List.mem_of_getElem? (i := 33) rfl))) (by decide) (backOf (W := 0) (rm4 l Z a0 hw [] b122 (.ref z_SNAPSHOT) T145.heap n0 Z162 q149 rfl) hZ (hw _ (List.mem_of_getElem? (i := 35) rfl)) (hw _ (List.mem_of_getElem? (i := 17) rfl)) (by decide) (by decide)) iq203a iq203c (g := (mkF m 75 #[.val (.int i1), .val (.int i2), .val (.ref b1), .val (.int (0 : Int32)), .val (.int (4 : Int32)), .val (.ref b122), .unset, .unset] [(.ref z_SNAPSHOT), (.ref b122)])) rfl (by rw [hml]; rfl) (Steps.refl _) (argsL := [(.ref z_SNAPSHOT)]) (rest := []) (lenOf pd_2 rfl) rfl (by show 2 * 0 + _ ≤ _; exact Nat.le_of_eq rfl) (hb hby at_75) (fun _ _ => ⟨rfl, rfl, (by decide : 2 + 0 ≤ _), (by decide : 7 + 0 ≤ _)⟩)
      dsimp only [Pt.U, Pt.locs, Pt.cells, Pt.slots] at X202 l202 y202 z202 st202 hQ202
      subst l202 y202 z202
      obtain ⟨rfl, N204, eh205⟩ := hQ202
      have N206 := Fr.app N150 N204
      refine Go.via st202 ?_
      show Go p e below Qo T202 (mkF m 78 #[.val (.int i1), .val (.int i2), .val (.ref b1), .val (.int (0 : Int32)), .val (.int (4 : Int32)), .val (.ref b122), .unset, .unset] [(.ref z_SNAPSHOT)])
      refine Go.of (fun t k => XS.astore X202.here hx rfl (hb hby at_78) rfl rfl (l' := #[.val (.int i1), .val (.int i2), .val (.ref b1), .val (.int (0 : Int32)), .val (.int (4 : Int32)), .val (.ref b122), .val (.ref z_SNAPSHOT), .unset]) rfl k) ?_
      show Go p e below Qo T202 (mkF m 80 #[.val (.int i1), .val (.int i2), .val (.ref b1), .val (.int (0 : Int32)), .val (.int (4 : Int32)), .val (.ref b122), .val (.ref z_SNAPSHOT), .unset] [])
      refine Go.of (fun t k => XS.iloadN X202.here hx rfl (hb hby at_80) rfl  k) ?_
      show Go p e below Qo T202 (mkF m 81 #[.val (.int i1), .val (.int i2), .val (.ref b1), .val (.int (0 : Int32)), .val (.int (4 : Int32)), .val (.ref b122), .val (.ref z_SNAPSHOT), .unset] [(.int (0 : Int32))])
      refine Go.of (fun t k => XS.ifYes X202.here hx rfl (pc0 := 81) (pc' := 88) rfl (hb hby at_81) rfl ((if0 _ _).trans (teq (by decide : (0 : Int32) = (0 : Int32))).1) (by decide) (by decide) k) ?_
      show Go p e below Qo T202 (mkF m 88 #[.val (.int i1), .val (.int i2), .val (.ref b1), .val (.int (0 : Int32)), .val (.int (4 : Int32)), .val (.ref b122), .val (.ref z_SNAPSHOT), .unset] [])
      refine Go.of (fun t k => XS.iload X202.here hx rfl (hb hby at_88) rfl  k) ?_
      show Go p e below Qo T202 (mkF m 90 #[.val (.int i1), .val (.int i2), .val (.ref b1), .val (.int (0 : Int32)), .val (.int (4 : Int32)), .val (.ref b122), .val (.ref z_SNAPSHOT), .unset] [(.int (4 : Int32))])
      refine Go.of (fun t k => XS.istore X202.here hx rfl (hb hby at_90) rfl (l' := #[.val (.int i1), .val (.int i2), .val (.ref b1), .val (.int (0 : Int32)), .val (.int (4 : Int32)), .val (.ref b122), .val (.ref z_SNAPSHOT), .val (.int (4 : Int32))]) rfl k) ?_
      show Go p e below Qo T202 (mkF m 92 #[.val (.int i1), .val (.int i2), .val (.ref b1), .val (.int (0 : Int32)), .val (.int (4 : Int32)), .val (.ref b122), .val (.ref z_SNAPSHOT), .val (.int (4 : Int32))] [])
      refine Go.of (fun t k => XS.aload X202.here hx rfl (hb hby at_92) rfl rfl k) ?_
      show Go p e below Qo T202 (mkF m 94 #[.val (.int i1), .val (.int i2), .val (.ref b1), .val (.int (0 : Int32)), .val (.int (4 : Int32)), .val (.ref b122), .val (.ref z_SNAPSHOT), .val (.int (4 : Int32))] [(.ref z_SNAPSHOT)])
      refine Go.of (fun t k => XS.aloadN X202.here hx rfl (hb hby at_94) rfl rfl k) ?_
      show Go p e below Qo T202 (mkF m 95 #[.val (.int i1), .val (.int i2), .val (.ref b1), .val (.int (0 : Int32)), .val (.int (4 : Int32)), .val (.ref b122), .val (.ref z_SNAPSHOT), .val (.int (4 : Int32))] [(.ref b1), (.ref z_SNAPSHOT)])
      refine Go.of (fun t k => XS.iload X202.here hx rfl (hb hby at_95) rfl  k) ?_
      show Go p e below Qo T202 (mkF m 97 #[.val (.int i1), .val (.int i2), .val (.ref b1), .val (.int (0 : Int32)), .val (.int (4 : Int32)), .val (.ref b122), .val (.ref z_SNAPSHOT), .val (.int (4 : Int32))] [(.int (4 : Int32)), (.ref b1), (.ref z_SNAPSHOT)])
      have cpo207 := q161
      obtain ⟨clo207, Aro207, qco207, So207, Mo207, Ho207, Go207⟩ := cpo207
      have hin208 : ¬ ((4 : Int32) < 0 ∨ clo207.slots.size ≤ (4 : Int32).toNatClampNeg) := (inb_of So207 ⟨by decide, by decide⟩)
      refine Go.of (fun t k => X202.aaload hx (j := (4 : Int32)) (v := (.ref z_SNAPSHOT)) (by rw [eh205]; exact Aro207.1) (State.isArrayOf_alike hZ.alike Aro207.2.1) rfl Aro207.2.2 hin208 (Ho207.at hin208 rfl) (g := (mkF m 97 #[.val (.int i1), .val (.int i2), .val (.ref b1), .val (.int (0 : Int32)), .val (.int (4 : Int32)), .val (.ref b122), .val (.ref z_SNAPSHOT), .val (.int (4 : Int32))] [(.int (4 : Int32)), (.ref b1), (.ref z_SNAPSHOT)])) rfl rfl (hb hby at_97) t k) ?_
      show Go p e below Qo T202 (mkF m 98 #[.val (.int i1), .val (.int i2), .val (.ref b1), .val (.int (0 : Int32)), .val (.int (4 : Int32)), .val (.ref b122), .val (.ref z_SNAPSHOT), .val (.int (4 : Int32))] [(.ref z_SNAPSHOT), (.ref z_SNAPSHOT)])
      refine Go.of (fun t k => Jvm.RoadKit.acmp (g := (mkF m 98 #[.val (.int i1), .val (.int i2), .val (.ref b1), .val (.int (0 : Int32)), .val (.int (4 : Int32)), .val (.ref b122), .val (.ref z_SNAPSHOT), .val (.int (4 : Int32))] [(.ref z_SNAPSHOT), (.ref z_SNAPSHOT)])) X202 hx rfl rfl rfl (pc0 := 98) (pc' := 101) (same := true) rfl (hb hby at_98) rfl (decide_eq_true rfl) (by decide) (by decide) k) ?_
      show Go p e below Qo T202 (mkF m 101 #[.val (.int i1), .val (.int i2), .val (.ref b1), .val (.int (0 : Int32)), .val (.int (4 : Int32)), .val (.ref b122), .val (.ref z_SNAPSHOT), .val (.int (4 : Int32))] [])
      refine Go.of (fun t k => XS.iconst X202.here hx rfl (hb hby at_101) k) ?_
      show Go p e below Qo T202 (mkF m 102 #[.val (.int i1), .val (.int i2), .val (.ref b1), .val (.int (0 : Int32)), .val (.int (4 : Int32)), .val (.ref b122), .val (.ref z_SNAPSHOT), .val (.int (4 : Int32))] [(.int (1 : Int32))])
      refine Go.of (fun t k => XS.goto X202.here hx rfl (pc0 := 102) (pc' := 106) rfl (hb hby at_102) (by decide) (by decide) k) ?_
      show Go p e below Qo T202 (mkF m 106 #[.val (.int i1), .val (.int i2), .val (.ref b1), .val (.int (0 : Int32)), .val (.int (4 : Int32)), .val (.ref b122), .val (.ref z_SNAPSHOT), .val (.int (4 : Int32))] [(.int (1 : Int32))])
      exact own_retN X202 hx Bd.notSynchronized (t := .boolean) Bd.returns (by simp) (hb hby at_106) (fun u hu hF => hQo _ _ _ ⟨rfl, N206⟩ (own_mono hF (by decide) (by decide)))
    · rw [qv163]
      show Go p e below Qo T145 (mkF m 74 #[.val (.int i1), .val (.int i2), .val (.ref b1), .val (.int (0 : Int32)), .val (.int (5 : Int32)), .val (.ref b122), .unset, .unset] [(.int (5 : Int32)), (.ref b1), (.ref b122)])
      have cpo209 := q161
      obtain ⟨clo209, Aro209, qco209, So209, Mo209, Ho209, Go209⟩ := cpo209
      have hin210 : ¬ ((5 : Int32) < 0 ∨ clo209.slots.size ≤ (5 : Int32).toNatClampNeg) := (inb_of So209 ⟨by decide, by decide⟩)
      refine Go.of (fun t k => X145.aaload hx (j := (5 : Int32)) (v := (.ref z_SERIALIZABLE)) Aro209.1 (State.isArrayOf_alike hZ.alike Aro209.2.1) rfl Aro209.2.2 hin210 (Ho209.at hin210 rfl) (g := (mkF m 74 #[.val (.int i1), .val (.int i2), .val (.ref b1), .val (.int (0 : Int32)), .val (.int (5 : Int32)), .val (.ref b122), .unset, .unset] [(.int (5 : Int32)), (.ref b1), (.ref b122)])) rfl rfl (hb hby at_74) t k) ?_
      show Go p e below Qo T145 (mkF m 75 #[.val (.int i1), .val (.int i2), .val (.ref b1), .val (.int (0 : Int32)), .val (.int (5 : Int32)), .val (.ref b122), .unset, .unset] [(.ref z_SERIALIZABLE), (.ref b122)])
      obtain ⟨ciq212, kiq212, iq212a, iq212b, iq212c⟩ := isOf hZ rfl q148
      obtain ⟨_, _, ⟨T211, L211, k211, n211⟩, -, X211, ⟨Lc211, hQ211, l211, y211, z211⟩, st211⟩ := X145.virtualBack hx (y := (⟨"com/example/interleave/interleave/schedule/Instruction$Begin", "level", "(Lcom/example/interleave/interleave/IsolationLevel;)Lcom/example/interleave/interleave/IsolationLevel;"⟩ : MethodName)) (z := (⟨"com/example/interleave/interleave/schedule/Instruction$Begin", "level", "(Lcom/example/interleave/interleave/IsolationLevel;)Lcom/example/interleave/interleave/IsolationLevel;"⟩ : MethodName)) hown (mvT hZ (hw _ (List.mem_of_getElem? (i := 31) rfl))) (mvT hZ (hw _ (List.mem_of_getElem? (i := 32) rfl))) (notFace_of_selects (args := #[]) (mvT hZ (hw _ (List.mem_of_getElem? (i := 34) rfl)))) (mvT hZ (hw _ (List.mem_of_getElem? (i := 34) rfl))) (mvT hZ (hw _ (List.mem_of_getElem? (i := 33) rfl))) (by decide) (backOf (W := 0) (rm4 l Z a0 hw [] b122 (.ref z_SERIALIZABLE) T145.heap n0 Z162 q149 rfl) hZ (hw _ (List.mem_of_getElem? (i := 35) rfl)) (hw _ (List.mem_of_getElem? (i := 17) rfl)) (by decide) (by decide)) iq212a iq212c (g := (mkF m 75 #[.val (.int i1), .val (.int i2), .val (.ref b1), .val (.int (0 : Int32)), .val (.int (5 : Int32)), .val (.ref b122), .unset, .unset] [(.ref z_SERIALIZABLE), (.ref b122)])) rfl (by rw [hml]; rfl) (Steps.refl _) (argsL := [(.ref z_SERIALIZABLE)]) (rest := []) (lenOf pd_2 rfl) rfl (by show 2 * 0 + _ ≤ _; exact Nat.le_of_eq rfl) (hb hby at_75) (fun _ _ => ⟨rfl, rfl, (by decide : 2 + 0 ≤ _), (by decide : 7 + 0 ≤ _)⟩)
      dsimp only [Pt.U, Pt.locs, Pt.cells, Pt.slots] at X211 l211 y211 z211 st211 hQ211
      subst l211 y211 z211
      obtain ⟨rfl, N213, eh214⟩ := hQ211
      have N215 := Fr.app N150 N213
      refine Go.via st211 ?_
      show Go p e below Qo T211 (mkF m 78 #[.val (.int i1), .val (.int i2), .val (.ref b1), .val (.int (0 : Int32)), .val (.int (5 : Int32)), .val (.ref b122), .unset, .unset] [(.ref z_SERIALIZABLE)])
      refine Go.of (fun t k => XS.astore X211.here hx rfl (hb hby at_78) rfl rfl (l' := #[.val (.int i1), .val (.int i2), .val (.ref b1), .val (.int (0 : Int32)), .val (.int (5 : Int32)), .val (.ref b122), .val (.ref z_SERIALIZABLE), .unset]) rfl k) ?_
      show Go p e below Qo T211 (mkF m 80 #[.val (.int i1), .val (.int i2), .val (.ref b1), .val (.int (0 : Int32)), .val (.int (5 : Int32)), .val (.ref b122), .val (.ref z_SERIALIZABLE), .unset] [])
      refine Go.of (fun t k => XS.iloadN X211.here hx rfl (hb hby at_80) rfl  k) ?_
      show Go p e below Qo T211 (mkF m 81 #[.val (.int i1), .val (.int i2), .val (.ref b1), .val (.int (0 : Int32)), .val (.int (5 : Int32)), .val (.ref b122), .val (.ref z_SERIALIZABLE), .unset] [(.int (0 : Int32))])
      refine Go.of (fun t k => XS.ifYes X211.here hx rfl (pc0 := 81) (pc' := 88) rfl (hb hby at_81) rfl ((if0 _ _).trans (teq (by decide : (0 : Int32) = (0 : Int32))).1) (by decide) (by decide) k) ?_
      show Go p e below Qo T211 (mkF m 88 #[.val (.int i1), .val (.int i2), .val (.ref b1), .val (.int (0 : Int32)), .val (.int (5 : Int32)), .val (.ref b122), .val (.ref z_SERIALIZABLE), .unset] [])
      refine Go.of (fun t k => XS.iload X211.here hx rfl (hb hby at_88) rfl  k) ?_
      show Go p e below Qo T211 (mkF m 90 #[.val (.int i1), .val (.int i2), .val (.ref b1), .val (.int (0 : Int32)), .val (.int (5 : Int32)), .val (.ref b122), .val (.ref z_SERIALIZABLE), .unset] [(.int (5 : Int32))])
      refine Go.of (fun t k => XS.istore X211.here hx rfl (hb hby at_90) rfl (l' := #[.val (.int i1), .val (.int i2), .val (.ref b1), .val (.int (0 : Int32)), .val (.int (5 : Int32)), .val (.ref b122), .val (.ref z_SERIALIZABLE), .val (.int (5 : Int32))]) rfl k) ?_
      show Go p e below Qo T211 (mkF m 92 #[.val (.int i1), .val (.int i2), .val (.ref b1), .val (.int (0 : Int32)), .val (.int (5 : Int32)), .val (.ref b122), .val (.ref z_SERIALIZABLE), .val (.int (5 : Int32))] [])
      refine Go.of (fun t k => XS.aload X211.here hx rfl (hb hby at_92) rfl rfl k) ?_
      show Go p e below Qo T211 (mkF m 94 #[.val (.int i1), .val (.int i2), .val (.ref b1), .val (.int (0 : Int32)), .val (.int (5 : Int32)), .val (.ref b122), .val (.ref z_SERIALIZABLE), .val (.int (5 : Int32))] [(.ref z_SERIALIZABLE)])
      refine Go.of (fun t k => XS.aloadN X211.here hx rfl (hb hby at_94) rfl rfl k) ?_
      show Go p e below Qo T211 (mkF m 95 #[.val (.int i1), .val (.int i2), .val (.ref b1), .val (.int (0 : Int32)), .val (.int (5 : Int32)), .val (.ref b122), .val (.ref z_SERIALIZABLE), .val (.int (5 : Int32))] [(.ref b1), (.ref z_SERIALIZABLE)])
      refine Go.of (fun t k => XS.iload X211.here hx rfl (hb hby at_95) rfl  k) ?_
      show Go p e below Qo T211 (mkF m 97 #[.val (.int i1), .val (.int i2), .val (.ref b1), .val (.int (0 : Int32)), .val (.int (5 : Int32)), .val (.ref b122), .val (.ref z_SERIALIZABLE), .val (.int (5 : Int32))] [(.int (5 : Int32)), (.ref b1), (.ref z_SERIALIZABLE)])
      have cpo216 := q161
      obtain ⟨clo216, Aro216, qco216, So216, Mo216, Ho216, Go216⟩ := cpo216
      have hin217 : ¬ ((5 : Int32) < 0 ∨ clo216.slots.size ≤ (5 : Int32).toNatClampNeg) := (inb_of So216 ⟨by decide, by decide⟩)
      refine Go.of (fun t k => X211.aaload hx (j := (5 : Int32)) (v := (.ref z_SERIALIZABLE)) (by rw [eh214]; exact Aro216.1) (State.isArrayOf_alike hZ.alike Aro216.2.1) rfl Aro216.2.2 hin217 (Ho216.at hin217 rfl) (g := (mkF m 97 #[.val (.int i1), .val (.int i2), .val (.ref b1), .val (.int (0 : Int32)), .val (.int (5 : Int32)), .val (.ref b122), .val (.ref z_SERIALIZABLE), .val (.int (5 : Int32))] [(.int (5 : Int32)), (.ref b1), (.ref z_SERIALIZABLE)])) rfl rfl (hb hby at_97) t k) ?_
      show Go p e below Qo T211 (mkF m 98 #[.val (.int i1), .val (.int i2), .val (.ref b1), .val (.int (0 : Int32)), .val (.int (5 : Int32)), .val (.ref b122), .val (.ref z_SERIALIZABLE), .val (.int (5 : Int32))] [(.ref z_SERIALIZABLE), (.ref z_SERIALIZABLE)])
      refine Go.of (fun t k => Jvm.RoadKit.acmp (g := (mkF m 98 #[.val (.int i1), .val (.int i2), .val (.ref b1), .val (.int (0 : Int32)), .val (.int (5 : Int32)), .val (.ref b122), .val (.ref z_SERIALIZABLE), .val (.int (5 : Int32))] [(.ref z_SERIALIZABLE), (.ref z_SERIALIZABLE)])) X211 hx rfl rfl rfl (pc0 := 98) (pc' := 101) (same := true) rfl (hb hby at_98) rfl (decide_eq_true rfl) (by decide) (by decide) k) ?_
      show Go p e below Qo T211 (mkF m 101 #[.val (.int i1), .val (.int i2), .val (.ref b1), .val (.int (0 : Int32)), .val (.int (5 : Int32)), .val (.ref b122), .val (.ref z_SERIALIZABLE), .val (.int (5 : Int32))] [])
      refine Go.of (fun t k => XS.iconst X211.here hx rfl (hb hby at_101) k) ?_
      show Go p e below Qo T211 (mkF m 102 #[.val (.int i1), .val (.int i2), .val (.ref b1), .val (.int (0 : Int32)), .val (.int (5 : Int32)), .val (.ref b122), .val (.ref z_SERIALIZABLE), .val (.int (5 : Int32))] [(.int (1 : Int32))])
      refine Go.of (fun t k => XS.goto X211.here hx rfl (pc0 := 102) (pc' := 106) rfl (hb hby at_102) (by decide) (by decide) k) ?_
      show Go p e below Qo T211 (mkF m 106 #[.val (.int i1), .val (.int i2), .val (.ref b1), .val (.int (0 : Int32)), .val (.int (5 : Int32)), .val (.ref b122), .val (.ref z_SERIALIZABLE), .val (.int (5 : Int32))] [(.int (1 : Int32))])
      exact own_retN X211 hx Bd.notSynchronized (t := .boolean) Bd.returns (by simp) (hb hby at_106) (fun u hu hF => hQo _ _ _ ⟨rfl, N215⟩ (own_mono hF (by decide) (by decide)))
  · rw [qv121]
    show Go p e below Qo T107 (mkF m 57 #[.val (.int i1), .val (.int i2), .val (.ref b1), .val (.int (1 : Int32)), .val (.int ((i2 &&& (2147483647 : Int32)) % (6 : Int32))), .unset, .unset, .unset] [])
    obtain ⟨T218, h218, X218, e218, E218, A218, D218, -, st218⟩ := newO X107 hx hZ hown (hw _ (List.mem_of_getElem? (i := 15) rfl)) (hw _ (List.mem_of_getElem? (i := 16) rfl)) (hw _ (List.mem_of_getElem? (i := 17) rfl)) e107 (g := (mkF m 57 #[.val (.int i1), .val (.int i2), .val (.ref b1), .val (.int (1 : Int32)), .val (.int ((i2 &&& (2147483647 : Int32)) % (6 : Int32))), .unset, .unset, .unset] [])) rfl (hb hby at_57) (by decide) (by decide)
    obtain ⟨b218, g218⟩ : ∃ z, z = h107.size := ⟨_, rfl⟩
    rw [← g218] at A218 D218 st218
    have ne219 : z_READ_UNCOMMITTED ≠ b218 := Nat.ne_of_lt (Nat.lt_of_lt_of_le q109.lt (Nat.le_of_eq g218.symm))
    have ne220 : z_READ_COMMITTED ≠ b218 := Nat.ne_of_lt (Nat.lt_of_lt_of_le q111.lt (Nat.le_of_eq g218.symm))
    have ne221 : z_REPEATABLE_READ ≠ b218 := Nat.ne_of_lt (Nat.lt_of_lt_of_le q113.lt (Nat.le_of_eq g218.symm))
    have ne222 : z_SNAPSHOT ≠ b218 := Nat.ne_of_lt (Nat.lt_of_lt_of_le q115.lt (Nat.le_of_eq g218.symm))
    have ne223 : z_SERIALIZABLE ≠ b218 := Nat.ne_of_lt (Nat.lt_of_lt_of_le q117.lt (Nat.le_of_eq g218.symm))
    have ne224 : b1 ≠ b218 := Nat.ne_of_lt (Nat.lt_of_lt_of_le q118.lt (Nat.le_of_eq g218.symm))
    have g225 : n0 ≤ b218 := Nat.le_trans Z119 (Nat.le_of_eq g218.symm)
    have q226 : Sta Z h218 "com/example/interleave/interleave/IsolationLevel" "READ_UNCOMMITTED" "Lcom/example/interleave/interleave/IsolationLevel;" (.ref z_READ_UNCOMMITTED) := q108.ext E218
    have q227 : Exa Z h218 z_READ_UNCOMMITTED "com/example/interleave/interleave/IsolationLevel" := q109.ext E218
    have q228 : Sta Z h218 "com/example/interleave/interleave/IsolationLevel" "READ_COMMITTED" "Lcom/example/interleave/interleave/IsolationLevel;" (.ref z_READ_COMMITTED) := q110.ext E218
    have q229 : Exa Z h218 z_READ_COMMITTED "com/example/interleave/interleave/IsolationLevel" := q111.ext E218
    have q230 : Sta Z h218 "com/example/interleave/interleave/IsolationLevel" "REPEATABLE_READ" "Lcom/example/interleave/interleave/IsolationLevel;" (.ref z_REPEATABLE_READ) := q112.ext E218
    have q231 : Exa Z h218 z_REPEATABLE_READ "com/example/interleave/interleave/IsolationLevel" := q113.ext E218
    have q232 : Sta Z h218 "com/example/interleave/interleave/IsolationLevel" "SNAPSHOT" "Lcom/example/interleave/interleave/IsolationLevel;" (.ref z_SNAPSHOT) := q114.ext E218
    have q233 : Exa Z h218 z_SNAPSHOT "com/example/interleave/interleave/IsolationLevel" := q115.ext E218
    have q234 : Sta Z h218 "com/example/interleave/interleave/IsolationLevel" "SERIALIZABLE" "Lcom/example/interleave/interleave/IsolationLevel;" (.ref z_SERIALIZABLE) := q116.ext E218
    have q235 : Exa Z h218 z_SERIALIZABLE "com/example/interleave/interleave/IsolationLevel" := q117.ext E218
    have q236 : Arv Z h218 b1 k1 (.object "com/example/interleave/interleave/IsolationLevel") (6 : Int32) [.null, (.ref z_READ_UNCOMMITTED), (.ref z_READ_COMMITTED), (.ref z_REPEATABLE_READ), (.ref z_SNAPSHOT), (.ref z_SERIALIZABLE)] .null := q118.ext E218
    have Z237 : n0 ≤ h218.size := Nat.le_trans Z119 E218.1
    have q238 : Fld Z h218 b218 "com/example/interleave/interleave/schedule/Instruction$Begin" "level" "Lcom/example/interleave/interleave/IsolationLevel;" .null := D218 (Or.inr (hw _ (List.mem_of_getElem? (i := 30) rfl))) (ty := (.object "com/example/interleave/interleave/IsolationLevel")) (by decide)
    refine Go.of st218 ?_
    show Go p e below Qo T218 (mkF m 60 #[.val (.int i1), .val (.int i2), .val (.ref b1), .val (.int (1 : Int32)), .val (.int ((i2 &&& (2147483647 : Int32)) % (6 : Int32))), .unset, .unset, .unset] [(.ref b218)])
    refine Go.of (fun t k => XS.dup X218.here hx rfl (hb hby at_60) rfl rfl k) ?_
    show Go p e below Qo T218 (mkF m 61 #[.val (.int i1), .val (.int i2), .val (.ref b1), .val (.int (1 : Int32)), .val (.int ((i2 &&& (2147483647 : Int32)) % (6 : Int32))), .unset, .unset, .unset] [(.ref b218), (.ref b218)])
    refine Go.of (fun t k => XS.aloadN X218.here hx rfl (hb hby at_61) rfl rfl k) ?_
    show Go p e below Qo T218 (mkF m 62 #[.val (.int i1), .val (.int i2), .val (.ref b1), .val (.int (1 : Int32)), .val (.int ((i2 &&& (2147483647 : Int32)) % (6 : Int32))), .unset, .unset, .unset] [(.ref b1), (.ref b218), (.ref b218)])
    refine Go.of (fun t k => XS.iloadN X218.here hx rfl (hb hby at_62) rfl  k) ?_
    show Go p e below Qo T218 (mkF m 63 #[.val (.int i1), .val (.int i2), .val (.ref b1), .val (.int (1 : Int32)), .val (.int ((i2 &&& (2147483647 : Int32)) % (6 : Int32))), .unset, .unset, .unset] [(.int (1 : Int32)), (.ref b1), (.ref b218), (.ref b218)])
    have cpo239 := q236
    obtain ⟨clo239, Aro239, qco239, So239, Mo239, Ho239, Go239⟩ := cpo239
    have hin240 : ¬ ((1 : Int32) < 0 ∨ clo239.slots.size ≤ (1 : Int32).toNatClampNeg) := (inb_of So239 ⟨by decide, by decide⟩)
    refine Go.of (fun t k => X218.aaload hx (j := (1 : Int32)) (v := (.ref z_READ_UNCOMMITTED)) (by rw [e218]; exact Aro239.1) (State.isArrayOf_alike hZ.alike Aro239.2.1) rfl Aro239.2.2 hin240 (Ho239.at hin240 rfl) (g := (mkF m 63 #[.val (.int i1), .val (.int i2), .val (.ref b1), .val (.int (1 : Int32)), .val (.int ((i2 &&& (2147483647 : Int32)) % (6 : Int32))), .unset, .unset, .unset] [(.int (1 : Int32)), (.ref b1), (.ref b218), (.ref b218)])) rfl rfl (hb hby at_63) t k) ?_
    show Go p e below Qo T218 (mkF m 64 #[.val (.int i1), .val (.int i2), .val (.ref b1), .val (.int (1 : Int32)), .val (.int ((i2 &&& (2147483647 : Int32)) % (6 : Int32))), .unset, .unset, .unset] [(.ref z_READ_UNCOMMITTED), (.ref b218), (.ref b218)])
    obtain ⟨_, _, ⟨T241, L241, k241, n241⟩, -, X241, ⟨Lc241, hQ241, l241, y241, z241⟩, st241⟩ := X218.specialBack hx (y := (⟨"com/example/interleave/interleave/schedule/Instruction$Begin", "<init>", "(Lcom/example/interleave/interleave/IsolationLevel;)V"⟩ : MethodName)) rfl hown (mvT hZ (hw _ (List.mem_of_getElem? (i := 18) rfl))) (mvT hZ (hw _ (List.mem_of_getElem? (i := 19) rfl))) (mvT hZ (hw _ (List.mem_of_getElem? (i := 20) rfl))) (by decide) (backOf (W := 1) (rm1 l Z a0 hw [] b218 (.ref z_READ_UNCOMMITTED) .null h218 n0 Z237 A218 q238 g225 rfl) hZ (hw _ (List.mem_of_getElem? (i := 20) rfl)) (hw _ (List.mem_of_getElem? (i := 17) rfl)) (by decide) (by decide)) (g := (mkF m 64 #[.val (.int i1), .val (.int i2), .val (.ref b1), .val (.int (1 : Int32)), .val (.int ((i2 &&& (2147483647 : Int32)) % (6 : Int32))), .unset, .unset, .unset] [(.ref z_READ_UNCOMMITTED), (.ref b218), (.ref b218)])) rfl (by rw [hml]; rfl) (Steps.refl _) (a := b218) (argsL := [(.ref z_READ_UNCOMMITTED)]) (rest := [(.ref b218)]) (lenOf pd_1 rfl) rfl (by show 2 * 0 + _ ≤ _; exact Nat.le_of_eq rfl) (hb hby at_64) (fun _ _ => ⟨rfl, e218, (by decide : 2 + 0 ≤ _), (by decide : 7 + 0 ≤ _)⟩)
    dsimp only [Pt.U, Pt.locs, Pt.cells, Pt.slots] at X241 l241 y241 z241 st241 hQ241
    subst l241 y241 z241
    obtain ⟨rfl, N242, Kc243, q244, q245⟩ := hQ241
    have N246 := Fr.app N120 N242
    have q247 : Sta Z T241.heap "com/example/interleave/interleave/IsolationLevel" "READ_UNCOMMITTED" "Lcom/example/interleave/interleave/IsolationLevel;" (.ref z_READ_UNCOMMITTED) := own_staKeep q226 Kc243 (allS (own_plainE A218) all0)
    have q248 : Exa Z T241.heap z_READ_UNCOMMITTED "com/example/interleave/interleave/IsolationLevel" := q227.keep Kc243
    have q249 : Sta Z T241.heap "com/example/interleave/interleave/IsolationLevel" "READ_COMMITTED" "Lcom/example/interleave/interleave/IsolationLevel;" (.ref z_READ_COMMITTED) := own_staKeep q228 Kc243 (allS (own_plainE A218) all0)
    have q250 : Exa Z T241.heap z_READ_COMMITTED "com/example/interleave/interleave/IsolationLevel" := q229.keep Kc243
    have q251 : Sta Z T241.heap "com/example/interleave/interleave/IsolationLevel" "REPEATABLE_READ" "Lcom/example/interleave/interleave/IsolationLevel;" (.ref z_REPEATABLE_READ) := own_staKeep q230 Kc243 (allS (own_plainE A218) all0)
    have q252 : Exa Z T241.heap z_REPEATABLE_READ "com/example/interleave/interleave/IsolationLevel" := q231.keep Kc243
    have q253 : Sta Z T241.heap "com/example/interleave/interleave/IsolationLevel" "SNAPSHOT" "Lcom/example/interleave/interleave/IsolationLevel;" (.ref z_SNAPSHOT) := own_staKeep q232 Kc243 (allS (own_plainE A218) all0)
    have q254 : Exa Z T241.heap z_SNAPSHOT "com/example/interleave/interleave/IsolationLevel" := q233.keep Kc243
    have q255 : Sta Z T241.heap "com/example/interleave/interleave/IsolationLevel" "SERIALIZABLE" "Lcom/example/interleave/interleave/IsolationLevel;" (.ref z_SERIALIZABLE) := own_staKeep q234 Kc243 (allS (own_plainE A218) all0)
    have q256 : Exa Z T241.heap z_SERIALIZABLE "com/example/interleave/interleave/IsolationLevel" := q235.keep Kc243
    have q257 : Arv Z T241.heap b1 k1 (.object "com/example/interleave/interleave/IsolationLevel") (6 : Int32) [.null, (.ref z_READ_UNCOMMITTED), (.ref z_READ_COMMITTED), (.ref z_REPEATABLE_READ), (.ref z_SNAPSHOT), (.ref z_SERIALIZABLE)] .null := q236.keep Kc243 (ninS ne224 nin0)
    have Z258 : n0 ≤ T241.heap.size := Nat.le_trans Z237 Kc243.1
    refine Go.via st241 ?_
    show Go p e below Qo T241 (mkF m 67 #[.val (.int i1), .val (.int i2), .val (.ref b1), .val (.int (1 : Int32)), .val (.int ((i2 &&& (2147483647 : Int32)) % (6 : Int32))), .unset, .unset, .unset] [(.ref b218)])
    refine Go.of (fun t k => XS.astore X241.here hx rfl (hb hby at_67) rfl rfl (l' := #[.val (.int i1), .val (.int i2), .val (.ref b1), .val (.int (1 : Int32)), .val (.int ((i2 &&& (2147483647 : Int32)) % (6 : Int32))), .val (.ref b218), .unset, .unset]) rfl k) ?_
    show Go p e below Qo T241 (mkF m 69 #[.val (.int i1), .val (.int i2), .val (.ref b1), .val (.int (1 : Int32)), .val (.int ((i2 &&& (2147483647 : Int32)) % (6 : Int32))), .val (.ref b218), .unset, .unset] [])
    refine Go.of (fun t k => XS.aload X241.here hx rfl (hb hby at_69) rfl rfl k) ?_
    show Go p e below Qo T241 (mkF m 71 #[.val (.int i1), .val (.int i2), .val (.ref b1), .val (.int (1 : Int32)), .val (.int ((i2 &&& (2147483647 : Int32)) % (6 : Int32))), .val (.ref b218), .unset, .unset] [(.ref b218)])
    refine Go.of (fun t k => XS.aloadN X241.here hx rfl (hb hby at_71) rfl rfl k) ?_
    show Go p e below Qo T241 (mkF m 72 #[.val (.int i1), .val (.int i2), .val (.ref b1), .val (.int (1 : Int32)), .val (.int ((i2 &&& (2147483647 : Int32)) % (6 : Int32))), .val (.ref b218), .unset, .unset] [(.ref b1), (.ref b218)])
    refine Go.of (fun t k => XS.iload X241.here hx rfl (hb hby at_72) rfl  k) ?_
    show Go p e below Qo T241 (mkF m 74 #[.val (.int i1), .val (.int i2), .val (.ref b1), .val (.int (1 : Int32)), .val (.int ((i2 &&& (2147483647 : Int32)) % (6 : Int32))), .val (.ref b218), .unset, .unset] [(.int ((i2 &&& (2147483647 : Int32)) % (6 : Int32))), (.ref b1), (.ref b218)])
    have cpo259 := q257
    obtain ⟨clo259, Aro259, qco259, So259, Mo259, Ho259, Go259⟩ := cpo259
    have hin260 : ¬ (((i2 &&& (2147483647 : Int32)) % (6 : Int32)) < 0 ∨ clo259.slots.size ≤ ((i2 &&& (2147483647 : Int32)) % (6 : Int32)).toNatClampNeg) := (inb_of So259 (own_rng _))
    obtain ⟨vr, hvr⟩ : ∃ v, ([.null, (.ref z_READ_UNCOMMITTED), (.ref z_READ_COMMITTED), (.ref z_REPEATABLE_READ), (.ref z_SNAPSHOT), (.ref z_SERIALIZABLE)] : List Value).getD ((i2 &&& (2147483647 : Int32)) % (6 : Int32)).toNatClampNeg .null = v := ⟨_, rfl⟩
    have irv : vr.isRef = true := hvr ▸ own_getR (by simp [Value.isRef]) rfl _
    refine Go.of (fun t k => X241.aaload hx (j := ((i2 &&& (2147483647 : Int32)) % (6 : Int32))) (v := vr) Aro259.1 (State.isArrayOf_alike hZ.alike Aro259.2.1) rfl Aro259.2.2 hin260 (Ho259.at hin260 hvr) (g := (mkF m 74 #[.val (.int i1), .val (.int i2), .val (.ref b1), .val (.int (1 : Int32)), .val (.int ((i2 &&& (2147483647 : Int32)) % (6 : Int32))), .val (.ref b218), .unset, .unset] [(.int ((i2 &&& (2147483647 : Int32)) % (6 : Int32))), (.ref b1), (.ref b218)])) rfl rfl (hb hby at_74) t k) ?_
    show Go p e below Qo T241 (mkF m 75 #[.val (.int i1), .val (.int i2), .val (.ref b1), .val (.int (1 : Int32)), .val (.int ((i2 &&& (2147483647 : Int32)) % (6 : Int32))), .val (.ref b218), .unset, .unset] [vr, (.ref b218)])
    obtain ⟨ciq262, kiq262, iq262a, iq262b, iq262c⟩ := isOf hZ rfl q244
    obtain ⟨_, _, ⟨T261, L261, k261, n261⟩, -, X261, ⟨Lc261, hQ261, l261, y261, z261⟩, st261⟩ := X241.virtualBack hx (y := (⟨"com/example/interleave/interleave/schedule/Instruction$Begin", "level", "(Lcom/example/interleave/interleave/IsolationLevel;)Lcom/example/interleave/interleave/IsolationLevel;"⟩ : MethodName)) (z := (⟨"com/example/interleave/interleave/schedule/Instruction$Begin", "level", "(Lcom/example/interleave/interleave/IsolationLevel;)Lcom/example/interleave/interleave/IsolationLevel;"⟩ : MethodName)) hown (mvT hZ (hw _ (List.mem_of_getElem? (i := 31) rfl))) (mvT hZ (hw _ (List.mem_of_getElem? (i := 32) rfl))) (notFace_of_selects (args := #[]) (mvT hZ (hw _ (List.mem_of_getElem? (i := 34) rfl)))) (mvT hZ (hw _ (List.mem_of_getElem? (i := 34) rfl))) (mvT hZ (hw _ (List.mem_of_getElem? (i := 33) rfl))) (by decide) (backOf (W := 0) (rm5 l Z a0 hw [] b218 vr z_READ_UNCOMMITTED T241.heap n0 Z258 q245 irv) hZ (hw _ (List.mem_of_getElem? (i := 35) rfl)) (hw _ (List.mem_of_getElem? (i := 17) rfl)) (by decide) (by decide)) iq262a iq262c (g := (mkF m 75 #[.val (.int i1), .val (.int i2), .val (.ref b1), .val (.int (1 : Int32)), .val (.int ((i2 &&& (2147483647 : Int32)) % (6 : Int32))), .val (.ref b218), .unset, .unset] [vr, (.ref b218)])) rfl (by rw [hml]; rfl) (Steps.refl _) (argsL := [vr]) (rest := []) (lenOf pd_2 rfl) rfl (by show 2 * 0 + _ ≤ _; exact Nat.le_of_eq rfl) (hb hby at_75) (fun _ _ => ⟨rfl, rfl, (by decide : 2 + 0 ≤ _), (by decide : 7 + 0 ≤ _)⟩)
    dsimp only [Pt.U, Pt.locs, Pt.cells, Pt.slots] at X261 l261 y261 z261 st261 hQ261
    subst l261 y261 z261
    obtain ⟨rfl, N263, eh264⟩ := hQ261
    have N265 := Fr.app N246 N263
    refine Go.via st261 ?_
    show Go p e below Qo T261 (mkF m 78 #[.val (.int i1), .val (.int i2), .val (.ref b1), .val (.int (1 : Int32)), .val (.int ((i2 &&& (2147483647 : Int32)) % (6 : Int32))), .val (.ref b218), .unset, .unset] [(.ref z_READ_UNCOMMITTED)])
    refine Go.of (fun t k => XS.astore X261.here hx rfl (hb hby at_78) rfl rfl (l' := #[.val (.int i1), .val (.int i2), .val (.ref b1), .val (.int (1 : Int32)), .val (.int ((i2 &&& (2147483647 : Int32)) % (6 : Int32))), .val (.ref b218), .val (.ref z_READ_UNCOMMITTED), .unset]) rfl k) ?_
    show Go p e below Qo T261 (mkF m 80 #[.val (.int i1), .val (.int i2), .val (.ref b1), .val (.int (1 : Int32)), .val (.int ((i2 &&& (2147483647 : Int32)) % (6 : Int32))), .val (.ref b218), .val (.ref z_READ_UNCOMMITTED), .unset] [])
    refine Go.of (fun t k => XS.iloadN X261.here hx rfl (hb hby at_80) rfl  k) ?_
    show Go p e below Qo T261 (mkF m 81 #[.val (.int i1), .val (.int i2), .val (.ref b1), .val (.int (1 : Int32)), .val (.int ((i2 &&& (2147483647 : Int32)) % (6 : Int32))), .val (.ref b218), .val (.ref z_READ_UNCOMMITTED), .unset] [(.int (1 : Int32))])
    refine Go.of (fun t k => XS.ifNo X261.here hx rfl (hb hby at_81) rfl ((if0 _ _).trans (feq (by decide : ¬ ((1 : Int32) = (0 : Int32)))).1) k) ?_
    show Go p e below Qo T261 (mkF m 84 #[.val (.int i1), .val (.int i2), .val (.ref b1), .val (.int (1 : Int32)), .val (.int ((i2 &&& (2147483647 : Int32)) % (6 : Int32))), .val (.ref b218), .val (.ref z_READ_UNCOMMITTED), .unset] [])
    refine Go.of (fun t k => XS.iloadN X261.here hx rfl (hb hby at_84) rfl  k) ?_
    show Go p e below Qo T261 (mkF m 85 #[.val (.int i1), .val (.int i2), .val (.ref b1), .val (.int (1 : Int32)), .val (.int ((i2 &&& (2147483647 : Int32)) % (6 : Int32))), .val (.ref b218), .val (.ref z_READ_UNCOMMITTED), .unset] [(.int (1 : Int32))])
    refine Go.of (fun t k => XS.goto X261.here hx rfl (pc0 := 85) (pc' := 90) rfl (hb hby at_85) (by decide) (by decide) k) ?_
    show Go p e below Qo T261 (mkF m 90 #[.val (.int i1), .val (.int i2), .val (.ref b1), .val (.int (1 : Int32)), .val (.int ((i2 &&& (2147483647 : Int32)) % (6 : Int32))), .val (.ref b218), .val (.ref z_READ_UNCOMMITTED), .unset] [(.int (1 : Int32))])
    refine Go.of (fun t k => XS.istore X261.here hx rfl (hb hby at_90) rfl (l' := #[.val (.int i1), .val (.int i2), .val (.ref b1), .val (.int (1 : Int32)), .val (.int ((i2 &&& (2147483647 : Int32)) % (6 : Int32))), .val (.ref b218), .val (.ref z_READ_UNCOMMITTED), .val (.int (1 : Int32))]) rfl k) ?_
    show Go p e below Qo T261 (mkF m 92 #[.val (.int i1), .val (.int i2), .val (.ref b1), .val (.int (1 : Int32)), .val (.int ((i2 &&& (2147483647 : Int32)) % (6 : Int32))), .val (.ref b218), .val (.ref z_READ_UNCOMMITTED), .val (.int (1 : Int32))] [])
    refine Go.of (fun t k => XS.aload X261.here hx rfl (hb hby at_92) rfl rfl k) ?_
    show Go p e below Qo T261 (mkF m 94 #[.val (.int i1), .val (.int i2), .val (.ref b1), .val (.int (1 : Int32)), .val (.int ((i2 &&& (2147483647 : Int32)) % (6 : Int32))), .val (.ref b218), .val (.ref z_READ_UNCOMMITTED), .val (.int (1 : Int32))] [(.ref z_READ_UNCOMMITTED)])
    refine Go.of (fun t k => XS.aloadN X261.here hx rfl (hb hby at_94) rfl rfl k) ?_
    show Go p e below Qo T261 (mkF m 95 #[.val (.int i1), .val (.int i2), .val (.ref b1), .val (.int (1 : Int32)), .val (.int ((i2 &&& (2147483647 : Int32)) % (6 : Int32))), .val (.ref b218), .val (.ref z_READ_UNCOMMITTED), .val (.int (1 : Int32))] [(.ref b1), (.ref z_READ_UNCOMMITTED)])
    refine Go.of (fun t k => XS.iload X261.here hx rfl (hb hby at_95) rfl  k) ?_
    show Go p e below Qo T261 (mkF m 97 #[.val (.int i1), .val (.int i2), .val (.ref b1), .val (.int (1 : Int32)), .val (.int ((i2 &&& (2147483647 : Int32)) % (6 : Int32))), .val (.ref b218), .val (.ref z_READ_UNCOMMITTED), .val (.int (1 : Int32))] [(.int (1 : Int32)), (.ref b1), (.ref z_READ_UNCOMMITTED)])
    have cpo266 := q257
    obtain ⟨clo266, Aro266, qco266, So266, Mo266, Ho266, Go266⟩ := cpo266
    have hin267 : ¬ ((1 : Int32) < 0 ∨ clo266.slots.size ≤ (1 : Int32).toNatClampNeg) := (inb_of So266 ⟨by decide, by decide⟩)
    refine Go.of (fun t k => X261.aaload hx (j := (1 : Int32)) (v := (.ref z_READ_UNCOMMITTED)) (by rw [eh264]; exact Aro266.1) (State.isArrayOf_alike hZ.alike Aro266.2.1) rfl Aro266.2.2 hin267 (Ho266.at hin267 rfl) (g := (mkF m 97 #[.val (.int i1), .val (.int i2), .val (.ref b1), .val (.int (1 : Int32)), .val (.int ((i2 &&& (2147483647 : Int32)) % (6 : Int32))), .val (.ref b218), .val (.ref z_READ_UNCOMMITTED), .val (.int (1 : Int32))] [(.int (1 : Int32)), (.ref b1), (.ref z_READ_UNCOMMITTED)])) rfl rfl (hb hby at_97) t k) ?_
    show Go p e below Qo T261 (mkF m 98 #[.val (.int i1), .val (.int i2), .val (.ref b1), .val (.int (1 : Int32)), .val (.int ((i2 &&& (2147483647 : Int32)) % (6 : Int32))), .val (.ref b218), .val (.ref z_READ_UNCOMMITTED), .val (.int (1 : Int32))] [(.ref z_READ_UNCOMMITTED), (.ref z_READ_UNCOMMITTED)])
    refine Go.of (fun t k => Jvm.RoadKit.acmp (g := (mkF m 98 #[.val (.int i1), .val (.int i2), .val (.ref b1), .val (.int (1 : Int32)), .val (.int ((i2 &&& (2147483647 : Int32)) % (6 : Int32))), .val (.ref b218), .val (.ref z_READ_UNCOMMITTED), .val (.int (1 : Int32))] [(.ref z_READ_UNCOMMITTED), (.ref z_READ_UNCOMMITTED)])) X261 hx rfl rfl rfl (pc0 := 98) (pc' := 101) (same := true) rfl (hb hby at_98) rfl (decide_eq_true rfl) (by decide) (by decide) k) ?_
    show Go p e below Qo T261 (mkF m 101 #[.val (.int i1), .val (.int i2), .val (.ref b1), .val (.int (1 : Int32)), .val (.int ((i2 &&& (2147483647 : Int32)) % (6 : Int32))), .val (.ref b218), .val (.ref z_READ_UNCOMMITTED), .val (.int (1 : Int32))] [])
    refine Go.of (fun t k => XS.iconst X261.here hx rfl (hb hby at_101) k) ?_
    show Go p e below Qo T261 (mkF m 102 #[.val (.int i1), .val (.int i2), .val (.ref b1), .val (.int (1 : Int32)), .val (.int ((i2 &&& (2147483647 : Int32)) % (6 : Int32))), .val (.ref b218), .val (.ref z_READ_UNCOMMITTED), .val (.int (1 : Int32))] [(.int (1 : Int32))])
    refine Go.of (fun t k => XS.goto X261.here hx rfl (pc0 := 102) (pc' := 106) rfl (hb hby at_102) (by decide) (by decide) k) ?_
    show Go p e below Qo T261 (mkF m 106 #[.val (.int i1), .val (.int i2), .val (.ref b1), .val (.int (1 : Int32)), .val (.int ((i2 &&& (2147483647 : Int32)) % (6 : Int32))), .val (.ref b218), .val (.ref z_READ_UNCOMMITTED), .val (.int (1 : Int32))] [(.int (1 : Int32))])
    exact own_retN X261 hx Bd.notSynchronized (t := .boolean) Bd.returns (by simp) (hb hby at_106) (fun u hu hF => hQo _ _ _ ⟨rfl, N265⟩ (own_mono hF (by decide) (by decide)))
  · rw [qv121]
    show Go p e below Qo T107 (mkF m 57 #[.val (.int i1), .val (.int i2), .val (.ref b1), .val (.int (2 : Int32)), .val (.int ((i2 &&& (2147483647 : Int32)) % (6 : Int32))), .unset, .unset, .unset] [])
    obtain ⟨T268, h268, X268, e268, E268, A268, D268, -, st268⟩ := newO X107 hx hZ hown (hw _ (List.mem_of_getElem? (i := 15) rfl)) (hw _ (List.mem_of_getElem? (i := 16) rfl)) (hw _ (List.mem_of_getElem? (i := 17) rfl)) e107 (g := (mkF m 57 #[.val (.int i1), .val (.int i2), .val (.ref b1), .val (.int (2 : Int32)), .val (.int ((i2 &&& (2147483647 : Int32)) % (6 : Int32))), .unset, .unset, .unset] [])) rfl (hb hby at_57) (by decide) (by decide)
    obtain ⟨b268, g268⟩ : ∃ z, z = h107.size := ⟨_, rfl⟩
    rw [← g268] at A268 D268 st268
    have ne269 : z_READ_UNCOMMITTED ≠ b268 := Nat.ne_of_lt (Nat.lt_of_lt_of_le q109.lt (Nat.le_of_eq g268.symm))
    have ne270 : z_READ_COMMITTED ≠ b268 := Nat.ne_of_lt (Nat.lt_of_lt_of_le q111.lt (Nat.le_of_eq g268.symm))
    have ne271 : z_REPEATABLE_READ ≠ b268 := Nat.ne_of_lt (Nat.lt_of_lt_of_le q113.lt (Nat.le_of_eq g268.symm))
    have ne272 : z_SNAPSHOT ≠ b268 := Nat.ne_of_lt (Nat.lt_of_lt_of_le q115.lt (Nat.le_of_eq g268.symm))
    have ne273 : z_SERIALIZABLE ≠ b268 := Nat.ne_of_lt (Nat.lt_of_lt_of_le q117.lt (Nat.le_of_eq g268.symm))
    have ne274 : b1 ≠ b268 := Nat.ne_of_lt (Nat.lt_of_lt_of_le q118.lt (Nat.le_of_eq g268.symm))
    have g275 : n0 ≤ b268 := Nat.le_trans Z119 (Nat.le_of_eq g268.symm)
    have q276 : Sta Z h268 "com/example/interleave/interleave/IsolationLevel" "READ_UNCOMMITTED" "Lcom/example/interleave/interleave/IsolationLevel;" (.ref z_READ_UNCOMMITTED) := q108.ext E268
    have q277 : Exa Z h268 z_READ_UNCOMMITTED "com/example/interleave/interleave/IsolationLevel" := q109.ext E268
    have q278 : Sta Z h268 "com/example/interleave/interleave/IsolationLevel" "READ_COMMITTED" "Lcom/example/interleave/interleave/IsolationLevel;" (.ref z_READ_COMMITTED) := q110.ext E268
    have q279 : Exa Z h268 z_READ_COMMITTED "com/example/interleave/interleave/IsolationLevel" := q111.ext E268
    have q280 : Sta Z h268 "com/example/interleave/interleave/IsolationLevel" "REPEATABLE_READ" "Lcom/example/interleave/interleave/IsolationLevel;" (.ref z_REPEATABLE_READ) := q112.ext E268
    have q281 : Exa Z h268 z_REPEATABLE_READ "com/example/interleave/interleave/IsolationLevel" := q113.ext E268
    have q282 : Sta Z h268 "com/example/interleave/interleave/IsolationLevel" "SNAPSHOT" "Lcom/example/interleave/interleave/IsolationLevel;" (.ref z_SNAPSHOT) := q114.ext E268
    have q283 : Exa Z h268 z_SNAPSHOT "com/example/interleave/interleave/IsolationLevel" := q115.ext E268
    have q284 : Sta Z h268 "com/example/interleave/interleave/IsolationLevel" "SERIALIZABLE" "Lcom/example/interleave/interleave/IsolationLevel;" (.ref z_SERIALIZABLE) := q116.ext E268
    have q285 : Exa Z h268 z_SERIALIZABLE "com/example/interleave/interleave/IsolationLevel" := q117.ext E268
    have q286 : Arv Z h268 b1 k1 (.object "com/example/interleave/interleave/IsolationLevel") (6 : Int32) [.null, (.ref z_READ_UNCOMMITTED), (.ref z_READ_COMMITTED), (.ref z_REPEATABLE_READ), (.ref z_SNAPSHOT), (.ref z_SERIALIZABLE)] .null := q118.ext E268
    have Z287 : n0 ≤ h268.size := Nat.le_trans Z119 E268.1
    have q288 : Fld Z h268 b268 "com/example/interleave/interleave/schedule/Instruction$Begin" "level" "Lcom/example/interleave/interleave/IsolationLevel;" .null := D268 (Or.inr (hw _ (List.mem_of_getElem? (i := 30) rfl))) (ty := (.object "com/example/interleave/interleave/IsolationLevel")) (by decide)
    refine Go.of st268 ?_
    show Go p e below Qo T268 (mkF m 60 #[.val (.int i1), .val (.int i2), .val (.ref b1), .val (.int (2 : Int32)), .val (.int ((i2 &&& (2147483647 : Int32)) % (6 : Int32))), .unset, .unset, .unset] [(.ref b268)])
    refine Go.of (fun t k => XS.dup X268.here hx rfl (hb hby at_60) rfl rfl k) ?_
    show Go p e below Qo T268 (mkF m 61 #[.val (.int i1), .val (.int i2), .val (.ref b1), .val (.int (2 : Int32)), .val (.int ((i2 &&& (2147483647 : Int32)) % (6 : Int32))), .unset, .unset, .unset] [(.ref b268), (.ref b268)])
    refine Go.of (fun t k => XS.aloadN X268.here hx rfl (hb hby at_61) rfl rfl k) ?_
    show Go p e below Qo T268 (mkF m 62 #[.val (.int i1), .val (.int i2), .val (.ref b1), .val (.int (2 : Int32)), .val (.int ((i2 &&& (2147483647 : Int32)) % (6 : Int32))), .unset, .unset, .unset] [(.ref b1), (.ref b268), (.ref b268)])
    refine Go.of (fun t k => XS.iloadN X268.here hx rfl (hb hby at_62) rfl  k) ?_
    show Go p e below Qo T268 (mkF m 63 #[.val (.int i1), .val (.int i2), .val (.ref b1), .val (.int (2 : Int32)), .val (.int ((i2 &&& (2147483647 : Int32)) % (6 : Int32))), .unset, .unset, .unset] [(.int (2 : Int32)), (.ref b1), (.ref b268), (.ref b268)])
    have cpo289 := q286
    obtain ⟨clo289, Aro289, qco289, So289, Mo289, Ho289, Go289⟩ := cpo289
    have hin290 : ¬ ((2 : Int32) < 0 ∨ clo289.slots.size ≤ (2 : Int32).toNatClampNeg) := (inb_of So289 ⟨by decide, by decide⟩)
    refine Go.of (fun t k => X268.aaload hx (j := (2 : Int32)) (v := (.ref z_READ_COMMITTED)) (by rw [e268]; exact Aro289.1) (State.isArrayOf_alike hZ.alike Aro289.2.1) rfl Aro289.2.2 hin290 (Ho289.at hin290 rfl) (g := (mkF m 63 #[.val (.int i1), .val (.int i2), .val (.ref b1), .val (.int (2 : Int32)), .val (.int ((i2 &&& (2147483647 : Int32)) % (6 : Int32))), .unset, .unset, .unset] [(.int (2 : Int32)), (.ref b1), (.ref b268), (.ref b268)])) rfl rfl (hb hby at_63) t k) ?_
    show Go p e below Qo T268 (mkF m 64 #[.val (.int i1), .val (.int i2), .val (.ref b1), .val (.int (2 : Int32)), .val (.int ((i2 &&& (2147483647 : Int32)) % (6 : Int32))), .unset, .unset, .unset] [(.ref z_READ_COMMITTED), (.ref b268), (.ref b268)])
    obtain ⟨_, _, ⟨T291, L291, k291, n291⟩, -, X291, ⟨Lc291, hQ291, l291, y291, z291⟩, st291⟩ := X268.specialBack hx (y := (⟨"com/example/interleave/interleave/schedule/Instruction$Begin", "<init>", "(Lcom/example/interleave/interleave/IsolationLevel;)V"⟩ : MethodName)) rfl hown (mvT hZ (hw _ (List.mem_of_getElem? (i := 18) rfl))) (mvT hZ (hw _ (List.mem_of_getElem? (i := 19) rfl))) (mvT hZ (hw _ (List.mem_of_getElem? (i := 20) rfl))) (by decide) (backOf (W := 1) (rm1 l Z a0 hw [] b268 (.ref z_READ_COMMITTED) .null h268 n0 Z287 A268 q288 g275 rfl) hZ (hw _ (List.mem_of_getElem? (i := 20) rfl)) (hw _ (List.mem_of_getElem? (i := 17) rfl)) (by decide) (by decide)) (g := (mkF m 64 #[.val (.int i1), .val (.int i2), .val (.ref b1), .val (.int (2 : Int32)), .val (.int ((i2 &&& (2147483647 : Int32)) % (6 : Int32))), .unset, .unset, .unset] [(.ref z_READ_COMMITTED), (.ref b268), (.ref b268)])) rfl (by rw [hml]; rfl) (Steps.refl _) (a := b268) (argsL := [(.ref z_READ_COMMITTED)]) (rest := [(.ref b268)]) (lenOf pd_1 rfl) rfl (by show 2 * 0 + _ ≤ _; exact Nat.le_of_eq rfl) (hb hby at_64) (fun _ _ => ⟨rfl, e268, (by decide : 2 + 0 ≤ _), (by decide : 7 + 0 ≤ _)⟩)
    dsimp only [Pt.U, Pt.locs, Pt.cells, Pt.slots] at X291 l291 y291 z291 st291 hQ291
    subst l291 y291 z291
    obtain ⟨rfl, N292, Kc293, q294, q295⟩ := hQ291
    have N296 := Fr.app N120 N292
    have q297 : Sta Z T291.heap "com/example/interleave/interleave/IsolationLevel" "READ_UNCOMMITTED" "Lcom/example/interleave/interleave/IsolationLevel;" (.ref z_READ_UNCOMMITTED) := own_staKeep q276 Kc293 (allS (own_plainE A268) all0)
    have q298 : Exa Z T291.heap z_READ_UNCOMMITTED "com/example/interleave/interleave/IsolationLevel" := q277.keep Kc293
    have q299 : Sta Z T291.heap "com/example/interleave/interleave/IsolationLevel" "READ_COMMITTED" "Lcom/example/interleave/interleave/IsolationLevel;" (.ref z_READ_COMMITTED) := own_staKeep q278 Kc293 (allS (own_plainE A268) all0)
    have q300 : Exa Z T291.heap z_READ_COMMITTED "com/example/interleave/interleave/IsolationLevel" := q279.keep Kc293
    have q301 : Sta Z T291.heap "com/example/interleave/interleave/IsolationLevel" "REPEATABLE_READ" "Lcom/example/interleave/interleave/IsolationLevel;" (.ref z_REPEATABLE_READ) := own_staKeep q280 Kc293 (allS (own_plainE A268) all0)
    have q302 : Exa Z T291.heap z_REPEATABLE_READ "com/example/interleave/interleave/IsolationLevel" := q281.keep Kc293
    have q303 : Sta Z T291.heap "com/example/interleave/interleave/IsolationLevel" "SNAPSHOT" "Lcom/example/interleave/interleave/IsolationLevel;" (.ref z_SNAPSHOT) := own_staKeep q282 Kc293 (allS (own_plainE A268) all0)
    have q304 : Exa Z T291.heap z_SNAPSHOT "com/example/interleave/interleave/IsolationLevel" := q283.keep Kc293
    have q305 : Sta Z T291.heap "com/example/interleave/interleave/IsolationLevel" "SERIALIZABLE" "Lcom/example/interleave/interleave/IsolationLevel;" (.ref z_SERIALIZABLE) := own_staKeep q284 Kc293 (allS (own_plainE A268) all0)
    have q306 : Exa Z T291.heap z_SERIALIZABLE "com/example/interleave/interleave/IsolationLevel" := q285.keep Kc293
    have q307 : Arv Z T291.heap b1 k1 (.object "com/example/interleave/interleave/IsolationLevel") (6 : Int32) [.null, (.ref z_READ_UNCOMMITTED), (.ref z_READ_COMMITTED), (.ref z_REPEATABLE_READ), (.ref z_SNAPSHOT), (.ref z_SERIALIZABLE)] .null := q286.keep Kc293 (ninS ne274 nin0)
    have Z308 : n0 ≤ T291.heap.size := Nat.le_trans Z287 Kc293.1
    refine Go.via st291 ?_
    show Go p e below Qo T291 (mkF m 67 #[.val (.int i1), .val (.int i2), .val (.ref b1), .val (.int (2 : Int32)), .val (.int ((i2 &&& (2147483647 : Int32)) % (6 : Int32))), .unset, .unset, .unset] [(.ref b268)])
    refine Go.of (fun t k => XS.astore X291.here hx rfl (hb hby at_67) rfl rfl (l' := #[.val (.int i1), .val (.int i2), .val (.ref b1), .val (.int (2 : Int32)), .val (.int ((i2 &&& (2147483647 : Int32)) % (6 : Int32))), .val (.ref b268), .unset, .unset]) rfl k) ?_
    show Go p e below Qo T291 (mkF m 69 #[.val (.int i1), .val (.int i2), .val (.ref b1), .val (.int (2 : Int32)), .val (.int ((i2 &&& (2147483647 : Int32)) % (6 : Int32))), .val (.ref b268), .unset, .unset] [])
    refine Go.of (fun t k => XS.aload X291.here hx rfl (hb hby at_69) rfl rfl k) ?_
    show Go p e below Qo T291 (mkF m 71 #[.val (.int i1), .val (.int i2), .val (.ref b1), .val (.int (2 : Int32)), .val (.int ((i2 &&& (2147483647 : Int32)) % (6 : Int32))), .val (.ref b268), .unset, .unset] [(.ref b268)])
    refine Go.of (fun t k => XS.aloadN X291.here hx rfl (hb hby at_71) rfl rfl k) ?_
    show Go p e below Qo T291 (mkF m 72 #[.val (.int i1), .val (.int i2), .val (.ref b1), .val (.int (2 : Int32)), .val (.int ((i2 &&& (2147483647 : Int32)) % (6 : Int32))), .val (.ref b268), .unset, .unset] [(.ref b1), (.ref b268)])
    refine Go.of (fun t k => XS.iload X291.here hx rfl (hb hby at_72) rfl  k) ?_
    show Go p e below Qo T291 (mkF m 74 #[.val (.int i1), .val (.int i2), .val (.ref b1), .val (.int (2 : Int32)), .val (.int ((i2 &&& (2147483647 : Int32)) % (6 : Int32))), .val (.ref b268), .unset, .unset] [(.int ((i2 &&& (2147483647 : Int32)) % (6 : Int32))), (.ref b1), (.ref b268)])
    have cpo309 := q307
    obtain ⟨clo309, Aro309, qco309, So309, Mo309, Ho309, Go309⟩ := cpo309
    have hin310 : ¬ (((i2 &&& (2147483647 : Int32)) % (6 : Int32)) < 0 ∨ clo309.slots.size ≤ ((i2 &&& (2147483647 : Int32)) % (6 : Int32)).toNatClampNeg) := (inb_of So309 (own_rng _))
    obtain ⟨vr, hvr⟩ : ∃ v, ([.null, (.ref z_READ_UNCOMMITTED), (.ref z_READ_COMMITTED), (.ref z_REPEATABLE_READ), (.ref z_SNAPSHOT), (.ref z_SERIALIZABLE)] : List Value).getD ((i2 &&& (2147483647 : Int32)) % (6 : Int32)).toNatClampNeg .null = v := ⟨_, rfl⟩
    have irv : vr.isRef = true := hvr ▸ own_getR (by simp [Value.isRef]) rfl _
    refine Go.of (fun t k => X291.aaload hx (j := ((i2 &&& (2147483647 : Int32)) % (6 : Int32))) (v := vr) Aro309.1 (State.isArrayOf_alike hZ.alike Aro309.2.1) rfl Aro309.2.2 hin310 (Ho309.at hin310 hvr) (g := (mkF m 74 #[.val (.int i1), .val (.int i2), .val (.ref b1), .val (.int (2 : Int32)), .val (.int ((i2 &&& (2147483647 : Int32)) % (6 : Int32))), .val (.ref b268), .unset, .unset] [(.int ((i2 &&& (2147483647 : Int32)) % (6 : Int32))), (.ref b1), (.ref b268)])) rfl rfl (hb hby at_74) t k) ?_
    show Go p e below Qo T291 (mkF m 75 #[.val (.int i1), .val (.int i2), .val (.ref b1), .val (.int (2 : Int32)), .val (.int ((i2 &&& (2147483647 : Int32)) % (6 : Int32))), .val (.ref b268), .unset, .unset] [vr, (.ref b268)])
    obtain ⟨ciq312, kiq312, iq312a, iq312b, iq312c⟩ := isOf hZ rfl q294
    obtain ⟨_, _, ⟨T311, L311, k311, n311⟩, -, X311, ⟨Lc311, hQ311, l311, y311, z311⟩, st311⟩ := X291.virtualBack hx (y := (⟨"com/example/interleave/interleave/schedule/Instruction$Begin", "level", "(Lcom/example/interleave/interleave/IsolationLevel;)Lcom/example/interleave/interleave/IsolationLevel;"⟩ : MethodName)) (z := (⟨"com/example/interleave/interleave/schedule/Instruction$Begin", "level", "(Lcom/example/interleave/interleave/IsolationLevel;)Lcom/example/interleave/interleave/IsolationLevel;"⟩ : MethodName)) hown (mvT hZ (hw _ (List.mem_of_getElem? (i := 31) rfl))) (mvT hZ (hw _ (List.mem_of_getElem? (i := 32) rfl))) (notFace_of_selects (args := #[]) (mvT hZ (hw _ (List.mem_of_getElem? (i := 34) rfl)))) (mvT hZ (hw _ (List.mem_of_getElem? (i := 34) rfl))) (mvT hZ (hw _ (List.mem_of_getElem? (i := 33) rfl))) (by decide) (backOf (W := 0) (rm5 l Z a0 hw [] b268 vr z_READ_COMMITTED T291.heap n0 Z308 q295 irv) hZ (hw _ (List.mem_of_getElem? (i := 35) rfl)) (hw _ (List.mem_of_getElem? (i := 17) rfl)) (by decide) (by decide)) iq312a iq312c (g := (mkF m 75 #[.val (.int i1), .val (.int i2), .val (.ref b1), .val (.int (2 : Int32)), .val (.int ((i2 &&& (2147483647 : Int32)) % (6 : Int32))), .val (.ref b268), .unset, .unset] [vr, (.ref b268)])) rfl (by rw [hml]; rfl) (Steps.refl _) (argsL := [vr]) (rest := []) (lenOf pd_2 rfl) rfl (by show 2 * 0 + _ ≤ _; exact Nat.le_of_eq rfl) (hb hby at_75) (fun _ _ => ⟨rfl, rfl, (by decide : 2 + 0 ≤ _), (by decide : 7 + 0 ≤ _)⟩)
    dsimp only [Pt.U, Pt.locs, Pt.cells, Pt.slots] at X311 l311 y311 z311 st311 hQ311
    subst l311 y311 z311
    obtain ⟨rfl, N313, eh314⟩ := hQ311
    have N315 := Fr.app N296 N313
    refine Go.via st311 ?_
    show Go p e below Qo T311 (mkF m 78 #[.val (.int i1), .val (.int i2), .val (.ref b1), .val (.int (2 : Int32)), .val (.int ((i2 &&& (2147483647 : Int32)) % (6 : Int32))), .val (.ref b268), .unset, .unset] [(.ref z_READ_COMMITTED)])
    refine Go.of (fun t k => XS.astore X311.here hx rfl (hb hby at_78) rfl rfl (l' := #[.val (.int i1), .val (.int i2), .val (.ref b1), .val (.int (2 : Int32)), .val (.int ((i2 &&& (2147483647 : Int32)) % (6 : Int32))), .val (.ref b268), .val (.ref z_READ_COMMITTED), .unset]) rfl k) ?_
    show Go p e below Qo T311 (mkF m 80 #[.val (.int i1), .val (.int i2), .val (.ref b1), .val (.int (2 : Int32)), .val (.int ((i2 &&& (2147483647 : Int32)) % (6 : Int32))), .val (.ref b268), .val (.ref z_READ_COMMITTED), .unset] [])
    refine Go.of (fun t k => XS.iloadN X311.here hx rfl (hb hby at_80) rfl  k) ?_
    show Go p e below Qo T311 (mkF m 81 #[.val (.int i1), .val (.int i2), .val (.ref b1), .val (.int (2 : Int32)), .val (.int ((i2 &&& (2147483647 : Int32)) % (6 : Int32))), .val (.ref b268), .val (.ref z_READ_COMMITTED), .unset] [(.int (2 : Int32))])
    refine Go.of (fun t k => XS.ifNo X311.here hx rfl (hb hby at_81) rfl ((if0 _ _).trans (feq (by decide : ¬ ((2 : Int32) = (0 : Int32)))).1) k) ?_
    show Go p e below Qo T311 (mkF m 84 #[.val (.int i1), .val (.int i2), .val (.ref b1), .val (.int (2 : Int32)), .val (.int ((i2 &&& (2147483647 : Int32)) % (6 : Int32))), .val (.ref b268), .val (.ref z_READ_COMMITTED), .unset] [])
    refine Go.of (fun t k => XS.iloadN X311.here hx rfl (hb hby at_84) rfl  k) ?_
    show Go p e below Qo T311 (mkF m 85 #[.val (.int i1), .val (.int i2), .val (.ref b1), .val (.int (2 : Int32)), .val (.int ((i2 &&& (2147483647 : Int32)) % (6 : Int32))), .val (.ref b268), .val (.ref z_READ_COMMITTED), .unset] [(.int (2 : Int32))])
    refine Go.of (fun t k => XS.goto X311.here hx rfl (pc0 := 85) (pc' := 90) rfl (hb hby at_85) (by decide) (by decide) k) ?_
    show Go p e below Qo T311 (mkF m 90 #[.val (.int i1), .val (.int i2), .val (.ref b1), .val (.int (2 : Int32)), .val (.int ((i2 &&& (2147483647 : Int32)) % (6 : Int32))), .val (.ref b268), .val (.ref z_READ_COMMITTED), .unset] [(.int (2 : Int32))])
    refine Go.of (fun t k => XS.istore X311.here hx rfl (hb hby at_90) rfl (l' := #[.val (.int i1), .val (.int i2), .val (.ref b1), .val (.int (2 : Int32)), .val (.int ((i2 &&& (2147483647 : Int32)) % (6 : Int32))), .val (.ref b268), .val (.ref z_READ_COMMITTED), .val (.int (2 : Int32))]) rfl k) ?_
    show Go p e below Qo T311 (mkF m 92 #[.val (.int i1), .val (.int i2), .val (.ref b1), .val (.int (2 : Int32)), .val (.int ((i2 &&& (2147483647 : Int32)) % (6 : Int32))), .val (.ref b268), .val (.ref z_READ_COMMITTED), .val (.int (2 : Int32))] [])
    refine Go.of (fun t k => XS.aload X311.here hx rfl (hb hby at_92) rfl rfl k) ?_
    show Go p e below Qo T311 (mkF m 94 #[.val (.int i1), .val (.int i2), .val (.ref b1), .val (.int (2 : Int32)), .val (.int ((i2 &&& (2147483647 : Int32)) % (6 : Int32))), .val (.ref b268), .val (.ref z_READ_COMMITTED), .val (.int (2 : Int32))] [(.ref z_READ_COMMITTED)])
    refine Go.of (fun t k => XS.aloadN X311.here hx rfl (hb hby at_94) rfl rfl k) ?_
    show Go p e below Qo T311 (mkF m 95 #[.val (.int i1), .val (.int i2), .val (.ref b1), .val (.int (2 : Int32)), .val (.int ((i2 &&& (2147483647 : Int32)) % (6 : Int32))), .val (.ref b268), .val (.ref z_READ_COMMITTED), .val (.int (2 : Int32))] [(.ref b1), (.ref z_READ_COMMITTED)])
    refine Go.of (fun t k => XS.iload X311.here hx rfl (hb hby at_95) rfl  k) ?_
    show Go p e below Qo T311 (mkF m 97 #[.val (.int i1), .val (.int i2), .val (.ref b1), .val (.int (2 : Int32)), .val (.int ((i2 &&& (2147483647 : Int32)) % (6 : Int32))), .val (.ref b268), .val (.ref z_READ_COMMITTED), .val (.int (2 : Int32))] [(.int (2 : Int32)), (.ref b1), (.ref z_READ_COMMITTED)])
    have cpo316 := q307
    obtain ⟨clo316, Aro316, qco316, So316, Mo316, Ho316, Go316⟩ := cpo316
    have hin317 : ¬ ((2 : Int32) < 0 ∨ clo316.slots.size ≤ (2 : Int32).toNatClampNeg) := (inb_of So316 ⟨by decide, by decide⟩)
    refine Go.of (fun t k => X311.aaload hx (j := (2 : Int32)) (v := (.ref z_READ_COMMITTED)) (by rw [eh314]; exact Aro316.1) (State.isArrayOf_alike hZ.alike Aro316.2.1) rfl Aro316.2.2 hin317 (Ho316.at hin317 rfl) (g := (mkF m 97 #[.val (.int i1), .val (.int i2), .val (.ref b1), .val (.int (2 : Int32)), .val (.int ((i2 &&& (2147483647 : Int32)) % (6 : Int32))), .val (.ref b268), .val (.ref z_READ_COMMITTED), .val (.int (2 : Int32))] [(.int (2 : Int32)), (.ref b1), (.ref z_READ_COMMITTED)])) rfl rfl (hb hby at_97) t k) ?_
    show Go p e below Qo T311 (mkF m 98 #[.val (.int i1), .val (.int i2), .val (.ref b1), .val (.int (2 : Int32)), .val (.int ((i2 &&& (2147483647 : Int32)) % (6 : Int32))), .val (.ref b268), .val (.ref z_READ_COMMITTED), .val (.int (2 : Int32))] [(.ref z_READ_COMMITTED), (.ref z_READ_COMMITTED)])
    refine Go.of (fun t k => Jvm.RoadKit.acmp (g := (mkF m 98 #[.val (.int i1), .val (.int i2), .val (.ref b1), .val (.int (2 : Int32)), .val (.int ((i2 &&& (2147483647 : Int32)) % (6 : Int32))), .val (.ref b268), .val (.ref z_READ_COMMITTED), .val (.int (2 : Int32))] [(.ref z_READ_COMMITTED), (.ref z_READ_COMMITTED)])) X311 hx rfl rfl rfl (pc0 := 98) (pc' := 101) (same := true) rfl (hb hby at_98) rfl (decide_eq_true rfl) (by decide) (by decide) k) ?_
    show Go p e below Qo T311 (mkF m 101 #[.val (.int i1), .val (.int i2), .val (.ref b1), .val (.int (2 : Int32)), .val (.int ((i2 &&& (2147483647 : Int32)) % (6 : Int32))), .val (.ref b268), .val (.ref z_READ_COMMITTED), .val (.int (2 : Int32))] [])
    refine Go.of (fun t k => XS.iconst X311.here hx rfl (hb hby at_101) k) ?_
    show Go p e below Qo T311 (mkF m 102 #[.val (.int i1), .val (.int i2), .val (.ref b1), .val (.int (2 : Int32)), .val (.int ((i2 &&& (2147483647 : Int32)) % (6 : Int32))), .val (.ref b268), .val (.ref z_READ_COMMITTED), .val (.int (2 : Int32))] [(.int (1 : Int32))])
    refine Go.of (fun t k => XS.goto X311.here hx rfl (pc0 := 102) (pc' := 106) rfl (hb hby at_102) (by decide) (by decide) k) ?_
    show Go p e below Qo T311 (mkF m 106 #[.val (.int i1), .val (.int i2), .val (.ref b1), .val (.int (2 : Int32)), .val (.int ((i2 &&& (2147483647 : Int32)) % (6 : Int32))), .val (.ref b268), .val (.ref z_READ_COMMITTED), .val (.int (2 : Int32))] [(.int (1 : Int32))])
    exact own_retN X311 hx Bd.notSynchronized (t := .boolean) Bd.returns (by simp) (hb hby at_106) (fun u hu hF => hQo _ _ _ ⟨rfl, N315⟩ (own_mono hF (by decide) (by decide)))
  · rw [qv121]
    show Go p e below Qo T107 (mkF m 57 #[.val (.int i1), .val (.int i2), .val (.ref b1), .val (.int (3 : Int32)), .val (.int ((i2 &&& (2147483647 : Int32)) % (6 : Int32))), .unset, .unset, .unset] [])
    obtain ⟨T318, h318, X318, e318, E318, A318, D318, -, st318⟩ := newO X107 hx hZ hown (hw _ (List.mem_of_getElem? (i := 15) rfl)) (hw _ (List.mem_of_getElem? (i := 16) rfl)) (hw _ (List.mem_of_getElem? (i := 17) rfl)) e107 (g := (mkF m 57 #[.val (.int i1), .val (.int i2), .val (.ref b1), .val (.int (3 : Int32)), .val (.int ((i2 &&& (2147483647 : Int32)) % (6 : Int32))), .unset, .unset, .unset] [])) rfl (hb hby at_57) (by decide) (by decide)
    obtain ⟨b318, g318⟩ : ∃ z, z = h107.size := ⟨_, rfl⟩
    rw [← g318] at A318 D318 st318
    have ne319 : z_READ_UNCOMMITTED ≠ b318 := Nat.ne_of_lt (Nat.lt_of_lt_of_le q109.lt (Nat.le_of_eq g318.symm))
    have ne320 : z_READ_COMMITTED ≠ b318 := Nat.ne_of_lt (Nat.lt_of_lt_of_le q111.lt (Nat.le_of_eq g318.symm))
    have ne321 : z_REPEATABLE_READ ≠ b318 := Nat.ne_of_lt (Nat.lt_of_lt_of_le q113.lt (Nat.le_of_eq g318.symm))
    have ne322 : z_SNAPSHOT ≠ b318 := Nat.ne_of_lt (Nat.lt_of_lt_of_le q115.lt (Nat.le_of_eq g318.symm))
    have ne323 : z_SERIALIZABLE ≠ b318 := Nat.ne_of_lt (Nat.lt_of_lt_of_le q117.lt (Nat.le_of_eq g318.symm))
    have ne324 : b1 ≠ b318 := Nat.ne_of_lt (Nat.lt_of_lt_of_le q118.lt (Nat.le_of_eq g318.symm))
    have g325 : n0 ≤ b318 := Nat.le_trans Z119 (Nat.le_of_eq g318.symm)
    have q326 : Sta Z h318 "com/example/interleave/interleave/IsolationLevel" "READ_UNCOMMITTED" "Lcom/example/interleave/interleave/IsolationLevel;" (.ref z_READ_UNCOMMITTED) := q108.ext E318
    have q327 : Exa Z h318 z_READ_UNCOMMITTED "com/example/interleave/interleave/IsolationLevel" := q109.ext E318
    have q328 : Sta Z h318 "com/example/interleave/interleave/IsolationLevel" "READ_COMMITTED" "Lcom/example/interleave/interleave/IsolationLevel;" (.ref z_READ_COMMITTED) := q110.ext E318
    have q329 : Exa Z h318 z_READ_COMMITTED "com/example/interleave/interleave/IsolationLevel" := q111.ext E318
    have q330 : Sta Z h318 "com/example/interleave/interleave/IsolationLevel" "REPEATABLE_READ" "Lcom/example/interleave/interleave/IsolationLevel;" (.ref z_REPEATABLE_READ) := q112.ext E318
    have q331 : Exa Z h318 z_REPEATABLE_READ "com/example/interleave/interleave/IsolationLevel" := q113.ext E318
    have q332 : Sta Z h318 "com/example/interleave/interleave/IsolationLevel" "SNAPSHOT" "Lcom/example/interleave/interleave/IsolationLevel;" (.ref z_SNAPSHOT) := q114.ext E318
    have q333 : Exa Z h318 z_SNAPSHOT "com/example/interleave/interleave/IsolationLevel" := q115.ext E318
    have q334 : Sta Z h318 "com/example/interleave/interleave/IsolationLevel" "SERIALIZABLE" "Lcom/example/interleave/interleave/IsolationLevel;" (.ref z_SERIALIZABLE) := q116.ext E318
    have q335 : Exa Z h318 z_SERIALIZABLE "com/example/interleave/interleave/IsolationLevel" := q117.ext E318
    have q336 : Arv Z h318 b1 k1 (.object "com/example/interleave/interleave/IsolationLevel") (6 : Int32) [.null, (.ref z_READ_UNCOMMITTED), (.ref z_READ_COMMITTED), (.ref z_REPEATABLE_READ), (.ref z_SNAPSHOT), (.ref z_SERIALIZABLE)] .null := q118.ext E318
    have Z337 : n0 ≤ h318.size := Nat.le_trans Z119 E318.1
    have q338 : Fld Z h318 b318 "com/example/interleave/interleave/schedule/Instruction$Begin" "level" "Lcom/example/interleave/interleave/IsolationLevel;" .null := D318 (Or.inr (hw _ (List.mem_of_getElem? (i := 30) rfl))) (ty := (.object "com/example/interleave/interleave/IsolationLevel")) (by decide)
    refine Go.of st318 ?_
    show Go p e below Qo T318 (mkF m 60 #[.val (.int i1), .val (.int i2), .val (.ref b1), .val (.int (3 : Int32)), .val (.int ((i2 &&& (2147483647 : Int32)) % (6 : Int32))), .unset, .unset, .unset] [(.ref b318)])
    refine Go.of (fun t k => XS.dup X318.here hx rfl (hb hby at_60) rfl rfl k) ?_
    show Go p e below Qo T318 (mkF m 61 #[.val (.int i1), .val (.int i2), .val (.ref b1), .val (.int (3 : Int32)), .val (.int ((i2 &&& (2147483647 : Int32)) % (6 : Int32))), .unset, .unset, .unset] [(.ref b318), (.ref b318)])
    refine Go.of (fun t k => XS.aloadN X318.here hx rfl (hb hby at_61) rfl rfl k) ?_
    show Go p e below Qo T318 (mkF m 62 #[.val (.int i1), .val (.int i2), .val (.ref b1), .val (.int (3 : Int32)), .val (.int ((i2 &&& (2147483647 : Int32)) % (6 : Int32))), .unset, .unset, .unset] [(.ref b1), (.ref b318), (.ref b318)])
    refine Go.of (fun t k => XS.iloadN X318.here hx rfl (hb hby at_62) rfl  k) ?_
    show Go p e below Qo T318 (mkF m 63 #[.val (.int i1), .val (.int i2), .val (.ref b1), .val (.int (3 : Int32)), .val (.int ((i2 &&& (2147483647 : Int32)) % (6 : Int32))), .unset, .unset, .unset] [(.int (3 : Int32)), (.ref b1), (.ref b318), (.ref b318)])
    have cpo339 := q336
    obtain ⟨clo339, Aro339, qco339, So339, Mo339, Ho339, Go339⟩ := cpo339
    have hin340 : ¬ ((3 : Int32) < 0 ∨ clo339.slots.size ≤ (3 : Int32).toNatClampNeg) := (inb_of So339 ⟨by decide, by decide⟩)
    refine Go.of (fun t k => X318.aaload hx (j := (3 : Int32)) (v := (.ref z_REPEATABLE_READ)) (by rw [e318]; exact Aro339.1) (State.isArrayOf_alike hZ.alike Aro339.2.1) rfl Aro339.2.2 hin340 (Ho339.at hin340 rfl) (g := (mkF m 63 #[.val (.int i1), .val (.int i2), .val (.ref b1), .val (.int (3 : Int32)), .val (.int ((i2 &&& (2147483647 : Int32)) % (6 : Int32))), .unset, .unset, .unset] [(.int (3 : Int32)), (.ref b1), (.ref b318), (.ref b318)])) rfl rfl (hb hby at_63) t k) ?_
    show Go p e below Qo T318 (mkF m 64 #[.val (.int i1), .val (.int i2), .val (.ref b1), .val (.int (3 : Int32)), .val (.int ((i2 &&& (2147483647 : Int32)) % (6 : Int32))), .unset, .unset, .unset] [(.ref z_REPEATABLE_READ), (.ref b318), (.ref b318)])
    obtain ⟨_, _, ⟨T341, L341, k341, n341⟩, -, X341, ⟨Lc341, hQ341, l341, y341, z341⟩, st341⟩ := X318.specialBack hx (y := (⟨"com/example/interleave/interleave/schedule/Instruction$Begin", "<init>", "(Lcom/example/interleave/interleave/IsolationLevel;)V"⟩ : MethodName)) rfl hown (mvT hZ (hw _ (List.mem_of_getElem? (i := 18) rfl))) (mvT hZ (hw _ (List.mem_of_getElem? (i := 19) rfl))) (mvT hZ (hw _ (List.mem_of_getElem? (i := 20) rfl))) (by decide) (backOf (W := 1) (rm1 l Z a0 hw [] b318 (.ref z_REPEATABLE_READ) .null h318 n0 Z337 A318 q338 g325 rfl) hZ (hw _ (List.mem_of_getElem? (i := 20) rfl)) (hw _ (List.mem_of_getElem? (i := 17) rfl)) (by decide) (by decide)) (g := (mkF m 64 #[.val (.int i1), .val (.int i2), .val (.ref b1), .val (.int (3 : Int32)), .val (.int ((i2 &&& (2147483647 : Int32)) % (6 : Int32))), .unset, .unset, .unset] [(.ref z_REPEATABLE_READ), (.ref b318), (.ref b318)])) rfl (by rw [hml]; rfl) (Steps.refl _) (a := b318) (argsL := [(.ref z_REPEATABLE_READ)]) (rest := [(.ref b318)]) (lenOf pd_1 rfl) rfl (by show 2 * 0 + _ ≤ _; exact Nat.le_of_eq rfl) (hb hby at_64) (fun _ _ => ⟨rfl, e318, (by decide : 2 + 0 ≤ _), (by decide : 7 + 0 ≤ _)⟩)
    dsimp only [Pt.U, Pt.locs, Pt.cells, Pt.slots] at X341 l341 y341 z341 st341 hQ341
    subst l341 y341 z341
    obtain ⟨rfl, N342, Kc343, q344, q345⟩ := hQ341
    have N346 := Fr.app N120 N342
    have q347 : Sta Z T341.heap "com/example/interleave/interleave/IsolationLevel" "READ_UNCOMMITTED" "Lcom/example/interleave/interleave/IsolationLevel;" (.ref z_READ_UNCOMMITTED) := own_staKeep q326 Kc343 (allS (own_plainE A318) all0)
    have q348 : Exa Z T341.heap z_READ_UNCOMMITTED "com/example/interleave/interleave/IsolationLevel" := q327.keep Kc343
    have q349 : Sta Z T341.heap "com/example/interleave/interleave/IsolationLevel" "READ_COMMITTED" "Lcom/example/interleave/interleave/IsolationLevel;" (.ref z_READ_COMMITTED) := own_staKeep q328 Kc343 (allS (own_plainE A318) all0)
    have q350 : Exa Z T341.heap z_READ_COMMITTED "com/example/interleave/interleave/IsolationLevel" := q329.keep Kc343
    have q351 : Sta Z T341.heap "com/example/interleave/interleave/IsolationLevel" "REPEATABLE_READ" "Lcom/example/interleave/interleave/IsolationLevel;" (.ref z_REPEATABLE_READ) := own_staKeep q330 Kc343 (allS (own_plainE A318) all0)
    have q352 : Exa Z T341.heap z_REPEATABLE_READ "com/example/interleave/interleave/IsolationLevel" := q331.keep Kc343
    have q353 : Sta Z T341.heap "com/example/interleave/interleave/IsolationLevel" "SNAPSHOT" "Lcom/example/interleave/interleave/IsolationLevel;" (.ref z_SNAPSHOT) := own_staKeep q332 Kc343 (allS (own_plainE A318) all0)
    have q354 : Exa Z T341.heap z_SNAPSHOT "com/example/interleave/interleave/IsolationLevel" := q333.keep Kc343
    have q355 : Sta Z T341.heap "com/example/interleave/interleave/IsolationLevel" "SERIALIZABLE" "Lcom/example/interleave/interleave/IsolationLevel;" (.ref z_SERIALIZABLE) := own_staKeep q334 Kc343 (allS (own_plainE A318) all0)
    have q356 : Exa Z T341.heap z_SERIALIZABLE "com/example/interleave/interleave/IsolationLevel" := q335.keep Kc343
    have q357 : Arv Z T341.heap b1 k1 (.object "com/example/interleave/interleave/IsolationLevel") (6 : Int32) [.null, (.ref z_READ_UNCOMMITTED), (.ref z_READ_COMMITTED), (.ref z_REPEATABLE_READ), (.ref z_SNAPSHOT), (.ref z_SERIALIZABLE)] .null := q336.keep Kc343 (ninS ne324 nin0)
    have Z358 : n0 ≤ T341.heap.size := Nat.le_trans Z337 Kc343.1
    refine Go.via st341 ?_
    show Go p e below Qo T341 (mkF m 67 #[.val (.int i1), .val (.int i2), .val (.ref b1), .val (.int (3 : Int32)), .val (.int ((i2 &&& (2147483647 : Int32)) % (6 : Int32))), .unset, .unset, .unset] [(.ref b318)])
    refine Go.of (fun t k => XS.astore X341.here hx rfl (hb hby at_67) rfl rfl (l' := #[.val (.int i1), .val (.int i2), .val (.ref b1), .val (.int (3 : Int32)), .val (.int ((i2 &&& (2147483647 : Int32)) % (6 : Int32))), .val (.ref b318), .unset, .unset]) rfl k) ?_
    show Go p e below Qo T341 (mkF m 69 #[.val (.int i1), .val (.int i2), .val (.ref b1), .val (.int (3 : Int32)), .val (.int ((i2 &&& (2147483647 : Int32)) % (6 : Int32))), .val (.ref b318), .unset, .unset] [])
    refine Go.of (fun t k => XS.aload X341.here hx rfl (hb hby at_69) rfl rfl k) ?_
    show Go p e below Qo T341 (mkF m 71 #[.val (.int i1), .val (.int i2), .val (.ref b1), .val (.int (3 : Int32)), .val (.int ((i2 &&& (2147483647 : Int32)) % (6 : Int32))), .val (.ref b318), .unset, .unset] [(.ref b318)])
    refine Go.of (fun t k => XS.aloadN X341.here hx rfl (hb hby at_71) rfl rfl k) ?_
    show Go p e below Qo T341 (mkF m 72 #[.val (.int i1), .val (.int i2), .val (.ref b1), .val (.int (3 : Int32)), .val (.int ((i2 &&& (2147483647 : Int32)) % (6 : Int32))), .val (.ref b318), .unset, .unset] [(.ref b1), (.ref b318)])
    refine Go.of (fun t k => XS.iload X341.here hx rfl (hb hby at_72) rfl  k) ?_
    show Go p e below Qo T341 (mkF m 74 #[.val (.int i1), .val (.int i2), .val (.ref b1), .val (.int (3 : Int32)), .val (.int ((i2 &&& (2147483647 : Int32)) % (6 : Int32))), .val (.ref b318), .unset, .unset] [(.int ((i2 &&& (2147483647 : Int32)) % (6 : Int32))), (.ref b1), (.ref b318)])
    have cpo359 := q357
    obtain ⟨clo359, Aro359, qco359, So359, Mo359, Ho359, Go359⟩ := cpo359
    have hin360 : ¬ (((i2 &&& (2147483647 : Int32)) % (6 : Int32)) < 0 ∨ clo359.slots.size ≤ ((i2 &&& (2147483647 : Int32)) % (6 : Int32)).toNatClampNeg) := (inb_of So359 (own_rng _))
    obtain ⟨vr, hvr⟩ : ∃ v, ([.null, (.ref z_READ_UNCOMMITTED), (.ref z_READ_COMMITTED), (.ref z_REPEATABLE_READ), (.ref z_SNAPSHOT), (.ref z_SERIALIZABLE)] : List Value).getD ((i2 &&& (2147483647 : Int32)) % (6 : Int32)).toNatClampNeg .null = v := ⟨_, rfl⟩
    have irv : vr.isRef = true := hvr ▸ own_getR (by simp [Value.isRef]) rfl _
    refine Go.of (fun t k => X341.aaload hx (j := ((i2 &&& (2147483647 : Int32)) % (6 : Int32))) (v := vr) Aro359.1 (State.isArrayOf_alike hZ.alike Aro359.2.1) rfl Aro359.2.2 hin360 (Ho359.at hin360 hvr) (g := (mkF m 74 #[.val (.int i1), .val (.int i2), .val (.ref b1), .val (.int (3 : Int32)), .val (.int ((i2 &&& (2147483647 : Int32)) % (6 : Int32))), .val (.ref b318), .unset, .unset] [(.int ((i2 &&& (2147483647 : Int32)) % (6 : Int32))), (.ref b1), (.ref b318)])) rfl rfl (hb hby at_74) t k) ?_
    show Go p e below Qo T341 (mkF m 75 #[.val (.int i1), .val (.int i2), .val (.ref b1), .val (.int (3 : Int32)), .val (.int ((i2 &&& (2147483647 : Int32)) % (6 : Int32))), .val (.ref b318), .unset, .unset] [vr, (.ref b318)])
    obtain ⟨ciq362, kiq362, iq362a, iq362b, iq362c⟩ := isOf hZ rfl q344
    obtain ⟨_, _, ⟨T361, L361, k361, n361⟩, -, X361, ⟨Lc361, hQ361, l361, y361, z361⟩, st361⟩ := X341.virtualBack hx (y := (⟨"com/example/interleave/interleave/schedule/Instruction$Begin", "level", "(Lcom/example/interleave/interleave/IsolationLevel;)Lcom/example/interleave/interleave/IsolationLevel;"⟩ : MethodName)) (z := (⟨"com/example/interleave/interleave/schedule/Instruction$Begin", "level", "(Lcom/example/interleave/interleave/IsolationLevel;)Lcom/example/interleave/interleave/IsolationLevel;"⟩ : MethodName)) hown (mvT hZ (hw _ (List.mem_of_getElem? (i := 31) rfl))) (mvT hZ (hw _ (List.mem_of_getElem? (i := 32) rfl))) (notFace_of_selects (args := #[]) (mvT hZ (hw _ (List.mem_of_getElem? (i := 34) rfl)))) (mvT hZ (hw _ (List.mem_of_getElem? (i := 34) rfl))) (mvT hZ (hw _ (List.mem_of_getElem? (i := 33) rfl))) (by decide) (backOf (W := 0) (rm5 l Z a0 hw [] b318 vr z_REPEATABLE_READ T341.heap n0 Z358 q345 irv) hZ (hw _ (List.mem_of_getElem? (i := 35) rfl)) (hw _ (List.mem_of_getElem? (i := 17) rfl)) (by decide) (by decide)) iq362a iq362c (g := (mkF m 75 #[.val (.int i1), .val (.int i2), .val (.ref b1), .val (.int (3 : Int32)), .val (.int ((i2 &&& (2147483647 : Int32)) % (6 : Int32))), .val (.ref b318), .unset, .unset] [vr, (.ref b318)])) rfl (by rw [hml]; rfl) (Steps.refl _) (argsL := [vr]) (rest := []) (lenOf pd_2 rfl) rfl (by show 2 * 0 + _ ≤ _; exact Nat.le_of_eq rfl) (hb hby at_75) (fun _ _ => ⟨rfl, rfl, (by decide : 2 + 0 ≤ _), (by decide : 7 + 0 ≤ _)⟩)
    dsimp only [Pt.U, Pt.locs, Pt.cells, Pt.slots] at X361 l361 y361 z361 st361 hQ361
    subst l361 y361 z361
    obtain ⟨rfl, N363, eh364⟩ := hQ361
    have N365 := Fr.app N346 N363
    refine Go.via st361 ?_
    show Go p e below Qo T361 (mkF m 78 #[.val (.int i1), .val (.int i2), .val (.ref b1), .val (.int (3 : Int32)), .val (.int ((i2 &&& (2147483647 : Int32)) % (6 : Int32))), .val (.ref b318), .unset, .unset] [(.ref z_REPEATABLE_READ)])
    refine Go.of (fun t k => XS.astore X361.here hx rfl (hb hby at_78) rfl rfl (l' := #[.val (.int i1), .val (.int i2), .val (.ref b1), .val (.int (3 : Int32)), .val (.int ((i2 &&& (2147483647 : Int32)) % (6 : Int32))), .val (.ref b318), .val (.ref z_REPEATABLE_READ), .unset]) rfl k) ?_
    show Go p e below Qo T361 (mkF m 80 #[.val (.int i1), .val (.int i2), .val (.ref b1), .val (.int (3 : Int32)), .val (.int ((i2 &&& (2147483647 : Int32)) % (6 : Int32))), .val (.ref b318), .val (.ref z_REPEATABLE_READ), .unset] [])
    refine Go.of (fun t k => XS.iloadN X361.here hx rfl (hb hby at_80) rfl  k) ?_
    show Go p e below Qo T361 (mkF m 81 #[.val (.int i1), .val (.int i2), .val (.ref b1), .val (.int (3 : Int32)), .val (.int ((i2 &&& (2147483647 : Int32)) % (6 : Int32))), .val (.ref b318), .val (.ref z_REPEATABLE_READ), .unset] [(.int (3 : Int32))])
    refine Go.of (fun t k => XS.ifNo X361.here hx rfl (hb hby at_81) rfl ((if0 _ _).trans (feq (by decide : ¬ ((3 : Int32) = (0 : Int32)))).1) k) ?_
    show Go p e below Qo T361 (mkF m 84 #[.val (.int i1), .val (.int i2), .val (.ref b1), .val (.int (3 : Int32)), .val (.int ((i2 &&& (2147483647 : Int32)) % (6 : Int32))), .val (.ref b318), .val (.ref z_REPEATABLE_READ), .unset] [])
    refine Go.of (fun t k => XS.iloadN X361.here hx rfl (hb hby at_84) rfl  k) ?_
    show Go p e below Qo T361 (mkF m 85 #[.val (.int i1), .val (.int i2), .val (.ref b1), .val (.int (3 : Int32)), .val (.int ((i2 &&& (2147483647 : Int32)) % (6 : Int32))), .val (.ref b318), .val (.ref z_REPEATABLE_READ), .unset] [(.int (3 : Int32))])
    refine Go.of (fun t k => XS.goto X361.here hx rfl (pc0 := 85) (pc' := 90) rfl (hb hby at_85) (by decide) (by decide) k) ?_
    show Go p e below Qo T361 (mkF m 90 #[.val (.int i1), .val (.int i2), .val (.ref b1), .val (.int (3 : Int32)), .val (.int ((i2 &&& (2147483647 : Int32)) % (6 : Int32))), .val (.ref b318), .val (.ref z_REPEATABLE_READ), .unset] [(.int (3 : Int32))])
    refine Go.of (fun t k => XS.istore X361.here hx rfl (hb hby at_90) rfl (l' := #[.val (.int i1), .val (.int i2), .val (.ref b1), .val (.int (3 : Int32)), .val (.int ((i2 &&& (2147483647 : Int32)) % (6 : Int32))), .val (.ref b318), .val (.ref z_REPEATABLE_READ), .val (.int (3 : Int32))]) rfl k) ?_
    show Go p e below Qo T361 (mkF m 92 #[.val (.int i1), .val (.int i2), .val (.ref b1), .val (.int (3 : Int32)), .val (.int ((i2 &&& (2147483647 : Int32)) % (6 : Int32))), .val (.ref b318), .val (.ref z_REPEATABLE_READ), .val (.int (3 : Int32))] [])
    refine Go.of (fun t k => XS.aload X361.here hx rfl (hb hby at_92) rfl rfl k) ?_
    show Go p e below Qo T361 (mkF m 94 #[.val (.int i1), .val (.int i2), .val (.ref b1), .val (.int (3 : Int32)), .val (.int ((i2 &&& (2147483647 : Int32)) % (6 : Int32))), .val (.ref b318), .val (.ref z_REPEATABLE_READ), .val (.int (3 : Int32))] [(.ref z_REPEATABLE_READ)])
    refine Go.of (fun t k => XS.aloadN X361.here hx rfl (hb hby at_94) rfl rfl k) ?_
    show Go p e below Qo T361 (mkF m 95 #[.val (.int i1), .val (.int i2), .val (.ref b1), .val (.int (3 : Int32)), .val (.int ((i2 &&& (2147483647 : Int32)) % (6 : Int32))), .val (.ref b318), .val (.ref z_REPEATABLE_READ), .val (.int (3 : Int32))] [(.ref b1), (.ref z_REPEATABLE_READ)])
    refine Go.of (fun t k => XS.iload X361.here hx rfl (hb hby at_95) rfl  k) ?_
    show Go p e below Qo T361 (mkF m 97 #[.val (.int i1), .val (.int i2), .val (.ref b1), .val (.int (3 : Int32)), .val (.int ((i2 &&& (2147483647 : Int32)) % (6 : Int32))), .val (.ref b318), .val (.ref z_REPEATABLE_READ), .val (.int (3 : Int32))] [(.int (3 : Int32)), (.ref b1), (.ref z_REPEATABLE_READ)])
    have cpo366 := q357
    obtain ⟨clo366, Aro366, qco366, So366, Mo366, Ho366, Go366⟩ := cpo366
    have hin367 : ¬ ((3 : Int32) < 0 ∨ clo366.slots.size ≤ (3 : Int32).toNatClampNeg) := (inb_of So366 ⟨by decide, by decide⟩)
    refine Go.of (fun t k => X361.aaload hx (j := (3 : Int32)) (v := (.ref z_REPEATABLE_READ)) (by rw [eh364]; exact Aro366.1) (State.isArrayOf_alike hZ.alike Aro366.2.1) rfl Aro366.2.2 hin367 (Ho366.at hin367 rfl) (g := (mkF m 97 #[.val (.int i1), .val (.int i2), .val (.ref b1), .val (.int (3 : Int32)), .val (.int ((i2 &&& (2147483647 : Int32)) % (6 : Int32))), .val (.ref b318), .val (.ref z_REPEATABLE_READ), .val (.int (3 : Int32))] [(.int (3 : Int32)), (.ref b1), (.ref z_REPEATABLE_READ)])) rfl rfl (hb hby at_97) t k) ?_
    show Go p e below Qo T361 (mkF m 98 #[.val (.int i1), .val (.int i2), .val (.ref b1), .val (.int (3 : Int32)), .val (.int ((i2 &&& (2147483647 : Int32)) % (6 : Int32))), .val (.ref b318), .val (.ref z_REPEATABLE_READ), .val (.int (3 : Int32))] [(.ref z_REPEATABLE_READ), (.ref z_REPEATABLE_READ)])
    refine Go.of (fun t k => Jvm.RoadKit.acmp (g := (mkF m 98 #[.val (.int i1), .val (.int i2), .val (.ref b1), .val (.int (3 : Int32)), .val (.int ((i2 &&& (2147483647 : Int32)) % (6 : Int32))), .val (.ref b318), .val (.ref z_REPEATABLE_READ), .val (.int (3 : Int32))] [(.ref z_REPEATABLE_READ), (.ref z_REPEATABLE_READ)])) X361 hx rfl rfl rfl (pc0 := 98) (pc' := 101) (same := true) rfl (hb hby at_98) rfl (decide_eq_true rfl) (by decide) (by decide) k) ?_
    show Go p e below Qo T361 (mkF m 101 #[.val (.int i1), .val (.int i2), .val (.ref b1), .val (.int (3 : Int32)), .val (.int ((i2 &&& (2147483647 : Int32)) % (6 : Int32))), .val (.ref b318), .val (.ref z_REPEATABLE_READ), .val (.int (3 : Int32))] [])
    refine Go.of (fun t k => XS.iconst X361.here hx rfl (hb hby at_101) k) ?_
    show Go p e below Qo T361 (mkF m 102 #[.val (.int i1), .val (.int i2), .val (.ref b1), .val (.int (3 : Int32)), .val (.int ((i2 &&& (2147483647 : Int32)) % (6 : Int32))), .val (.ref b318), .val (.ref z_REPEATABLE_READ), .val (.int (3 : Int32))] [(.int (1 : Int32))])
    refine Go.of (fun t k => XS.goto X361.here hx rfl (pc0 := 102) (pc' := 106) rfl (hb hby at_102) (by decide) (by decide) k) ?_
    show Go p e below Qo T361 (mkF m 106 #[.val (.int i1), .val (.int i2), .val (.ref b1), .val (.int (3 : Int32)), .val (.int ((i2 &&& (2147483647 : Int32)) % (6 : Int32))), .val (.ref b318), .val (.ref z_REPEATABLE_READ), .val (.int (3 : Int32))] [(.int (1 : Int32))])
    exact own_retN X361 hx Bd.notSynchronized (t := .boolean) Bd.returns (by simp) (hb hby at_106) (fun u hu hF => hQo _ _ _ ⟨rfl, N365⟩ (own_mono hF (by decide) (by decide)))
  · rw [qv121]
    show Go p e below Qo T107 (mkF m 57 #[.val (.int i1), .val (.int i2), .val (.ref b1), .val (.int (4 : Int32)), .val (.int ((i2 &&& (2147483647 : Int32)) % (6 : Int32))), .unset, .unset, .unset] [])
    obtain ⟨T368, h368, X368, e368, E368, A368, D368, -, st368⟩ := newO X107 hx hZ hown (hw _ (List.mem_of_getElem? (i := 15) rfl)) (hw _ (List.mem_of_getElem? (i := 16) rfl)) (hw _ (List.mem_of_getElem? (i := 17) rfl)) e107 (g := (mkF m 57 #[.val (.int i1), .val (.int i2), .val (.ref b1), .val (.int (4 : Int32)), .val (.int ((i2 &&& (2147483647 : Int32)) % (6 : Int32))), .unset, .unset, .unset] [])) rfl (hb hby at_57) (by decide) (by decide)
    obtain ⟨b368, g368⟩ : ∃ z, z = h107.size := ⟨_, rfl⟩
    rw [← g368] at A368 D368 st368
    have ne369 : z_READ_UNCOMMITTED ≠ b368 := Nat.ne_of_lt (Nat.lt_of_lt_of_le q109.lt (Nat.le_of_eq g368.symm))
    have ne370 : z_READ_COMMITTED ≠ b368 := Nat.ne_of_lt (Nat.lt_of_lt_of_le q111.lt (Nat.le_of_eq g368.symm))
    have ne371 : z_REPEATABLE_READ ≠ b368 := Nat.ne_of_lt (Nat.lt_of_lt_of_le q113.lt (Nat.le_of_eq g368.symm))
    have ne372 : z_SNAPSHOT ≠ b368 := Nat.ne_of_lt (Nat.lt_of_lt_of_le q115.lt (Nat.le_of_eq g368.symm))
    have ne373 : z_SERIALIZABLE ≠ b368 := Nat.ne_of_lt (Nat.lt_of_lt_of_le q117.lt (Nat.le_of_eq g368.symm))
    have ne374 : b1 ≠ b368 := Nat.ne_of_lt (Nat.lt_of_lt_of_le q118.lt (Nat.le_of_eq g368.symm))
    have g375 : n0 ≤ b368 := Nat.le_trans Z119 (Nat.le_of_eq g368.symm)
    have q376 : Sta Z h368 "com/example/interleave/interleave/IsolationLevel" "READ_UNCOMMITTED" "Lcom/example/interleave/interleave/IsolationLevel;" (.ref z_READ_UNCOMMITTED) := q108.ext E368
    have q377 : Exa Z h368 z_READ_UNCOMMITTED "com/example/interleave/interleave/IsolationLevel" := q109.ext E368
    have q378 : Sta Z h368 "com/example/interleave/interleave/IsolationLevel" "READ_COMMITTED" "Lcom/example/interleave/interleave/IsolationLevel;" (.ref z_READ_COMMITTED) := q110.ext E368
    have q379 : Exa Z h368 z_READ_COMMITTED "com/example/interleave/interleave/IsolationLevel" := q111.ext E368
    have q380 : Sta Z h368 "com/example/interleave/interleave/IsolationLevel" "REPEATABLE_READ" "Lcom/example/interleave/interleave/IsolationLevel;" (.ref z_REPEATABLE_READ) := q112.ext E368
    have q381 : Exa Z h368 z_REPEATABLE_READ "com/example/interleave/interleave/IsolationLevel" := q113.ext E368
    have q382 : Sta Z h368 "com/example/interleave/interleave/IsolationLevel" "SNAPSHOT" "Lcom/example/interleave/interleave/IsolationLevel;" (.ref z_SNAPSHOT) := q114.ext E368
    have q383 : Exa Z h368 z_SNAPSHOT "com/example/interleave/interleave/IsolationLevel" := q115.ext E368
    have q384 : Sta Z h368 "com/example/interleave/interleave/IsolationLevel" "SERIALIZABLE" "Lcom/example/interleave/interleave/IsolationLevel;" (.ref z_SERIALIZABLE) := q116.ext E368
    have q385 : Exa Z h368 z_SERIALIZABLE "com/example/interleave/interleave/IsolationLevel" := q117.ext E368
    have q386 : Arv Z h368 b1 k1 (.object "com/example/interleave/interleave/IsolationLevel") (6 : Int32) [.null, (.ref z_READ_UNCOMMITTED), (.ref z_READ_COMMITTED), (.ref z_REPEATABLE_READ), (.ref z_SNAPSHOT), (.ref z_SERIALIZABLE)] .null := q118.ext E368
    have Z387 : n0 ≤ h368.size := Nat.le_trans Z119 E368.1
    have q388 : Fld Z h368 b368 "com/example/interleave/interleave/schedule/Instruction$Begin" "level" "Lcom/example/interleave/interleave/IsolationLevel;" .null := D368 (Or.inr (hw _ (List.mem_of_getElem? (i := 30) rfl))) (ty := (.object "com/example/interleave/interleave/IsolationLevel")) (by decide)
    refine Go.of st368 ?_
    show Go p e below Qo T368 (mkF m 60 #[.val (.int i1), .val (.int i2), .val (.ref b1), .val (.int (4 : Int32)), .val (.int ((i2 &&& (2147483647 : Int32)) % (6 : Int32))), .unset, .unset, .unset] [(.ref b368)])
    refine Go.of (fun t k => XS.dup X368.here hx rfl (hb hby at_60) rfl rfl k) ?_
    show Go p e below Qo T368 (mkF m 61 #[.val (.int i1), .val (.int i2), .val (.ref b1), .val (.int (4 : Int32)), .val (.int ((i2 &&& (2147483647 : Int32)) % (6 : Int32))), .unset, .unset, .unset] [(.ref b368), (.ref b368)])
    refine Go.of (fun t k => XS.aloadN X368.here hx rfl (hb hby at_61) rfl rfl k) ?_
    show Go p e below Qo T368 (mkF m 62 #[.val (.int i1), .val (.int i2), .val (.ref b1), .val (.int (4 : Int32)), .val (.int ((i2 &&& (2147483647 : Int32)) % (6 : Int32))), .unset, .unset, .unset] [(.ref b1), (.ref b368), (.ref b368)])
    refine Go.of (fun t k => XS.iloadN X368.here hx rfl (hb hby at_62) rfl  k) ?_
    show Go p e below Qo T368 (mkF m 63 #[.val (.int i1), .val (.int i2), .val (.ref b1), .val (.int (4 : Int32)), .val (.int ((i2 &&& (2147483647 : Int32)) % (6 : Int32))), .unset, .unset, .unset] [(.int (4 : Int32)), (.ref b1), (.ref b368), (.ref b368)])
    have cpo389 := q386
    obtain ⟨clo389, Aro389, qco389, So389, Mo389, Ho389, Go389⟩ := cpo389
    have hin390 : ¬ ((4 : Int32) < 0 ∨ clo389.slots.size ≤ (4 : Int32).toNatClampNeg) := (inb_of So389 ⟨by decide, by decide⟩)
    refine Go.of (fun t k => X368.aaload hx (j := (4 : Int32)) (v := (.ref z_SNAPSHOT)) (by rw [e368]; exact Aro389.1) (State.isArrayOf_alike hZ.alike Aro389.2.1) rfl Aro389.2.2 hin390 (Ho389.at hin390 rfl) (g := (mkF m 63 #[.val (.int i1), .val (.int i2), .val (.ref b1), .val (.int (4 : Int32)), .val (.int ((i2 &&& (2147483647 : Int32)) % (6 : Int32))), .unset, .unset, .unset] [(.int (4 : Int32)), (.ref b1), (.ref b368), (.ref b368)])) rfl rfl (hb hby at_63) t k) ?_
    show Go p e below Qo T368 (mkF m 64 #[.val (.int i1), .val (.int i2), .val (.ref b1), .val (.int (4 : Int32)), .val (.int ((i2 &&& (2147483647 : Int32)) % (6 : Int32))), .unset, .unset, .unset] [(.ref z_SNAPSHOT), (.ref b368), (.ref b368)])
    obtain ⟨_, _, ⟨T391, L391, k391, n391⟩, -, X391, ⟨Lc391, hQ391, l391, y391, z391⟩, st391⟩ := X368.specialBack hx (y := (⟨"com/example/interleave/interleave/schedule/Instruction$Begin", "<init>", "(Lcom/example/interleave/interleave/IsolationLevel;)V"⟩ : MethodName)) rfl hown (mvT hZ (hw _ (List.mem_of_getElem? (i := 18) rfl))) (mvT hZ (hw _ (List.mem_of_getElem? (i := 19) rfl))) (mvT hZ (hw _ (List.mem_of_getElem? (i := 20) rfl))) (by decide) (backOf (W := 1) (rm1 l Z a0 hw [] b368 (.ref z_SNAPSHOT) .null h368 n0 Z387 A368 q388 g375 rfl) hZ (hw _ (List.mem_of_getElem? (i := 20) rfl)) (hw _ (List.mem_of_getElem? (i := 17) rfl)) (by decide) (by decide)) (g := (mkF m 64 #[.val (.int i1), .val (.int i2), .val (.ref b1), .val (.int (4 : Int32)), .val (.int ((i2 &&& (2147483647 : Int32)) % (6 : Int32))), .unset, .unset, .unset] [(.ref z_SNAPSHOT), (.ref b368), (.ref b368)])) rfl (by rw [hml]; rfl) (Steps.refl _) (a := b368) (argsL := [(.ref z_SNAPSHOT)]) (rest := [(.ref b368)]) (lenOf pd_1 rfl) rfl (by show 2 * 0 + _ ≤ _; exact Nat.le_of_eq rfl) (hb hby at_64) (fun _ _ => ⟨rfl, e368, (by decide : 2 + 0 ≤ _), (by decide : 7 + 0 ≤ _)⟩)
    dsimp only [Pt.U, Pt.locs, Pt.cells, Pt.slots] at X391 l391 y391 z391 st391 hQ391
    subst l391 y391 z391
    obtain ⟨rfl, N392, Kc393, q394, q395⟩ := hQ391
    have N396 := Fr.app N120 N392
    have q397 : Sta Z T391.heap "com/example/interleave/interleave/IsolationLevel" "READ_UNCOMMITTED" "Lcom/example/interleave/interleave/IsolationLevel;" (.ref z_READ_UNCOMMITTED) := own_staKeep q376 Kc393 (allS (own_plainE A368) all0)
    have q398 : Exa Z T391.heap z_READ_UNCOMMITTED "com/example/interleave/interleave/IsolationLevel" := q377.keep Kc393
    have q399 : Sta Z T391.heap "com/example/interleave/interleave/IsolationLevel" "READ_COMMITTED" "Lcom/example/interleave/interleave/IsolationLevel;" (.ref z_READ_COMMITTED) := own_staKeep q378 Kc393 (allS (own_plainE A368) all0)
    have q400 : Exa Z T391.heap z_READ_COMMITTED "com/example/interleave/interleave/IsolationLevel" := q379.keep Kc393
    have q401 : Sta Z T391.heap "com/example/interleave/interleave/IsolationLevel" "REPEATABLE_READ" "Lcom/example/interleave/interleave/IsolationLevel;" (.ref z_REPEATABLE_READ) := own_staKeep q380 Kc393 (allS (own_plainE A368) all0)
    have q402 : Exa Z T391.heap z_REPEATABLE_READ "com/example/interleave/interleave/IsolationLevel" := q381.keep Kc393
    have q403 : Sta Z T391.heap "com/example/interleave/interleave/IsolationLevel" "SNAPSHOT" "Lcom/example/interleave/interleave/IsolationLevel;" (.ref z_SNAPSHOT) := own_staKeep q382 Kc393 (allS (own_plainE A368) all0)
    have q404 : Exa Z T391.heap z_SNAPSHOT "com/example/interleave/interleave/IsolationLevel" := q383.keep Kc393
    have q405 : Sta Z T391.heap "com/example/interleave/interleave/IsolationLevel" "SERIALIZABLE" "Lcom/example/interleave/interleave/IsolationLevel;" (.ref z_SERIALIZABLE) := own_staKeep q384 Kc393 (allS (own_plainE A368) all0)
    have q406 : Exa Z T391.heap z_SERIALIZABLE "com/example/interleave/interleave/IsolationLevel" := q385.keep Kc393
    have q407 : Arv Z T391.heap b1 k1 (.object "com/example/interleave/interleave/IsolationLevel") (6 : Int32) [.null, (.ref z_READ_UNCOMMITTED), (.ref z_READ_COMMITTED), (.ref z_REPEATABLE_READ), (.ref z_SNAPSHOT), (.ref z_SERIALIZABLE)] .null := q386.keep Kc393 (ninS ne374 nin0)
    have Z408 : n0 ≤ T391.heap.size := Nat.le_trans Z387 Kc393.1
    refine Go.via st391 ?_
    show Go p e below Qo T391 (mkF m 67 #[.val (.int i1), .val (.int i2), .val (.ref b1), .val (.int (4 : Int32)), .val (.int ((i2 &&& (2147483647 : Int32)) % (6 : Int32))), .unset, .unset, .unset] [(.ref b368)])
    refine Go.of (fun t k => XS.astore X391.here hx rfl (hb hby at_67) rfl rfl (l' := #[.val (.int i1), .val (.int i2), .val (.ref b1), .val (.int (4 : Int32)), .val (.int ((i2 &&& (2147483647 : Int32)) % (6 : Int32))), .val (.ref b368), .unset, .unset]) rfl k) ?_
    show Go p e below Qo T391 (mkF m 69 #[.val (.int i1), .val (.int i2), .val (.ref b1), .val (.int (4 : Int32)), .val (.int ((i2 &&& (2147483647 : Int32)) % (6 : Int32))), .val (.ref b368), .unset, .unset] [])
    refine Go.of (fun t k => XS.aload X391.here hx rfl (hb hby at_69) rfl rfl k) ?_
    show Go p e below Qo T391 (mkF m 71 #[.val (.int i1), .val (.int i2), .val (.ref b1), .val (.int (4 : Int32)), .val (.int ((i2 &&& (2147483647 : Int32)) % (6 : Int32))), .val (.ref b368), .unset, .unset] [(.ref b368)])
    refine Go.of (fun t k => XS.aloadN X391.here hx rfl (hb hby at_71) rfl rfl k) ?_
    show Go p e below Qo T391 (mkF m 72 #[.val (.int i1), .val (.int i2), .val (.ref b1), .val (.int (4 : Int32)), .val (.int ((i2 &&& (2147483647 : Int32)) % (6 : Int32))), .val (.ref b368), .unset, .unset] [(.ref b1), (.ref b368)])
    refine Go.of (fun t k => XS.iload X391.here hx rfl (hb hby at_72) rfl  k) ?_
    show Go p e below Qo T391 (mkF m 74 #[.val (.int i1), .val (.int i2), .val (.ref b1), .val (.int (4 : Int32)), .val (.int ((i2 &&& (2147483647 : Int32)) % (6 : Int32))), .val (.ref b368), .unset, .unset] [(.int ((i2 &&& (2147483647 : Int32)) % (6 : Int32))), (.ref b1), (.ref b368)])
    have cpo409 := q407
    obtain ⟨clo409, Aro409, qco409, So409, Mo409, Ho409, Go409⟩ := cpo409
    have hin410 : ¬ (((i2 &&& (2147483647 : Int32)) % (6 : Int32)) < 0 ∨ clo409.slots.size ≤ ((i2 &&& (2147483647 : Int32)) % (6 : Int32)).toNatClampNeg) := (inb_of So409 (own_rng _))
    obtain ⟨vr, hvr⟩ : ∃ v, ([.null, (.ref z_READ_UNCOMMITTED), (.ref z_READ_COMMITTED), (.ref z_REPEATABLE_READ), (.ref z_SNAPSHOT), (.ref z_SERIALIZABLE)] : List Value).getD ((i2 &&& (2147483647 : Int32)) % (6 : Int32)).toNatClampNeg .null = v := ⟨_, rfl⟩
    have irv : vr.isRef = true := hvr ▸ own_getR (by simp [Value.isRef]) rfl _
    refine Go.of (fun t k => X391.aaload hx (j := ((i2 &&& (2147483647 : Int32)) % (6 : Int32))) (v := vr) Aro409.1 (State.isArrayOf_alike hZ.alike Aro409.2.1) rfl Aro409.2.2 hin410 (Ho409.at hin410 hvr) (g := (mkF m 74 #[.val (.int i1), .val (.int i2), .val (.ref b1), .val (.int (4 : Int32)), .val (.int ((i2 &&& (2147483647 : Int32)) % (6 : Int32))), .val (.ref b368), .unset, .unset] [(.int ((i2 &&& (2147483647 : Int32)) % (6 : Int32))), (.ref b1), (.ref b368)])) rfl rfl (hb hby at_74) t k) ?_
    show Go p e below Qo T391 (mkF m 75 #[.val (.int i1), .val (.int i2), .val (.ref b1), .val (.int (4 : Int32)), .val (.int ((i2 &&& (2147483647 : Int32)) % (6 : Int32))), .val (.ref b368), .unset, .unset] [vr, (.ref b368)])
    obtain ⟨ciq412, kiq412, iq412a, iq412b, iq412c⟩ := isOf hZ rfl q394
    obtain ⟨_, _, ⟨T411, L411, k411, n411⟩, -, X411, ⟨Lc411, hQ411, l411, y411, z411⟩, st411⟩ := X391.virtualBack hx (y := (⟨"com/example/interleave/interleave/schedule/Instruction$Begin", "level", "(Lcom/example/interleave/interleave/IsolationLevel;)Lcom/example/interleave/interleave/IsolationLevel;"⟩ : MethodName)) (z := (⟨"com/example/interleave/interleave/schedule/Instruction$Begin", "level", "(Lcom/example/interleave/interleave/IsolationLevel;)Lcom/example/interleave/interleave/IsolationLevel;"⟩ : MethodName)) hown (mvT hZ (hw _ (List.mem_of_getElem? (i := 31) rfl))) (mvT hZ (hw _ (List.mem_of_getElem? (i := 32) rfl))) (notFace_of_selects (args := #[]) (mvT hZ (hw _ (List.mem_of_getElem? (i := 34) rfl)))) (mvT hZ (hw _ (List.mem_of_getElem? (i := 34) rfl))) (mvT hZ (hw _ (List.mem_of_getElem? (i := 33) rfl))) (by decide) (backOf (W := 0) (rm5 l Z a0 hw [] b368 vr z_SNAPSHOT T391.heap n0 Z408 q395 irv) hZ (hw _ (List.mem_of_getElem? (i := 35) rfl)) (hw _ (List.mem_of_getElem? (i := 17) rfl)) (by decide) (by decide)) iq412a iq412c (g := (mkF m 75 #[.val (.int i1), .val (.int i2), .val (.ref b1), .val (.int (4 : Int32)), .val (.int ((i2 &&& (2147483647 : Int32)) % (6 : Int32))), .val (.ref b368), .unset, .unset] [vr, (.ref b368)])) rfl (by rw [hml]; rfl) (Steps.refl _) (argsL := [vr]) (rest := []) (lenOf pd_2 rfl) rfl (by show 2 * 0 + _ ≤ _; exact Nat.le_of_eq rfl) (hb hby at_75) (fun _ _ => ⟨rfl, rfl, (by decide : 2 + 0 ≤ _), (by decide : 7 + 0 ≤ _)⟩)
    dsimp only [Pt.U, Pt.locs, Pt.cells, Pt.slots] at X411 l411 y411 z411 st411 hQ411
    subst l411 y411 z411
    obtain ⟨rfl, N413, eh414⟩ := hQ411
    have N415 := Fr.app N396 N413
    refine Go.via st411 ?_
    show Go p e below Qo T411 (mkF m 78 #[.val (.int i1), .val (.int i2), .val (.ref b1), .val (.int (4 : Int32)), .val (.int ((i2 &&& (2147483647 : Int32)) % (6 : Int32))), .val (.ref b368), .unset, .unset] [(.ref z_SNAPSHOT)])
    refine Go.of (fun t k => XS.astore X411.here hx rfl (hb hby at_78) rfl rfl (l' := #[.val (.int i1), .val (.int i2), .val (.ref b1), .val (.int (4 : Int32)), .val (.int ((i2 &&& (2147483647 : Int32)) % (6 : Int32))), .val (.ref b368), .val (.ref z_SNAPSHOT), .unset]) rfl k) ?_
    show Go p e below Qo T411 (mkF m 80 #[.val (.int i1), .val (.int i2), .val (.ref b1), .val (.int (4 : Int32)), .val (.int ((i2 &&& (2147483647 : Int32)) % (6 : Int32))), .val (.ref b368), .val (.ref z_SNAPSHOT), .unset] [])
    refine Go.of (fun t k => XS.iloadN X411.here hx rfl (hb hby at_80) rfl  k) ?_
    show Go p e below Qo T411 (mkF m 81 #[.val (.int i1), .val (.int i2), .val (.ref b1), .val (.int (4 : Int32)), .val (.int ((i2 &&& (2147483647 : Int32)) % (6 : Int32))), .val (.ref b368), .val (.ref z_SNAPSHOT), .unset] [(.int (4 : Int32))])
    refine Go.of (fun t k => XS.ifNo X411.here hx rfl (hb hby at_81) rfl ((if0 _ _).trans (feq (by decide : ¬ ((4 : Int32) = (0 : Int32)))).1) k) ?_
    show Go p e below Qo T411 (mkF m 84 #[.val (.int i1), .val (.int i2), .val (.ref b1), .val (.int (4 : Int32)), .val (.int ((i2 &&& (2147483647 : Int32)) % (6 : Int32))), .val (.ref b368), .val (.ref z_SNAPSHOT), .unset] [])
    refine Go.of (fun t k => XS.iloadN X411.here hx rfl (hb hby at_84) rfl  k) ?_
    show Go p e below Qo T411 (mkF m 85 #[.val (.int i1), .val (.int i2), .val (.ref b1), .val (.int (4 : Int32)), .val (.int ((i2 &&& (2147483647 : Int32)) % (6 : Int32))), .val (.ref b368), .val (.ref z_SNAPSHOT), .unset] [(.int (4 : Int32))])
    refine Go.of (fun t k => XS.goto X411.here hx rfl (pc0 := 85) (pc' := 90) rfl (hb hby at_85) (by decide) (by decide) k) ?_
    show Go p e below Qo T411 (mkF m 90 #[.val (.int i1), .val (.int i2), .val (.ref b1), .val (.int (4 : Int32)), .val (.int ((i2 &&& (2147483647 : Int32)) % (6 : Int32))), .val (.ref b368), .val (.ref z_SNAPSHOT), .unset] [(.int (4 : Int32))])
    refine Go.of (fun t k => XS.istore X411.here hx rfl (hb hby at_90) rfl (l' := #[.val (.int i1), .val (.int i2), .val (.ref b1), .val (.int (4 : Int32)), .val (.int ((i2 &&& (2147483647 : Int32)) % (6 : Int32))), .val (.ref b368), .val (.ref z_SNAPSHOT), .val (.int (4 : Int32))]) rfl k) ?_
    show Go p e below Qo T411 (mkF m 92 #[.val (.int i1), .val (.int i2), .val (.ref b1), .val (.int (4 : Int32)), .val (.int ((i2 &&& (2147483647 : Int32)) % (6 : Int32))), .val (.ref b368), .val (.ref z_SNAPSHOT), .val (.int (4 : Int32))] [])
    refine Go.of (fun t k => XS.aload X411.here hx rfl (hb hby at_92) rfl rfl k) ?_
    show Go p e below Qo T411 (mkF m 94 #[.val (.int i1), .val (.int i2), .val (.ref b1), .val (.int (4 : Int32)), .val (.int ((i2 &&& (2147483647 : Int32)) % (6 : Int32))), .val (.ref b368), .val (.ref z_SNAPSHOT), .val (.int (4 : Int32))] [(.ref z_SNAPSHOT)])
    refine Go.of (fun t k => XS.aloadN X411.here hx rfl (hb hby at_94) rfl rfl k) ?_
    show Go p e below Qo T411 (mkF m 95 #[.val (.int i1), .val (.int i2), .val (.ref b1), .val (.int (4 : Int32)), .val (.int ((i2 &&& (2147483647 : Int32)) % (6 : Int32))), .val (.ref b368), .val (.ref z_SNAPSHOT), .val (.int (4 : Int32))] [(.ref b1), (.ref z_SNAPSHOT)])
    refine Go.of (fun t k => XS.iload X411.here hx rfl (hb hby at_95) rfl  k) ?_
    show Go p e below Qo T411 (mkF m 97 #[.val (.int i1), .val (.int i2), .val (.ref b1), .val (.int (4 : Int32)), .val (.int ((i2 &&& (2147483647 : Int32)) % (6 : Int32))), .val (.ref b368), .val (.ref z_SNAPSHOT), .val (.int (4 : Int32))] [(.int (4 : Int32)), (.ref b1), (.ref z_SNAPSHOT)])
    have cpo416 := q407
    obtain ⟨clo416, Aro416, qco416, So416, Mo416, Ho416, Go416⟩ := cpo416
    have hin417 : ¬ ((4 : Int32) < 0 ∨ clo416.slots.size ≤ (4 : Int32).toNatClampNeg) := (inb_of So416 ⟨by decide, by decide⟩)
    refine Go.of (fun t k => X411.aaload hx (j := (4 : Int32)) (v := (.ref z_SNAPSHOT)) (by rw [eh414]; exact Aro416.1) (State.isArrayOf_alike hZ.alike Aro416.2.1) rfl Aro416.2.2 hin417 (Ho416.at hin417 rfl) (g := (mkF m 97 #[.val (.int i1), .val (.int i2), .val (.ref b1), .val (.int (4 : Int32)), .val (.int ((i2 &&& (2147483647 : Int32)) % (6 : Int32))), .val (.ref b368), .val (.ref z_SNAPSHOT), .val (.int (4 : Int32))] [(.int (4 : Int32)), (.ref b1), (.ref z_SNAPSHOT)])) rfl rfl (hb hby at_97) t k) ?_
    show Go p e below Qo T411 (mkF m 98 #[.val (.int i1), .val (.int i2), .val (.ref b1), .val (.int (4 : Int32)), .val (.int ((i2 &&& (2147483647 : Int32)) % (6 : Int32))), .val (.ref b368), .val (.ref z_SNAPSHOT), .val (.int (4 : Int32))] [(.ref z_SNAPSHOT), (.ref z_SNAPSHOT)])
    refine Go.of (fun t k => Jvm.RoadKit.acmp (g := (mkF m 98 #[.val (.int i1), .val (.int i2), .val (.ref b1), .val (.int (4 : Int32)), .val (.int ((i2 &&& (2147483647 : Int32)) % (6 : Int32))), .val (.ref b368), .val (.ref z_SNAPSHOT), .val (.int (4 : Int32))] [(.ref z_SNAPSHOT), (.ref z_SNAPSHOT)])) X411 hx rfl rfl rfl (pc0 := 98) (pc' := 101) (same := true) rfl (hb hby at_98) rfl (decide_eq_true rfl) (by decide) (by decide) k) ?_
    show Go p e below Qo T411 (mkF m 101 #[.val (.int i1), .val (.int i2), .val (.ref b1), .val (.int (4 : Int32)), .val (.int ((i2 &&& (2147483647 : Int32)) % (6 : Int32))), .val (.ref b368), .val (.ref z_SNAPSHOT), .val (.int (4 : Int32))] [])
    refine Go.of (fun t k => XS.iconst X411.here hx rfl (hb hby at_101) k) ?_
    show Go p e below Qo T411 (mkF m 102 #[.val (.int i1), .val (.int i2), .val (.ref b1), .val (.int (4 : Int32)), .val (.int ((i2 &&& (2147483647 : Int32)) % (6 : Int32))), .val (.ref b368), .val (.ref z_SNAPSHOT), .val (.int (4 : Int32))] [(.int (1 : Int32))])
    refine Go.of (fun t k => XS.goto X411.here hx rfl (pc0 := 102) (pc' := 106) rfl (hb hby at_102) (by decide) (by decide) k) ?_
    show Go p e below Qo T411 (mkF m 106 #[.val (.int i1), .val (.int i2), .val (.ref b1), .val (.int (4 : Int32)), .val (.int ((i2 &&& (2147483647 : Int32)) % (6 : Int32))), .val (.ref b368), .val (.ref z_SNAPSHOT), .val (.int (4 : Int32))] [(.int (1 : Int32))])
    exact own_retN X411 hx Bd.notSynchronized (t := .boolean) Bd.returns (by simp) (hb hby at_106) (fun u hu hF => hQo _ _ _ ⟨rfl, N415⟩ (own_mono hF (by decide) (by decide)))
  · rw [qv121]
    show Go p e below Qo T107 (mkF m 57 #[.val (.int i1), .val (.int i2), .val (.ref b1), .val (.int (5 : Int32)), .val (.int ((i2 &&& (2147483647 : Int32)) % (6 : Int32))), .unset, .unset, .unset] [])
    obtain ⟨T418, h418, X418, e418, E418, A418, D418, -, st418⟩ := newO X107 hx hZ hown (hw _ (List.mem_of_getElem? (i := 15) rfl)) (hw _ (List.mem_of_getElem? (i := 16) rfl)) (hw _ (List.mem_of_getElem? (i := 17) rfl)) e107 (g := (mkF m 57 #[.val (.int i1), .val (.int i2), .val (.ref b1), .val (.int (5 : Int32)), .val (.int ((i2 &&& (2147483647 : Int32)) % (6 : Int32))), .unset, .unset, .unset] [])) rfl (hb hby at_57) (by decide) (by decide)
    obtain ⟨b418, g418⟩ : ∃ z, z = h107.size := ⟨_, rfl⟩
    rw [← g418] at A418 D418 st418
    have ne419 : z_READ_UNCOMMITTED ≠ b418 := Nat.ne_of_lt (Nat.lt_of_lt_of_le q109.lt (Nat.le_of_eq g418.symm))
    have ne420 : z_READ_COMMITTED ≠ b418 := Nat.ne_of_lt (Nat.lt_of_lt_of_le q111.lt (Nat.le_of_eq g418.symm))
    have ne421 : z_REPEATABLE_READ ≠ b418 := Nat.ne_of_lt (Nat.lt_of_lt_of_le q113.lt (Nat.le_of_eq g418.symm))
    have ne422 : z_SNAPSHOT ≠ b418 := Nat.ne_of_lt (Nat.lt_of_lt_of_le q115.lt (Nat.le_of_eq g418.symm))
    have ne423 : z_SERIALIZABLE ≠ b418 := Nat.ne_of_lt (Nat.lt_of_lt_of_le q117.lt (Nat.le_of_eq g418.symm))
    have ne424 : b1 ≠ b418 := Nat.ne_of_lt (Nat.lt_of_lt_of_le q118.lt (Nat.le_of_eq g418.symm))
    have g425 : n0 ≤ b418 := Nat.le_trans Z119 (Nat.le_of_eq g418.symm)
    have q426 : Sta Z h418 "com/example/interleave/interleave/IsolationLevel" "READ_UNCOMMITTED" "Lcom/example/interleave/interleave/IsolationLevel;" (.ref z_READ_UNCOMMITTED) := q108.ext E418
    have q427 : Exa Z h418 z_READ_UNCOMMITTED "com/example/interleave/interleave/IsolationLevel" := q109.ext E418
    have q428 : Sta Z h418 "com/example/interleave/interleave/IsolationLevel" "READ_COMMITTED" "Lcom/example/interleave/interleave/IsolationLevel;" (.ref z_READ_COMMITTED) := q110.ext E418
    have q429 : Exa Z h418 z_READ_COMMITTED "com/example/interleave/interleave/IsolationLevel" := q111.ext E418
    have q430 : Sta Z h418 "com/example/interleave/interleave/IsolationLevel" "REPEATABLE_READ" "Lcom/example/interleave/interleave/IsolationLevel;" (.ref z_REPEATABLE_READ) := q112.ext E418
    have q431 : Exa Z h418 z_REPEATABLE_READ "com/example/interleave/interleave/IsolationLevel" := q113.ext E418
    have q432 : Sta Z h418 "com/example/interleave/interleave/IsolationLevel" "SNAPSHOT" "Lcom/example/interleave/interleave/IsolationLevel;" (.ref z_SNAPSHOT) := q114.ext E418
    have q433 : Exa Z h418 z_SNAPSHOT "com/example/interleave/interleave/IsolationLevel" := q115.ext E418
    have q434 : Sta Z h418 "com/example/interleave/interleave/IsolationLevel" "SERIALIZABLE" "Lcom/example/interleave/interleave/IsolationLevel;" (.ref z_SERIALIZABLE) := q116.ext E418
    have q435 : Exa Z h418 z_SERIALIZABLE "com/example/interleave/interleave/IsolationLevel" := q117.ext E418
    have q436 : Arv Z h418 b1 k1 (.object "com/example/interleave/interleave/IsolationLevel") (6 : Int32) [.null, (.ref z_READ_UNCOMMITTED), (.ref z_READ_COMMITTED), (.ref z_REPEATABLE_READ), (.ref z_SNAPSHOT), (.ref z_SERIALIZABLE)] .null := q118.ext E418
    have Z437 : n0 ≤ h418.size := Nat.le_trans Z119 E418.1
    have q438 : Fld Z h418 b418 "com/example/interleave/interleave/schedule/Instruction$Begin" "level" "Lcom/example/interleave/interleave/IsolationLevel;" .null := D418 (Or.inr (hw _ (List.mem_of_getElem? (i := 30) rfl))) (ty := (.object "com/example/interleave/interleave/IsolationLevel")) (by decide)
    refine Go.of st418 ?_
    show Go p e below Qo T418 (mkF m 60 #[.val (.int i1), .val (.int i2), .val (.ref b1), .val (.int (5 : Int32)), .val (.int ((i2 &&& (2147483647 : Int32)) % (6 : Int32))), .unset, .unset, .unset] [(.ref b418)])
    refine Go.of (fun t k => XS.dup X418.here hx rfl (hb hby at_60) rfl rfl k) ?_
    show Go p e below Qo T418 (mkF m 61 #[.val (.int i1), .val (.int i2), .val (.ref b1), .val (.int (5 : Int32)), .val (.int ((i2 &&& (2147483647 : Int32)) % (6 : Int32))), .unset, .unset, .unset] [(.ref b418), (.ref b418)])
    refine Go.of (fun t k => XS.aloadN X418.here hx rfl (hb hby at_61) rfl rfl k) ?_
    show Go p e below Qo T418 (mkF m 62 #[.val (.int i1), .val (.int i2), .val (.ref b1), .val (.int (5 : Int32)), .val (.int ((i2 &&& (2147483647 : Int32)) % (6 : Int32))), .unset, .unset, .unset] [(.ref b1), (.ref b418), (.ref b418)])
    refine Go.of (fun t k => XS.iloadN X418.here hx rfl (hb hby at_62) rfl  k) ?_
    show Go p e below Qo T418 (mkF m 63 #[.val (.int i1), .val (.int i2), .val (.ref b1), .val (.int (5 : Int32)), .val (.int ((i2 &&& (2147483647 : Int32)) % (6 : Int32))), .unset, .unset, .unset] [(.int (5 : Int32)), (.ref b1), (.ref b418), (.ref b418)])
    have cpo439 := q436
    obtain ⟨clo439, Aro439, qco439, So439, Mo439, Ho439, Go439⟩ := cpo439
    have hin440 : ¬ ((5 : Int32) < 0 ∨ clo439.slots.size ≤ (5 : Int32).toNatClampNeg) := (inb_of So439 ⟨by decide, by decide⟩)
    refine Go.of (fun t k => X418.aaload hx (j := (5 : Int32)) (v := (.ref z_SERIALIZABLE)) (by rw [e418]; exact Aro439.1) (State.isArrayOf_alike hZ.alike Aro439.2.1) rfl Aro439.2.2 hin440 (Ho439.at hin440 rfl) (g := (mkF m 63 #[.val (.int i1), .val (.int i2), .val (.ref b1), .val (.int (5 : Int32)), .val (.int ((i2 &&& (2147483647 : Int32)) % (6 : Int32))), .unset, .unset, .unset] [(.int (5 : Int32)), (.ref b1), (.ref b418), (.ref b418)])) rfl rfl (hb hby at_63) t k) ?_
    show Go p e below Qo T418 (mkF m 64 #[.val (.int i1), .val (.int i2), .val (.ref b1), .val (.int (5 : Int32)), .val (.int ((i2 &&& (2147483647 : Int32)) % (6 : Int32))), .unset, .unset, .unset] [(.ref z_SERIALIZABLE), (.ref b418), (.ref b418)])
    obtain ⟨_, _, ⟨T441, L441, k441, n441⟩, -, X441, ⟨Lc441, hQ441, l441, y441, z441⟩, st441⟩ := X418.specialBack hx (y := (⟨"com/example/interleave/interleave/schedule/Instruction$Begin", "<init>", "(Lcom/example/interleave/interleave/IsolationLevel;)V"⟩ : MethodName)) rfl hown (mvT hZ (hw _ (List.mem_of_getElem? (i := 18) rfl))) (mvT hZ (hw _ (List.mem_of_getElem? (i := 19) rfl))) (mvT hZ (hw _ (List.mem_of_getElem? (i := 20) rfl))) (by decide) (backOf (W := 1) (rm1 l Z a0 hw [] b418 (.ref z_SERIALIZABLE) .null h418 n0 Z437 A418 q438 g425 rfl) hZ (hw _ (List.mem_of_getElem? (i := 20) rfl)) (hw _ (List.mem_of_getElem? (i := 17) rfl)) (by decide) (by decide)) (g := (mkF m 64 #[.val (.int i1), .val (.int i2), .val (.ref b1), .val (.int (5 : Int32)), .val (.int ((i2 &&& (2147483647 : Int32)) % (6 : Int32))), .unset, .unset, .unset] [(.ref z_SERIALIZABLE), (.ref b418), (.ref b418)])) rfl (by rw [hml]; rfl) (Steps.refl _) (a := b418) (argsL := [(.ref z_SERIALIZABLE)]) (rest := [(.ref b418)]) (lenOf pd_1 rfl) rfl (by show 2 * 0 + _ ≤ _; exact Nat.le_of_eq rfl) (hb hby at_64) (fun _ _ => ⟨rfl, e418, (by decide : 2 + 0 ≤ _), (by decide : 7 + 0 ≤ _)⟩)
    dsimp only [Pt.U, Pt.locs, Pt.cells, Pt.slots] at X441 l441 y441 z441 st441 hQ441
    subst l441 y441 z441
    obtain ⟨rfl, N442, Kc443, q444, q445⟩ := hQ441
    have N446 := Fr.app N120 N442
    have q447 : Sta Z T441.heap "com/example/interleave/interleave/IsolationLevel" "READ_UNCOMMITTED" "Lcom/example/interleave/interleave/IsolationLevel;" (.ref z_READ_UNCOMMITTED) := own_staKeep q426 Kc443 (allS (own_plainE A418) all0)
    have q448 : Exa Z T441.heap z_READ_UNCOMMITTED "com/example/interleave/interleave/IsolationLevel" := q427.keep Kc443
    have q449 : Sta Z T441.heap "com/example/interleave/interleave/IsolationLevel" "READ_COMMITTED" "Lcom/example/interleave/interleave/IsolationLevel;" (.ref z_READ_COMMITTED) := own_staKeep q428 Kc443 (allS (own_plainE A418) all0)
    have q450 : Exa Z T441.heap z_READ_COMMITTED "com/example/interleave/interleave/IsolationLevel" := q429.keep Kc443
    have q451 : Sta Z T441.heap "com/example/interleave/interleave/IsolationLevel" "REPEATABLE_READ" "Lcom/example/interleave/interleave/IsolationLevel;" (.ref z_REPEATABLE_READ) := own_staKeep q430 Kc443 (allS (own_plainE A418) all0)
    have q452 : Exa Z T441.heap z_REPEATABLE_READ "com/example/interleave/interleave/IsolationLevel" := q431.keep Kc443
    have q453 : Sta Z T441.heap "com/example/interleave/interleave/IsolationLevel" "SNAPSHOT" "Lcom/example/interleave/interleave/IsolationLevel;" (.ref z_SNAPSHOT) := own_staKeep q432 Kc443 (allS (own_plainE A418) all0)
    have q454 : Exa Z T441.heap z_SNAPSHOT "com/example/interleave/interleave/IsolationLevel" := q433.keep Kc443
    have q455 : Sta Z T441.heap "com/example/interleave/interleave/IsolationLevel" "SERIALIZABLE" "Lcom/example/interleave/interleave/IsolationLevel;" (.ref z_SERIALIZABLE) := own_staKeep q434 Kc443 (allS (own_plainE A418) all0)
    have q456 : Exa Z T441.heap z_SERIALIZABLE "com/example/interleave/interleave/IsolationLevel" := q435.keep Kc443
    have q457 : Arv Z T441.heap b1 k1 (.object "com/example/interleave/interleave/IsolationLevel") (6 : Int32) [.null, (.ref z_READ_UNCOMMITTED), (.ref z_READ_COMMITTED), (.ref z_REPEATABLE_READ), (.ref z_SNAPSHOT), (.ref z_SERIALIZABLE)] .null := q436.keep Kc443 (ninS ne424 nin0)
    have Z458 : n0 ≤ T441.heap.size := Nat.le_trans Z437 Kc443.1
    refine Go.via st441 ?_
    show Go p e below Qo T441 (mkF m 67 #[.val (.int i1), .val (.int i2), .val (.ref b1), .val (.int (5 : Int32)), .val (.int ((i2 &&& (2147483647 : Int32)) % (6 : Int32))), .unset, .unset, .unset] [(.ref b418)])
    refine Go.of (fun t k => XS.astore X441.here hx rfl (hb hby at_67) rfl rfl (l' := #[.val (.int i1), .val (.int i2), .val (.ref b1), .val (.int (5 : Int32)), .val (.int ((i2 &&& (2147483647 : Int32)) % (6 : Int32))), .val (.ref b418), .unset, .unset]) rfl k) ?_
    show Go p e below Qo T441 (mkF m 69 #[.val (.int i1), .val (.int i2), .val (.ref b1), .val (.int (5 : Int32)), .val (.int ((i2 &&& (2147483647 : Int32)) % (6 : Int32))), .val (.ref b418), .unset, .unset] [])
    refine Go.of (fun t k => XS.aload X441.here hx rfl (hb hby at_69) rfl rfl k) ?_
    show Go p e below Qo T441 (mkF m 71 #[.val (.int i1), .val (.int i2), .val (.ref b1), .val (.int (5 : Int32)), .val (.int ((i2 &&& (2147483647 : Int32)) % (6 : Int32))), .val (.ref b418), .unset, .unset] [(.ref b418)])
    refine Go.of (fun t k => XS.aloadN X441.here hx rfl (hb hby at_71) rfl rfl k) ?_
    show Go p e below Qo T441 (mkF m 72 #[.val (.int i1), .val (.int i2), .val (.ref b1), .val (.int (5 : Int32)), .val (.int ((i2 &&& (2147483647 : Int32)) % (6 : Int32))), .val (.ref b418), .unset, .unset] [(.ref b1), (.ref b418)])
    refine Go.of (fun t k => XS.iload X441.here hx rfl (hb hby at_72) rfl  k) ?_
    show Go p e below Qo T441 (mkF m 74 #[.val (.int i1), .val (.int i2), .val (.ref b1), .val (.int (5 : Int32)), .val (.int ((i2 &&& (2147483647 : Int32)) % (6 : Int32))), .val (.ref b418), .unset, .unset] [(.int ((i2 &&& (2147483647 : Int32)) % (6 : Int32))), (.ref b1), (.ref b418)])
    have cpo459 := q457
    obtain ⟨clo459, Aro459, qco459, So459, Mo459, Ho459, Go459⟩ := cpo459
    have hin460 : ¬ (((i2 &&& (2147483647 : Int32)) % (6 : Int32)) < 0 ∨ clo459.slots.size ≤ ((i2 &&& (2147483647 : Int32)) % (6 : Int32)).toNatClampNeg) := (inb_of So459 (own_rng _))
    obtain ⟨vr, hvr⟩ : ∃ v, ([.null, (.ref z_READ_UNCOMMITTED), (.ref z_READ_COMMITTED), (.ref z_REPEATABLE_READ), (.ref z_SNAPSHOT), (.ref z_SERIALIZABLE)] : List Value).getD ((i2 &&& (2147483647 : Int32)) % (6 : Int32)).toNatClampNeg .null = v := ⟨_, rfl⟩
    have irv : vr.isRef = true := hvr ▸ own_getR (by simp [Value.isRef]) rfl _
    refine Go.of (fun t k => X441.aaload hx (j := ((i2 &&& (2147483647 : Int32)) % (6 : Int32))) (v := vr) Aro459.1 (State.isArrayOf_alike hZ.alike Aro459.2.1) rfl Aro459.2.2 hin460 (Ho459.at hin460 hvr) (g := (mkF m 74 #[.val (.int i1), .val (.int i2), .val (.ref b1), .val (.int (5 : Int32)), .val (.int ((i2 &&& (2147483647 : Int32)) % (6 : Int32))), .val (.ref b418), .unset, .unset] [(.int ((i2 &&& (2147483647 : Int32)) % (6 : Int32))), (.ref b1), (.ref b418)])) rfl rfl (hb hby at_74) t k) ?_
    show Go p e below Qo T441 (mkF m 75 #[.val (.int i1), .val (.int i2), .val (.ref b1), .val (.int (5 : Int32)), .val (.int ((i2 &&& (2147483647 : Int32)) % (6 : Int32))), .val (.ref b418), .unset, .unset] [vr, (.ref b418)])
    obtain ⟨ciq462, kiq462, iq462a, iq462b, iq462c⟩ := isOf hZ rfl q444
    obtain ⟨_, _, ⟨T461, L461, k461, n461⟩, -, X461, ⟨Lc461, hQ461, l461, y461, z461⟩, st461⟩ := X441.virtualBack hx (y := (⟨"com/example/interleave/interleave/schedule/Instruction$Begin", "level", "(Lcom/example/interleave/interleave/IsolationLevel;)Lcom/example/interleave/interleave/IsolationLevel;"⟩ : MethodName)) (z := (⟨"com/example/interleave/interleave/schedule/Instruction$Begin", "level", "(Lcom/example/interleave/interleave/IsolationLevel;)Lcom/example/interleave/interleave/IsolationLevel;"⟩ : MethodName)) hown (mvT hZ (hw _ (List.mem_of_getElem? (i := 31) rfl))) (mvT hZ (hw _ (List.mem_of_getElem? (i := 32) rfl))) (notFace_of_selects (args := #[]) (mvT hZ (hw _ (List.mem_of_getElem? (i := 34) rfl)))) (mvT hZ (hw _ (List.mem_of_getElem? (i := 34) rfl))) (mvT hZ (hw _ (List.mem_of_getElem? (i := 33) rfl))) (by decide) (backOf (W := 0) (rm5 l Z a0 hw [] b418 vr z_SERIALIZABLE T441.heap n0 Z458 q445 irv) hZ (hw _ (List.mem_of_getElem? (i := 35) rfl)) (hw _ (List.mem_of_getElem? (i := 17) rfl)) (by decide) (by decide)) iq462a iq462c (g := (mkF m 75 #[.val (.int i1), .val (.int i2), .val (.ref b1), .val (.int (5 : Int32)), .val (.int ((i2 &&& (2147483647 : Int32)) % (6 : Int32))), .val (.ref b418), .unset, .unset] [vr, (.ref b418)])) rfl (by rw [hml]; rfl) (Steps.refl _) (argsL := [vr]) (rest := []) (lenOf pd_2 rfl) rfl (by show 2 * 0 + _ ≤ _; exact Nat.le_of_eq rfl) (hb hby at_75) (fun _ _ => ⟨rfl, rfl, (by decide : 2 + 0 ≤ _), (by decide : 7 + 0 ≤ _)⟩)
    dsimp only [Pt.U, Pt.locs, Pt.cells, Pt.slots] at X461 l461 y461 z461 st461 hQ461
    subst l461 y461 z461
    obtain ⟨rfl, N463, eh464⟩ := hQ461
    have N465 := Fr.app N446 N463
    refine Go.via st461 ?_
    show Go p e below Qo T461 (mkF m 78 #[.val (.int i1), .val (.int i2), .val (.ref b1), .val (.int (5 : Int32)), .val (.int ((i2 &&& (2147483647 : Int32)) % (6 : Int32))), .val (.ref b418), .unset, .unset] [(.ref z_SERIALIZABLE)])
    refine Go.of (fun t k => XS.astore X461.here hx rfl (hb hby at_78) rfl rfl (l' := #[.val (.int i1), .val (.int i2), .val (.ref b1), .val (.int (5 : Int32)), .val (.int ((i2 &&& (2147483647 : Int32)) % (6 : Int32))), .val (.ref b418), .val (.ref z_SERIALIZABLE), .unset]) rfl k) ?_
    show Go p e below Qo T461 (mkF m 80 #[.val (.int i1), .val (.int i2), .val (.ref b1), .val (.int (5 : Int32)), .val (.int ((i2 &&& (2147483647 : Int32)) % (6 : Int32))), .val (.ref b418), .val (.ref z_SERIALIZABLE), .unset] [])
    refine Go.of (fun t k => XS.iloadN X461.here hx rfl (hb hby at_80) rfl  k) ?_
    show Go p e below Qo T461 (mkF m 81 #[.val (.int i1), .val (.int i2), .val (.ref b1), .val (.int (5 : Int32)), .val (.int ((i2 &&& (2147483647 : Int32)) % (6 : Int32))), .val (.ref b418), .val (.ref z_SERIALIZABLE), .unset] [(.int (5 : Int32))])
    refine Go.of (fun t k => XS.ifNo X461.here hx rfl (hb hby at_81) rfl ((if0 _ _).trans (feq (by decide : ¬ ((5 : Int32) = (0 : Int32)))).1) k) ?_
    show Go p e below Qo T461 (mkF m 84 #[.val (.int i1), .val (.int i2), .val (.ref b1), .val (.int (5 : Int32)), .val (.int ((i2 &&& (2147483647 : Int32)) % (6 : Int32))), .val (.ref b418), .val (.ref z_SERIALIZABLE), .unset] [])
    refine Go.of (fun t k => XS.iloadN X461.here hx rfl (hb hby at_84) rfl  k) ?_
    show Go p e below Qo T461 (mkF m 85 #[.val (.int i1), .val (.int i2), .val (.ref b1), .val (.int (5 : Int32)), .val (.int ((i2 &&& (2147483647 : Int32)) % (6 : Int32))), .val (.ref b418), .val (.ref z_SERIALIZABLE), .unset] [(.int (5 : Int32))])
    refine Go.of (fun t k => XS.goto X461.here hx rfl (pc0 := 85) (pc' := 90) rfl (hb hby at_85) (by decide) (by decide) k) ?_
    show Go p e below Qo T461 (mkF m 90 #[.val (.int i1), .val (.int i2), .val (.ref b1), .val (.int (5 : Int32)), .val (.int ((i2 &&& (2147483647 : Int32)) % (6 : Int32))), .val (.ref b418), .val (.ref z_SERIALIZABLE), .unset] [(.int (5 : Int32))])
    refine Go.of (fun t k => XS.istore X461.here hx rfl (hb hby at_90) rfl (l' := #[.val (.int i1), .val (.int i2), .val (.ref b1), .val (.int (5 : Int32)), .val (.int ((i2 &&& (2147483647 : Int32)) % (6 : Int32))), .val (.ref b418), .val (.ref z_SERIALIZABLE), .val (.int (5 : Int32))]) rfl k) ?_
    show Go p e below Qo T461 (mkF m 92 #[.val (.int i1), .val (.int i2), .val (.ref b1), .val (.int (5 : Int32)), .val (.int ((i2 &&& (2147483647 : Int32)) % (6 : Int32))), .val (.ref b418), .val (.ref z_SERIALIZABLE), .val (.int (5 : Int32))] [])
    refine Go.of (fun t k => XS.aload X461.here hx rfl (hb hby at_92) rfl rfl k) ?_
    show Go p e below Qo T461 (mkF m 94 #[.val (.int i1), .val (.int i2), .val (.ref b1), .val (.int (5 : Int32)), .val (.int ((i2 &&& (2147483647 : Int32)) % (6 : Int32))), .val (.ref b418), .val (.ref z_SERIALIZABLE), .val (.int (5 : Int32))] [(.ref z_SERIALIZABLE)])
    refine Go.of (fun t k => XS.aloadN X461.here hx rfl (hb hby at_94) rfl rfl k) ?_
    show Go p e below Qo T461 (mkF m 95 #[.val (.int i1), .val (.int i2), .val (.ref b1), .val (.int (5 : Int32)), .val (.int ((i2 &&& (2147483647 : Int32)) % (6 : Int32))), .val (.ref b418), .val (.ref z_SERIALIZABLE), .val (.int (5 : Int32))] [(.ref b1), (.ref z_SERIALIZABLE)])
    refine Go.of (fun t k => XS.iload X461.here hx rfl (hb hby at_95) rfl  k) ?_
    show Go p e below Qo T461 (mkF m 97 #[.val (.int i1), .val (.int i2), .val (.ref b1), .val (.int (5 : Int32)), .val (.int ((i2 &&& (2147483647 : Int32)) % (6 : Int32))), .val (.ref b418), .val (.ref z_SERIALIZABLE), .val (.int (5 : Int32))] [(.int (5 : Int32)), (.ref b1), (.ref z_SERIALIZABLE)])
    have cpo466 := q457
    obtain ⟨clo466, Aro466, qco466, So466, Mo466, Ho466, Go466⟩ := cpo466
    have hin467 : ¬ ((5 : Int32) < 0 ∨ clo466.slots.size ≤ (5 : Int32).toNatClampNeg) := (inb_of So466 ⟨by decide, by decide⟩)
    refine Go.of (fun t k => X461.aaload hx (j := (5 : Int32)) (v := (.ref z_SERIALIZABLE)) (by rw [eh464]; exact Aro466.1) (State.isArrayOf_alike hZ.alike Aro466.2.1) rfl Aro466.2.2 hin467 (Ho466.at hin467 rfl) (g := (mkF m 97 #[.val (.int i1), .val (.int i2), .val (.ref b1), .val (.int (5 : Int32)), .val (.int ((i2 &&& (2147483647 : Int32)) % (6 : Int32))), .val (.ref b418), .val (.ref z_SERIALIZABLE), .val (.int (5 : Int32))] [(.int (5 : Int32)), (.ref b1), (.ref z_SERIALIZABLE)])) rfl rfl (hb hby at_97) t k) ?_
    show Go p e below Qo T461 (mkF m 98 #[.val (.int i1), .val (.int i2), .val (.ref b1), .val (.int (5 : Int32)), .val (.int ((i2 &&& (2147483647 : Int32)) % (6 : Int32))), .val (.ref b418), .val (.ref z_SERIALIZABLE), .val (.int (5 : Int32))] [(.ref z_SERIALIZABLE), (.ref z_SERIALIZABLE)])
    refine Go.of (fun t k => Jvm.RoadKit.acmp (g := (mkF m 98 #[.val (.int i1), .val (.int i2), .val (.ref b1), .val (.int (5 : Int32)), .val (.int ((i2 &&& (2147483647 : Int32)) % (6 : Int32))), .val (.ref b418), .val (.ref z_SERIALIZABLE), .val (.int (5 : Int32))] [(.ref z_SERIALIZABLE), (.ref z_SERIALIZABLE)])) X461 hx rfl rfl rfl (pc0 := 98) (pc' := 101) (same := true) rfl (hb hby at_98) rfl (decide_eq_true rfl) (by decide) (by decide) k) ?_
    show Go p e below Qo T461 (mkF m 101 #[.val (.int i1), .val (.int i2), .val (.ref b1), .val (.int (5 : Int32)), .val (.int ((i2 &&& (2147483647 : Int32)) % (6 : Int32))), .val (.ref b418), .val (.ref z_SERIALIZABLE), .val (.int (5 : Int32))] [])
    refine Go.of (fun t k => XS.iconst X461.here hx rfl (hb hby at_101) k) ?_
    show Go p e below Qo T461 (mkF m 102 #[.val (.int i1), .val (.int i2), .val (.ref b1), .val (.int (5 : Int32)), .val (.int ((i2 &&& (2147483647 : Int32)) % (6 : Int32))), .val (.ref b418), .val (.ref z_SERIALIZABLE), .val (.int (5 : Int32))] [(.int (1 : Int32))])
    refine Go.of (fun t k => XS.goto X461.here hx rfl (pc0 := 102) (pc' := 106) rfl (hb hby at_102) (by decide) (by decide) k) ?_
    show Go p e below Qo T461 (mkF m 106 #[.val (.int i1), .val (.int i2), .val (.ref b1), .val (.int (5 : Int32)), .val (.int ((i2 &&& (2147483647 : Int32)) % (6 : Int32))), .val (.ref b418), .val (.ref z_SERIALIZABLE), .val (.int (5 : Int32))] [(.int (1 : Int32))])
    exact own_retN X461 hx Bd.notSynchronized (t := .boolean) Bd.returns (by simp) (hb hby at_106) (fun u hu hF => hQo _ _ _ ⟨rfl, N465⟩ (own_mono hF (by decide) (by decide)))
set_option maxRecDepth 65536 in
set_option maxHeartbeats 40000000 in
theorem comes_1 {Post : Tables → Env → Array Value → State → Outcome → State → Prop} (hpost : ∀ tb e args s v u, (limb_1_1.after args s (.returned v) u = true ∧ limb_1_2.after args s (.returned v) u = true ∧ True) → FrameEnd s (.returned v) u (Jvm.fieldLocs frame_1_writes args s ++ Jvm.arrayLocs frame_1_arrays args s ++ Jvm.staticLocs frame_1_statics s) 16 128 → Post tb e args s (.returned v) u) :
    ArmFor flags0 classFile x code maxLocals ret World_1 tables_1 room_1 Calls_1 rest_1 Pre_1 Post := by
  intro l hfl _ _ p e ha hc hk s m args below hf hA hF happ hP
  obtain ⟨hcalls, hrest, hpre⟩ := hP
  obtain ⟨-, -, -, hnamed, -, -, -, hat⟩ := (Spec.applies_iff hf).mp happ
  obtain ⟨hg, hn⟩ := and_e (Cond.before_iff.mp (show (Jvm.Cond.and given_1 narrow_1).before args s = true from hpre))
  obtain ⟨hg0, hgr0⟩ := and_e hg
  obtain ⟨ha0, hgr1⟩ := and_e hgr0
  obtain ⟨w0, w1, rfl⟩ : ∃ w0 w1 : Value, args = #[w0, w1] := by
    have hs : args.size = 2 := by simpa [Cond.value, given_1] using hg0
    obtain ⟨L⟩ := args
    match L, hs with
    | [w0, w1], _ => exact ⟨w0, w1, rfl⟩
  have hw := fun d (hd : d ∈ tables_1) => atoms_spec (ws := Jvm.Cond.code x code maxLocals ret :: tables_1) hat d (List.mem_cons_of_mem _ hd)
  have hfit : Fit s := fun {y c} hc i hi => by
    obtain ⟨ha, rfl⟩ := Array.getElem?_eq_some_iff.mp hc
    have q := List.all_eq_true.mp ((Array.all_eq_true_iff_forall_mem.mp hF) _ (Array.getElem_mem ha)) i (List.mem_range.mpr hi)
    simpa [Array.getElem?_eq_getElem hi] using q
  obtain ⟨i0, ei0⟩ := is_v ha0
  obtain rfl : w0 = (.int i0) := Option.some.inj ei0
  obtain ⟨i1, ei1⟩ := is_v hgr1
  obtain rfl : w1 = (.int i1) := Option.some.inj ei1
  obtain ⟨hs0, hr0⟩ := and_e hn
  obtain ⟨hs1, hr1⟩ := and_e hr0
  obtain ⟨hs2, hr2⟩ := and_e hr1
  obtain ⟨hs3, hr3⟩ := and_e hr2
  obtain ⟨z_READ_UNCOMMITTED, ev_READ_UNCOMMITTED⟩ := exa_v hs0
  have S_READ_UNCOMMITTED : Sta s s.heap "com/example/interleave/interleave/IsolationLevel" "READ_UNCOMMITTED" "Lcom/example/interleave/interleave/IsolationLevel;" (.ref z_READ_UNCOMMITTED) := Sta.start ev_READ_UNCOMMITTED (Or.inr ⟨(hw _ (List.mem_of_getElem? (i := 3) rfl)), (hw _ (List.mem_of_getElem? (i := 4) rfl))⟩)
  have E_READ_UNCOMMITTED := Exa.start ev_READ_UNCOMMITTED hs0
  obtain ⟨z_READ_COMMITTED, ev_READ_COMMITTED⟩ := exa_v hs1
  have S_READ_COMMITTED : Sta s s.heap "com/example/interleave/interleave/IsolationLevel" "READ_COMMITTED" "Lcom/example/interleave/interleave/IsolationLevel;" (.ref z_READ_COMMITTED) := Sta.start ev_READ_COMMITTED (Or.inr ⟨(hw _ (List.mem_of_getElem? (i := 3) rfl)), (hw _ (List.mem_of_getElem? (i := 7) rfl))⟩)
  have E_READ_COMMITTED := Exa.start ev_READ_COMMITTED hs1
  obtain ⟨z_REPEATABLE_READ, ev_REPEATABLE_READ⟩ := exa_v hs2
  have S_REPEATABLE_READ : Sta s s.heap "com/example/interleave/interleave/IsolationLevel" "REPEATABLE_READ" "Lcom/example/interleave/interleave/IsolationLevel;" (.ref z_REPEATABLE_READ) := Sta.start ev_REPEATABLE_READ (Or.inr ⟨(hw _ (List.mem_of_getElem? (i := 3) rfl)), (hw _ (List.mem_of_getElem? (i := 9) rfl))⟩)
  have E_REPEATABLE_READ := Exa.start ev_REPEATABLE_READ hs2
  obtain ⟨z_SNAPSHOT, ev_SNAPSHOT⟩ := exa_v hs3
  have S_SNAPSHOT : Sta s s.heap "com/example/interleave/interleave/IsolationLevel" "SNAPSHOT" "Lcom/example/interleave/interleave/IsolationLevel;" (.ref z_SNAPSHOT) := Sta.start ev_SNAPSHOT (Or.inr ⟨(hw _ (List.mem_of_getElem? (i := 3) rfl)), (hw _ (List.mem_of_getElem? (i := 11) rfl))⟩)
  have E_SNAPSHOT := Exa.start ev_SNAPSHOT hs3
  obtain ⟨z_SERIALIZABLE, ev_SERIALIZABLE⟩ := exa_v hr3
  have S_SERIALIZABLE : Sta s s.heap "com/example/interleave/interleave/IsolationLevel" "SERIALIZABLE" "Lcom/example/interleave/interleave/IsolationLevel;" (.ref z_SERIALIZABLE) := Sta.start ev_SERIALIZABLE (Or.inr ⟨(hw _ (List.mem_of_getElem? (i := 3) rfl)), (hw _ (List.mem_of_getElem? (i := 13) rfl))⟩)
  have E_SERIALIZABLE := Exa.start ev_SERIALIZABLE hr3
  obtain ⟨n, o, h1, h2, h3, _, L, rfl, ⟨rfl, N⟩, hq⟩ := rm0 l s _ hw tables_1 i0 i1 z_READ_UNCOMMITTED z_READ_COMMITTED z_REPEATABLE_READ z_SNAPSHOT z_SERIALIZABLE s.heap s.heap.size (Nat.le_refl _) S_READ_UNCOMMITTED E_READ_UNCOMMITTED S_READ_COMMITTED E_READ_COMMITTED S_REPEATABLE_READ E_REPEATABLE_READ S_SNAPSHOT E_SNAPSHOT S_SERIALIZABLE E_SERIALIZABLE p e ha hc hk s m _ below hf ((Spec.applies_iff_loose hf).mp happ).1 ⟨rfl, State.Warmed39.refl s, rfl⟩ trivial
  refine ⟨n, _, h1, h2, h3, hpost _ _ _ _ _ _ ⟨Cond.after_iff.mpr rfl, Cond.after_iff.mpr (eq_i res_at (Term.int_eval (1)) rfl), trivial⟩ ⟨hq.1, hq.2.1, (hq.2.2.sift fun y hy => Or.inr (N y hy)).mono (by decide) (by decide)⟩⟩
theorem main_1_1 : Claimed_1_1 := comes_1 fun _ _ _ _ _ _ h hF => ⟨h.1, hF⟩
theorem main_1_2 : Claimed_1_2 := comes_1 fun _ _ _ _ _ _ h hF => ⟨h.2.1, hF⟩
end Jvm.Pilot.@@N@@
namespace Jvm.Pilot.@@N@@
open Jvm Jvm.ClassFile Sem Op Lib Jvm.Free Jvm.Stand Jvm.Pilot.@@N@@.Jvm.D
/-! MADE BY PROGRAM (witnessworld.py) out of the Statement's table words and the real class files: 15 classes; the members and pool entries that the words name. The judged class is class 1, her method 1. -/
namespace start1
open Jvm.ClassFile
def u (s : String) : CpInfo := .utf8 (stringToUtf16 s)
/-- a pool by its gaps: so many unusable entries, then the entry; so many at the end -/
def gap : Nat → List CpInfo → List CpInfo
  | 0, r => r
  | n + 1, r => .unusable :: gap n r
def poolList (es : List (Nat × CpInfo)) (last : Nat) : List CpInfo := es.foldr (fun e r => gap e.1 (e.2 :: r)) (gap last [])
def pool (es : List (Nat × CpInfo)) (last : Nat) : Array CpInfo := ⟨poolList es last⟩
def fileOf (pool : Array CpInfo) (this : Nat) (attrs : Array Attribute := #[]) (ms : Array MethodInfo := #[]) (fl : Nat := 33) (sup : Nat := 0) (ifs : Array Nat := #[]) (fds : Array FieldInfo := #[]) : ClassFile where
  minorVersion := 0
  majorVersion := 65
  constantPool := pool
  accessFlags := fl
  thisClass := this
  superClass := sup
  interfaces := ifs
  fields := fds
  methods := ms
  attributes := attrs
def plain (name : String) (sup : Option ClassId) : Class where
  name := name
  kind := .ordinary
  loader := none
  accessFlags := 33
  super := sup
  interfaces := #[]
  cf := none
  fields := #[]
  methods := #[]
  instanceTypes := #[]
  staticTypes := #[]
  resolved := #[]
  callSites := []
  init := .initialized
  statics := none
  mirror := none

def pool0 : Array CpInfo := pool [(5, u "<init>"), (0, u "()V"), (1, .class_ 10), (1, u "java/lang/Object")] 113

def k0c0 : Code := { maxStack := 0, maxLocals := 1, code := object_method_1_code, exceptionTable := #[], attributes := #[] }
def k0m0 : Method := { name := "<init>", desc := "()V", sig := { parameters := [], returnType := none }, accessFlags := 1, code := some k0c0 }
/-- java/lang/Object -/
def k0 : Class := { plain "java/lang/Object" none with
  accessFlags := 33
  interfaces := #[]
  cf := some (fileOf pool0 8 #[] #[{ accessFlags := 1, nameIndex := 5, descriptorIndex := 6, attributes := #[] }] 33 0 #[] #[])
  fields := #[]
  methods := #[k0m0]
  instanceTypes := #[]
  staticTypes := #[]
  resolved := Array.replicate 124 none
  statics := none }

def pool1 : Array CpInfo := pool [(2, .class_ 4), (1, u "java/lang/Object"), (0, u "<init>"), (0, u "()V"), (0, .class_ 8), (0, u "com/example/interleave/interleave/IsolationLevel"), (0, .fieldref 7 10), (0, .nameAndType 11 12), (0, u "READ_UNCOMMITTED"), (0, u "Lcom/example/interleave/interleave/IsolationLevel;"), (0, .fieldref 7 14), (0, .nameAndType 15 12), (0, u "READ_COMMITTED"), (0, .fieldref 7 17), (0, .nameAndType 18 12), (0, u "REPEATABLE_READ"), (0, .fieldref 7 20), (0, .nameAndType 21 12), (0, u "SNAPSHOT"), (0, .fieldref 7 23), (0, .nameAndType 24 12), (0, u "SERIALIZABLE"), (0, .integer 2147483647), (0, .class_ 27), (0, u "com/example/interleave/interleave/schedule/Instruction$Begin"), (0, .methodref 26 29), (0, .nameAndType 5 30), (0, u "(Lcom/example/interleave/interleave/IsolationLevel;)V"), (0, .methodref 26 32), (0, .nameAndType 33 34), (0, u "level"), (0, u "(Lcom/example/interleave/interleave/IsolationLevel;)Lcom/example/interleave/interleave/IsolationLevel;"), (0, .class_ 36), (0, u "com/example/interleave/interleave/schedule/BeginLevelPinLaw"), (2, u "law"), (0, u "(II)Z")] 9

def k1m0 : Method := { name := "<init>", desc := "()V", sig := { parameters := [], returnType := none }, accessFlags := 2, code := none }
def k1c1 : Code := { maxStack := 4, maxLocals := 8, code := code, exceptionTable := #[], attributes := #[] }
def k1m1 : Method := { name := "law", desc := "(II)Z", sig := { parameters := [.int, .int], returnType := some .boolean }, accessFlags := 9, code := some k1c1 }
/-- com/example/interleave/interleave/schedule/BeginLevelPinLaw -/
def k1 : Class := { plain "com/example/interleave/interleave/schedule/BeginLevelPinLaw" (some 0) with
  accessFlags := 49
  interfaces := #[]
  cf := some (fileOf pool1 35 #[] #[{ accessFlags := 2, nameIndex := 5, descriptorIndex := 6, attributes := #[] }, { accessFlags := 9, nameIndex := 39, descriptorIndex := 40, attributes := #[] }] 49 2 #[] #[])
  fields := #[]
  methods := #[k1m0, k1m1]
  instanceTypes := #[]
  staticTypes := #[]
  resolved := Array.replicate 50 none
  statics := none }

def pool2 : Array CpInfo := pool [(1, .class_ 2), (0, u "java/lang/constant/Constable"), (0, .class_ 4), (0, u "java/lang/Object")] 6

/-- java/lang/constant/Constable -/
def k2 : Class := { plain "java/lang/constant/Constable" (some 0) with
  accessFlags := 1537
  interfaces := #[]
  cf := some (fileOf pool2 1 #[] #[] 1537 3 #[] #[])
  fields := #[]
  methods := #[]
  instanceTypes := #[]
  staticTypes := #[]
  resolved := Array.replicate 11 none
  statics := none }

def pool3 : Array CpInfo := pool [(1, .class_ 2), (0, u "java/lang/Comparable"), (0, .class_ 4), (0, u "java/lang/Object")] 7

/-- java/lang/Comparable -/
def k3 : Class := { plain "java/lang/Comparable" (some 0) with
  accessFlags := 1537
  interfaces := #[]
  cf := some (fileOf pool3 1 #[] #[] 1537 3 #[] #[])
  fields := #[]
  methods := #[]
  instanceTypes := #[]
  staticTypes := #[]
  resolved := Array.replicate 12 none
  statics := none }

def pool4 : Array CpInfo := pool [(1, .class_ 2), (0, u "java/io/Serializable"), (0, .class_ 4), (0, u "java/lang/Object")] 2

/-- java/io/Serializable -/
def k4 : Class := { plain "java/io/Serializable" (some 0) with
  accessFlags := 1537
  interfaces := #[]
  cf := some (fileOf pool4 1 #[] #[] 1537 3 #[] #[])
  fields := #[]
  methods := #[]
  instanceTypes := #[]
  staticTypes := #[]
  resolved := Array.replicate 7 none
  statics := none }

def pool5 : Array CpInfo := pool [(2, .class_ 4), (1, u "java/lang/Enum"), (0, u "name"), (0, u "Ljava/lang/String;"), (2, u "ordinal"), (0, u "I"), (1, .class_ 14), (1, u "java/lang/Object"), (4, u "hash"), (86, .class_ 108), (1, u "java/lang/Enum$EnumDesc"), (2, .class_ 112), (0, u "java/lang/constant/Constable"), (0, .class_ 114), (0, u "java/lang/Comparable"), (0, .class_ 116), (0, u "java/io/Serializable")] 87

/-- java/lang/Enum -/
def k5 : Class := { plain "java/lang/Enum" (some 0) with
  accessFlags := 1057
  interfaces := #[2, 3, 4]
  cf := some (fileOf pool5 2 #[.nestMembers #[106]] #[] 1057 12 #[111, 113, 115] #[{ accessFlags := 18, nameIndex := 5, descriptorIndex := 6, attributes := #[] }, { accessFlags := 18, nameIndex := 9, descriptorIndex := 10, attributes := #[] }, { accessFlags := 2, nameIndex := 19, descriptorIndex := 10, attributes := #[] }])
  fields := #[{ name := "name", type := (.object "java/lang/String"), accessFlags := 18, slot := 0, constantValue := 0 }, { name := "ordinal", type := .int, accessFlags := 18, slot := 1, constantValue := 0 }, { name := "hash", type := .int, accessFlags := 2, slot := 2, constantValue := 0 }]
  methods := #[]
  instanceTypes := #[(.object "java/lang/String"), .int, .int]
  staticTypes := #[]
  resolved := Array.replicate 204 none
  statics := none }

def pool6 : Array CpInfo := pool [(1, .class_ 2), (0, u "com/example/interleave/interleave/IsolationLevel"), (2, u "READ_UNCOMMITTED"), (0, u "Lcom/example/interleave/interleave/IsolationLevel;"), (2, u "READ_COMMITTED"), (2, u "REPEATABLE_READ"), (2, u "SNAPSHOT"), (2, u "SERIALIZABLE"), (2, u "$VALUES"), (0, u "[Lcom/example/interleave/interleave/IsolationLevel;"), (6, .class_ 31), (1, u "java/lang/Enum"), (8, u "label"), (0, u "Ljava/lang/String;"), (39, u "DEFAULT")] 35

/-- com/example/interleave/interleave/IsolationLevel -/
def k6 : Class := { plain "com/example/interleave/interleave/IsolationLevel" (some 5) with
  accessFlags := 16433
  interfaces := #[]
  cf := some (fileOf pool6 1 #[] #[] 16433 29 #[] #[{ accessFlags := 16409, nameIndex := 5, descriptorIndex := 6, attributes := #[] }, { accessFlags := 16409, nameIndex := 9, descriptorIndex := 6, attributes := #[] }, { accessFlags := 16409, nameIndex := 12, descriptorIndex := 6, attributes := #[] }, { accessFlags := 16409, nameIndex := 15, descriptorIndex := 6, attributes := #[] }, { accessFlags := 16409, nameIndex := 18, descriptorIndex := 6, attributes := #[] }, { accessFlags := 25, nameIndex := 81, descriptorIndex := 6, attributes := #[] }, { accessFlags := 18, nameIndex := 40, descriptorIndex := 41, attributes := #[] }, { accessFlags := 4122, nameIndex := 21, descriptorIndex := 22, attributes := #[] }])
  fields := #[{ name := "READ_UNCOMMITTED", type := (.object "com/example/interleave/interleave/IsolationLevel"), accessFlags := 16409, slot := 0, constantValue := 0 }, { name := "READ_COMMITTED", type := (.object "com/example/interleave/interleave/IsolationLevel"), accessFlags := 16409, slot := 1, constantValue := 0 }, { name := "REPEATABLE_READ", type := (.object "com/example/interleave/interleave/IsolationLevel"), accessFlags := 16409, slot := 2, constantValue := 0 }, { name := "SNAPSHOT", type := (.object "com/example/interleave/interleave/IsolationLevel"), accessFlags := 16409, slot := 3, constantValue := 0 }, { name := "SERIALIZABLE", type := (.object "com/example/interleave/interleave/IsolationLevel"), accessFlags := 16409, slot := 4, constantValue := 0 }, { name := "DEFAULT", type := (.object "com/example/interleave/interleave/IsolationLevel"), accessFlags := 25, slot := 5, constantValue := 0 }, { name := "label", type := (.object "java/lang/String"), accessFlags := 18, slot := 3, constantValue := 0 }, { name := "$VALUES", type := (.array (.object "com/example/interleave/interleave/IsolationLevel")), accessFlags := 4122, slot := 6, constantValue := 0 }]
  methods := #[]
  instanceTypes := #[(.object "java/lang/String"), .int, .int, (.object "java/lang/String")]
  staticTypes := #[(.object "com/example/interleave/interleave/IsolationLevel"), (.object "com/example/interleave/interleave/IsolationLevel"), (.object "com/example/interleave/interleave/IsolationLevel"), (.object "com/example/interleave/interleave/IsolationLevel"), (.object "com/example/interleave/interleave/IsolationLevel"), (.object "com/example/interleave/interleave/IsolationLevel"), (.array (.object "com/example/interleave/interleave/IsolationLevel"))]
  resolved := Array.replicate 117 none
  statics := some 0 }

def pool7 : Array CpInfo := pool [(1, .methodref 2 3), (0, .class_ 4), (0, .nameAndType 5 6), (0, u "java/lang/Object"), (0, u "<init>"), (0, u "()V"), (29, .class_ 37), (0, u "com/example/interleave/interleave/schedule/Instruction"), (15, .class_ 54), (0, u "com/example/interleave/interleave/schedule/Instruction$NoNewValue"), (0, .class_ 56), (0, u "com/example/interleave/interleave/schedule/Instruction$Outcome"), (0, .class_ 58), (0, u "com/example/interleave/interleave/schedule/Instruction$Abort"), (0, .class_ 60), (0, u "com/example/interleave/interleave/schedule/Instruction$Commit"), (0, .class_ 62), (0, u "com/example/interleave/interleave/schedule/Instruction$DeleteWhere"), (0, .class_ 64), (0, u "com/example/interleave/interleave/schedule/Instruction$Update"), (0, .class_ 66), (0, u "com/example/interleave/interleave/schedule/Instruction$Delete"), (0, .class_ 68), (0, u "com/example/interleave/interleave/schedule/Instruction$Insert"), (0, .class_ 70), (0, u "com/example/interleave/interleave/schedule/Instruction$Write"), (0, .class_ 72), (0, u "com/example/interleave/interleave/schedule/Instruction$Assigning"), (0, .class_ 74), (0, u "com/example/interleave/interleave/schedule/Instruction$Changing"), (0, .class_ 76), (0, u "com/example/interleave/interleave/schedule/Instruction$Count"), (0, .class_ 78), (0, u "com/example/interleave/interleave/schedule/Instruction$Select"), (0, .class_ 80), (0, u "com/example/interleave/interleave/schedule/Instruction$Read"), (0, .class_ 82), (0, u "com/example/interleave/interleave/schedule/Instruction$Begin")] 16

def k7c0 : Code := { maxStack := 1, maxLocals := 1, code := prog_59_method_1_code, exceptionTable := #[], attributes := #[] }
def k7m0 : Method := { name := "<init>", desc := "()V", sig := { parameters := [], returnType := none }, accessFlags := 0, code := some k7c0 }
/-- com/example/interleave/interleave/schedule/Instruction -/
def k7 : Class := { plain "com/example/interleave/interleave/schedule/Instruction" (some 0) with
  accessFlags := 1056
  interfaces := #[]
  cf := some (fileOf pool7 36 #[.nestMembers #[53, 55, 57, 59, 61, 63, 65, 67, 69, 71, 73, 75, 77, 79, 81]] #[{ accessFlags := 0, nameIndex := 5, descriptorIndex := 6, attributes := #[] }] 1056 2 #[] #[])
  fields := #[]
  methods := #[k7m0]
  instanceTypes := #[]
  staticTypes := #[]
  resolved := Array.replicate 99 none
  statics := none }

def pool8 : Array CpInfo := pool [(1, .methodref 2 3), (0, .class_ 4), (0, .nameAndType 5 6), (0, u "com/example/interleave/interleave/schedule/Instruction"), (0, u "<init>"), (0, u "()V"), (0, .fieldref 8 9), (0, .class_ 10), (0, .nameAndType 11 12), (0, u "com/example/interleave/interleave/schedule/Instruction$Begin"), (0, u "level"), (0, u "Lcom/example/interleave/interleave/IsolationLevel;"), (8, u "(Lcom/example/interleave/interleave/IsolationLevel;)Lcom/example/interleave/interleave/IsolationLevel;"), (3, u "(Lcom/example/interleave/interleave/IsolationLevel;)V")] 21

def k8c0 : Code := { maxStack := 2, maxLocals := 2, code := prog_62_method_1_code, exceptionTable := #[], attributes := #[] }
def k8m0 : Method := { name := "<init>", desc := "(Lcom/example/interleave/interleave/IsolationLevel;)V", sig := { parameters := [(.object "com/example/interleave/interleave/IsolationLevel")], returnType := none }, accessFlags := 0, code := some k8c0 }
def k8c1 : Code := { maxStack := 1, maxLocals := 2, code := prog_62_method_2_code, exceptionTable := #[], attributes := #[] }
def k8m1 : Method := { name := "level", desc := "(Lcom/example/interleave/interleave/IsolationLevel;)Lcom/example/interleave/interleave/IsolationLevel;", sig := { parameters := [(.object "com/example/interleave/interleave/IsolationLevel")], returnType := some (.object "com/example/interleave/interleave/IsolationLevel") }, accessFlags := 0, code := some k8c1 }
/-- com/example/interleave/interleave/schedule/Instruction$Begin -/
def k8 : Class := { plain "com/example/interleave/interleave/schedule/Instruction$Begin" (some 7) with
  accessFlags := 48
  interfaces := #[]
  cf := some (fileOf pool8 8 #[.nestHost 2] #[{ accessFlags := 0, nameIndex := 5, descriptorIndex := 25, attributes := #[] }, { accessFlags := 0, nameIndex := 11, descriptorIndex := 21, attributes := #[] }] 48 2 #[] #[{ accessFlags := 18, nameIndex := 11, descriptorIndex := 12, attributes := #[] }])
  fields := #[{ name := "level", type := (.object "com/example/interleave/interleave/IsolationLevel"), accessFlags := 18, slot := 0, constantValue := 0 }]
  methods := #[k8m0, k8m1]
  instanceTypes := #[(.object "com/example/interleave/interleave/IsolationLevel")]
  staticTypes := #[]
  resolved := Array.replicate 47 none
  statics := none }

def pool9 : Array CpInfo := pool [(1, u "java/lang/Cloneable"), (0, .class_ 1), (0, u "java/lang/Object"), (0, .class_ 3)] 3

/-- java/lang/Cloneable -/
def k9 : Class := { plain "java/lang/Cloneable" (some 0) with
  accessFlags := 1537
  interfaces := #[]
  cf := some (fileOf pool9 2 #[] #[] 1537 4 #[] #[])
  fields := #[]
  methods := #[]
  instanceTypes := #[]
  staticTypes := #[]
  resolved := Array.replicate 8 none
  statics := none }

/-- the primitive byte -/
def k10 : Class := { plain "byte" none with kind := .primitive 'B', accessFlags := 0x411 }
/-- [B -/
def k11 : Class := { plain "[B" (some 0) with kind := .array 10 .byte, interfaces := #[9, 4], accessFlags := 1041 }

/-- the primitive int -/
def k12 : Class := { plain "int" none with kind := .primitive 'I', accessFlags := 0x411 }
/-- [I -/
def k13 : Class := { plain "[I" (some 0) with kind := .array 12 .int, interfaces := #[9, 4], accessFlags := 1041 }

/-- [Lcom/example/interleave/interleave/IsolationLevel; -/
def k14 : Class := { plain "[Lcom/example/interleave/interleave/IsolationLevel;" (some 0) with kind := .array 6 (.object "com/example/interleave/interleave/IsolationLevel"), interfaces := #[9, 4], accessFlags := 1041 }

def heap : Heap := #[{ cls := 6, slots := #[.ref 1, .ref 2, .ref 3, .ref 4, .ref 5, .null, .null], vm := .statics 6 },
  { cls := 6, slots := #[.null, .int 0, .int 0, .null], vm := .none },
  { cls := 6, slots := #[.null, .int 1, .int 0, .null], vm := .none },
  { cls := 6, slots := #[.null, .int 2, .int 0, .null], vm := .none },
  { cls := 6, slots := #[.null, .int 3, .int 0, .null], vm := .none },
  { cls := 6, slots := #[.null, .int 4, .int 0, .null], vm := .none }]
def classes : Array Class := #[k0, k1, k2, k3, k4, k5, k6, k7, k8, k9, k10, k11, k12, k13, k14]
def interned : List (Array UInt16 × Addr) := []
def slotsUsed : Nat := 27
def theMethod : MethodId := ⟨1, 1⟩
def args0 : Array Value := #[.int 5, .int 6]
def aboutOver (below : List Frame) : State where
  vm := { classes := classes, interned := interned.toArray }
  heap := heap
  slotsUsed := slotsUsed
  threads := #[{ frames := .invoking theMethod args0 :: below }]
def below0 : List Frame := [.native { method := ⟨0, 0⟩, args := #[] }]
def about1 : State := aboutOver below0
def p0 : Program := .bare "" "" ""
def e0 : Env := launch0.env 0 0 0
theorem w_frames : about1.frames = Frame.invoking theMethod args0 :: below0 := rfl
set_option maxRecDepth 65536 in
theorem w_args : argsFit about1.vm theMethod args0 = true := by decide +kernel
set_option maxRecDepth 65536 in
theorem w_heap : heapFits about1 = true := by decide +kernel
set_option maxRecDepth 65536 in
theorem w_runnable : about1.curStatus? = some .runnable := by decide +kernel
set_option maxRecDepth 65536 in
theorem w_alone : about1.alone = true := by decide +kernel
set_option maxRecDepth 65536 in
theorem w_named : about1.methodNamed? x = some theMethod := by decide +kernel
set_option maxRecDepth 65536 in
theorem w_hears : about1.hears theMethod below0 = true := by decide +kernel
set_option maxRecDepth 65536 in
theorem w_ripe : about1.ripe theMethod args0 below0 = true := by decide +kernel
theorem w_running : about1.status = .running := rfl
set_option maxRecDepth 65536 in
theorem w_room : about1.hasRoom e0.platform room_1 = true :=
  launch0.hasRoom_least _ room_1 (by decide +kernel) (by decide +kernel) (by decide +kernel) (by decide +kernel) (by decide +kernel) (by decide +kernel)
theorem allAtoms_all (ts : List Jvm.Cond) (a : Array Jvm.Value) (st : Jvm.State) : (allAtoms ts).before a st = ts.all (fun c => c.before a st) := by
  induction ts with
  | nil => rfl
  | cons c t ih =>
    show (Jvm.Cond.and c (allAtoms t)).before a st = _
    rw [Jvm.Cond.before_and, ih, List.all_cons]
def words1 : List Jvm.Cond := Jvm.Cond.code x code maxLocals ret :: tables_1
/-- a 'code' word, met by the world's own term for the bytes: nothing is compared byte by byte -/
theorem code_word {y : MethodName} {bytes : ByteArray} {mx : Nat} {rt : Option FieldType} {a : Array Value} {s : State} {m : MethodId} {meth : Method} {c : Code} (h1 : s.methodNamed? y = some m) (h2 : s.vm.method? m = some meth) (h3 : meth.code = some c) (h4 : c.code = bytes)
    (h5 : (c.maxLocals == mx && c.exceptionTable.isEmpty && decide (c.maxStack ≤ mostOperands) && decide (meth.sig.returnType = rt) && !meth.locks && decide (parseMethodDescriptor y.desc = some meth.sig)) = true) : (Jvm.Cond.code y bytes mx rt).before a s = true := by
  simp only [Bool.and_eq_true, beq_iff_eq, Bool.not_eq_true', decide_eq_true_eq] at h5
  obtain ⟨⟨⟨⟨⟨g1, g2⟩, g3⟩, g4⟩, g5⟩, g6⟩ := h5
  simp [Cond.before, Cond.holds, Cond.value, h1, h2, h3, h4, g1, g2, g3, g4, g5, g6]
def isCode : Jvm.Cond → Bool
  | .code _ _ _ _ => true
  | _ => false
theorem all_split {L : List Jvm.Cond} {P : Jvm.Cond → Bool} (h1 : L.all (fun c => isCode c || P c) = true) (h2 : ∀ c ∈ L.filter isCode, P c = true) : L.all P = true := by
  refine List.all_eq_true.mpr fun c hc => ?_
  have h := List.all_eq_true.mp h1 c hc
  rcases Bool.eq_false_or_eq_true (isCode c) with hi | hi
  · exact h2 c (List.mem_filter.mpr ⟨hc, hi⟩)
  · simpa [hi] using h
set_option maxRecDepth 65536 in
theorem w_c0 : (Jvm.Cond.code x code maxLocals ret).before args0 about1 = true := code_word (m := ⟨1, 1⟩) (meth := k1m1) (c := k1c1) (by decide +kernel) rfl rfl rfl (by decide +kernel)
set_option maxRecDepth 65536 in
theorem w_c1 : (Jvm.Cond.code ({ cls := "com/example/interleave/interleave/schedule/Instruction$Begin", name := "<init>", desc := "(Lcom/example/interleave/interleave/IsolationLevel;)V" } : Jvm.MethodName) prog_62_method_1_code (2 : Nat) (Option.none : Option Jvm.ClassFile.FieldType)).before args0 about1 = true := code_word (m := ⟨8, 0⟩) (meth := k8m0) (c := k8c0) (by decide +kernel) rfl rfl rfl (by decide +kernel)
set_option maxRecDepth 65536 in
theorem w_c2 : (Jvm.Cond.code ({ cls := "com/example/interleave/interleave/schedule/Instruction", name := "<init>", desc := "()V" } : Jvm.MethodName) prog_59_method_1_code (1 : Nat) (Option.none : Option Jvm.ClassFile.FieldType)).before args0 about1 = true := code_word (m := ⟨7, 0⟩) (meth := k7m0) (c := k7c0) (by decide +kernel) rfl rfl rfl (by decide +kernel)
set_option maxRecDepth 65536 in
theorem w_c3 : (Jvm.Cond.code ({ cls := "java/lang/Object", name := "<init>", desc := "()V" } : Jvm.MethodName) object_method_1_code (1 : Nat) (Option.none : Option Jvm.ClassFile.FieldType)).before args0 about1 = true := code_word (m := ⟨0, 0⟩) (meth := k0m0) (c := k0c0) (by decide +kernel) rfl rfl rfl (by decide +kernel)
set_option maxRecDepth 65536 in
theorem w_c4 : (Jvm.Cond.code ({ cls := "com/example/interleave/interleave/schedule/Instruction$Begin", name := "level", desc := "(Lcom/example/interleave/interleave/IsolationLevel;)Lcom/example/interleave/interleave/IsolationLevel;" } : Jvm.MethodName) prog_62_method_2_code (2 : Nat) (Option.some (Jvm.ClassFile.FieldType.object "com/example/interleave/interleave/IsolationLevel"))).before args0 about1 = true := code_word (m := ⟨8, 1⟩) (meth := k8m1) (c := k8c1) (by decide +kernel) rfl rfl rfl (by decide +kernel)
def codes1 : List Jvm.Cond := [Jvm.Cond.code x code maxLocals ret, Jvm.Cond.code ({ cls := "com/example/interleave/interleave/schedule/Instruction$Begin", name := "<init>", desc := "(Lcom/example/interleave/interleave/IsolationLevel;)V" } : Jvm.MethodName) prog_62_method_1_code (2 : Nat) (Option.none : Option Jvm.ClassFile.FieldType), Jvm.Cond.code ({ cls := "com/example/interleave/interleave/schedule/Instruction", name := "<init>", desc := "()V" } : Jvm.MethodName) prog_59_method_1_code (1 : Nat) (Option.none : Option Jvm.ClassFile.FieldType), Jvm.Cond.code ({ cls := "java/lang/Object", name := "<init>", desc := "()V" } : Jvm.MethodName) object_method_1_code (1 : Nat) (Option.none : Option Jvm.ClassFile.FieldType), Jvm.Cond.code ({ cls := "com/example/interleave/interleave/schedule/Instruction$Begin", name := "level", desc := "(Lcom/example/interleave/interleave/IsolationLevel;)Lcom/example/interleave/interleave/IsolationLevel;" } : Jvm.MethodName) prog_62_method_2_code (2 : Nat) (Option.some (Jvm.ClassFile.FieldType.object "com/example/interleave/interleave/IsolationLevel"))]
set_option maxRecDepth 65536 in
theorem codes_eq : words1.filter isCode = codes1 := rfl
theorem w_codes : ∀ c ∈ words1.filter isCode, c.before args0 about1 = true := by
  rw [codes_eq]
  intro c hc
  simp only [codes1, List.mem_cons, List.not_mem_nil, or_false] at hc
  rcases hc with rfl | rfl | rfl | rfl | rfl
  · exact w_c0
  · exact w_c1
  · exact w_c2
  · exact w_c3
  · exact w_c4
set_option maxRecDepth 65536 in
theorem w_t1 : (words1.take 24).all (fun c => isCode c || c.before args0 about1) = true := by decide +kernel
set_option maxRecDepth 65536 in
theorem w_t2 : (words1.drop 24).all (fun c => isCode c || c.before args0 about1) = true := by decide +kernel
theorem w_tables : (allAtoms (Jvm.Cond.code x code maxLocals ret :: tables_1)).before args0 about1 = true := by
  rw [allAtoms_all]
  show words1.all (fun c => c.before args0 about1) = true
  refine all_split ?_ w_codes
  rw [← List.take_append_drop 24 words1, List.all_append, w_t1, w_t2]
  rfl
set_option maxRecDepth 65536 in
theorem w_case : (Jvm.Cond.and given_1 narrow_1).before args0 about1 = true := by decide +kernel
theorem w_applies : (headSpec (Jvm.Cond.code x code maxLocals ret :: tables_1) room_1).applies x e0.platform about1 = true :=
  (Spec.applies_iff w_frames).mpr ⟨w_running, w_runnable, w_alone, w_named, w_hears, w_ripe, w_room, w_tables⟩
theorem atStart : AtStart classFile x code maxLocals ret World_1 tables_1 room_1 Calls_1 rest_1 Pre_1 launch0 p0 e0 about1 theMethod args0 below0 :=
  ⟨lists_1, trivial, launch0.admits_env _ _ _, launch0.least_env, fairChoices_fair.cas, fairChoices_fair.clock, w_frames, w_args, w_heap, w_applies, trivial, trivial, w_case⟩
end start1
theorem witness_1 : WitnessClaimed_1 := ⟨start1.p0, start1.e0, start1.about1, start1.theMethod, start1.args0, start1.below0, start1.atStart⟩
end Jvm.Pilot.@@N@@
