import JvmDerived
import JvmDerived.Pilot.@@N@@Statement
import JvmDerived.Pilot.@@N@@Code
set_option linter.unusedVariables false
set_option linter.unusedSimpArgs false
namespace Jvm.Pilot.@@N@@
open Jvm Jvm.ClassFile Sem Op Lib Jvm.Free Jvm.Stand Jvm.LawKit Jvm.RoadKit Bundle Jvm.Pilot.@@N@@.Jvm.D
/-! the run comes to an end that answers Q -/
def Go (p : Program) (e : Env) (below : List Frame) (Q : Outcome → State → Prop) (T : State) (g : JFrame) : Prop :=
  ∃ s₂ o, Steps p.tables e below (T.setTop g) s₂ ∧ s₂.status = .running ∧ Ended s₂ below o ∧ Q o s₂
section Own
variable {p : Program} {l : Launch} {e : Env} {R : Room} {s : State} {m : MethodId} {args : Array Value} {below : List Frame} {meth : Method} {c : Code} {T T' : State} {locs : List Loc} {cells slots : Nat} {Q : Outcome → State → Prop} {g g' : JFrame}
theorem Go.of (k : ∀ t, Steps p.tables e below (T'.setTop g') t → Steps p.tables e below (T.setTop g) t) (h : Go p e below Q T' g') : Go p e below Q T g := by
  obtain ⟨u, o, h1, h2⟩ := h
  exact ⟨u, o, k _ h1, h2⟩
theorem Go.via (k : Steps p.tables e below (T.setTop g) (T'.setTop g')) (h : Go p e below Q T' g') : Go p e below Q T g := by
  obtain ⟨u, o, h1, h2⟩ := h
  exact ⟨u, o, k.trans h1, h2⟩
theorem Go.cast (q : g = g') (h : Go p e below Q T g') : Go p e below Q T g := q ▸ h
theorem own_out (X : Stand p l e R s m args below meth c T locs cells slots) {v : Option Value} (hv : meth.sig.returnType = none → v = none) (hlocks : meth.locks = false)
    (k : ∀ fs : List Frame, (∀ (f : JFrame) (acts : List Action), f.method = m → f.locked = none → f.entered = [] → (doReturn e (T.setTop f) acts v).1 = T.setFrames fs) → Steps p.tables e below (T.setTop g) (T.setFrames fs))
    (hQ : ∀ u : State, u.heap = T.heap → FrameEnd s (.returned v) u locs cells slots → Q (.returned v) u) : Go p e below Q T g := by
  obtain ⟨fs, hr, hrun, hended, hW, hsame⟩ := X.leave hv hlocks
  exact ⟨_, _, k fs hr, hrun, hended, hQ _ rfl ⟨⟨_, rfl⟩, hW, hsame⟩⟩
theorem own_retN (X : Stand p l e R s m args below meth c T locs cells slots) (hx : p.tables.exec = Jvm.exec) (hlocks : meth.locks = false) {pc : Nat} {Ls : Array Slot} {z : Int32} {t : FieldType} {rest : List Value} (hret : meth.sig.returnType = some t) (ht : t = .boolean ∨ t = .byte ∨ t = .char ∨ t = .short)
    (hd : decode c.code pc = .ok (.ireturn, 1)) (hQ : ∀ u : State, u.heap = T.heap → FrameEnd s (.returned (some (.int (nar t z)))) u locs cells slots → Q (.returned (some (.int (nar t z)))) u) : Go p e below Q T (mkF m pc Ls (.int z :: rest)) :=
  own_out X (fun h => by rw [hret] at h; cases h) hlocks (fun fs hr => retN X hx hret ht hd hr) hQ
theorem own_retW (X : Stand p l e R s m args below meth c T locs cells slots) (hx : p.tables.exec = Jvm.exec) (hlocks : meth.locks = false) {pc : Nat} {Ls : Array Slot} {w : Value} {t : FieldType} {i : Instr} {rest : List Value} (hret : meth.sig.returnType = some t) (hn : narrow t w = w)
    (hi : (i = .ireturn ∧ (t = .int ∨ t = .boolean ∨ t = .byte ∨ t = .char ∨ t = .short) ∧ ∃ z, w = .int z) ∨ (i = .lreturn ∧ t = .long ∧ ∃ z, w = .long z) ∨ (i = .dreturn ∧ t = .double ∧ ∃ z, w = .double z) ∨ (i = .freturn ∧ t = .float ∧ ∃ z, w = .float z) ∨ (i = .areturn ∧ t.isReference = true ∧ w.isRef = true))
    (hd : decode c.code pc = .ok (i, 1)) (hQ : ∀ u : State, u.heap = T.heap → FrameEnd s (.returned (some w)) u locs cells slots → Q (.returned (some w)) u) : Go p e below Q T (mkF m pc Ls (w :: rest)) :=
  own_out X (fun h => by rw [hret] at h; cases h) hlocks (fun fs hr => retOut X hx hret hn hi hd hr) hQ
theorem own_ret0 (X : Stand p l e R s m args below meth c T locs cells slots) (hx : p.tables.exec = Jvm.exec) (hlocks : meth.locks = false) {pc : Nat} {Ls : Array Slot} (hret : meth.sig.returnType = none)
    (hd : decode c.code pc = .ok (.return_, 1)) (hQ : ∀ u : State, u.heap = T.heap → FrameEnd s (.returned none) u locs cells slots → Q (.returned none) u) : Go p e below Q T (mkF m pc Ls []) :=
  own_out X (fun _ => rfl) hlocks (fun fs hr => X.returnOut hx hret hd hr) hQ
theorem own_mono {o : Outcome} {u : State} {k n k' n' : Nat} (h : FrameEnd s o u locs k n) (hk : k ≤ k') (hn : n ≤ n') : FrameEnd s o u locs k' n' := ⟨h.1, h.2.1, h.2.2.mono hk hn⟩
end Own
theorem own_eqI {args : Array Value} {s : State} {t : Term} {k : Int32} (h : (Cond.eq t (.int k)).value args s none s [] = some true) : t.eval args s none [] s = some (.int k) := by
  simp only [Cond.value, Term.eval] at h
  cases ht : t.eval args s none [] s with
  | none => simp [ht] at h
  | some x => cases x <;> simp [ht] at h ⊢; exact h
theorem own_staKeep {Z : State} {h h' : Heap} {C n d : String} {v : Value} {ws : List Addr} (F : Sta Z h C n d v) (K : Keep h h' ws) (q : ∀ x ∈ ws, ∀ cell : Cell, h[x]? = some cell → cell.vm.isStatics = false) : Sta Z h' C n d v := by
  obtain ⟨cf, i, k, f, st, cell, h1, h2, h3, h4, h5, h6, h7⟩ := F
  have hn : st ∉ ws := fun y => by have := q st y cell h5; rw [this] at h6; cases h6
  exact ⟨cf, i, k, f, st, cell, h1, h2, h3, h4, K.2.1 st cell h5 hn, h6, h7⟩
theorem own_plainE {Z : State} {h : Heap} {a : Addr} {C : String} (F : Exa Z h a C) : ∀ cell : Cell, h[a]? = some cell → cell.vm.isStatics = false := fun cell hc => by
  obtain ⟨c, _, h1, -, -, h4, -⟩ := F
  cases h1.symm.trans hc; exact h4
theorem own_plainV {Z : State} {h : Heap} {a : Addr} {k : ClassId} {ty : FieldType} {n : Int32} {vs : List Value} {d : Value} (F : Arv Z h a k ty n vs d) : ∀ cell : Cell, h[a]? = some cell → cell.vm.isStatics = false := fun cell hc => by
  obtain ⟨c, A, -⟩ := F
  cases A.1.symm.trans hc; exact A.plain
/-! what the sheet says of Integer's cache -/
def own_cache (Z : State) (rc : Addr) : Prop := ∃ cl : Cell, Arr Z Z.heap rc cl (.object "java/lang/Integer") ∧ cl.slots.size = 256 ∧ ∀ i, i < 256 → ∃ a, cl.slots[i]? = some (.ref a) ∧ Exa Z Z.heap a "java/lang/Integer"
theorem own_root {Z : State} {a0 : Array Value} {O K : String} {n : Nat} (w : (Cond.noSuperclass O).before a0 Z = true) (wk : (Cond.instantiable K n).before a0 Z = true) (hn : O ≠ K) : NS Z O K := by
  obtain ⟨c, k, h1, h2, h3, -, -⟩ := Cond.noSuperclass_spec w
  obtain ⟨t, kt, g1, -⟩ := Cond.instantiable_spec wk
  have ne := ids_ne h1 g1 hn
  exact ⟨c, t, h1, g1, fun fuel => by cases fuel <;> simp [Vm.isSubclassAux, ne, h2, h3]⟩
theorem own_no {Z : State} {a0 : Array Value} {C S K : String} {n : Nat} (w : (Cond.superclass C S).before a0 Z = true) (wk : (Cond.instantiable K n).before a0 Z = true) (q : NS Z C K) (hn : C ≠ K) : ∃ c t, Z.vm.findClass C = some c ∧ Z.vm.findClass K = some t ∧ Z.vm.assignable c t = false := by
  obtain ⟨c, t, h0, g0, n3⟩ := q
  obtain ⟨p, k, kp, h1, h2, h3, h4, h5, -, h7⟩ := Cond.superclass_spec h0 w
  obtain ⟨t', kt, g1, g2, g3, g4, -⟩ := Cond.instantiable_spec wk
  cases g0.symm.trans g1
  have ne := ids_ne h0 g0 hn
  have g5 : kt.isInterface = false := (Bool.or_eq_false_iff.mp g4).1
  refine ⟨c, t, h0, g0, ?_⟩
  show Z.vm.assignableAux (255 + 1) c t = false
  simp [Vm.assignableAux, ne, h2, g2, h5, g3, g5, Vm.isSubclass, n3]
theorem d2_0 : decode jdk_30_method_1_code 0 = .ok (.aload_n 0, 1) := by decide +kernel
theorem d2_1 : decode jdk_30_method_1_code 1 = .ok (.invokespecial 1, 3) := by decide +kernel
theorem d2_4 : decode jdk_30_method_1_code 4 = .ok (.return_, 1) := by decide +kernel
theorem pn_0 : plainName "java/lang/Record" = true := by first | (simp [plainName, overriddenIn]; done) | decide +kernel
theorem ef_2 (m : MethodId) (r1 : Addr)  : entryFrame m #[(.ref r1)] 1 = mkF m 0 #[.val (.ref r1)] [] := by
  first | (simp [entryFrame, mkF, argsToLocals, Value.category]; done) | rfl
def Q2 (Z : State) (r1 : Addr) (h0 : Heap) (n0 : Nat) (v : Option Value) (h : Heap) (L : List Loc) : Prop := v = none ∧ Fr n0 L ∧ h = h0
set_option maxRecDepth 65536 in
set_option maxHeartbeats 40000000 in
theorem rm2 (l : Launch) (Z : State) (a0 : Array Value) (hw : ∀ d ∈ tables_1, d.before a0 Z = true) (ws : List Jvm.Cond) (r1 : Addr) (h0 : Heap) (n0 : Nat) (Z0 : n0 ≤ h0.size)  :
    MetFree l (⟨"java/lang/Record", "<init>", "()V"⟩ : MethodName) (head1 (Jvm.Cond.code (⟨"java/lang/Record", "<init>", "()V"⟩ : MethodName) jdk_30_method_1_code 1 none :: ws) ({ frames := 1, cells := 0, slots := 0, locals := 12 } : Room)) (fun a U => a = #[(.ref r1)] ∧ Z.Warmed39 U.vm ∧ U.heap = h0) (fun _ _ _ _ _ => True) (fun _ U o U' => ∃ v L, o = .returned v ∧ Q2 Z r1 h0 n0 v U'.heap L ∧ FrameEnd U o U' L ({ frames := 1, cells := 0, slots := 0, locals := 12 } : Room).cells ({ frames := 1, cells := 0, slots := 0, locals := 12 } : Room).slots) := by
  refine MetFree.of_bodySF (plainFor_of_name pn_0) hisR ?_
  intro p e s m args below meth c s₁ Bd hml0 hP hK
  obtain ⟨rfl, hZ, hh⟩ := hP
  have hx := Bd.exec
  have hby := Bd.bytes
  have hml : c.maxLocals = 1 := hml0
  have hown : s.vm.findClass "java/lang/Record" = some m.cls := findClass_of_methodNamed Bd.named
  have hnm := (name_of_methodNamed Bd.named Bd.method).1
  have X0 : Stand p l e ({ frames := 1, cells := 0, slots := 0, locals := 12 } : Room) s m #[(.ref r1)] below meth c s₁ [] 0 0 := Stand.of_body Bd
  have e0 : s₁.heap = h0 := by rw [← hh, Bd.state]; rfl
  have N0 := Fr.nil n0
  suffices H : ∀ Qo : Outcome → State → Prop, (∀ (v : Option Value) (u : State) (L : List Loc), Q2 Z r1 h0 n0 v u.heap L → FrameEnd s (.returned v) u L ({ frames := 1, cells := 0, slots := 0, locals := 12 } : Room).cells ({ frames := 1, cells := 0, slots := 0, locals := 12 } : Room).slots → Qo (.returned v) u) → Go p e below Qo s₁ (mkF m 0 #[.val (.ref r1)] []) from
    Go.cast (ef_2 m r1) (H _ fun v u L h1 h2 => ⟨v, L, rfl, h1, h2⟩)
  intro Qo hQo
  show Go p e below Qo s₁ (mkF m 0 #[.val (.ref r1)] [])
  refine Go.of (fun t k => XS.aloadN X0.here hx rfl (hb hby d2_0) rfl rfl k) ?_
  show Go p e below Qo s₁ (mkF m 1 #[.val (.ref r1)] [(.ref r1)])
  obtain ⟨T1, X1, e1, st1⟩ := initO X0 hx hZ hown (hw _ (List.mem_of_getElem? (i := 11) rfl)) (hw _ (List.mem_of_getElem? (i := 12) rfl)) (hw _ (List.mem_of_getElem? (i := 13) rfl)) e0 (g := (mkF m 1 #[.val (.ref r1)] [(.ref r1)])) rfl (by rw [hml]; rfl) rfl (hb hby d2_1) (by decide) (W := 0) (by show 2 * 0 + _ ≤ _; exact Nat.le_of_eq rfl) (by decide)
  refine Go.of st1 ?_
  show Go p e below Qo T1 (mkF m 4 #[.val (.ref r1)] [])
  exact own_ret0 X1 hx Bd.notSynchronized Bd.returns (hb hby d2_4) (fun u hu hF => hQo _ _ _ ⟨rfl, N0, by rw [hu, e1]⟩ (own_mono hF (by decide) (by decide)))
theorem pd_0 : parseMethodDescriptor "()V" = some ⟨[], none⟩ := by decide +kernel
theorem d1_0 : decode prog_47_method_1_code 0 = .ok (.aload_n 0, 1) := by decide +kernel
theorem d1_1 : decode prog_47_method_1_code 1 = .ok (.invokespecial 1, 3) := by decide +kernel
theorem d1_4 : decode prog_47_method_1_code 4 = .ok (.aload_n 0, 1) := by decide +kernel
theorem d1_5 : decode prog_47_method_1_code 5 = .ok (.iload_n 1, 1) := by decide +kernel
theorem d1_6 : decode prog_47_method_1_code 6 = .ok (.putfield 7, 3) := by decide +kernel
theorem d1_9 : decode prog_47_method_1_code 9 = .ok (.aload_n 0, 1) := by decide +kernel
theorem d1_10 : decode prog_47_method_1_code 10 = .ok (.iload_n 2, 1) := by decide +kernel
theorem d1_11 : decode prog_47_method_1_code 11 = .ok (.putfield 13, 3) := by decide +kernel
theorem d1_14 : decode prog_47_method_1_code 14 = .ok (.return_, 1) := by decide +kernel
theorem pn_1 : plainName "com/example/konakis/konakis/engine/Square" = true := by first | (simp [plainName, overriddenIn]; done) | decide +kernel
theorem ef_1 (m : MethodId) (r1 : Addr) (i1 : Int32) (i2 : Int32)  : entryFrame m #[(.ref r1), (.int i1), (.int i2)] 3 = mkF m 0 #[.val (.ref r1), .val (.int i1), .val (.int i2)] [] := by
  first | (simp [entryFrame, mkF, argsToLocals, Value.category]; done) | rfl
def Q1 (Z : State) (r1 : Addr) (i1 : Int32) (i2 : Int32) (u_0 : Value) (u_1 : Value) (h0 : Heap) (n0 : Nat) (v : Option Value) (h : Heap) (L : List Loc) : Prop := v = none ∧ Fr n0 L ∧ Keep h0 h [r1] ∧ Exa Z h r1 "com/example/konakis/konakis/engine/Square" ∧ Fld Z h r1 "com/example/konakis/konakis/engine/Square" "file" "I" (.int i1) ∧ Fld Z h r1 "com/example/konakis/konakis/engine/Square" "rank" "I" (.int i2)
set_option maxRecDepth 65536 in
set_option maxHeartbeats 40000000 in
theorem rm1 (l : Launch) (Z : State) (a0 : Array Value) (hw : ∀ d ∈ tables_1, d.before a0 Z = true) (ws : List Jvm.Cond) (r1 : Addr) (i1 : Int32) (i2 : Int32) (u_0 : Value) (u_1 : Value) (h0 : Heap) (n0 : Nat) (Z0 : n0 ≤ h0.size) (f0 : Exa Z h0 r1 "com/example/konakis/konakis/engine/Square") (f1 : Fld Z h0 r1 "com/example/konakis/konakis/engine/Square" "file" "I" u_0) (f2 : Fld Z h0 r1 "com/example/konakis/konakis/engine/Square" "rank" "I" u_1) (g_r1 : n0 ≤ r1) :
    MetFree l (⟨"com/example/konakis/konakis/engine/Square", "<init>", "(II)V"⟩ : MethodName) (head1 (Jvm.Cond.code (⟨"com/example/konakis/konakis/engine/Square", "<init>", "(II)V"⟩ : MethodName) prog_47_method_1_code 3 none :: ws) ({ frames := 2, cells := 0, slots := 0, locals := 24 } : Room)) (fun a U => a = #[(.ref r1), (.int i1), (.int i2)] ∧ Z.Warmed39 U.vm ∧ U.heap = h0) (fun _ _ _ _ _ => True) (fun _ U o U' => ∃ v L, o = .returned v ∧ Q1 Z r1 i1 i2 u_0 u_1 h0 n0 v U'.heap L ∧ FrameEnd U o U' L ({ frames := 2, cells := 0, slots := 0, locals := 24 } : Room).cells ({ frames := 2, cells := 0, slots := 0, locals := 24 } : Room).slots) := by
  refine MetFree.of_bodySF (plainFor_of_name pn_1) hisR ?_
  intro p e s m args below meth c s₁ Bd hml0 hP hK
  obtain ⟨rfl, hZ, hh⟩ := hP
  have hx := Bd.exec
  have hby := Bd.bytes
  have hml : c.maxLocals = 3 := hml0
  have hown : s.vm.findClass "com/example/konakis/konakis/engine/Square" = some m.cls := findClass_of_methodNamed Bd.named
  have hnm := (name_of_methodNamed Bd.named Bd.method).1
  have X0 : Stand p l e ({ frames := 2, cells := 0, slots := 0, locals := 24 } : Room) s m #[(.ref r1), (.int i1), (.int i2)] below meth c s₁ [] 0 0 := Stand.of_body Bd
  have e0 : s₁.heap = h0 := by rw [← hh, Bd.state]; rfl
  have N0 := Fr.nil n0
  suffices H : ∀ Qo : Outcome → State → Prop, (∀ (v : Option Value) (u : State) (L : List Loc), Q1 Z r1 i1 i2 u_0 u_1 h0 n0 v u.heap L → FrameEnd s (.returned v) u L ({ frames := 2, cells := 0, slots := 0, locals := 24 } : Room).cells ({ frames := 2, cells := 0, slots := 0, locals := 24 } : Room).slots → Qo (.returned v) u) → Go p e below Qo s₁ (mkF m 0 #[.val (.ref r1), .val (.int i1), .val (.int i2)] []) from
    Go.cast (ef_1 m r1 i1 i2) (H _ fun v u L h1 h2 => ⟨v, L, rfl, h1, h2⟩)
  intro Qo hQo
  show Go p e below Qo s₁ (mkF m 0 #[.val (.ref r1), .val (.int i1), .val (.int i2)] [])
  refine Go.of (fun t k => XS.aloadN X0.here hx rfl (hb hby d1_0) rfl rfl k) ?_
  show Go p e below Qo s₁ (mkF m 1 #[.val (.ref r1), .val (.int i1), .val (.int i2)] [(.ref r1)])
  obtain ⟨_, _, ⟨T1, L1, k1, n1⟩, -, X1, ⟨Lc1, hQ1, l1, y1, z1⟩, st1⟩ := X0.specialBack hx (y := (⟨"java/lang/Record", "<init>", "()V"⟩ : MethodName)) rfl hown (mvT hZ (hw _ (List.mem_of_getElem? (i := 6) rfl))) (mvT hZ (hw _ (List.mem_of_getElem? (i := 7) rfl))) (mvT hZ (hw _ (List.mem_of_getElem? (i := 10) rfl))) (by decide) (backOf (W := 0) (rm2 l Z a0 hw [] r1 h0 n0 Z0 ) hZ (hw _ (List.mem_of_getElem? (i := 10) rfl)) (hw _ (List.mem_of_getElem? (i := 9) rfl)) (by decide) (by decide)) (g := (mkF m 1 #[.val (.ref r1), .val (.int i1), .val (.int i2)] [(.ref r1)])) rfl (by rw [hml]; rfl) (Steps.refl _) (a := r1) (argsL := []) (rest := []) (lenOf pd_0 rfl) rfl (by show 2 * 0 + _ ≤ _; exact Nat.le_of_eq rfl) (hb hby d1_1) (fun _ _ => ⟨rfl, e0, (by decide : 0 + 0 ≤ _), (by decide : 0 + 0 ≤ _)⟩)
  dsimp only [Pt.U, Pt.locs, Pt.cells, Pt.slots] at X1 l1 y1 z1 st1 hQ1
  subst l1 y1 z1
  obtain ⟨rfl, N2, eh3⟩ := hQ1
  have N4 := Fr.app N0 N2
  refine Go.via st1 ?_
  show Go p e below Qo T1 (mkF m 4 #[.val (.ref r1), .val (.int i1), .val (.int i2)] [])
  refine Go.of (fun t k => XS.aloadN X1.here hx rfl (hb hby d1_4) rfl rfl k) ?_
  show Go p e below Qo T1 (mkF m 5 #[.val (.ref r1), .val (.int i1), .val (.int i2)] [(.ref r1)])
  refine Go.of (fun t k => XS.iloadN X1.here hx rfl (hb hby d1_5) rfl  k) ?_
  show Go p e below Qo T1 (mkF m 6 #[.val (.ref r1), .val (.int i1), .val (.int i2)] [(.int i1), (.ref r1)])
  obtain ⟨T5, h5, X5, e5, W5, st5⟩ := putF X1 hx hZ hown (host := "") (Or.inl (hw _ (List.mem_of_getElem? (i := 14) rfl))) Via.refl eh3 f1 f0 (Or.inr ⟨(hw _ (List.mem_of_getElem? (i := 15) rfl)), rfl, hnm⟩) (hw _ (List.mem_of_getElem? (i := 1) rfl)) (ty := .int) (by decide) rfl rfl (g := (mkF m 6 #[.val (.ref r1), .val (.int i1), .val (.int i2)] [(.int i1), (.ref r1)])) rfl rfl (hb hby d1_6)
  have q6 : Exa Z h5 r1 "com/example/konakis/konakis/engine/Square" := f0.wr W5
  have q7 : Fld Z h5 r1 "com/example/konakis/konakis/engine/Square" "file" "I" (.int i1) := f1.same W5
  have q8 : Fld Z h5 r1 "com/example/konakis/konakis/engine/Square" "rank" "I" u_1 := f2.other W5 (Or.inr (slot_ne (Or.inr (hw _ (List.mem_of_getElem? (i := 17) rfl))) (Or.inr (hw _ (List.mem_of_getElem? (i := 15) rfl))) (by decide) (t := .int) (t' := .int) (by decide) (by decide)))
  have Z9 : n0 ≤ h5.size := Nat.le_trans Z0 (Keep.of_wr W5).1
  have K10 : Keep h0 h5 [r1] := (Keep.refl h0 [r1]).wr W5 (Or.inl (List.mem_of_getElem? (i := 0) rfl))
  have N11 := Fr.snoc X5 N4 g_r1
  refine Go.of st5 ?_
  show Go p e below Qo T5 (mkF m 9 #[.val (.ref r1), .val (.int i1), .val (.int i2)] [])
  refine Go.of (fun t k => XS.aloadN X5.here hx rfl (hb hby d1_9) rfl rfl k) ?_
  show Go p e below Qo T5 (mkF m 10 #[.val (.ref r1), .val (.int i1), .val (.int i2)] [(.ref r1)])
  refine Go.of (fun t k => XS.iloadN X5.here hx rfl (hb hby d1_10) rfl  k) ?_
  show Go p e below Qo T5 (mkF m 11 #[.val (.ref r1), .val (.int i1), .val (.int i2)] [(.int i2), (.ref r1)])
  obtain ⟨T12, h12, X12, e12, W12, st12⟩ := putF X5 hx hZ hown (host := "") (Or.inl (hw _ (List.mem_of_getElem? (i := 16) rfl))) Via.refl e5 q8 q6 (Or.inr ⟨(hw _ (List.mem_of_getElem? (i := 17) rfl)), rfl, hnm⟩) (hw _ (List.mem_of_getElem? (i := 1) rfl)) (ty := .int) (by decide) rfl rfl (g := (mkF m 11 #[.val (.ref r1), .val (.int i1), .val (.int i2)] [(.int i2), (.ref r1)])) rfl rfl (hb hby d1_11)
  have q13 : Exa Z h12 r1 "com/example/konakis/konakis/engine/Square" := q6.wr W12
  have q14 : Fld Z h12 r1 "com/example/konakis/konakis/engine/Square" "file" "I" (.int i1) := q7.other W12 (Or.inr (slot_ne (Or.inr (hw _ (List.mem_of_getElem? (i := 15) rfl))) (Or.inr (hw _ (List.mem_of_getElem? (i := 17) rfl))) (by decide) (t := .int) (t' := .int) (by decide) (by decide)))
  have q15 : Fld Z h12 r1 "com/example/konakis/konakis/engine/Square" "rank" "I" (.int i2) := q8.same W12
  have Z16 : n0 ≤ h12.size := Nat.le_trans Z9 (Keep.of_wr W12).1
  have K17 : Keep h0 h12 [r1] := K10.wr W12 (Or.inl (List.mem_of_getElem? (i := 0) rfl))
  have N18 := Fr.snoc X12 N11 g_r1
  refine Go.of st12 ?_
  show Go p e below Qo T12 (mkF m 14 #[.val (.ref r1), .val (.int i1), .val (.int i2)] [])
  exact own_ret0 X12 hx Bd.notSynchronized Bd.returns (hb hby d1_14) (fun u hu hF => hQo _ _ _ ⟨rfl, N18, by rw [hu, e12]; exact K17, by rw [hu, e12]; exact q13, by rw [hu, e12]; exact q14, by rw [hu, e12]; exact q15⟩ (own_mono hF (by decide) (by decide)))
theorem d40_0 : decode prog_47_method_5_code 0 = .ok (.aload_n 1, 1) := by decide +kernel
theorem d40_1 : decode prog_47_method_5_code 1 = .ok (.instanceof 8, 3) := by decide +kernel
theorem d40_4 : decode prog_47_method_5_code 4 = .ok (.ifCond .eq 34, 3) := by decide +kernel
theorem d40_7 : decode prog_47_method_5_code 7 = .ok (.aload_n 1, 1) := by decide +kernel
theorem d40_8 : decode prog_47_method_5_code 8 = .ok (.checkcast 8, 3) := by decide +kernel
theorem d40_11 : decode prog_47_method_5_code 11 = .ok (.astore_n 2, 1) := by decide +kernel
theorem d40_12 : decode prog_47_method_5_code 12 = .ok (.aload_n 0, 1) := by decide +kernel
theorem d40_13 : decode prog_47_method_5_code 13 = .ok (.getfield 7, 3) := by decide +kernel
theorem d40_16 : decode prog_47_method_5_code 16 = .ok (.aload_n 2, 1) := by decide +kernel
theorem d40_17 : decode prog_47_method_5_code 17 = .ok (.getfield 7, 3) := by decide +kernel
theorem d40_20 : decode prog_47_method_5_code 20 = .ok (.if_icmp .ne 18, 3) := by decide +kernel
theorem d40_23 : decode prog_47_method_5_code 23 = .ok (.aload_n 0, 1) := by decide +kernel
theorem d40_24 : decode prog_47_method_5_code 24 = .ok (.getfield 13, 3) := by decide +kernel
theorem d40_27 : decode prog_47_method_5_code 27 = .ok (.aload_n 2, 1) := by decide +kernel
theorem d40_28 : decode prog_47_method_5_code 28 = .ok (.getfield 13, 3) := by decide +kernel
theorem d40_31 : decode prog_47_method_5_code 31 = .ok (.if_icmp .ne 7, 3) := by decide +kernel
theorem d40_34 : decode prog_47_method_5_code 34 = .ok (.iconst 1, 1) := by decide +kernel
theorem d40_35 : decode prog_47_method_5_code 35 = .ok (.goto 4, 3) := by decide +kernel
theorem d40_38 : decode prog_47_method_5_code 38 = .ok (.iconst 0, 1) := by decide +kernel
theorem d40_39 : decode prog_47_method_5_code 39 = .ok (.ireturn, 1) := by decide +kernel
theorem ef_40 (m : MethodId) (r1 : Addr) (r2 : Addr)  : entryFrame m #[(.ref r1), (.ref r2)] 3 = mkF m 0 #[.val (.ref r1), .val (.ref r2), .unset] [] := by
  first | (simp [entryFrame, mkF, argsToLocals, Value.category]; done) | rfl
def F40 (w1 : Int32) (w2 : Int32) (w3 : Int32) (w4 : Int32) : Int32 := (if w1 = w3 then (if w2 = w4 then (nar .boolean (1 : Int32)) else (nar .boolean (0 : Int32))) else (nar .boolean (0 : Int32)))
def Q40 (Z : State) (r1 : Addr) (r2 : Addr) (w1 : Int32) (w2 : Int32) (w3 : Int32) (w4 : Int32) (h0 : Heap) (n0 : Nat) (v : Option Value) (h : Heap) (L : List Loc) : Prop := v = some (.int (F40 w1 w2 w3 w4)) ∧ Fr n0 L ∧ h = h0
set_option maxRecDepth 65536 in
set_option maxHeartbeats 40000000 in
theorem rm40 (l : Launch) (Z : State) (a0 : Array Value) (hw : ∀ d ∈ tables_1, d.before a0 Z = true) (ws : List Jvm.Cond) (r1 : Addr) (r2 : Addr) (w1 : Int32) (w2 : Int32) (w3 : Int32) (w4 : Int32) (h0 : Heap) (n0 : Nat) (Z0 : n0 ≤ h0.size) (f0 : Exa Z h0 r2 "com/example/konakis/konakis/engine/Square") (f1 : Fld Z h0 r1 "com/example/konakis/konakis/engine/Square" "file" "I" (.int w1)) (f2 : Fld Z h0 r1 "com/example/konakis/konakis/engine/Square" "rank" "I" (.int w2)) (f3 : Fld Z h0 r2 "com/example/konakis/konakis/engine/Square" "file" "I" (.int w3)) (f4 : Fld Z h0 r2 "com/example/konakis/konakis/engine/Square" "rank" "I" (.int w4)) :
    MetFree l (⟨"com/example/konakis/konakis/engine/Square", "equals", "(Ljava/lang/Object;)Z"⟩ : MethodName) (head1 (Jvm.Cond.code (⟨"com/example/konakis/konakis/engine/Square", "equals", "(Ljava/lang/Object;)Z"⟩ : MethodName) prog_47_method_5_code 3 (some .boolean) :: ws) ({ frames := 0, cells := 0, slots := 0, locals := 0 } : Room)) (fun a U => a = #[(.ref r1), (.ref r2)] ∧ Z.Warmed39 U.vm ∧ U.heap = h0) (fun _ _ _ _ _ => True) (fun _ U o U' => ∃ v L, o = .returned v ∧ Q40 Z r1 r2 w1 w2 w3 w4 h0 n0 v U'.heap L ∧ FrameEnd U o U' L ({ frames := 0, cells := 0, slots := 0, locals := 0 } : Room).cells ({ frames := 0, cells := 0, slots := 0, locals := 0 } : Room).slots) := by
  refine MetFree.of_bodySF (plainFor_of_name pn_1) hisR ?_
  intro p e s m args below meth c s₁ Bd hml0 hP hK
  obtain ⟨rfl, hZ, hh⟩ := hP
  have hx := Bd.exec
  have hby := Bd.bytes
  have hml : c.maxLocals = 3 := hml0
  have hown : s.vm.findClass "com/example/konakis/konakis/engine/Square" = some m.cls := findClass_of_methodNamed Bd.named
  have hnm := (name_of_methodNamed Bd.named Bd.method).1
  have X0 : Stand p l e ({ frames := 0, cells := 0, slots := 0, locals := 0 } : Room) s m #[(.ref r1), (.ref r2)] below meth c s₁ [] 0 0 := Stand.of_body Bd
  have e0 : s₁.heap = h0 := by rw [← hh, Bd.state]; rfl
  have N0 := Fr.nil n0
  suffices H : ∀ Qo : Outcome → State → Prop, (∀ (v : Option Value) (u : State) (L : List Loc), Q40 Z r1 r2 w1 w2 w3 w4 h0 n0 v u.heap L → FrameEnd s (.returned v) u L ({ frames := 0, cells := 0, slots := 0, locals := 0 } : Room).cells ({ frames := 0, cells := 0, slots := 0, locals := 0 } : Room).slots → Qo (.returned v) u) → Go p e below Qo s₁ (mkF m 0 #[.val (.ref r1), .val (.ref r2), .unset] []) from
    Go.cast (ef_40 m r1 r2) (H _ fun v u L h1 h2 => ⟨v, L, rfl, h1, h2⟩)
  intro Qo hQo
  show Go p e below Qo s₁ (mkF m 0 #[.val (.ref r1), .val (.ref r2), .unset] [])
  refine Go.of (fun t k => XS.aloadN X0.here hx rfl (hb hby d40_0) rfl rfl k) ?_
  show Go p e below Qo s₁ (mkF m 1 #[.val (.ref r1), .val (.ref r2), .unset] [(.ref r2)])
  obtain ⟨T1, X1, e1, st1⟩ := instY X0 hx hZ hown (hw _ (List.mem_of_getElem? (i := 23) rfl)) e0 (Ins.self f0) (g := (mkF m 1 #[.val (.ref r1), .val (.ref r2), .unset] [(.ref r2)])) rfl rfl (hb hby d40_1)
  refine Go.of st1 ?_
  show Go p e below Qo T1 (mkF m 4 #[.val (.ref r1), .val (.ref r2), .unset] [(.int (1 : Int32))])
  refine Go.of (fun t k => XS.ifNo X1.here hx rfl (hb hby d40_4) rfl ((if0 _ _).trans (feq (by decide : ¬ ((1 : Int32) = (0 : Int32)))).1) k) ?_
  show Go p e below Qo T1 (mkF m 7 #[.val (.ref r1), .val (.ref r2), .unset] [])
  refine Go.of (fun t k => XS.aloadN X1.here hx rfl (hb hby d40_7) rfl rfl k) ?_
  show Go p e below Qo T1 (mkF m 8 #[.val (.ref r1), .val (.ref r2), .unset] [(.ref r2)])
  obtain ⟨T2, X2, e2, st2⟩ := castY X1 hx hZ hown (hw _ (List.mem_of_getElem? (i := 23) rfl)) e1 (Ins.self f0) (g := (mkF m 8 #[.val (.ref r1), .val (.ref r2), .unset] [(.ref r2)])) rfl rfl (hb hby d40_8)
  refine Go.of st2 ?_
  show Go p e below Qo T2 (mkF m 11 #[.val (.ref r1), .val (.ref r2), .unset] [(.ref r2)])
  refine Go.of (fun t k => XS.astoreN X2.here hx rfl (hb hby d40_11) rfl rfl (l' := #[.val (.ref r1), .val (.ref r2), .val (.ref r2)]) rfl k) ?_
  show Go p e below Qo T2 (mkF m 12 #[.val (.ref r1), .val (.ref r2), .val (.ref r2)] [])
  refine Go.of (fun t k => XS.aloadN X2.here hx rfl (hb hby d40_12) rfl rfl k) ?_
  show Go p e below Qo T2 (mkF m 13 #[.val (.ref r1), .val (.ref r2), .val (.ref r2)] [(.ref r1)])
  obtain ⟨T3, X3, e3, st3⟩ := getF X2 hx hZ hown (host := "") (Or.inl (hw _ (List.mem_of_getElem? (i := 14) rfl))) Via.refl e2 f1 (g := (mkF m 13 #[.val (.ref r1), .val (.ref r2), .val (.ref r2)] [(.ref r1)])) rfl rfl (hb hby d40_13)
  refine Go.of st3 ?_
  show Go p e below Qo T3 (mkF m 16 #[.val (.ref r1), .val (.ref r2), .val (.ref r2)] [(.int w1)])
  refine Go.of (fun t k => XS.aloadN X3.here hx rfl (hb hby d40_16) rfl rfl k) ?_
  show Go p e below Qo T3 (mkF m 17 #[.val (.ref r1), .val (.ref r2), .val (.ref r2)] [(.ref r2), (.int w1)])
  obtain ⟨T4, X4, e4, st4⟩ := getF X3 hx hZ hown (host := "") (Or.inl (hw _ (List.mem_of_getElem? (i := 14) rfl))) Via.refl e3 f3 (g := (mkF m 17 #[.val (.ref r1), .val (.ref r2), .val (.ref r2)] [(.ref r2), (.int w1)])) rfl rfl (hb hby d40_17)
  refine Go.of st4 ?_
  show Go p e below Qo T4 (mkF m 20 #[.val (.ref r1), .val (.ref r2), .val (.ref r2)] [(.int w3), (.int w1)])
  by_cases hc20_5 : w1 = w3
  · refine Go.of (fun t k => XS.icmpNo X4.here hx rfl (hb hby d40_20) rfl (teq hc20_5).2 k) ?_
    show Go p e below Qo T4 (mkF m 23 #[.val (.ref r1), .val (.ref r2), .val (.ref r2)] [])
    refine Go.of (fun t k => XS.aloadN X4.here hx rfl (hb hby d40_23) rfl rfl k) ?_
    show Go p e below Qo T4 (mkF m 24 #[.val (.ref r1), .val (.ref r2), .val (.ref r2)] [(.ref r1)])
    obtain ⟨T6, X6, e6, st6⟩ := getF X4 hx hZ hown (host := "") (Or.inl (hw _ (List.mem_of_getElem? (i := 16) rfl))) Via.refl e4 f2 (g := (mkF m 24 #[.val (.ref r1), .val (.ref r2), .val (.ref r2)] [(.ref r1)])) rfl rfl (hb hby d40_24)
    refine Go.of st6 ?_
    show Go p e below Qo T6 (mkF m 27 #[.val (.ref r1), .val (.ref r2), .val (.ref r2)] [(.int w2)])
    refine Go.of (fun t k => XS.aloadN X6.here hx rfl (hb hby d40_27) rfl rfl k) ?_
    show Go p e below Qo T6 (mkF m 28 #[.val (.ref r1), .val (.ref r2), .val (.ref r2)] [(.ref r2), (.int w2)])
    obtain ⟨T7, X7, e7, st7⟩ := getF X6 hx hZ hown (host := "") (Or.inl (hw _ (List.mem_of_getElem? (i := 16) rfl))) Via.refl e6 f4 (g := (mkF m 28 #[.val (.ref r1), .val (.ref r2), .val (.ref r2)] [(.ref r2), (.int w2)])) rfl rfl (hb hby d40_28)
    refine Go.of st7 ?_
    show Go p e below Qo T7 (mkF m 31 #[.val (.ref r1), .val (.ref r2), .val (.ref r2)] [(.int w4), (.int w2)])
    by_cases hc31_8 : w2 = w4
    · refine Go.of (fun t k => XS.icmpNo X7.here hx rfl (hb hby d40_31) rfl (teq hc31_8).2 k) ?_
      show Go p e below Qo T7 (mkF m 34 #[.val (.ref r1), .val (.ref r2), .val (.ref r2)] [])
      refine Go.of (fun t k => XS.iconst X7.here hx rfl (hb hby d40_34) k) ?_
      show Go p e below Qo T7 (mkF m 35 #[.val (.ref r1), .val (.ref r2), .val (.ref r2)] [(.int (1 : Int32))])
      refine Go.of (fun t k => XS.goto X7.here hx rfl (pc0 := 35) (pc' := 39) rfl (hb hby d40_35) (by decide) (by decide) k) ?_
      show Go p e below Qo T7 (mkF m 39 #[.val (.ref r1), .val (.ref r2), .val (.ref r2)] [(.int (1 : Int32))])
      exact own_retN X7 hx Bd.notSynchronized (t := .boolean) Bd.returns (by simp) (hb hby d40_39) (fun u hu hF => hQo _ _ _ ⟨by rw [show (F40 w1 w2 w3 w4) = nar .boolean (1 : Int32) from by rw [F40, if_pos hc20_5, if_pos hc31_8]], N0, by rw [hu, e7]⟩ (own_mono hF (by decide) (by decide)))
    · refine Go.of (fun t k => XS.icmpYes X7.here hx rfl (pc0 := 31) (pc' := 38) rfl (hb hby d40_31) rfl (feq hc31_8).2 (by decide) (by decide) k) ?_
      show Go p e below Qo T7 (mkF m 38 #[.val (.ref r1), .val (.ref r2), .val (.ref r2)] [])
      refine Go.of (fun t k => XS.iconst X7.here hx rfl (hb hby d40_38) k) ?_
      show Go p e below Qo T7 (mkF m 39 #[.val (.ref r1), .val (.ref r2), .val (.ref r2)] [(.int (0 : Int32))])
      exact own_retN X7 hx Bd.notSynchronized (t := .boolean) Bd.returns (by simp) (hb hby d40_39) (fun u hu hF => hQo _ _ _ ⟨by rw [show (F40 w1 w2 w3 w4) = nar .boolean (0 : Int32) from by rw [F40, if_pos hc20_5, if_neg hc31_8]], N0, by rw [hu, e7]⟩ (own_mono hF (by decide) (by decide)))
  · refine Go.of (fun t k => XS.icmpYes X4.here hx rfl (pc0 := 20) (pc' := 38) rfl (hb hby d40_20) rfl (feq hc20_5).2 (by decide) (by decide) k) ?_
    show Go p e below Qo T4 (mkF m 38 #[.val (.ref r1), .val (.ref r2), .val (.ref r2)] [])
    refine Go.of (fun t k => XS.iconst X4.here hx rfl (hb hby d40_38) k) ?_
    show Go p e below Qo T4 (mkF m 39 #[.val (.ref r1), .val (.ref r2), .val (.ref r2)] [(.int (0 : Int32))])
    exact own_retN X4 hx Bd.notSynchronized (t := .boolean) Bd.returns (by simp) (hb hby d40_39) (fun u hu hF => hQo _ _ _ ⟨by rw [show (F40 w1 w2 w3 w4) = nar .boolean (0 : Int32) from by rw [F40, if_neg hc20_5]], N0, by rw [hu, e4]⟩ (own_mono hF (by decide) (by decide)))
theorem d41_0 : decode prog_47_method_5_code 0 = .ok (.aload_n 1, 1) := by decide +kernel
theorem d41_1 : decode prog_47_method_5_code 1 = .ok (.instanceof 8, 3) := by decide +kernel
theorem d41_4 : decode prog_47_method_5_code 4 = .ok (.ifCond .eq 34, 3) := by decide +kernel
theorem d41_38 : decode prog_47_method_5_code 38 = .ok (.iconst 0, 1) := by decide +kernel
theorem d41_39 : decode prog_47_method_5_code 39 = .ok (.ireturn, 1) := by decide +kernel
theorem ef_41 (m : MethodId) (r1 : Addr)  : entryFrame m #[(.ref r1), .null] 3 = mkF m 0 #[.val (.ref r1), .val .null, .unset] [] := by
  first | (simp [entryFrame, mkF, argsToLocals, Value.category]; done) | rfl
def Q41 (Z : State) (r1 : Addr) (h0 : Heap) (n0 : Nat) (v : Option Value) (h : Heap) (L : List Loc) : Prop := v = some (.int (0 : Int32)) ∧ Fr n0 L ∧ h = h0
set_option maxRecDepth 65536 in
set_option maxHeartbeats 40000000 in
theorem rm41 (l : Launch) (Z : State) (a0 : Array Value) (hw : ∀ d ∈ tables_1, d.before a0 Z = true) (ws : List Jvm.Cond) (r1 : Addr) (h0 : Heap) (n0 : Nat) (Z0 : n0 ≤ h0.size)  :
    MetFree l (⟨"com/example/konakis/konakis/engine/Square", "equals", "(Ljava/lang/Object;)Z"⟩ : MethodName) (head1 (Jvm.Cond.code (⟨"com/example/konakis/konakis/engine/Square", "equals", "(Ljava/lang/Object;)Z"⟩ : MethodName) prog_47_method_5_code 3 (some .boolean) :: ws) ({ frames := 0, cells := 0, slots := 0, locals := 0 } : Room)) (fun a U => a = #[(.ref r1), .null] ∧ Z.Warmed39 U.vm ∧ U.heap = h0) (fun _ _ _ _ _ => True) (fun _ U o U' => ∃ v L, o = .returned v ∧ Q41 Z r1 h0 n0 v U'.heap L ∧ FrameEnd U o U' L ({ frames := 0, cells := 0, slots := 0, locals := 0 } : Room).cells ({ frames := 0, cells := 0, slots := 0, locals := 0 } : Room).slots) := by
  refine MetFree.of_bodySF (plainFor_of_name pn_1) hisR ?_
  intro p e s m args below meth c s₁ Bd hml0 hP hK
  obtain ⟨rfl, hZ, hh⟩ := hP
  have hx := Bd.exec
  have hby := Bd.bytes
  have hml : c.maxLocals = 3 := hml0
  have hown : s.vm.findClass "com/example/konakis/konakis/engine/Square" = some m.cls := findClass_of_methodNamed Bd.named
  have hnm := (name_of_methodNamed Bd.named Bd.method).1
  have X0 : Stand p l e ({ frames := 0, cells := 0, slots := 0, locals := 0 } : Room) s m #[(.ref r1), .null] below meth c s₁ [] 0 0 := Stand.of_body Bd
  have e0 : s₁.heap = h0 := by rw [← hh, Bd.state]; rfl
  have N0 := Fr.nil n0
  suffices H : ∀ Qo : Outcome → State → Prop, (∀ (v : Option Value) (u : State) (L : List Loc), Q41 Z r1 h0 n0 v u.heap L → FrameEnd s (.returned v) u L ({ frames := 0, cells := 0, slots := 0, locals := 0 } : Room).cells ({ frames := 0, cells := 0, slots := 0, locals := 0 } : Room).slots → Qo (.returned v) u) → Go p e below Qo s₁ (mkF m 0 #[.val (.ref r1), .val .null, .unset] []) from
    Go.cast (ef_41 m r1) (H _ fun v u L h1 h2 => ⟨v, L, rfl, h1, h2⟩)
  intro Qo hQo
  show Go p e below Qo s₁ (mkF m 0 #[.val (.ref r1), .val .null, .unset] [])
  refine Go.of (fun t k => XS.aloadN X0.here hx rfl (hb hby d41_0) rfl rfl k) ?_
  show Go p e below Qo s₁ (mkF m 1 #[.val (.ref r1), .val .null, .unset] [.null])
  refine Go.of (fun t k => X0.instanceofNull hx (g := (mkF m 1 #[.val (.ref r1), .val .null, .unset] [.null])) rfl rfl (hb hby d41_1) t k) ?_
  show Go p e below Qo s₁ (mkF m 4 #[.val (.ref r1), .val .null, .unset] [(.int (0 : Int32))])
  refine Go.of (fun t k => XS.ifYes X0.here hx rfl (pc0 := 4) (pc' := 38) rfl (hb hby d41_4) rfl ((if0 _ _).trans (teq (by decide : (0 : Int32) = (0 : Int32))).1) (by decide) (by decide) k) ?_
  show Go p e below Qo s₁ (mkF m 38 #[.val (.ref r1), .val .null, .unset] [])
  refine Go.of (fun t k => XS.iconst X0.here hx rfl (hb hby d41_38) k) ?_
  show Go p e below Qo s₁ (mkF m 39 #[.val (.ref r1), .val .null, .unset] [(.int (0 : Int32))])
  exact own_retN X0 hx Bd.notSynchronized (t := .boolean) Bd.returns (by simp) (hb hby d41_39) (fun u hu hF => hQo _ _ _ ⟨rfl, N0, by rw [hu, e0]⟩ (own_mono hF (by decide) (by decide)))
theorem d42_0 : decode prog_47_method_5_code 0 = .ok (.aload_n 1, 1) := by decide +kernel
theorem d42_1 : decode prog_47_method_5_code 1 = .ok (.instanceof 8, 3) := by decide +kernel
theorem d42_4 : decode prog_47_method_5_code 4 = .ok (.ifCond .eq 34, 3) := by decide +kernel
theorem d42_38 : decode prog_47_method_5_code 38 = .ok (.iconst 0, 1) := by decide +kernel
theorem d42_39 : decode prog_47_method_5_code 39 = .ok (.ireturn, 1) := by decide +kernel
theorem ef_42 (m : MethodId) (r1 : Addr) (r2 : Addr)  : entryFrame m #[(.ref r1), (.ref r2)] 3 = mkF m 0 #[.val (.ref r1), .val (.ref r2), .unset] [] := by
  first | (simp [entryFrame, mkF, argsToLocals, Value.category]; done) | rfl
def Q42 (Z : State) (r1 : Addr) (r2 : Addr) (h0 : Heap) (n0 : Nat) (v : Option Value) (h : Heap) (L : List Loc) : Prop := v = some (.int (0 : Int32)) ∧ Fr n0 L ∧ h = h0
set_option maxRecDepth 65536 in
set_option maxHeartbeats 40000000 in
theorem rm42 (l : Launch) (Z : State) (a0 : Array Value) (hw : ∀ d ∈ tables_1, d.before a0 Z = true) (ws : List Jvm.Cond) (r1 : Addr) (r2 : Addr) (h0 : Heap) (n0 : Nat) (Z0 : n0 ≤ h0.size) (f0 : Exa Z h0 r2 "java/lang/String") :
    MetFree l (⟨"com/example/konakis/konakis/engine/Square", "equals", "(Ljava/lang/Object;)Z"⟩ : MethodName) (head1 (Jvm.Cond.code (⟨"com/example/konakis/konakis/engine/Square", "equals", "(Ljava/lang/Object;)Z"⟩ : MethodName) prog_47_method_5_code 3 (some .boolean) :: ws) ({ frames := 0, cells := 0, slots := 0, locals := 0 } : Room)) (fun a U => a = #[(.ref r1), (.ref r2)] ∧ Z.Warmed39 U.vm ∧ U.heap = h0) (fun _ _ _ _ _ => True) (fun _ U o U' => ∃ v L, o = .returned v ∧ Q42 Z r1 r2 h0 n0 v U'.heap L ∧ FrameEnd U o U' L ({ frames := 0, cells := 0, slots := 0, locals := 0 } : Room).cells ({ frames := 0, cells := 0, slots := 0, locals := 0 } : Room).slots) := by
  refine MetFree.of_bodySF (plainFor_of_name pn_1) hisR ?_
  intro p e s m args below meth c s₁ Bd hml0 hP hK
  obtain ⟨rfl, hZ, hh⟩ := hP
  have hx := Bd.exec
  have hby := Bd.bytes
  have hml : c.maxLocals = 3 := hml0
  have hown : s.vm.findClass "com/example/konakis/konakis/engine/Square" = some m.cls := findClass_of_methodNamed Bd.named
  have hnm := (name_of_methodNamed Bd.named Bd.method).1
  have X0 : Stand p l e ({ frames := 0, cells := 0, slots := 0, locals := 0 } : Room) s m #[(.ref r1), (.ref r2)] below meth c s₁ [] 0 0 := Stand.of_body Bd
  have e0 : s₁.heap = h0 := by rw [← hh, Bd.state]; rfl
  have N0 := Fr.nil n0
  suffices H : ∀ Qo : Outcome → State → Prop, (∀ (v : Option Value) (u : State) (L : List Loc), Q42 Z r1 r2 h0 n0 v u.heap L → FrameEnd s (.returned v) u L ({ frames := 0, cells := 0, slots := 0, locals := 0 } : Room).cells ({ frames := 0, cells := 0, slots := 0, locals := 0 } : Room).slots → Qo (.returned v) u) → Go p e below Qo s₁ (mkF m 0 #[.val (.ref r1), .val (.ref r2), .unset] []) from
    Go.cast (ef_42 m r1 r2) (H _ fun v u L h1 h2 => ⟨v, L, rfl, h1, h2⟩)
  intro Qo hQo
  show Go p e below Qo s₁ (mkF m 0 #[.val (.ref r1), .val (.ref r2), .unset] [])
  refine Go.of (fun t k => XS.aloadN X0.here hx rfl (hb hby d42_0) rfl rfl k) ?_
  show Go p e below Qo s₁ (mkF m 1 #[.val (.ref r1), .val (.ref r2), .unset] [(.ref r2)])
  obtain ⟨T1, X1, e1, st1⟩ := instNo X0 hx hZ hown (hw _ (List.mem_of_getElem? (i := 23) rfl)) e0 f0 (own_no (hw _ (List.mem_of_getElem? (i := 49) rfl)) (hw _ (List.mem_of_getElem? (i := 1) rfl)) (NS.step (hw _ (List.mem_of_getElem? (i := 49) rfl)) (own_root (hw _ (List.mem_of_getElem? (i := 50) rfl)) (hw _ (List.mem_of_getElem? (i := 1) rfl)) (by decide)) (by decide)) (by decide)) (g := (mkF m 1 #[.val (.ref r1), .val (.ref r2), .unset] [(.ref r2)])) rfl rfl (hb hby d42_1)
  refine Go.of st1 ?_
  show Go p e below Qo T1 (mkF m 4 #[.val (.ref r1), .val (.ref r2), .unset] [(.int (0 : Int32))])
  refine Go.of (fun t k => XS.ifYes X1.here hx rfl (pc0 := 4) (pc' := 38) rfl (hb hby d42_4) rfl ((if0 _ _).trans (teq (by decide : (0 : Int32) = (0 : Int32))).1) (by decide) (by decide) k) ?_
  show Go p e below Qo T1 (mkF m 38 #[.val (.ref r1), .val (.ref r2), .unset] [])
  refine Go.of (fun t k => XS.iconst X1.here hx rfl (hb hby d42_38) k) ?_
  show Go p e below Qo T1 (mkF m 39 #[.val (.ref r1), .val (.ref r2), .unset] [(.int (0 : Int32))])
  exact own_retN X1 hx Bd.notSynchronized (t := .boolean) Bd.returns (by simp) (hb hby d42_39) (fun u hu hF => hQo _ _ _ ⟨rfl, N0, by rw [hu, e1]⟩ (own_mono hF (by decide) (by decide)))
theorem d43_0 : decode prog_47_method_5_code 0 = .ok (.aload_n 1, 1) := by decide +kernel
theorem d43_1 : decode prog_47_method_5_code 1 = .ok (.instanceof 8, 3) := by decide +kernel
theorem d43_4 : decode prog_47_method_5_code 4 = .ok (.ifCond .eq 34, 3) := by decide +kernel
theorem d43_38 : decode prog_47_method_5_code 38 = .ok (.iconst 0, 1) := by decide +kernel
theorem d43_39 : decode prog_47_method_5_code 39 = .ok (.ireturn, 1) := by decide +kernel
theorem ef_43 (m : MethodId) (r1 : Addr) (r2 : Addr)  : entryFrame m #[(.ref r1), (.ref r2)] 3 = mkF m 0 #[.val (.ref r1), .val (.ref r2), .unset] [] := by
  first | (simp [entryFrame, mkF, argsToLocals, Value.category]; done) | rfl
def Q43 (Z : State) (r1 : Addr) (r2 : Addr) (h0 : Heap) (n0 : Nat) (v : Option Value) (h : Heap) (L : List Loc) : Prop := v = some (.int (0 : Int32)) ∧ Fr n0 L ∧ h = h0
set_option maxRecDepth 65536 in
set_option maxHeartbeats 40000000 in
theorem rm43 (l : Launch) (Z : State) (a0 : Array Value) (hw : ∀ d ∈ tables_1, d.before a0 Z = true) (ws : List Jvm.Cond) (r1 : Addr) (r2 : Addr) (h0 : Heap) (n0 : Nat) (Z0 : n0 ≤ h0.size) (f0 : Exa Z h0 r2 "java/lang/Integer") :
    MetFree l (⟨"com/example/konakis/konakis/engine/Square", "equals", "(Ljava/lang/Object;)Z"⟩ : MethodName) (head1 (Jvm.Cond.code (⟨"com/example/konakis/konakis/engine/Square", "equals", "(Ljava/lang/Object;)Z"⟩ : MethodName) prog_47_method_5_code 3 (some .boolean) :: ws) ({ frames := 0, cells := 0, slots := 0, locals := 0 } : Room)) (fun a U => a = #[(.ref r1), (.ref r2)] ∧ Z.Warmed39 U.vm ∧ U.heap = h0) (fun _ _ _ _ _ => True) (fun _ U o U' => ∃ v L, o = .returned v ∧ Q43 Z r1 r2 h0 n0 v U'.heap L ∧ FrameEnd U o U' L ({ frames := 0, cells := 0, slots := 0, locals := 0 } : Room).cells ({ frames := 0, cells := 0, slots := 0, locals := 0 } : Room).slots) := by
  refine MetFree.of_bodySF (plainFor_of_name pn_1) hisR ?_
  intro p e s m args below meth c s₁ Bd hml0 hP hK
  obtain ⟨rfl, hZ, hh⟩ := hP
  have hx := Bd.exec
  have hby := Bd.bytes
  have hml : c.maxLocals = 3 := hml0
  have hown : s.vm.findClass "com/example/konakis/konakis/engine/Square" = some m.cls := findClass_of_methodNamed Bd.named
  have hnm := (name_of_methodNamed Bd.named Bd.method).1
  have X0 : Stand p l e ({ frames := 0, cells := 0, slots := 0, locals := 0 } : Room) s m #[(.ref r1), (.ref r2)] below meth c s₁ [] 0 0 := Stand.of_body Bd
  have e0 : s₁.heap = h0 := by rw [← hh, Bd.state]; rfl
  have N0 := Fr.nil n0
  suffices H : ∀ Qo : Outcome → State → Prop, (∀ (v : Option Value) (u : State) (L : List Loc), Q43 Z r1 r2 h0 n0 v u.heap L → FrameEnd s (.returned v) u L ({ frames := 0, cells := 0, slots := 0, locals := 0 } : Room).cells ({ frames := 0, cells := 0, slots := 0, locals := 0 } : Room).slots → Qo (.returned v) u) → Go p e below Qo s₁ (mkF m 0 #[.val (.ref r1), .val (.ref r2), .unset] []) from
    Go.cast (ef_43 m r1 r2) (H _ fun v u L h1 h2 => ⟨v, L, rfl, h1, h2⟩)
  intro Qo hQo
  show Go p e below Qo s₁ (mkF m 0 #[.val (.ref r1), .val (.ref r2), .unset] [])
  refine Go.of (fun t k => XS.aloadN X0.here hx rfl (hb hby d43_0) rfl rfl k) ?_
  show Go p e below Qo s₁ (mkF m 1 #[.val (.ref r1), .val (.ref r2), .unset] [(.ref r2)])
  obtain ⟨T1, X1, e1, st1⟩ := instNo X0 hx hZ hown (hw _ (List.mem_of_getElem? (i := 23) rfl)) e0 f0 (own_no (hw _ (List.mem_of_getElem? (i := 72) rfl)) (hw _ (List.mem_of_getElem? (i := 1) rfl)) (NS.step (hw _ (List.mem_of_getElem? (i := 72) rfl)) (NS.step (hw _ (List.mem_of_getElem? (i := 73) rfl)) (own_root (hw _ (List.mem_of_getElem? (i := 50) rfl)) (hw _ (List.mem_of_getElem? (i := 1) rfl)) (by decide)) (by decide)) (by decide)) (by decide)) (g := (mkF m 1 #[.val (.ref r1), .val (.ref r2), .unset] [(.ref r2)])) rfl rfl (hb hby d43_1)
  refine Go.of st1 ?_
  show Go p e below Qo T1 (mkF m 4 #[.val (.ref r1), .val (.ref r2), .unset] [(.int (0 : Int32))])
  refine Go.of (fun t k => XS.ifYes X1.here hx rfl (pc0 := 4) (pc' := 38) rfl (hb hby d43_4) rfl ((if0 _ _).trans (teq (by decide : (0 : Int32) = (0 : Int32))).1) (by decide) (by decide) k) ?_
  show Go p e below Qo T1 (mkF m 38 #[.val (.ref r1), .val (.ref r2), .unset] [])
  refine Go.of (fun t k => XS.iconst X1.here hx rfl (hb hby d43_38) k) ?_
  show Go p e below Qo T1 (mkF m 39 #[.val (.ref r1), .val (.ref r2), .unset] [(.int (0 : Int32))])
  exact own_retN X1 hx Bd.notSynchronized (t := .boolean) Bd.returns (by simp) (hb hby d43_39) (fun u hu hF => hQo _ _ _ ⟨rfl, N0, by rw [hu, e1]⟩ (own_mono hF (by decide) (by decide)))
theorem d6_0 : decode jdk_43_method_3_code 0 = .ok (.iload_n 0, 1) := by decide +kernel
theorem d6_1 : decode jdk_43_method_3_code 1 = .ok (.sipush 255, 3) := by decide +kernel
theorem d6_4 : decode jdk_43_method_3_code 4 = .ok (.if_icmp .gt 7, 3) := by decide +kernel
theorem d6_7 : decode jdk_43_method_3_code 7 = .ok (.iconst 1, 1) := by decide +kernel
theorem d6_8 : decode jdk_43_method_3_code 8 = .ok (.goto 4, 3) := by decide +kernel
theorem d6_11 : decode jdk_43_method_3_code 11 = .ok (.iconst 0, 1) := by decide +kernel
theorem d6_12 : decode jdk_43_method_3_code 12 = .ok (.ireturn, 1) := by decide +kernel
theorem pn_2 : plainName "java/lang/StringLatin1" = true := by first | (simp [plainName, overriddenIn]; done) | decide +kernel
theorem ef_6 (m : MethodId) (i1 : Int32)  : entryFrame m #[(.int i1)] 1 = mkF m 0 #[.val (.int i1)] [] := by
  first | (simp [entryFrame, mkF, argsToLocals, Value.category]; done) | rfl
def F6 (i1 : Int32) : Int32 := (if (255 : Int32) < i1 then (nar .boolean (0 : Int32)) else (nar .boolean (1 : Int32)))
def Q6 (Z : State) (i1 : Int32) (h0 : Heap) (n0 : Nat) (v : Option Value) (h : Heap) (L : List Loc) : Prop := v = some (.int (F6 i1)) ∧ Fr n0 L ∧ h = h0
set_option maxRecDepth 65536 in
set_option maxHeartbeats 40000000 in
theorem rm6 (l : Launch) (Z : State) (a0 : Array Value) (hw : ∀ d ∈ tables_1, d.before a0 Z = true) (ws : List Jvm.Cond) (i1 : Int32) (h0 : Heap) (n0 : Nat) (Z0 : n0 ≤ h0.size)  :
    MetFree l (⟨"java/lang/StringLatin1", "canEncode", "(C)Z"⟩ : MethodName) (head1 (Jvm.Cond.code (⟨"java/lang/StringLatin1", "canEncode", "(C)Z"⟩ : MethodName) jdk_43_method_3_code 1 (some .boolean) :: ws) ({ frames := 0, cells := 0, slots := 0, locals := 0 } : Room)) (fun a U => a = #[(.int i1)] ∧ Z.Warmed39 U.vm ∧ U.heap = h0) (fun _ _ _ _ _ => True) (fun _ U o U' => ∃ v L, o = .returned v ∧ Q6 Z i1 h0 n0 v U'.heap L ∧ FrameEnd U o U' L ({ frames := 0, cells := 0, slots := 0, locals := 0 } : Room).cells ({ frames := 0, cells := 0, slots := 0, locals := 0 } : Room).slots) := by
  refine MetFree.of_bodySF (plainFor_of_name pn_2) hisR ?_
  intro p e s m args below meth c s₁ Bd hml0 hP hK
  obtain ⟨rfl, hZ, hh⟩ := hP
  have hx := Bd.exec
  have hby := Bd.bytes
  have hml : c.maxLocals = 1 := hml0
  have hown : s.vm.findClass "java/lang/StringLatin1" = some m.cls := findClass_of_methodNamed Bd.named
  have hnm := (name_of_methodNamed Bd.named Bd.method).1
  have X0 : Stand p l e ({ frames := 0, cells := 0, slots := 0, locals := 0 } : Room) s m #[(.int i1)] below meth c s₁ [] 0 0 := Stand.of_body Bd
  have e0 : s₁.heap = h0 := by rw [← hh, Bd.state]; rfl
  have N0 := Fr.nil n0
  suffices H : ∀ Qo : Outcome → State → Prop, (∀ (v : Option Value) (u : State) (L : List Loc), Q6 Z i1 h0 n0 v u.heap L → FrameEnd s (.returned v) u L ({ frames := 0, cells := 0, slots := 0, locals := 0 } : Room).cells ({ frames := 0, cells := 0, slots := 0, locals := 0 } : Room).slots → Qo (.returned v) u) → Go p e below Qo s₁ (mkF m 0 #[.val (.int i1)] []) from
    Go.cast (ef_6 m i1) (H _ fun v u L h1 h2 => ⟨v, L, rfl, h1, h2⟩)
  intro Qo hQo
  show Go p e below Qo s₁ (mkF m 0 #[.val (.int i1)] [])
  refine Go.of (fun t k => XS.iloadN X0.here hx rfl (hb hby d6_0) rfl  k) ?_
  show Go p e below Qo s₁ (mkF m 1 #[.val (.int i1)] [(.int i1)])
  refine Go.of (fun t k => XS.sipush X0.here hx rfl (hb hby d6_1) k) ?_
  show Go p e below Qo s₁ (mkF m 4 #[.val (.int i1)] [(.int (255 : Int32)), (.int i1)])
  by_cases hc4_1 : (255 : Int32) < i1
  · refine Go.of (fun t k => XS.icmpYes X0.here hx rfl (pc0 := 4) (pc' := 11) rfl (hb hby d6_4) rfl (tlt hc4_1).2.2.1 (by decide) (by decide) k) ?_
    show Go p e below Qo s₁ (mkF m 11 #[.val (.int i1)] [])
    refine Go.of (fun t k => XS.iconst X0.here hx rfl (hb hby d6_11) k) ?_
    show Go p e below Qo s₁ (mkF m 12 #[.val (.int i1)] [(.int (0 : Int32))])
    exact own_retN X0 hx Bd.notSynchronized (t := .boolean) Bd.returns (by simp) (hb hby d6_12) (fun u hu hF => hQo _ _ _ ⟨by rw [show (F6 i1) = nar .boolean (0 : Int32) from by rw [F6, if_pos hc4_1]], N0, by rw [hu, e0]⟩ (own_mono hF (by decide) (by decide)))
  · refine Go.of (fun t k => XS.icmpNo X0.here hx rfl (hb hby d6_4) rfl (flt hc4_1).2.2.1 k) ?_
    show Go p e below Qo s₁ (mkF m 7 #[.val (.int i1)] [])
    refine Go.of (fun t k => XS.iconst X0.here hx rfl (hb hby d6_7) k) ?_
    show Go p e below Qo s₁ (mkF m 8 #[.val (.int i1)] [(.int (1 : Int32))])
    refine Go.of (fun t k => XS.goto X0.here hx rfl (pc0 := 8) (pc' := 12) rfl (hb hby d6_8) (by decide) (by decide) k) ?_
    show Go p e below Qo s₁ (mkF m 12 #[.val (.int i1)] [(.int (1 : Int32))])
    exact own_retN X0 hx Bd.notSynchronized (t := .boolean) Bd.returns (by simp) (hb hby d6_12) (fun u hu hF => hQo _ _ _ ⟨by rw [show (F6 i1) = nar .boolean (1 : Int32) from by rw [F6, if_neg hc4_1]], N0, by rw [hu, e0]⟩ (own_mono hF (by decide) (by decide)))
theorem d7_0 : decode jdk_43_method_46_code 0 = .ok (.iconst 1, 1) := by decide +kernel
theorem d7_1 : decode jdk_43_method_46_code 1 = .ok (.newarray .byte, 2) := by decide +kernel
theorem d7_3 : decode jdk_43_method_46_code 3 = .ok (.dup, 1) := by decide +kernel
theorem d7_4 : decode jdk_43_method_46_code 4 = .ok (.iconst 0, 1) := by decide +kernel
theorem d7_5 : decode jdk_43_method_46_code 5 = .ok (.iload_n 0, 1) := by decide +kernel
theorem d7_6 : decode jdk_43_method_46_code 6 = .ok (.i2b, 1) := by decide +kernel
theorem d7_7 : decode jdk_43_method_46_code 7 = .ok (.bastore, 1) := by decide +kernel
theorem d7_8 : decode jdk_43_method_46_code 8 = .ok (.areturn, 1) := by decide +kernel
theorem ef_7 (m : MethodId) (i1 : Int32)  : entryFrame m #[(.int i1)] 1 = mkF m 0 #[.val (.int i1)] [] := by
  first | (simp [entryFrame, mkF, argsToLocals, Value.category]; done) | rfl
def Q7 (Z : State) (i1 : Int32) (h0 : Heap) (n0 : Nat) (v : Option Value) (h : Heap) (L : List Loc) : Prop := ∃ rb : Addr, ∃ kb : ClassId, v = some (.ref rb) ∧ Fr n0 L ∧ Keep h0 h [] ∧ h0.size ≤ rb ∧ Arv Z h rb kb .byte (1 : Int32) [(.int (nar .byte (i1.toInt8.toInt32)))] (.int (0 : Int32))
set_option maxRecDepth 65536 in
set_option maxHeartbeats 40000000 in
theorem rm7 (l : Launch) (Z : State) (a0 : Array Value) (hw : ∀ d ∈ tables_1, d.before a0 Z = true) (ws : List Jvm.Cond) (i1 : Int32) (h0 : Heap) (n0 : Nat) (Z0 : n0 ≤ h0.size)  :
    MetFree l (⟨"java/lang/StringLatin1", "toBytes", "(C)[B"⟩ : MethodName) (head1 (Jvm.Cond.code (⟨"java/lang/StringLatin1", "toBytes", "(C)[B"⟩ : MethodName) jdk_43_method_46_code 1 (some (.array .byte)) :: ws) ({ frames := 0, cells := 1, slots := 1, locals := 0 } : Room)) (fun a U => a = #[(.int i1)] ∧ Z.Warmed39 U.vm ∧ U.heap = h0) (fun _ _ _ _ _ => True) (fun _ U o U' => ∃ v L, o = .returned v ∧ Q7 Z i1 h0 n0 v U'.heap L ∧ FrameEnd U o U' L ({ frames := 0, cells := 1, slots := 1, locals := 0 } : Room).cells ({ frames := 0, cells := 1, slots := 1, locals := 0 } : Room).slots) := by
  refine MetFree.of_bodySF (plainFor_of_name pn_2) hisR ?_
  intro p e s m args below meth c s₁ Bd hml0 hP hK
  obtain ⟨rfl, hZ, hh⟩ := hP
  have hx := Bd.exec
  have hby := Bd.bytes
  have hml : c.maxLocals = 1 := hml0
  have hown : s.vm.findClass "java/lang/StringLatin1" = some m.cls := findClass_of_methodNamed Bd.named
  have hnm := (name_of_methodNamed Bd.named Bd.method).1
  have X0 : Stand p l e ({ frames := 0, cells := 1, slots := 1, locals := 0 } : Room) s m #[(.int i1)] below meth c s₁ [] 0 0 := Stand.of_body Bd
  have e0 : s₁.heap = h0 := by rw [← hh, Bd.state]; rfl
  have N0 := Fr.nil n0
  suffices H : ∀ Qo : Outcome → State → Prop, (∀ (v : Option Value) (u : State) (L : List Loc), Q7 Z i1 h0 n0 v u.heap L → FrameEnd s (.returned v) u L ({ frames := 0, cells := 1, slots := 1, locals := 0 } : Room).cells ({ frames := 0, cells := 1, slots := 1, locals := 0 } : Room).slots → Qo (.returned v) u) → Go p e below Qo s₁ (mkF m 0 #[.val (.int i1)] []) from
    Go.cast (ef_7 m i1) (H _ fun v u L h1 h2 => ⟨v, L, rfl, h1, h2⟩)
  intro Qo hQo
  show Go p e below Qo s₁ (mkF m 0 #[.val (.int i1)] [])
  refine Go.of (fun t k => XS.iconst X0.here hx rfl (hb hby d7_0) k) ?_
  show Go p e below Qo s₁ (mkF m 1 #[.val (.int i1)] [(.int (1 : Int32))])
  obtain ⟨T1, h1, k1, X1, e1, E1, A1, st1⟩ := newP X0 hx hZ (hw _ (List.mem_of_getElem? (i := 39) rfl)) e0 (g := (mkF m 1 #[.val (.int i1)] [(.int (1 : Int32))])) rfl (hb hby d7_1) rfl (by decide) (cap := 1) (by decide) (by decide) (by decide) (by decide)
  obtain ⟨b1, g1⟩ : ∃ z, z = h0.size := ⟨_, rfl⟩
  rw [← g1] at A1 st1
  have g2 : n0 ≤ b1 := Nat.le_trans Z0 (Nat.le_of_eq g1.symm)
  have sz3 : h0.size ≤ b1 := Nat.le_trans (Keep.refl h0 []).1 (Nat.le_of_eq g1.symm)
  have Z4 : n0 ≤ h1.size := Nat.le_trans Z0 E1.1
  have K5 : Keep h0 h1 [] := (Keep.refl h0 []).ext E1
  have q6 : Arv Z h1 b1 k1 .byte (1 : Int32) [(.int (0 : Int32))] (.int (0 : Int32)) := (Arv.new A1 (by decide)).pad (pad_rep [] (.int (0 : Int32)) 1)
  refine Go.of st1 ?_
  show Go p e below Qo T1 (mkF m 3 #[.val (.int i1)] [(.ref b1)])
  refine Go.of (fun t k => XS.dup X1.here hx rfl (hb hby d7_3) rfl rfl k) ?_
  show Go p e below Qo T1 (mkF m 4 #[.val (.int i1)] [(.ref b1), (.ref b1)])
  refine Go.of (fun t k => XS.iconst X1.here hx rfl (hb hby d7_4) k) ?_
  show Go p e below Qo T1 (mkF m 5 #[.val (.int i1)] [(.int (0 : Int32)), (.ref b1), (.ref b1)])
  refine Go.of (fun t k => XS.iloadN X1.here hx rfl (hb hby d7_5) rfl  k) ?_
  show Go p e below Qo T1 (mkF m 6 #[.val (.int i1)] [(.int i1), (.int (0 : Int32)), (.ref b1), (.ref b1)])
  refine Go.of (fun t k => XS.i2b X1.here hx rfl (hb hby d7_6) rfl k) ?_
  show Go p e below Qo T1 (mkF m 7 #[.val (.int i1)] [(.int (i1.toInt8.toInt32)), (.int (0 : Int32)), (.ref b1), (.ref b1)])
  have cpo7 := q6
  obtain ⟨clo7, Aro7, qco7, So7, Mo7, Ho7, Go7⟩ := cpo7
  have hin8 : ¬ ((0 : Int32) < 0 ∨ clo7.slots.size ≤ (0 : Int32).toNatClampNeg) := (inb_of So7 ⟨by decide, by decide⟩)
  obtain ⟨T9, h9, X9, e9, W9, st9⟩ := stB X1 hx hZ e1 Aro7 (j := (0 : Int32)) hin8 (g := (mkF m 7 #[.val (.int i1)] [(.int (i1.toInt8.toInt32)), (.int (0 : Int32)), (.ref b1), (.ref b1)])) rfl rfl (hb hby d7_7)
  have q10 : Arv Z h9 b1 k1 .byte (1 : Int32) [(.int (nar .byte (i1.toInt8.toInt32)))] (.int (0 : Int32)) := Arv.set Aro7 qco7 So7 Mo7 Ho7 Go7 (fits_nar_byte _) W9 0 rfl (Nat.le_of_ble_eq_true rfl)
  have Z11 : n0 ≤ h9.size := Nat.le_trans Z4 (Keep.of_wr W9).1
  have K12 : Keep h0 h9 [] := K5.wr W9 (Or.inr sz3)
  have N13 := Fr.snoc X9 N0 g2
  refine Go.of st9 ?_
  show Go p e below Qo T9 (mkF m 8 #[.val (.int i1)] [(.ref b1)])
  exact own_retW X9 hx Bd.notSynchronized Bd.returns rfl (Or.inr (Or.inr (Or.inr (Or.inr ⟨rfl, rfl, rfl⟩)))) (hb hby d7_8) (fun u hu hF => hQo _ _ _ ⟨b1, k1, rfl, N13, by rw [hu, e9]; exact K12, sz3, by rw [hu, e9]; exact q10⟩ (own_mono hF (by decide) (by decide)))
theorem d8_0 : decode jdk_42_method_151_code 0 = .ok (.aload_n 0, 1) := by decide +kernel
theorem d8_1 : decode jdk_42_method_151_code 1 = .ok (.invokespecial 1, 3) := by decide +kernel
theorem d8_4 : decode jdk_42_method_151_code 4 = .ok (.aload_n 0, 1) := by decide +kernel
theorem d8_5 : decode jdk_42_method_151_code 5 = .ok (.aload_n 1, 1) := by decide +kernel
theorem d8_6 : decode jdk_42_method_151_code 6 = .ok (.putfield 9, 3) := by decide +kernel
theorem d8_9 : decode jdk_42_method_151_code 9 = .ok (.aload_n 0, 1) := by decide +kernel
theorem d8_10 : decode jdk_42_method_151_code 10 = .ok (.iload_n 2, 1) := by decide +kernel
theorem d8_11 : decode jdk_42_method_151_code 11 = .ok (.putfield 15, 3) := by decide +kernel
theorem d8_14 : decode jdk_42_method_151_code 14 = .ok (.return_, 1) := by decide +kernel
theorem pn_3 : plainName "java/lang/String" = true := by first | (simp [plainName, overriddenIn]; done) | decide +kernel
theorem ef_8 (m : MethodId) (r1 : Addr) (r2 : Addr) (i1 : Int32)  : entryFrame m #[(.ref r1), (.ref r2), (.int i1)] 3 = mkF m 0 #[.val (.ref r1), .val (.ref r2), .val (.int i1)] [] := by
  first | (simp [entryFrame, mkF, argsToLocals, Value.category]; done) | rfl
def Q8 (Z : State) (r1 : Addr) (r2 : Addr) (i1 : Int32) (u_0 : Value) (u_1 : Value) (h0 : Heap) (n0 : Nat) (v : Option Value) (h : Heap) (L : List Loc) : Prop := v = none ∧ Fr n0 L ∧ Keep h0 h [r1] ∧ Exa Z h r1 "java/lang/String" ∧ Fld Z h r1 "java/lang/String" "value" "[B" (.ref r2) ∧ Fld Z h r1 "java/lang/String" "coder" "B" (.int (nar .byte i1))
set_option maxRecDepth 65536 in
set_option maxHeartbeats 40000000 in
theorem rm8 (l : Launch) (Z : State) (a0 : Array Value) (hw : ∀ d ∈ tables_1, d.before a0 Z = true) (ws : List Jvm.Cond) (r1 : Addr) (r2 : Addr) (i1 : Int32) (u_0 : Value) (u_1 : Value) (h0 : Heap) (n0 : Nat) (Z0 : n0 ≤ h0.size) (f0 : Exa Z h0 r1 "java/lang/String") (f1 : Fld Z h0 r1 "java/lang/String" "value" "[B" u_0) (f2 : Fld Z h0 r1 "java/lang/String" "coder" "B" u_1) (g_r1 : n0 ≤ r1) :
    MetFree l (⟨"java/lang/String", "<init>", "([BB)V"⟩ : MethodName) (head1 (Jvm.Cond.code (⟨"java/lang/String", "<init>", "([BB)V"⟩ : MethodName) jdk_42_method_151_code 3 none :: ws) ({ frames := 1, cells := 0, slots := 0, locals := 12 } : Room)) (fun a U => a = #[(.ref r1), (.ref r2), (.int i1)] ∧ Z.Warmed39 U.vm ∧ U.heap = h0) (fun _ _ _ _ _ => True) (fun _ U o U' => ∃ v L, o = .returned v ∧ Q8 Z r1 r2 i1 u_0 u_1 h0 n0 v U'.heap L ∧ FrameEnd U o U' L ({ frames := 1, cells := 0, slots := 0, locals := 12 } : Room).cells ({ frames := 1, cells := 0, slots := 0, locals := 12 } : Room).slots) := by
  refine MetFree.of_bodySF (plainFor_of_name pn_3) hisR ?_
  intro p e s m args below meth c s₁ Bd hml0 hP hK
  obtain ⟨rfl, hZ, hh⟩ := hP
  have hx := Bd.exec
  have hby := Bd.bytes
  have hml : c.maxLocals = 3 := hml0
  have hown : s.vm.findClass "java/lang/String" = some m.cls := findClass_of_methodNamed Bd.named
  have hnm := (name_of_methodNamed Bd.named Bd.method).1
  have X0 : Stand p l e ({ frames := 1, cells := 0, slots := 0, locals := 12 } : Room) s m #[(.ref r1), (.ref r2), (.int i1)] below meth c s₁ [] 0 0 := Stand.of_body Bd
  have e0 : s₁.heap = h0 := by rw [← hh, Bd.state]; rfl
  have N0 := Fr.nil n0
  suffices H : ∀ Qo : Outcome → State → Prop, (∀ (v : Option Value) (u : State) (L : List Loc), Q8 Z r1 r2 i1 u_0 u_1 h0 n0 v u.heap L → FrameEnd s (.returned v) u L ({ frames := 1, cells := 0, slots := 0, locals := 12 } : Room).cells ({ frames := 1, cells := 0, slots := 0, locals := 12 } : Room).slots → Qo (.returned v) u) → Go p e below Qo s₁ (mkF m 0 #[.val (.ref r1), .val (.ref r2), .val (.int i1)] []) from
    Go.cast (ef_8 m r1 r2 i1) (H _ fun v u L h1 h2 => ⟨v, L, rfl, h1, h2⟩)
  intro Qo hQo
  show Go p e below Qo s₁ (mkF m 0 #[.val (.ref r1), .val (.ref r2), .val (.int i1)] [])
  refine Go.of (fun t k => XS.aloadN X0.here hx rfl (hb hby d8_0) rfl rfl k) ?_
  show Go p e below Qo s₁ (mkF m 1 #[.val (.ref r1), .val (.ref r2), .val (.int i1)] [(.ref r1)])
  obtain ⟨T1, X1, e1, st1⟩ := initO X0 hx hZ hown (hw _ (List.mem_of_getElem? (i := 44) rfl)) (hw _ (List.mem_of_getElem? (i := 12) rfl)) (hw _ (List.mem_of_getElem? (i := 13) rfl)) e0 (g := (mkF m 1 #[.val (.ref r1), .val (.ref r2), .val (.int i1)] [(.ref r1)])) rfl (by rw [hml]; rfl) rfl (hb hby d8_1) (by decide) (W := 0) (by show 2 * 0 + _ ≤ _; exact Nat.le_of_eq rfl) (by decide)
  refine Go.of st1 ?_
  show Go p e below Qo T1 (mkF m 4 #[.val (.ref r1), .val (.ref r2), .val (.int i1)] [])
  refine Go.of (fun t k => XS.aloadN X1.here hx rfl (hb hby d8_4) rfl rfl k) ?_
  show Go p e below Qo T1 (mkF m 5 #[.val (.ref r1), .val (.ref r2), .val (.int i1)] [(.ref r1)])
  refine Go.of (fun t k => XS.aloadN X1.here hx rfl (hb hby d8_5) rfl rfl k) ?_
  show Go p e below Qo T1 (mkF m 6 #[.val (.ref r1), .val (.ref r2), .val (.int i1)] [(.ref r2), (.ref r1)])
  obtain ⟨T2, h2, X2, e2, W2, st2⟩ := putF X1 hx hZ hown (host := "") (Or.inl (hw _ (List.mem_of_getElem? (i := 45) rfl))) Via.refl e1 f1 f0 (Or.inr ⟨(hw _ (List.mem_of_getElem? (i := 46) rfl)), rfl, hnm⟩) (hw _ (List.mem_of_getElem? (i := 35) rfl)) (ty := (.array .byte)) (by decide) rfl rfl (g := (mkF m 6 #[.val (.ref r1), .val (.ref r2), .val (.int i1)] [(.ref r2), (.ref r1)])) rfl rfl (hb hby d8_6)
  have q3 : Exa Z h2 r1 "java/lang/String" := f0.wr W2
  have q4 : Fld Z h2 r1 "java/lang/String" "value" "[B" (.ref r2) := f1.same W2
  have q5 : Fld Z h2 r1 "java/lang/String" "coder" "B" u_1 := f2.other W2 (Or.inr (slot_ne (Or.inr (hw _ (List.mem_of_getElem? (i := 48) rfl))) (Or.inr (hw _ (List.mem_of_getElem? (i := 46) rfl))) (by decide) (t := .byte) (t' := (.array .byte)) (by decide) (by decide)))
  have Z6 : n0 ≤ h2.size := Nat.le_trans Z0 (Keep.of_wr W2).1
  have K7 : Keep h0 h2 [r1] := (Keep.refl h0 [r1]).wr W2 (Or.inl (List.mem_of_getElem? (i := 0) rfl))
  have N8 := Fr.snoc X2 N0 g_r1
  refine Go.of st2 ?_
  show Go p e below Qo T2 (mkF m 9 #[.val (.ref r1), .val (.ref r2), .val (.int i1)] [])
  refine Go.of (fun t k => XS.aloadN X2.here hx rfl (hb hby d8_9) rfl rfl k) ?_
  show Go p e below Qo T2 (mkF m 10 #[.val (.ref r1), .val (.ref r2), .val (.int i1)] [(.ref r1)])
  refine Go.of (fun t k => XS.iloadN X2.here hx rfl (hb hby d8_10) rfl  k) ?_
  show Go p e below Qo T2 (mkF m 11 #[.val (.ref r1), .val (.ref r2), .val (.int i1)] [(.int i1), (.ref r1)])
  obtain ⟨T9, h9, X9, e9, W9, st9⟩ := putFN X2 hx hZ hown (hw _ (List.mem_of_getElem? (i := 47) rfl)) Via.refl e2 q5 q3 (Or.inr ⟨(hw _ (List.mem_of_getElem? (i := 48) rfl)), rfl, hnm⟩) (hw _ (List.mem_of_getElem? (i := 35) rfl)) (ty := .byte) (v' := (.int (nar .byte i1))) (by decide) rfl (fits_nar_byte _) (g := (mkF m 11 #[.val (.ref r1), .val (.ref r2), .val (.int i1)] [(.int i1), (.ref r1)])) rfl rfl (hb hby d8_11)
  have q10 : Exa Z h9 r1 "java/lang/String" := q3.wr W9
  have q11 : Fld Z h9 r1 "java/lang/String" "value" "[B" (.ref r2) := q4.other W9 (Or.inr (slot_ne (Or.inr (hw _ (List.mem_of_getElem? (i := 46) rfl))) (Or.inr (hw _ (List.mem_of_getElem? (i := 48) rfl))) (by decide) (t := (.array .byte)) (t' := .byte) (by decide) (by decide)))
  have q12 : Fld Z h9 r1 "java/lang/String" "coder" "B" (.int (nar .byte i1)) := q5.same W9
  have Z13 : n0 ≤ h9.size := Nat.le_trans Z6 (Keep.of_wr W9).1
  have K14 : Keep h0 h9 [r1] := K7.wr W9 (Or.inl (List.mem_of_getElem? (i := 0) rfl))
  have N15 := Fr.snoc X9 N8 g_r1
  refine Go.of st9 ?_
  show Go p e below Qo T9 (mkF m 14 #[.val (.ref r1), .val (.ref r2), .val (.int i1)] [])
  exact own_ret0 X9 hx Bd.notSynchronized Bd.returns (hb hby d8_14) (fun u hu hF => hQo _ _ _ ⟨rfl, N15, by rw [hu, e9]; exact K14, by rw [hu, e9]; exact q10, by rw [hu, e9]; exact q11, by rw [hu, e9]; exact q12⟩ (own_mono hF (by decide) (by decide)))
theorem pd_1 : parseMethodDescriptor "(C)Z" = some ⟨[.char], some .boolean⟩ := by decide +kernel
theorem pd_2 : parseMethodDescriptor "(C)[B" = some ⟨[.char], some (.array .byte)⟩ := by decide +kernel
theorem pd_3 : parseMethodDescriptor "([BB)V" = some ⟨[(.array .byte), .byte], none⟩ := by decide +kernel
theorem d5_0 : decode jdk_42_method_139_code 0 = .ok (.getstatic 38, 3) := by decide +kernel
theorem d5_3 : decode jdk_42_method_139_code 3 = .ok (.ifCond .eq 23, 3) := by decide +kernel
theorem d5_6 : decode jdk_42_method_139_code 6 = .ok (.iload_n 0, 1) := by decide +kernel
theorem d5_7 : decode jdk_42_method_139_code 7 = .ok (.invokestatic 1015, 3) := by decide +kernel
theorem d5_10 : decode jdk_42_method_139_code 10 = .ok (.ifCond .eq 16, 3) := by decide +kernel
theorem d5_13 : decode jdk_42_method_139_code 13 = .ok (.new 10, 3) := by decide +kernel
theorem d5_16 : decode jdk_42_method_139_code 16 = .ok (.dup, 1) := by decide +kernel
theorem d5_17 : decode jdk_42_method_139_code 17 = .ok (.iload_n 0, 1) := by decide +kernel
theorem d5_18 : decode jdk_42_method_139_code 18 = .ok (.invokestatic 1018, 3) := by decide +kernel
theorem d5_21 : decode jdk_42_method_139_code 21 = .ok (.iconst 0, 1) := by decide +kernel
theorem d5_22 : decode jdk_42_method_139_code 22 = .ok (.invokespecial 209, 3) := by decide +kernel
theorem d5_25 : decode jdk_42_method_139_code 25 = .ok (.areturn, 1) := by decide +kernel
theorem ef_5 (m : MethodId) (i1 : Int32)  : entryFrame m #[(.int i1)] 1 = mkF m 0 #[.val (.int i1)] [] := by
  first | (simp [entryFrame, mkF, argsToLocals, Value.category]; done) | rfl
def Q5 (Z : State) (i1 : Int32) (zc : Int32) (h0 : Heap) (n0 : Nat) (v : Option Value) (h : Heap) (L : List Loc) : Prop := ∃ rb : Addr, v = some (.ref rb) ∧ Fr n0 L ∧ Keep h0 h [] ∧ h0.size ≤ rb ∧ Exa Z h rb "java/lang/String"
set_option maxRecDepth 65536 in
set_option maxHeartbeats 40000000 in
theorem rm5 (l : Launch) (Z : State) (a0 : Array Value) (hw : ∀ d ∈ tables_1, d.before a0 Z = true) (ws : List Jvm.Cond) (i1 : Int32) (zc : Int32) (h0 : Heap) (n0 : Nat) (Z0 : n0 ≤ h0.size) (f0 : Sta Z h0 "java/lang/String" "COMPACT_STRINGS" "Z" (.int zc)) (hz : ¬ (zc = (0 : Int32))) (hf : ¬ ((F6 i1) = (0 : Int32))) :
    MetFree l (⟨"java/lang/String", "valueOf", "(C)Ljava/lang/String;"⟩ : MethodName) (head1 (Jvm.Cond.code (⟨"java/lang/String", "valueOf", "(C)Ljava/lang/String;"⟩ : MethodName) jdk_42_method_139_code 1 (some (.object "java/lang/String")) :: ws) ({ frames := 2, cells := 2, slots := 5, locals := 27 } : Room)) (fun a U => a = #[(.int i1)] ∧ Z.Warmed39 U.vm ∧ U.heap = h0) (fun _ _ _ _ _ => True) (fun _ U o U' => ∃ v L, o = .returned v ∧ Q5 Z i1 zc h0 n0 v U'.heap L ∧ FrameEnd U o U' L ({ frames := 2, cells := 2, slots := 5, locals := 27 } : Room).cells ({ frames := 2, cells := 2, slots := 5, locals := 27 } : Room).slots) := by
  refine MetFree.of_bodySF (plainFor_of_name pn_3) hisR ?_
  intro p e s m args below meth c s₁ Bd hml0 hP hK
  obtain ⟨rfl, hZ, hh⟩ := hP
  have hx := Bd.exec
  have hby := Bd.bytes
  have hml : c.maxLocals = 1 := hml0
  have hown : s.vm.findClass "java/lang/String" = some m.cls := findClass_of_methodNamed Bd.named
  have hnm := (name_of_methodNamed Bd.named Bd.method).1
  have X0 : Stand p l e ({ frames := 2, cells := 2, slots := 5, locals := 27 } : Room) s m #[(.int i1)] below meth c s₁ [] 0 0 := Stand.of_body Bd
  have e0 : s₁.heap = h0 := by rw [← hh, Bd.state]; rfl
  have N0 := Fr.nil n0
  suffices H : ∀ Qo : Outcome → State → Prop, (∀ (v : Option Value) (u : State) (L : List Loc), Q5 Z i1 zc h0 n0 v u.heap L → FrameEnd s (.returned v) u L ({ frames := 2, cells := 2, slots := 5, locals := 27 } : Room).cells ({ frames := 2, cells := 2, slots := 5, locals := 27 } : Room).slots → Qo (.returned v) u) → Go p e below Qo s₁ (mkF m 0 #[.val (.int i1)] []) from
    Go.cast (ef_5 m i1) (H _ fun v u L h1 h2 => ⟨v, L, rfl, h1, h2⟩)
  intro Qo hQo
  show Go p e below Qo s₁ (mkF m 0 #[.val (.int i1)] [])
  obtain ⟨T1, X1, e1, st1⟩ := getS X0 hx hZ (host := "") hown (hw _ (List.mem_of_getElem? (i := 29) rfl)) Via.refl e0 f0 (g := (mkF m 0 #[.val (.int i1)] [])) rfl (hb hby d5_0)
  refine Go.of st1 ?_
  show Go p e below Qo T1 (mkF m 3 #[.val (.int i1)] [(.int zc)])
  refine Go.of (fun t k => XS.ifNo X1.here hx rfl (hb hby d5_3) rfl ((if0 _ _).trans (feq hz).1) k) ?_
  show Go p e below Qo T1 (mkF m 6 #[.val (.int i1)] [])
  refine Go.of (fun t k => XS.iloadN X1.here hx rfl (hb hby d5_6) rfl  k) ?_
  show Go p e below Qo T1 (mkF m 7 #[.val (.int i1)] [(.int i1)])
  obtain ⟨_, _, ⟨T2, L2, k2, n2⟩, -, X2, ⟨Lc2, hQ2, l2, y2, z2⟩, st2⟩ := Jvm.LawKit.callS X1 hx (y := (⟨"java/lang/StringLatin1", "canEncode", "(C)Z"⟩ : MethodName)) hown (mvT hZ (hw _ (List.mem_of_getElem? (i := 30) rfl))) (mvT hZ (hw _ (List.mem_of_getElem? (i := 31) rfl))) (mvT hZ (hw _ (List.mem_of_getElem? (i := 32) rfl))) (mvT hZ (hw _ (List.mem_of_getElem? (i := 33) rfl))) (by decide) (backOf (W := 0) (rm6 l Z a0 hw [] i1 h0 n0 Z0 ) hZ (hw _ (List.mem_of_getElem? (i := 33) rfl)) (hw _ (List.mem_of_getElem? (i := 32) rfl)) (by decide) (by decide)) (g := (mkF m 7 #[.val (.int i1)] [(.int i1)])) rfl (by rw [hml]; rfl) (argsL := [(.int i1)]) (rest := []) (lenOf pd_1 rfl) rfl (by show 2 * 0 + _ ≤ _; exact Nat.le_of_eq rfl) (hb hby d5_7) (fun _ _ => ⟨rfl, e1, (by decide : 0 + 0 ≤ _), (by decide : 0 + 0 ≤ _)⟩)
  dsimp only [Pt.U, Pt.locs, Pt.cells, Pt.slots] at X2 l2 y2 z2 st2 hQ2
  subst l2 y2 z2
  obtain ⟨rfl, N3, eh4⟩ := hQ2
  have N5 := Fr.app N0 N3
  refine Go.of st2 ?_
  show Go p e below Qo T2 (mkF m 10 #[.val (.int i1)] [(.int (F6 i1))])
  refine Go.of (fun t k => XS.ifNo X2.here hx rfl (hb hby d5_10) rfl ((if0 _ _).trans (feq hf).1) k) ?_
  show Go p e below Qo T2 (mkF m 13 #[.val (.int i1)] [])
  obtain ⟨T6, h6, X6, e6, E6, A6, D6, -, st6⟩ := newO X2 hx hZ hown (hw _ (List.mem_of_getElem? (i := 34) rfl)) (hw _ (List.mem_of_getElem? (i := 35) rfl)) (hw _ (List.mem_of_getElem? (i := 27) rfl)) eh4 (g := (mkF m 13 #[.val (.int i1)] [])) rfl (hb hby d5_13) (by decide) (by decide)
  obtain ⟨b6, g6⟩ : ∃ z, z = h0.size := ⟨_, rfl⟩
  rw [← g6] at A6 D6 st6
  have g7 : n0 ≤ b6 := Nat.le_trans Z0 (Nat.le_of_eq g6.symm)
  have sz8 : h0.size ≤ b6 := Nat.le_trans (Keep.refl h0 []).1 (Nat.le_of_eq g6.symm)
  have q9 : Sta Z h6 "java/lang/String" "COMPACT_STRINGS" "Z" (.int zc) := f0.ext E6
  have Z10 : n0 ≤ h6.size := Nat.le_trans Z0 E6.1
  have K11 : Keep h0 h6 [] := (Keep.refl h0 []).ext E6
  have q12 : Fld Z h6 b6 "java/lang/String" "value" "[B" .null := D6 (Or.inr (hw _ (List.mem_of_getElem? (i := 46) rfl))) (ty := (.array .byte)) (by decide)
  have q13 : Fld Z h6 b6 "java/lang/String" "coder" "B" (.int (0 : Int32)) := D6 (Or.inr (hw _ (List.mem_of_getElem? (i := 48) rfl))) (ty := .byte) (by decide)
  refine Go.of st6 ?_
  show Go p e below Qo T6 (mkF m 16 #[.val (.int i1)] [(.ref b6)])
  refine Go.of (fun t k => XS.dup X6.here hx rfl (hb hby d5_16) rfl rfl k) ?_
  show Go p e below Qo T6 (mkF m 17 #[.val (.int i1)] [(.ref b6), (.ref b6)])
  refine Go.of (fun t k => XS.iloadN X6.here hx rfl (hb hby d5_17) rfl  k) ?_
  show Go p e below Qo T6 (mkF m 18 #[.val (.int i1)] [(.int i1), (.ref b6), (.ref b6)])
  obtain ⟨_, _, ⟨T14, L14, k14, n14⟩, -, X14, ⟨Lc14, hQ14, l14, y14, z14⟩, st14⟩ := Jvm.LawKit.callS X6 hx (y := (⟨"java/lang/StringLatin1", "toBytes", "(C)[B"⟩ : MethodName)) hown (mvT hZ (hw _ (List.mem_of_getElem? (i := 36) rfl))) (mvT hZ (hw _ (List.mem_of_getElem? (i := 37) rfl))) (mvT hZ (hw _ (List.mem_of_getElem? (i := 32) rfl))) (mvT hZ (hw _ (List.mem_of_getElem? (i := 38) rfl))) (by decide) (backOf (W := 2) (rm7 l Z a0 hw [] i1 h6 n0 Z10 ) hZ (hw _ (List.mem_of_getElem? (i := 38) rfl)) (hw _ (List.mem_of_getElem? (i := 32) rfl)) (by decide) (by decide)) (g := (mkF m 18 #[.val (.int i1)] [(.int i1), (.ref b6), (.ref b6)])) rfl (by rw [hml]; rfl) (argsL := [(.int i1)]) (rest := [(.ref b6), (.ref b6)]) (lenOf pd_2 rfl) rfl (by show 2 * 0 + _ ≤ _; exact Nat.le_of_eq rfl) (hb hby d5_18) (fun _ _ => ⟨rfl, e6, (by decide : 1 + 1 ≤ _), (by decide : 4 + 1 ≤ _)⟩)
  dsimp only [Pt.U, Pt.locs, Pt.cells, Pt.slots] at X14 l14 y14 z14 st14 hQ14
  subst l14 y14 z14
  obtain ⟨x16, x17, rfl, N15, Kc18, g20, q19⟩ := hQ14
  have N21 := Fr.app N5 N15
  have ne22 : b6 ≠ x16 := Nat.ne_of_lt (Nat.lt_of_lt_of_le A6.lt g20)
  have g23 : n0 ≤ x16 := Nat.le_trans Z10 g20
  have sz24 : h0.size ≤ x16 := Nat.le_trans K11.1 g20
  have q25 : Sta Z T14.heap "java/lang/String" "COMPACT_STRINGS" "Z" (.int zc) := own_staKeep q9 Kc18 all0
  have q26 : Exa Z T14.heap b6 "java/lang/String" := A6.keep Kc18
  have q27 : Fld Z T14.heap b6 "java/lang/String" "value" "[B" .null := q12.keep Kc18 nin0
  have q28 : Fld Z T14.heap b6 "java/lang/String" "coder" "B" (.int (0 : Int32)) := q13.keep Kc18 nin0
  have Z29 : n0 ≤ T14.heap.size := Nat.le_trans Z10 Kc18.1
  have K30 : Keep h0 T14.heap [] := K11.trans Kc18 all0
  refine Go.of st14 ?_
  show Go p e below Qo T14 (mkF m 21 #[.val (.int i1)] [(.ref x16), (.ref b6), (.ref b6)])
  refine Go.of (fun t k => XS.iconst X14.here hx rfl (hb hby d5_21) k) ?_
  show Go p e below Qo T14 (mkF m 22 #[.val (.int i1)] [(.int (0 : Int32)), (.ref x16), (.ref b6), (.ref b6)])
  obtain ⟨_, _, ⟨T31, L31, k31, n31⟩, -, X31, ⟨Lc31, hQ31, l31, y31, z31⟩, st31⟩ := X14.specialBack hx (y := (⟨"java/lang/String", "<init>", "([BB)V"⟩ : MethodName)) rfl hown (mvT hZ (hw _ (List.mem_of_getElem? (i := 40) rfl))) (mvT hZ (hw _ (List.mem_of_getElem? (i := 41) rfl))) (mvT hZ (hw _ (List.mem_of_getElem? (i := 43) rfl))) (by decide) (backOf (W := 1) (rm8 l Z a0 hw [] b6 x16 (0 : Int32) .null (.int (0 : Int32)) T14.heap n0 Z29 q26 q27 q28 g7) hZ (hw _ (List.mem_of_getElem? (i := 43) rfl)) (hw _ (List.mem_of_getElem? (i := 27) rfl)) (by decide) (by decide)) (g := (mkF m 22 #[.val (.int i1)] [(.int (0 : Int32)), (.ref x16), (.ref b6), (.ref b6)])) rfl (by rw [hml]; rfl) (Steps.refl _) (a := b6) (argsL := [(.ref x16), (.int (0 : Int32))]) (rest := [(.ref b6)]) (lenOf pd_3 rfl) rfl (by show 2 * 0 + _ ≤ _; exact Nat.le_of_eq rfl) (hb hby d5_22) (fun _ _ => ⟨rfl, rfl, (by decide : 2 + 0 ≤ _), (by decide : 5 + 0 ≤ _)⟩)
  dsimp only [Pt.U, Pt.locs, Pt.cells, Pt.slots] at X31 l31 y31 z31 st31 hQ31
  subst l31 y31 z31
  obtain ⟨rfl, N32, Kc33, q34, q35, q36⟩ := hQ31
  have N37 := Fr.app N21 N32
  have q38 : Sta Z T31.heap "java/lang/String" "COMPACT_STRINGS" "Z" (.int zc) := own_staKeep q25 Kc33 (allS (own_plainE q26) all0)
  have q39 : Arv Z T31.heap x16 x17 .byte (1 : Int32) [(.int (nar .byte (i1.toInt8.toInt32)))] (.int (0 : Int32)) := q19.keep Kc33 (ninS (Ne.symm ne22) nin0)
  have Z40 : n0 ≤ T31.heap.size := Nat.le_trans Z29 Kc33.1
  have K41 : Keep h0 T31.heap [] := K30.trans Kc33 (allS (Or.inr sz8) all0)
  refine Go.via st31 ?_
  show Go p e below Qo T31 (mkF m 25 #[.val (.int i1)] [(.ref b6)])
  exact own_retW X31 hx Bd.notSynchronized Bd.returns rfl (Or.inr (Or.inr (Or.inr (Or.inr ⟨rfl, rfl, rfl⟩)))) (hb hby d5_25) (fun u hu hF => hQo _ _ _ ⟨b6, rfl, N37, by rw [hu]; exact K41, sz8, by rw [hu]; exact q34⟩ (own_mono hF (by decide) (by decide)))
theorem d11_0 : decode jdk_18_method_1_code 0 = .ok (.aload_n 0, 1) := by decide +kernel
theorem d11_1 : decode jdk_18_method_1_code 1 = .ok (.invokespecial 1, 3) := by decide +kernel
theorem d11_4 : decode jdk_18_method_1_code 4 = .ok (.return_, 1) := by decide +kernel
theorem pn_4 : plainName "java/lang/Number" = true := by first | (simp [plainName, overriddenIn]; done) | decide +kernel
theorem ef_11 (m : MethodId) (r1 : Addr)  : entryFrame m #[(.ref r1)] 1 = mkF m 0 #[.val (.ref r1)] [] := by
  first | (simp [entryFrame, mkF, argsToLocals, Value.category]; done) | rfl
def Q11 (Z : State) (r1 : Addr) (h0 : Heap) (n0 : Nat) (v : Option Value) (h : Heap) (L : List Loc) : Prop := v = none ∧ Fr n0 L ∧ h = h0
set_option maxRecDepth 65536 in
set_option maxHeartbeats 40000000 in
theorem rm11 (l : Launch) (Z : State) (a0 : Array Value) (hw : ∀ d ∈ tables_1, d.before a0 Z = true) (ws : List Jvm.Cond) (r1 : Addr) (h0 : Heap) (n0 : Nat) (Z0 : n0 ≤ h0.size)  :
    MetFree l (⟨"java/lang/Number", "<init>", "()V"⟩ : MethodName) (head1 (Jvm.Cond.code (⟨"java/lang/Number", "<init>", "()V"⟩ : MethodName) jdk_18_method_1_code 1 none :: ws) ({ frames := 1, cells := 0, slots := 0, locals := 12 } : Room)) (fun a U => a = #[(.ref r1)] ∧ Z.Warmed39 U.vm ∧ U.heap = h0) (fun _ _ _ _ _ => True) (fun _ U o U' => ∃ v L, o = .returned v ∧ Q11 Z r1 h0 n0 v U'.heap L ∧ FrameEnd U o U' L ({ frames := 1, cells := 0, slots := 0, locals := 12 } : Room).cells ({ frames := 1, cells := 0, slots := 0, locals := 12 } : Room).slots) := by
  refine MetFree.of_bodySF (plainFor_of_name pn_4) hisR ?_
  intro p e s m args below meth c s₁ Bd hml0 hP hK
  obtain ⟨rfl, hZ, hh⟩ := hP
  have hx := Bd.exec
  have hby := Bd.bytes
  have hml : c.maxLocals = 1 := hml0
  have hown : s.vm.findClass "java/lang/Number" = some m.cls := findClass_of_methodNamed Bd.named
  have hnm := (name_of_methodNamed Bd.named Bd.method).1
  have X0 : Stand p l e ({ frames := 1, cells := 0, slots := 0, locals := 12 } : Room) s m #[(.ref r1)] below meth c s₁ [] 0 0 := Stand.of_body Bd
  have e0 : s₁.heap = h0 := by rw [← hh, Bd.state]; rfl
  have N0 := Fr.nil n0
  suffices H : ∀ Qo : Outcome → State → Prop, (∀ (v : Option Value) (u : State) (L : List Loc), Q11 Z r1 h0 n0 v u.heap L → FrameEnd s (.returned v) u L ({ frames := 1, cells := 0, slots := 0, locals := 12 } : Room).cells ({ frames := 1, cells := 0, slots := 0, locals := 12 } : Room).slots → Qo (.returned v) u) → Go p e below Qo s₁ (mkF m 0 #[.val (.ref r1)] []) from
    Go.cast (ef_11 m r1) (H _ fun v u L h1 h2 => ⟨v, L, rfl, h1, h2⟩)
  intro Qo hQo
  show Go p e below Qo s₁ (mkF m 0 #[.val (.ref r1)] [])
  refine Go.of (fun t k => XS.aloadN X0.here hx rfl (hb hby d11_0) rfl rfl k) ?_
  show Go p e below Qo s₁ (mkF m 1 #[.val (.ref r1)] [(.ref r1)])
  obtain ⟨T1, X1, e1, st1⟩ := initO X0 hx hZ hown (hw _ (List.mem_of_getElem? (i := 69) rfl)) (hw _ (List.mem_of_getElem? (i := 12) rfl)) (hw _ (List.mem_of_getElem? (i := 13) rfl)) e0 (g := (mkF m 1 #[.val (.ref r1)] [(.ref r1)])) rfl (by rw [hml]; rfl) rfl (hb hby d11_1) (by decide) (W := 0) (by show 2 * 0 + _ ≤ _; exact Nat.le_of_eq rfl) (by decide)
  refine Go.of st1 ?_
  show Go p e below Qo T1 (mkF m 4 #[.val (.ref r1)] [])
  exact own_ret0 X1 hx Bd.notSynchronized Bd.returns (hb hby d11_4) (fun u hu hF => hQo _ _ _ ⟨rfl, N0, by rw [hu, e1]⟩ (own_mono hF (by decide) (by decide)))
theorem d10_0 : decode jdk_33_method_23_code 0 = .ok (.aload_n 0, 1) := by decide +kernel
theorem d10_1 : decode jdk_33_method_23_code 1 = .ok (.invokespecial 202, 3) := by decide +kernel
theorem d10_4 : decode jdk_33_method_23_code 4 = .ok (.aload_n 0, 1) := by decide +kernel
theorem d10_5 : decode jdk_33_method_23_code 5 = .ok (.iload_n 1, 1) := by decide +kernel
theorem d10_6 : decode jdk_33_method_23_code 6 = .ok (.putfield 205, 3) := by decide +kernel
theorem d10_9 : decode jdk_33_method_23_code 9 = .ok (.return_, 1) := by decide +kernel
theorem pn_5 : plainName "java/lang/Integer" = true := by first | (simp [plainName, overriddenIn]; done) | decide +kernel
theorem ef_10 (m : MethodId) (r1 : Addr) (i1 : Int32)  : entryFrame m #[(.ref r1), (.int i1)] 2 = mkF m 0 #[.val (.ref r1), .val (.int i1)] [] := by
  first | (simp [entryFrame, mkF, argsToLocals, Value.category]; done) | rfl
def Q10 (Z : State) (r1 : Addr) (i1 : Int32) (u_0 : Value) (h0 : Heap) (n0 : Nat) (v : Option Value) (h : Heap) (L : List Loc) : Prop := v = none ∧ Fr n0 L ∧ Keep h0 h [r1] ∧ Exa Z h r1 "java/lang/Integer" ∧ Fld Z h r1 "java/lang/Integer" "value" "I" (.int i1)
set_option maxRecDepth 65536 in
set_option maxHeartbeats 40000000 in
theorem rm10 (l : Launch) (Z : State) (a0 : Array Value) (hw : ∀ d ∈ tables_1, d.before a0 Z = true) (ws : List Jvm.Cond) (r1 : Addr) (i1 : Int32) (u_0 : Value) (h0 : Heap) (n0 : Nat) (Z0 : n0 ≤ h0.size) (f0 : Exa Z h0 r1 "java/lang/Integer") (f1 : Fld Z h0 r1 "java/lang/Integer" "value" "I" u_0) (g_r1 : n0 ≤ r1) :
    MetFree l (⟨"java/lang/Integer", "<init>", "(I)V"⟩ : MethodName) (head1 (Jvm.Cond.code (⟨"java/lang/Integer", "<init>", "(I)V"⟩ : MethodName) jdk_33_method_23_code 2 none :: ws) ({ frames := 2, cells := 0, slots := 0, locals := 24 } : Room)) (fun a U => a = #[(.ref r1), (.int i1)] ∧ Z.Warmed39 U.vm ∧ U.heap = h0) (fun _ _ _ _ _ => True) (fun _ U o U' => ∃ v L, o = .returned v ∧ Q10 Z r1 i1 u_0 h0 n0 v U'.heap L ∧ FrameEnd U o U' L ({ frames := 2, cells := 0, slots := 0, locals := 24 } : Room).cells ({ frames := 2, cells := 0, slots := 0, locals := 24 } : Room).slots) := by
  refine MetFree.of_bodySF (plainFor_of_name pn_5) hisR ?_
  intro p e s m args below meth c s₁ Bd hml0 hP hK
  obtain ⟨rfl, hZ, hh⟩ := hP
  have hx := Bd.exec
  have hby := Bd.bytes
  have hml : c.maxLocals = 2 := hml0
  have hown : s.vm.findClass "java/lang/Integer" = some m.cls := findClass_of_methodNamed Bd.named
  have hnm := (name_of_methodNamed Bd.named Bd.method).1
  have X0 : Stand p l e ({ frames := 2, cells := 0, slots := 0, locals := 24 } : Room) s m #[(.ref r1), (.int i1)] below meth c s₁ [] 0 0 := Stand.of_body Bd
  have e0 : s₁.heap = h0 := by rw [← hh, Bd.state]; rfl
  have N0 := Fr.nil n0
  suffices H : ∀ Qo : Outcome → State → Prop, (∀ (v : Option Value) (u : State) (L : List Loc), Q10 Z r1 i1 u_0 h0 n0 v u.heap L → FrameEnd s (.returned v) u L ({ frames := 2, cells := 0, slots := 0, locals := 24 } : Room).cells ({ frames := 2, cells := 0, slots := 0, locals := 24 } : Room).slots → Qo (.returned v) u) → Go p e below Qo s₁ (mkF m 0 #[.val (.ref r1), .val (.int i1)] []) from
    Go.cast (ef_10 m r1 i1) (H _ fun v u L h1 h2 => ⟨v, L, rfl, h1, h2⟩)
  intro Qo hQo
  show Go p e below Qo s₁ (mkF m 0 #[.val (.ref r1), .val (.int i1)] [])
  refine Go.of (fun t k => XS.aloadN X0.here hx rfl (hb hby d10_0) rfl rfl k) ?_
  show Go p e below Qo s₁ (mkF m 1 #[.val (.ref r1), .val (.int i1)] [(.ref r1)])
  obtain ⟨_, _, ⟨T1, L1, k1, n1⟩, -, X1, ⟨Lc1, hQ1, l1, y1, z1⟩, st1⟩ := X0.specialBack hx (y := (⟨"java/lang/Number", "<init>", "()V"⟩ : MethodName)) rfl hown (mvT hZ (hw _ (List.mem_of_getElem? (i := 63) rfl))) (mvT hZ (hw _ (List.mem_of_getElem? (i := 64) rfl))) (mvT hZ (hw _ (List.mem_of_getElem? (i := 68) rfl))) (by decide) (backOf (W := 0) (rm11 l Z a0 hw [] r1 h0 n0 Z0 ) hZ (hw _ (List.mem_of_getElem? (i := 68) rfl)) (hw _ (List.mem_of_getElem? (i := 67) rfl)) (by decide) (by decide)) (g := (mkF m 1 #[.val (.ref r1), .val (.int i1)] [(.ref r1)])) rfl (by rw [hml]; rfl) (Steps.refl _) (a := r1) (argsL := []) (rest := []) (lenOf pd_0 rfl) rfl (by show 2 * 0 + _ ≤ _; exact Nat.le_of_eq rfl) (hb hby d10_1) (fun _ _ => ⟨rfl, e0, (by decide : 0 + 0 ≤ _), (by decide : 0 + 0 ≤ _)⟩)
  dsimp only [Pt.U, Pt.locs, Pt.cells, Pt.slots] at X1 l1 y1 z1 st1 hQ1
  subst l1 y1 z1
  obtain ⟨rfl, N2, eh3⟩ := hQ1
  have N4 := Fr.app N0 N2
  refine Go.via st1 ?_
  show Go p e below Qo T1 (mkF m 4 #[.val (.ref r1), .val (.int i1)] [])
  refine Go.of (fun t k => XS.aloadN X1.here hx rfl (hb hby d10_4) rfl rfl k) ?_
  show Go p e below Qo T1 (mkF m 5 #[.val (.ref r1), .val (.int i1)] [(.ref r1)])
  refine Go.of (fun t k => XS.iloadN X1.here hx rfl (hb hby d10_5) rfl  k) ?_
  show Go p e below Qo T1 (mkF m 6 #[.val (.ref r1), .val (.int i1)] [(.int i1), (.ref r1)])
  obtain ⟨T5, h5, X5, e5, W5, st5⟩ := putF X1 hx hZ hown (host := "") (Or.inl (hw _ (List.mem_of_getElem? (i := 70) rfl))) Via.refl eh3 f1 f0 (Or.inr ⟨(hw _ (List.mem_of_getElem? (i := 71) rfl)), rfl, hnm⟩) (hw _ (List.mem_of_getElem? (i := 58) rfl)) (ty := .int) (by decide) rfl rfl (g := (mkF m 6 #[.val (.ref r1), .val (.int i1)] [(.int i1), (.ref r1)])) rfl rfl (hb hby d10_6)
  have q6 : Exa Z h5 r1 "java/lang/Integer" := f0.wr W5
  have q7 : Fld Z h5 r1 "java/lang/Integer" "value" "I" (.int i1) := f1.same W5
  have Z8 : n0 ≤ h5.size := Nat.le_trans Z0 (Keep.of_wr W5).1
  have K9 : Keep h0 h5 [r1] := (Keep.refl h0 [r1]).wr W5 (Or.inl (List.mem_of_getElem? (i := 0) rfl))
  have N10 := Fr.snoc X5 N4 g_r1
  refine Go.of st5 ?_
  show Go p e below Qo T5 (mkF m 9 #[.val (.ref r1), .val (.int i1)] [])
  exact own_ret0 X5 hx Bd.notSynchronized Bd.returns (hb hby d10_9) (fun u hu hF => hQo _ _ _ ⟨rfl, N10, by rw [hu, e5]; exact K9, by rw [hu, e5]; exact q6, by rw [hu, e5]; exact q7⟩ (own_mono hF (by decide) (by decide)))
theorem own_ix (x : Int32) (h1 : ¬ x < (-128 : Int32)) (h2 : ¬ (127 : Int32) < x) : ¬ (x + (128 : Int32)) < 0 ∧ (x + (128 : Int32)).toNatClampNeg < 256 := by
  have a := c_iadd x 128
  have e1 : (-128 : Int32).toInt = -128 := by decide
  have e2 : (127 : Int32).toInt = 127 := by decide
  have e3 : (128 : Int32).toInt = 128 := by decide
  have e0 : (0 : Int32).toInt = 0 := by decide
  have r := rng32 x
  have r2 := rng32 (x + 128)
  rw [Int32.lt_iff_toInt_lt] at h1 h2
  have h3 : ¬ (x + (128 : Int32)) < 0 := by rw [Int32.lt_iff_toInt_lt]; omega
  have h4 := nat_of h3
  exact ⟨h3, by omega⟩
theorem pd_4 : parseMethodDescriptor "(I)V" = some ⟨[.int], none⟩ := by decide +kernel
theorem d9_0 : decode jdk_33_method_22_code 0 = .ok (.iload_n 0, 1) := by decide +kernel
theorem d9_1 : decode jdk_33_method_22_code 1 = .ok (.bipush (-128), 2) := by decide +kernel
theorem d9_3 : decode jdk_33_method_22_code 3 = .ok (.if_icmp .lt 20, 3) := by decide +kernel
theorem d9_6 : decode jdk_33_method_22_code 6 = .ok (.iload_n 0, 1) := by decide +kernel
theorem d9_7 : decode jdk_33_method_22_code 7 = .ok (.getstatic 191, 3) := by decide +kernel
theorem d9_10 : decode jdk_33_method_22_code 10 = .ok (.if_icmp .gt 13, 3) := by decide +kernel
theorem d9_13 : decode jdk_33_method_22_code 13 = .ok (.getstatic 195, 3) := by decide +kernel
theorem d9_16 : decode jdk_33_method_22_code 16 = .ok (.iload_n 0, 1) := by decide +kernel
theorem d9_17 : decode jdk_33_method_22_code 17 = .ok (.sipush 128, 3) := by decide +kernel
theorem d9_20 : decode jdk_33_method_22_code 20 = .ok (.iadd, 1) := by decide +kernel
theorem d9_21 : decode jdk_33_method_22_code 21 = .ok (.aaload, 1) := by decide +kernel
theorem d9_22 : decode jdk_33_method_22_code 22 = .ok (.areturn, 1) := by decide +kernel
theorem d9_23 : decode jdk_33_method_22_code 23 = .ok (.new 1, 3) := by decide +kernel
theorem d9_26 : decode jdk_33_method_22_code 26 = .ok (.dup, 1) := by decide +kernel
theorem d9_27 : decode jdk_33_method_22_code 27 = .ok (.iload_n 0, 1) := by decide +kernel
theorem d9_28 : decode jdk_33_method_22_code 28 = .ok (.invokespecial 199, 3) := by decide +kernel
theorem d9_31 : decode jdk_33_method_22_code 31 = .ok (.areturn, 1) := by decide +kernel
theorem ef_9 (m : MethodId) (i1 : Int32)  : entryFrame m #[(.int i1)] 1 = mkF m 0 #[.val (.int i1)] [] := by
  first | (simp [entryFrame, mkF, argsToLocals, Value.category]; done) | rfl
def Q9 (Z : State) (i1 : Int32) (rc : Addr) (h0 : Heap) (n0 : Nat) (v : Option Value) (h : Heap) (L : List Loc) : Prop := ∃ rb : Addr, v = some (.ref rb) ∧ Fr n0 L ∧ Keep h0 h [] ∧ Exa Z h rb "java/lang/Integer"
set_option maxRecDepth 65536 in
set_option maxHeartbeats 40000000 in
theorem rm9 (l : Launch) (Z : State) (a0 : Array Value) (hw : ∀ d ∈ tables_1, d.before a0 Z = true) (ws : List Jvm.Cond) (i1 : Int32) (rc : Addr) (h0 : Heap) (n0 : Nat) (Z0 : n0 ≤ h0.size) (f0 : Sta Z h0 "java/lang/Integer$IntegerCache" "high" "I" (.int (127 : Int32))) (f1 : Sta Z h0 "java/lang/Integer$IntegerCache" "cache" "[Ljava/lang/Integer;" (.ref rc)) (f2 : Old Z n0 h0) (hC : own_cache Z rc) :
    MetFree l (⟨"java/lang/Integer", "valueOf", "(I)Ljava/lang/Integer;"⟩ : MethodName) (head1 (Jvm.Cond.code (⟨"java/lang/Integer", "valueOf", "(I)Ljava/lang/Integer;"⟩ : MethodName) jdk_33_method_22_code 1 (some (.object "java/lang/Integer")) :: ws) ({ frames := 3, cells := 1, slots := 1, locals := 38 } : Room)) (fun a U => a = #[(.int i1)] ∧ Z.Warmed39 U.vm ∧ U.heap = h0) (fun _ _ _ _ _ => True) (fun _ U o U' => ∃ v L, o = .returned v ∧ Q9 Z i1 rc h0 n0 v U'.heap L ∧ FrameEnd U o U' L ({ frames := 3, cells := 1, slots := 1, locals := 38 } : Room).cells ({ frames := 3, cells := 1, slots := 1, locals := 38 } : Room).slots) := by
  refine MetFree.of_bodySF (plainFor_of_name pn_5) hisR ?_
  intro p e s m args below meth c s₁ Bd hml0 hP hK
  obtain ⟨rfl, hZ, hh⟩ := hP
  have hx := Bd.exec
  have hby := Bd.bytes
  have hml : c.maxLocals = 1 := hml0
  have hown : s.vm.findClass "java/lang/Integer" = some m.cls := findClass_of_methodNamed Bd.named
  have hnm := (name_of_methodNamed Bd.named Bd.method).1
  have X0 : Stand p l e ({ frames := 3, cells := 1, slots := 1, locals := 38 } : Room) s m #[(.int i1)] below meth c s₁ [] 0 0 := Stand.of_body Bd
  have e0 : s₁.heap = h0 := by rw [← hh, Bd.state]; rfl
  have N0 := Fr.nil n0
  suffices H : ∀ Qo : Outcome → State → Prop, (∀ (v : Option Value) (u : State) (L : List Loc), Q9 Z i1 rc h0 n0 v u.heap L → FrameEnd s (.returned v) u L ({ frames := 3, cells := 1, slots := 1, locals := 38 } : Room).cells ({ frames := 3, cells := 1, slots := 1, locals := 38 } : Room).slots → Qo (.returned v) u) → Go p e below Qo s₁ (mkF m 0 #[.val (.int i1)] []) from
    Go.cast (ef_9 m i1) (H _ fun v u L h1 h2 => ⟨v, L, rfl, h1, h2⟩)
  intro Qo hQo
  show Go p e below Qo s₁ (mkF m 0 #[.val (.int i1)] [])
  refine Go.of (fun t k => XS.iloadN X0.here hx rfl (hb hby d9_0) rfl  k) ?_
  show Go p e below Qo s₁ (mkF m 1 #[.val (.int i1)] [(.int i1)])
  refine Go.of (fun t k => XS.bipush X0.here hx rfl (hb hby d9_1) k) ?_
  show Go p e below Qo s₁ (mkF m 3 #[.val (.int i1)] [(.int (-128 : Int32)), (.int i1)])
  by_cases hc3_1 : i1 < (-128 : Int32)
  · refine Go.of (fun t k => XS.icmpYes X0.here hx rfl (pc0 := 3) (pc' := 23) rfl (hb hby d9_3) rfl (tlt hc3_1).1 (by decide) (by decide) k) ?_
    show Go p e below Qo s₁ (mkF m 23 #[.val (.int i1)] [])
    obtain ⟨T2, h2, X2, e2, E2, A2, D2, -, st2⟩ := newO X0 hx hZ hown (hw _ (List.mem_of_getElem? (i := 57) rfl)) (hw _ (List.mem_of_getElem? (i := 58) rfl)) (hw _ (List.mem_of_getElem? (i := 53) rfl)) e0 (g := (mkF m 23 #[.val (.int i1)] [])) rfl (hb hby d9_23) (by decide) (by decide)
    obtain ⟨b2, g2⟩ : ∃ z, z = h0.size := ⟨_, rfl⟩
    rw [← g2] at A2 D2 st2
    have g3 : n0 ≤ b2 := Nat.le_trans Z0 (Nat.le_of_eq g2.symm)
    have sz4 : h0.size ≤ b2 := Nat.le_trans (Keep.refl h0 []).1 (Nat.le_of_eq g2.symm)
    have q5 : Sta Z h2 "java/lang/Integer$IntegerCache" "high" "I" (.int (127 : Int32)) := f0.ext E2
    have q6 : Sta Z h2 "java/lang/Integer$IntegerCache" "cache" "[Ljava/lang/Integer;" (.ref rc) := f1.ext E2
    have q7 : Old Z n0 h2 := f2.ext E2
    have Z8 : n0 ≤ h2.size := Nat.le_trans Z0 E2.1
    have K9 : Keep h0 h2 [] := (Keep.refl h0 []).ext E2
    have q10 : Fld Z h2 b2 "java/lang/Integer" "value" "I" (.int (0 : Int32)) := D2 (Or.inr (hw _ (List.mem_of_getElem? (i := 71) rfl))) (ty := .int) (by decide)
    refine Go.of st2 ?_
    show Go p e below Qo T2 (mkF m 26 #[.val (.int i1)] [(.ref b2)])
    refine Go.of (fun t k => XS.dup X2.here hx rfl (hb hby d9_26) rfl rfl k) ?_
    show Go p e below Qo T2 (mkF m 27 #[.val (.int i1)] [(.ref b2), (.ref b2)])
    refine Go.of (fun t k => XS.iloadN X2.here hx rfl (hb hby d9_27) rfl  k) ?_
    show Go p e below Qo T2 (mkF m 28 #[.val (.int i1)] [(.int i1), (.ref b2), (.ref b2)])
    obtain ⟨_, _, ⟨T11, L11, k11, n11⟩, -, X11, ⟨Lc11, hQ11, l11, y11, z11⟩, st11⟩ := X2.specialBack hx (y := (⟨"java/lang/Integer", "<init>", "(I)V"⟩ : MethodName)) rfl hown (mvT hZ (hw _ (List.mem_of_getElem? (i := 59) rfl))) (mvT hZ (hw _ (List.mem_of_getElem? (i := 60) rfl))) (mvT hZ (hw _ (List.mem_of_getElem? (i := 62) rfl))) (by decide) (backOf (W := 1) (rm10 l Z a0 hw [] b2 i1 (.int (0 : Int32)) h2 n0 Z8 A2 q10 g3) hZ (hw _ (List.mem_of_getElem? (i := 62) rfl)) (hw _ (List.mem_of_getElem? (i := 53) rfl)) (by decide) (by decide)) (g := (mkF m 28 #[.val (.int i1)] [(.int i1), (.ref b2), (.ref b2)])) rfl (by rw [hml]; rfl) (Steps.refl _) (a := b2) (argsL := [(.int i1)]) (rest := [(.ref b2)]) (lenOf pd_4 rfl) rfl (by show 2 * 0 + _ ≤ _; exact Nat.le_of_eq rfl) (hb hby d9_28) (fun _ _ => ⟨rfl, e2, (by decide : 1 + 0 ≤ _), (by decide : 1 + 0 ≤ _)⟩)
    dsimp only [Pt.U, Pt.locs, Pt.cells, Pt.slots] at X11 l11 y11 z11 st11 hQ11
    subst l11 y11 z11
    obtain ⟨rfl, N12, Kc13, q14, q15⟩ := hQ11
    have N16 := Fr.app N0 N12
    have q17 : Sta Z T11.heap "java/lang/Integer$IntegerCache" "high" "I" (.int (127 : Int32)) := own_staKeep q5 Kc13 (allS (own_plainE A2) all0)
    have q18 : Sta Z T11.heap "java/lang/Integer$IntegerCache" "cache" "[Ljava/lang/Integer;" (.ref rc) := own_staKeep q6 Kc13 (allS (own_plainE A2) all0)
    have q19 : Old Z n0 T11.heap := q7.keep Kc13 (allS g3 all0)
    have Z20 : n0 ≤ T11.heap.size := Nat.le_trans Z8 Kc13.1
    have K21 : Keep h0 T11.heap [] := K9.trans Kc13 (allS (Or.inr sz4) all0)
    refine Go.via st11 ?_
    show Go p e below Qo T11 (mkF m 31 #[.val (.int i1)] [(.ref b2)])
    exact own_retW X11 hx Bd.notSynchronized Bd.returns rfl (Or.inr (Or.inr (Or.inr (Or.inr ⟨rfl, rfl, rfl⟩)))) (hb hby d9_31) (fun u hu hF => hQo _ _ _ ⟨b2, rfl, N16, by rw [hu]; exact K21, by rw [hu]; exact q14⟩ (own_mono hF (by decide) (by decide)))
  · refine Go.of (fun t k => XS.icmpNo X0.here hx rfl (hb hby d9_3) rfl (flt hc3_1).1 k) ?_
    show Go p e below Qo s₁ (mkF m 6 #[.val (.int i1)] [])
    refine Go.of (fun t k => XS.iloadN X0.here hx rfl (hb hby d9_6) rfl  k) ?_
    show Go p e below Qo s₁ (mkF m 7 #[.val (.int i1)] [(.int i1)])
    obtain ⟨T22, X22, e22, st22⟩ := getS X0 hx hZ (host := "") hown (hw _ (List.mem_of_getElem? (i := 55) rfl)) Via.refl e0 f0 (g := (mkF m 7 #[.val (.int i1)] [(.int i1)])) rfl (hb hby d9_7)
    refine Go.of st22 ?_
    show Go p e below Qo T22 (mkF m 10 #[.val (.int i1)] [(.int (127 : Int32)), (.int i1)])
    by_cases hc10_23 : (127 : Int32) < i1
    · refine Go.of (fun t k => XS.icmpYes X22.here hx rfl (pc0 := 10) (pc' := 23) rfl (hb hby d9_10) rfl (tlt hc10_23).2.2.1 (by decide) (by decide) k) ?_
      show Go p e below Qo T22 (mkF m 23 #[.val (.int i1)] [])
      obtain ⟨T24, h24, X24, e24, E24, A24, D24, -, st24⟩ := newO X22 hx hZ hown (hw _ (List.mem_of_getElem? (i := 57) rfl)) (hw _ (List.mem_of_getElem? (i := 58) rfl)) (hw _ (List.mem_of_getElem? (i := 53) rfl)) e22 (g := (mkF m 23 #[.val (.int i1)] [])) rfl (hb hby d9_23) (by decide) (by decide)
      obtain ⟨b24, g24⟩ : ∃ z, z = h0.size := ⟨_, rfl⟩
      rw [← g24] at A24 D24 st24
      have g25 : n0 ≤ b24 := Nat.le_trans Z0 (Nat.le_of_eq g24.symm)
      have sz26 : h0.size ≤ b24 := Nat.le_trans (Keep.refl h0 []).1 (Nat.le_of_eq g24.symm)
      have q27 : Sta Z h24 "java/lang/Integer$IntegerCache" "high" "I" (.int (127 : Int32)) := f0.ext E24
      have q28 : Sta Z h24 "java/lang/Integer$IntegerCache" "cache" "[Ljava/lang/Integer;" (.ref rc) := f1.ext E24
      have q29 : Old Z n0 h24 := f2.ext E24
      have Z30 : n0 ≤ h24.size := Nat.le_trans Z0 E24.1
      have K31 : Keep h0 h24 [] := (Keep.refl h0 []).ext E24
      have q32 : Fld Z h24 b24 "java/lang/Integer" "value" "I" (.int (0 : Int32)) := D24 (Or.inr (hw _ (List.mem_of_getElem? (i := 71) rfl))) (ty := .int) (by decide)
      refine Go.of st24 ?_
      show Go p e below Qo T24 (mkF m 26 #[.val (.int i1)] [(.ref b24)])
      refine Go.of (fun t k => XS.dup X24.here hx rfl (hb hby d9_26) rfl rfl k) ?_
      show Go p e below Qo T24 (mkF m 27 #[.val (.int i1)] [(.ref b24), (.ref b24)])
      refine Go.of (fun t k => XS.iloadN X24.here hx rfl (hb hby d9_27) rfl  k) ?_
      show Go p e below Qo T24 (mkF m 28 #[.val (.int i1)] [(.int i1), (.ref b24), (.ref b24)])
      obtain ⟨_, _, ⟨T33, L33, k33, n33⟩, -, X33, ⟨Lc33, hQ33, l33, y33, z33⟩, st33⟩ := X24.specialBack hx (y := (⟨"java/lang/Integer", "<init>", "(I)V"⟩ : MethodName)) rfl hown (mvT hZ (hw _ (List.mem_of_getElem? (i := 59) rfl))) (mvT hZ (hw _ (List.mem_of_getElem? (i := 60) rfl))) (mvT hZ (hw _ (List.mem_of_getElem? (i := 62) rfl))) (by decide) (backOf (W := 1) (rm10 l Z a0 hw [] b24 i1 (.int (0 : Int32)) h24 n0 Z30 A24 q32 g25) hZ (hw _ (List.mem_of_getElem? (i := 62) rfl)) (hw _ (List.mem_of_getElem? (i := 53) rfl)) (by decide) (by decide)) (g := (mkF m 28 #[.val (.int i1)] [(.int i1), (.ref b24), (.ref b24)])) rfl (by rw [hml]; rfl) (Steps.refl _) (a := b24) (argsL := [(.int i1)]) (rest := [(.ref b24)]) (lenOf pd_4 rfl) rfl (by show 2 * 0 + _ ≤ _; exact Nat.le_of_eq rfl) (hb hby d9_28) (fun _ _ => ⟨rfl, e24, (by decide : 1 + 0 ≤ _), (by decide : 1 + 0 ≤ _)⟩)
      dsimp only [Pt.U, Pt.locs, Pt.cells, Pt.slots] at X33 l33 y33 z33 st33 hQ33
      subst l33 y33 z33
      obtain ⟨rfl, N34, Kc35, q36, q37⟩ := hQ33
      have N38 := Fr.app N0 N34
      have q39 : Sta Z T33.heap "java/lang/Integer$IntegerCache" "high" "I" (.int (127 : Int32)) := own_staKeep q27 Kc35 (allS (own_plainE A24) all0)
      have q40 : Sta Z T33.heap "java/lang/Integer$IntegerCache" "cache" "[Ljava/lang/Integer;" (.ref rc) := own_staKeep q28 Kc35 (allS (own_plainE A24) all0)
      have q41 : Old Z n0 T33.heap := q29.keep Kc35 (allS g25 all0)
      have Z42 : n0 ≤ T33.heap.size := Nat.le_trans Z30 Kc35.1
      have K43 : Keep h0 T33.heap [] := K31.trans Kc35 (allS (Or.inr sz26) all0)
      refine Go.via st33 ?_
      show Go p e below Qo T33 (mkF m 31 #[.val (.int i1)] [(.ref b24)])
      exact own_retW X33 hx Bd.notSynchronized Bd.returns rfl (Or.inr (Or.inr (Or.inr (Or.inr ⟨rfl, rfl, rfl⟩)))) (hb hby d9_31) (fun u hu hF => hQo _ _ _ ⟨b24, rfl, N38, by rw [hu]; exact K43, by rw [hu]; exact q36⟩ (own_mono hF (by decide) (by decide)))
    · refine Go.of (fun t k => XS.icmpNo X22.here hx rfl (hb hby d9_10) rfl (flt hc10_23).2.2.1 k) ?_
      show Go p e below Qo T22 (mkF m 13 #[.val (.int i1)] [])
      obtain ⟨T44, X44, e44, st44⟩ := getS X22 hx hZ (host := "") hown (hw _ (List.mem_of_getElem? (i := 74) rfl)) Via.refl e22 f1 (g := (mkF m 13 #[.val (.int i1)] [])) rfl (hb hby d9_13)
      refine Go.of st44 ?_
      show Go p e below Qo T44 (mkF m 16 #[.val (.int i1)] [(.ref rc)])
      refine Go.of (fun t k => XS.iloadN X44.here hx rfl (hb hby d9_16) rfl  k) ?_
      show Go p e below Qo T44 (mkF m 17 #[.val (.int i1)] [(.int i1), (.ref rc)])
      refine Go.of (fun t k => XS.sipush X44.here hx rfl (hb hby d9_17) k) ?_
      show Go p e below Qo T44 (mkF m 20 #[.val (.int i1)] [(.int (128 : Int32)), (.int i1), (.ref rc)])
      refine Go.of (fun t k => XS.iadd X44.here hx rfl (hb hby d9_20) rfl k) ?_
      show Go p e below Qo T44 (mkF m 21 #[.val (.int i1)] [(.int (i1 + (128 : Int32))), (.ref rc)])
      obtain ⟨clz, Az, Sz, Hz⟩ := hC
      have Ay : Arr Z h0 rc clz (.object "java/lang/Integer") := Az.ext f2.2
      obtain ⟨hx1, hx2⟩ := own_ix i1 hc3_1 hc10_23
      obtain ⟨az, hz1, hz2⟩ := Hz _ hx2
      have hin : ¬ (((i1 + (128 : Int32))) < 0 ∨ clz.slots.size ≤ (i1 + (128 : Int32)).toNatClampNeg) := by rw [Sz]; exact fun q => q.elim hx1 (fun y => Nat.not_le.mpr hx2 y)
      refine Go.of (fun t k => X44.aaload hx (j := (i1 + (128 : Int32))) (v := .ref az) (by rw [e44]; exact Ay.1) (State.isArrayOf_alike hZ.alike Ay.2.1) rfl Ay.2.2 hin hz1 (g := (mkF m 21 #[.val (.int i1)] [(.int (i1 + (128 : Int32))), (.ref rc)])) rfl rfl (hb hby d9_21) t k) ?_
      have Ey : Exa Z h0 az "java/lang/Integer" := hz2.ext f2.2
      show Go p e below Qo T44 (mkF m 22 #[.val (.int i1)] [(.ref az)])
      exact own_retW X44 hx Bd.notSynchronized Bd.returns rfl (Or.inr (Or.inr (Or.inr (Or.inr ⟨rfl, rfl, rfl⟩)))) (hb hby d9_22) (fun u hu hF => hQo _ _ _ ⟨az, rfl, N0, by rw [hu, e44]; exact (Keep.refl h0 []), by rw [hu, e44]; exact Ey⟩ (own_mono hF (by decide) (by decide)))
theorem own_eq (a b d e : Int32) : F40 a b d e = if a = d then (if b = e then 1 else 0) else 0 := by
  unfold F40
  (repeat' split) <;> rfl
theorem own_self (a b : Int32) : ¬ F40 a b a b = 0 := by rw [own_eq]; simp
theorem own_enc (x : Int32) : ¬ F6 ((x &&& (255 : Int32)).toUInt32.toUInt16.toUInt32.toInt32) = 0 := by
  rw [i2c_mask]
  unfold F6
  have h := c_and x 255 (by decide)
  have e : (255 : Int32).toInt = 255 := by decide
  have k : ¬ (255 : Int32) < (x &&& (255 : Int32)) := by rw [Int32.lt_iff_toInt_lt]; omega
  rw [if_neg k]; decide
theorem pd_5 : parseMethodDescriptor "(II)V" = some ⟨[.int, .int], none⟩ := by decide +kernel
theorem pd_6 : parseMethodDescriptor "(Ljava/lang/Object;)Z" = some ⟨[(.object "java/lang/Object")], some .boolean⟩ := by decide +kernel
theorem pd_7 : parseMethodDescriptor "(C)Ljava/lang/String;" = some ⟨[.char], some (.object "java/lang/String")⟩ := by decide +kernel
theorem pd_8 : parseMethodDescriptor "(I)Ljava/lang/Integer;" = some ⟨[.int], some (.object "java/lang/Integer")⟩ := by decide +kernel
theorem pn_6 : plainName "com/example/konakis/konakis/engine/SquareEqualsPinLaw" = true := by first | (simp [plainName, overriddenIn]; done) | decide +kernel
theorem ef_0 (m : MethodId) (i1 : Int32) (i2 : Int32) (i3 : Int32) (i4 : Int32) (i5 : Int32)  : entryFrame m #[(.int i1), (.int i2), (.int i3), (.int i4), (.int i5)] maxLocals = mkF m 0 #[.val (.int i1), .val (.int i2), .val (.int i3), .val (.int i4), .val (.int i5), .unset, .unset, .unset, .unset, .unset, .unset, .unset, .unset, .unset] [] := by
  first | (simp [entryFrame, mkF, argsToLocals, Value.category, maxLocals]; done) | rfl
def Q0 (Z : State) (i1 : Int32) (i2 : Int32) (i3 : Int32) (i4 : Int32) (i5 : Int32) (zc : Int32) (rc : Addr) (h0 : Heap) (n0 : Nat) (v : Option Value) (h : Heap) (L : List Loc) : Prop := v = some (.int 1) ∧ Fr n0 L
set_option maxRecDepth 65536 in
set_option maxHeartbeats 40000000 in
theorem rm0 (l : Launch) (Z : State) (a0 : Array Value) (hw : ∀ d ∈ tables_1, d.before a0 Z = true) (ws : List Jvm.Cond) (i1 : Int32) (i2 : Int32) (i3 : Int32) (i4 : Int32) (i5 : Int32) (zc : Int32) (rc : Addr) (h0 : Heap) (n0 : Nat) (Z0 : n0 ≤ h0.size) (f0 : Sta Z h0 "java/lang/String" "COMPACT_STRINGS" "Z" (.int zc)) (f1 : Sta Z h0 "java/lang/Integer$IntegerCache" "high" "I" (.int (127 : Int32))) (f2 : Sta Z h0 "java/lang/Integer$IntegerCache" "cache" "[Ljava/lang/Integer;" (.ref rc)) (f3 : Old Z n0 h0) (hz : ¬ (zc = (0 : Int32))) (hC : own_cache Z rc) :
    MetFree l x (head1 (Jvm.Cond.code x code maxLocals ret :: ws) room_1) (fun a U => a = #[(.int i1), (.int i2), (.int i3), (.int i4), (.int i5)] ∧ Z.Warmed39 U.vm ∧ U.heap = h0) (fun _ _ _ _ _ => True) (fun _ U o U' => ∃ v L, o = .returned v ∧ Q0 Z i1 i2 i3 i4 i5 zc rc h0 n0 v U'.heap L ∧ FrameEnd U o U' L 4 9) := by
  refine MetFree.of_bodySF (plainFor_of_name pn_6) hisR ?_
  intro p e s m args below meth c s₁ Bd hml0 hP hK
  obtain ⟨rfl, hZ, hh⟩ := hP
  have hx := Bd.exec
  have hby := Bd.bytes
  have hml : c.maxLocals = 14 := hml0
  have hown : s.vm.findClass "com/example/konakis/konakis/engine/SquareEqualsPinLaw" = some m.cls := findClass_of_methodNamed Bd.named
  have hnm := (name_of_methodNamed Bd.named Bd.method).1
  have X0 : Stand p l e room_1 s m #[(.int i1), (.int i2), (.int i3), (.int i4), (.int i5)] below meth c s₁ [] 0 0 := Stand.of_body Bd
  have e0 : s₁.heap = h0 := by rw [← hh, Bd.state]; rfl
  have N0 := Fr.nil n0
  suffices H : ∀ Qo : Outcome → State → Prop, (∀ (v : Option Value) (u : State) (L : List Loc), Q0 Z i1 i2 i3 i4 i5 zc rc h0 n0 v u.heap L → FrameEnd s (.returned v) u L 4 9 → Qo (.returned v) u) → Go p e below Qo s₁ (mkF m 0 #[.val (.int i1), .val (.int i2), .val (.int i3), .val (.int i4), .val (.int i5), .unset, .unset, .unset, .unset, .unset, .unset, .unset, .unset, .unset] []) from
    Go.cast (ef_0 m i1 i2 i3 i4 i5) (H _ fun v u L h1 h2 => ⟨v, L, rfl, h1, h2⟩)
  intro Qo hQo
  show Go p e below Qo s₁ (mkF m 0 #[.val (.int i1), .val (.int i2), .val (.int i3), .val (.int i4), .val (.int i5), .unset, .unset, .unset, .unset, .unset, .unset, .unset, .unset, .unset] [])
  refine Go.of (fun t k => XS.iload X0.here hx rfl (hb hby at_0) rfl  k) ?_
  show Go p e below Qo s₁ (mkF m 2 #[.val (.int i1), .val (.int i2), .val (.int i3), .val (.int i4), .val (.int i5), .unset, .unset, .unset, .unset, .unset, .unset, .unset, .unset, .unset] [(.int i5)])
  refine Go.of (fun t k => XS.iconst X0.here hx rfl (hb hby at_2) k) ?_
  show Go p e below Qo s₁ (mkF m 3 #[.val (.int i1), .val (.int i2), .val (.int i3), .val (.int i4), .val (.int i5), .unset, .unset, .unset, .unset, .unset, .unset, .unset, .unset, .unset] [(.int (1 : Int32)), (.int i5)])
  refine Go.of (fun t k => XS.iand X0.here hx rfl (hb hby at_3) rfl k) ?_
  show Go p e below Qo s₁ (mkF m 4 #[.val (.int i1), .val (.int i2), .val (.int i3), .val (.int i4), .val (.int i5), .unset, .unset, .unset, .unset, .unset, .unset, .unset, .unset, .unset] [(.int (i5 &&& (1 : Int32)))])
  have J4_3 : ∀ (v4_2 : Int32), v4_2 = (if (i5 &&& (1 : Int32)) = (0 : Int32) then (0 : Int32) else (1 : Int32)) → Go p e below Qo s₁ (mkF m 12 #[.val (.int i1), .val (.int i2), .val (.int i3), .val (.int i4), .val (.int i5), .unset, .unset, .unset, .unset, .unset, .unset, .unset, .unset, .unset] [(.int v4_2)]) := by
    intro v4_2 hv4_2
    show Go p e below Qo s₁ (mkF m 12 #[.val (.int i1), .val (.int i2), .val (.int i3), .val (.int i4), .val (.int i5), .unset, .unset, .unset, .unset, .unset, .unset, .unset, .unset, .unset] [(.int v4_2)])
    refine Go.of (fun t k => XS.istore X0.here hx rfl (hb hby at_12) rfl (l' := #[.val (.int i1), .val (.int i2), .val (.int i3), .val (.int i4), .val (.int i5), .val (.int v4_2), .unset, .unset, .unset, .unset, .unset, .unset, .unset, .unset]) rfl k) ?_
    show Go p e below Qo s₁ (mkF m 14 #[.val (.int i1), .val (.int i2), .val (.int i3), .val (.int i4), .val (.int i5), .val (.int v4_2), .unset, .unset, .unset, .unset, .unset, .unset, .unset, .unset] [])
    refine Go.of (fun t k => XS.iload X0.here hx rfl (hb hby at_14) rfl  k) ?_
    show Go p e below Qo s₁ (mkF m 16 #[.val (.int i1), .val (.int i2), .val (.int i3), .val (.int i4), .val (.int i5), .val (.int v4_2), .unset, .unset, .unset, .unset, .unset, .unset, .unset, .unset] [(.int i5)])
    refine Go.of (fun t k => XS.iconst X0.here hx rfl (hb hby at_16) k) ?_
    show Go p e below Qo s₁ (mkF m 17 #[.val (.int i1), .val (.int i2), .val (.int i3), .val (.int i4), .val (.int i5), .val (.int v4_2), .unset, .unset, .unset, .unset, .unset, .unset, .unset, .unset] [(.int (2 : Int32)), (.int i5)])
    refine Go.of (fun t k => XS.iand X0.here hx rfl (hb hby at_17) rfl k) ?_
    show Go p e below Qo s₁ (mkF m 18 #[.val (.int i1), .val (.int i2), .val (.int i3), .val (.int i4), .val (.int i5), .val (.int v4_2), .unset, .unset, .unset, .unset, .unset, .unset, .unset, .unset] [(.int (i5 &&& (2 : Int32)))])
    have J18_6 : ∀ (v18_5 : Int32), v18_5 = (if (i5 &&& (2 : Int32)) = (0 : Int32) then (0 : Int32) else (1 : Int32)) → Go p e below Qo s₁ (mkF m 26 #[.val (.int i1), .val (.int i2), .val (.int i3), .val (.int i4), .val (.int i5), .val (.int v4_2), .unset, .unset, .unset, .unset, .unset, .unset, .unset, .unset] [(.int v18_5)]) := by
      intro v18_5 hv18_5
      show Go p e below Qo s₁ (mkF m 26 #[.val (.int i1), .val (.int i2), .val (.int i3), .val (.int i4), .val (.int i5), .val (.int v4_2), .unset, .unset, .unset, .unset, .unset, .unset, .unset, .unset] [(.int v18_5)])
      refine Go.of (fun t k => XS.istore X0.here hx rfl (hb hby at_26) rfl (l' := #[.val (.int i1), .val (.int i2), .val (.int i3), .val (.int i4), .val (.int i5), .val (.int v4_2), .val (.int v18_5), .unset, .unset, .unset, .unset, .unset, .unset, .unset]) rfl k) ?_
      show Go p e below Qo s₁ (mkF m 28 #[.val (.int i1), .val (.int i2), .val (.int i3), .val (.int i4), .val (.int i5), .val (.int v4_2), .val (.int v18_5), .unset, .unset, .unset, .unset, .unset, .unset, .unset] [])
      refine Go.of (fun t k => XS.iload X0.here hx rfl (hb hby at_28) rfl  k) ?_
      show Go p e below Qo s₁ (mkF m 30 #[.val (.int i1), .val (.int i2), .val (.int i3), .val (.int i4), .val (.int i5), .val (.int v4_2), .val (.int v18_5), .unset, .unset, .unset, .unset, .unset, .unset, .unset] [(.int i5)])
      refine Go.of (fun t k => XS.iconst X0.here hx rfl (hb hby at_30) k) ?_
      show Go p e below Qo s₁ (mkF m 31 #[.val (.int i1), .val (.int i2), .val (.int i3), .val (.int i4), .val (.int i5), .val (.int v4_2), .val (.int v18_5), .unset, .unset, .unset, .unset, .unset, .unset, .unset] [(.int (2 : Int32)), (.int i5)])
      refine Go.of (fun t k => XS.iushr X0.here hx rfl (hb hby at_31) rfl k) ?_
      show Go p e below Qo s₁ (mkF m 32 #[.val (.int i1), .val (.int i2), .val (.int i3), .val (.int i4), .val (.int i5), .val (.int v4_2), .val (.int v18_5), .unset, .unset, .unset, .unset, .unset, .unset, .unset] [(.int ((i5.toUInt32 >>> ((2 : Int32) &&& 31).toUInt32).toInt32))])
      refine Go.of (fun t k => XS.iconst X0.here hx rfl (hb hby at_32) k) ?_
      show Go p e below Qo s₁ (mkF m 33 #[.val (.int i1), .val (.int i2), .val (.int i3), .val (.int i4), .val (.int i5), .val (.int v4_2), .val (.int v18_5), .unset, .unset, .unset, .unset, .unset, .unset, .unset] [(.int (3 : Int32)), (.int ((i5.toUInt32 >>> ((2 : Int32) &&& 31).toUInt32).toInt32))])
      refine Go.of (fun t k => XS.iand X0.here hx rfl (hb hby at_33) rfl k) ?_
      show Go p e below Qo s₁ (mkF m 34 #[.val (.int i1), .val (.int i2), .val (.int i3), .val (.int i4), .val (.int i5), .val (.int v4_2), .val (.int v18_5), .unset, .unset, .unset, .unset, .unset, .unset, .unset] [(.int (((i5.toUInt32 >>> ((2 : Int32) &&& 31).toUInt32).toInt32) &&& (3 : Int32)))])
      refine Go.of (fun t k => XS.istore X0.here hx rfl (hb hby at_34) rfl (l' := #[.val (.int i1), .val (.int i2), .val (.int i3), .val (.int i4), .val (.int i5), .val (.int v4_2), .val (.int v18_5), .val (.int (((i5.toUInt32 >>> ((2 : Int32) &&& 31).toUInt32).toInt32) &&& (3 : Int32))), .unset, .unset, .unset, .unset, .unset, .unset]) rfl k) ?_
      show Go p e below Qo s₁ (mkF m 36 #[.val (.int i1), .val (.int i2), .val (.int i3), .val (.int i4), .val (.int i5), .val (.int v4_2), .val (.int v18_5), .val (.int (((i5.toUInt32 >>> ((2 : Int32) &&& 31).toUInt32).toInt32) &&& (3 : Int32))), .unset, .unset, .unset, .unset, .unset, .unset] [])
      refine Go.of (fun t k => XS.iload X0.here hx rfl (hb hby at_36) rfl  k) ?_
      show Go p e below Qo s₁ (mkF m 38 #[.val (.int i1), .val (.int i2), .val (.int i3), .val (.int i4), .val (.int i5), .val (.int v4_2), .val (.int v18_5), .val (.int (((i5.toUInt32 >>> ((2 : Int32) &&& 31).toUInt32).toInt32) &&& (3 : Int32))), .unset, .unset, .unset, .unset, .unset, .unset] [(.int v4_2)])
      have J38_9 : ∀ (v38_8 : Int32), v38_8 = (if v4_2 = (0 : Int32) then i3 else i1) → Go p e below Qo s₁ (mkF m 46 #[.val (.int i1), .val (.int i2), .val (.int i3), .val (.int i4), .val (.int i5), .val (.int v4_2), .val (.int v18_5), .val (.int (((i5.toUInt32 >>> ((2 : Int32) &&& 31).toUInt32).toInt32) &&& (3 : Int32))), .unset, .unset, .unset, .unset, .unset, .unset] [(.int v38_8)]) := by
        intro v38_8 hv38_8
        show Go p e below Qo s₁ (mkF m 46 #[.val (.int i1), .val (.int i2), .val (.int i3), .val (.int i4), .val (.int i5), .val (.int v4_2), .val (.int v18_5), .val (.int (((i5.toUInt32 >>> ((2 : Int32) &&& 31).toUInt32).toInt32) &&& (3 : Int32))), .unset, .unset, .unset, .unset, .unset, .unset] [(.int v38_8)])
        refine Go.of (fun t k => XS.istore X0.here hx rfl (hb hby at_46) rfl (l' := #[.val (.int i1), .val (.int i2), .val (.int i3), .val (.int i4), .val (.int i5), .val (.int v4_2), .val (.int v18_5), .val (.int (((i5.toUInt32 >>> ((2 : Int32) &&& 31).toUInt32).toInt32) &&& (3 : Int32))), .val (.int v38_8), .unset, .unset, .unset, .unset, .unset]) rfl k) ?_
        show Go p e below Qo s₁ (mkF m 48 #[.val (.int i1), .val (.int i2), .val (.int i3), .val (.int i4), .val (.int i5), .val (.int v4_2), .val (.int v18_5), .val (.int (((i5.toUInt32 >>> ((2 : Int32) &&& 31).toUInt32).toInt32) &&& (3 : Int32))), .val (.int v38_8), .unset, .unset, .unset, .unset, .unset] [])
        refine Go.of (fun t k => XS.iload X0.here hx rfl (hb hby at_48) rfl  k) ?_
        show Go p e below Qo s₁ (mkF m 50 #[.val (.int i1), .val (.int i2), .val (.int i3), .val (.int i4), .val (.int i5), .val (.int v4_2), .val (.int v18_5), .val (.int (((i5.toUInt32 >>> ((2 : Int32) &&& 31).toUInt32).toInt32) &&& (3 : Int32))), .val (.int v38_8), .unset, .unset, .unset, .unset, .unset] [(.int v18_5)])
        have J50_12 : ∀ (v50_11 : Int32), v50_11 = (if v18_5 = (0 : Int32) then i4 else i2) → Go p e below Qo s₁ (mkF m 58 #[.val (.int i1), .val (.int i2), .val (.int i3), .val (.int i4), .val (.int i5), .val (.int v4_2), .val (.int v18_5), .val (.int (((i5.toUInt32 >>> ((2 : Int32) &&& 31).toUInt32).toInt32) &&& (3 : Int32))), .val (.int v38_8), .unset, .unset, .unset, .unset, .unset] [(.int v50_11)]) := by
          intro v50_11 hv50_11
          show Go p e below Qo s₁ (mkF m 58 #[.val (.int i1), .val (.int i2), .val (.int i3), .val (.int i4), .val (.int i5), .val (.int v4_2), .val (.int v18_5), .val (.int (((i5.toUInt32 >>> ((2 : Int32) &&& 31).toUInt32).toInt32) &&& (3 : Int32))), .val (.int v38_8), .unset, .unset, .unset, .unset, .unset] [(.int v50_11)])
          refine Go.of (fun t k => XS.istore X0.here hx rfl (hb hby at_58) rfl (l' := #[.val (.int i1), .val (.int i2), .val (.int i3), .val (.int i4), .val (.int i5), .val (.int v4_2), .val (.int v18_5), .val (.int (((i5.toUInt32 >>> ((2 : Int32) &&& 31).toUInt32).toInt32) &&& (3 : Int32))), .val (.int v38_8), .val (.int v50_11), .unset, .unset, .unset, .unset]) rfl k) ?_
          show Go p e below Qo s₁ (mkF m 60 #[.val (.int i1), .val (.int i2), .val (.int i3), .val (.int i4), .val (.int i5), .val (.int v4_2), .val (.int v18_5), .val (.int (((i5.toUInt32 >>> ((2 : Int32) &&& 31).toUInt32).toInt32) &&& (3 : Int32))), .val (.int v38_8), .val (.int v50_11), .unset, .unset, .unset, .unset] [])
          obtain ⟨T13, h13, X13, e13, E13, A13, D13, -, st13⟩ := newO X0 hx hZ hown (hw _ (List.mem_of_getElem? (i := 0) rfl)) (hw _ (List.mem_of_getElem? (i := 1) rfl)) (hw _ (List.mem_of_getElem? (i := 2) rfl)) e0 (g := (mkF m 60 #[.val (.int i1), .val (.int i2), .val (.int i3), .val (.int i4), .val (.int i5), .val (.int v4_2), .val (.int v18_5), .val (.int (((i5.toUInt32 >>> ((2 : Int32) &&& 31).toUInt32).toInt32) &&& (3 : Int32))), .val (.int v38_8), .val (.int v50_11), .unset, .unset, .unset, .unset] [])) rfl (hb hby at_60) (by decide) (by decide)
          obtain ⟨b13, g13⟩ : ∃ z, z = h0.size := ⟨_, rfl⟩
          rw [← g13] at A13 D13 st13
          have g14 : n0 ≤ b13 := Nat.le_trans Z0 (Nat.le_of_eq g13.symm)
          have q15 : Sta Z h13 "java/lang/String" "COMPACT_STRINGS" "Z" (.int zc) := f0.ext E13
          have q16 : Sta Z h13 "java/lang/Integer$IntegerCache" "high" "I" (.int (127 : Int32)) := f1.ext E13
          have q17 : Sta Z h13 "java/lang/Integer$IntegerCache" "cache" "[Ljava/lang/Integer;" (.ref rc) := f2.ext E13
          have q18 : Old Z n0 h13 := f3.ext E13
          have Z19 : n0 ≤ h13.size := Nat.le_trans Z0 E13.1
          have q20 : Fld Z h13 b13 "com/example/konakis/konakis/engine/Square" "file" "I" (.int (0 : Int32)) := D13 (Or.inr (hw _ (List.mem_of_getElem? (i := 15) rfl))) (ty := .int) (by decide)
          have q21 : Fld Z h13 b13 "com/example/konakis/konakis/engine/Square" "rank" "I" (.int (0 : Int32)) := D13 (Or.inr (hw _ (List.mem_of_getElem? (i := 17) rfl))) (ty := .int) (by decide)
          refine Go.of st13 ?_
          show Go p e below Qo T13 (mkF m 63 #[.val (.int i1), .val (.int i2), .val (.int i3), .val (.int i4), .val (.int i5), .val (.int v4_2), .val (.int v18_5), .val (.int (((i5.toUInt32 >>> ((2 : Int32) &&& 31).toUInt32).toInt32) &&& (3 : Int32))), .val (.int v38_8), .val (.int v50_11), .unset, .unset, .unset, .unset] [(.ref b13)])
          refine Go.of (fun t k => XS.dup X13.here hx rfl (hb hby at_63) rfl rfl k) ?_
          show Go p e below Qo T13 (mkF m 64 #[.val (.int i1), .val (.int i2), .val (.int i3), .val (.int i4), .val (.int i5), .val (.int v4_2), .val (.int v18_5), .val (.int (((i5.toUInt32 >>> ((2 : Int32) &&& 31).toUInt32).toInt32) &&& (3 : Int32))), .val (.int v38_8), .val (.int v50_11), .unset, .unset, .unset, .unset] [(.ref b13), (.ref b13)])
          refine Go.of (fun t k => XS.iloadN X13.here hx rfl (hb hby at_64) rfl  k) ?_
          show Go p e below Qo T13 (mkF m 65 #[.val (.int i1), .val (.int i2), .val (.int i3), .val (.int i4), .val (.int i5), .val (.int v4_2), .val (.int v18_5), .val (.int (((i5.toUInt32 >>> ((2 : Int32) &&& 31).toUInt32).toInt32) &&& (3 : Int32))), .val (.int v38_8), .val (.int v50_11), .unset, .unset, .unset, .unset] [(.int i1), (.ref b13), (.ref b13)])
          refine Go.of (fun t k => XS.iloadN X13.here hx rfl (hb hby at_65) rfl  k) ?_
          show Go p e below Qo T13 (mkF m 66 #[.val (.int i1), .val (.int i2), .val (.int i3), .val (.int i4), .val (.int i5), .val (.int v4_2), .val (.int v18_5), .val (.int (((i5.toUInt32 >>> ((2 : Int32) &&& 31).toUInt32).toInt32) &&& (3 : Int32))), .val (.int v38_8), .val (.int v50_11), .unset, .unset, .unset, .unset] [(.int i2), (.int i1), (.ref b13), (.ref b13)])
          obtain ⟨_, _, ⟨T22, L22, k22, n22⟩, -, X22, ⟨Lc22, hQ22, l22, y22, z22⟩, st22⟩ := X13.specialBack hx (y := (⟨"com/example/konakis/konakis/engine/Square", "<init>", "(II)V"⟩ : MethodName)) rfl hown (mvT hZ (hw _ (List.mem_of_getElem? (i := 3) rfl))) (mvT hZ (hw _ (List.mem_of_getElem? (i := 4) rfl))) (mvT hZ (hw _ (List.mem_of_getElem? (i := 5) rfl))) (by decide) (backOf (W := 1) (rm1 l Z a0 hw [] b13 i1 i2 (.int (0 : Int32)) (.int (0 : Int32)) h13 n0 Z19 A13 q20 q21 g14) hZ (hw _ (List.mem_of_getElem? (i := 5) rfl)) (hw _ (List.mem_of_getElem? (i := 2) rfl)) (by decide) (by decide)) (g := (mkF m 66 #[.val (.int i1), .val (.int i2), .val (.int i3), .val (.int i4), .val (.int i5), .val (.int v4_2), .val (.int v18_5), .val (.int (((i5.toUInt32 >>> ((2 : Int32) &&& 31).toUInt32).toInt32) &&& (3 : Int32))), .val (.int v38_8), .val (.int v50_11), .unset, .unset, .unset, .unset] [(.int i2), (.int i1), (.ref b13), (.ref b13)])) rfl (by rw [hml]; rfl) (Steps.refl _) (a := b13) (argsL := [(.int i1), (.int i2)]) (rest := [(.ref b13)]) (lenOf pd_5 rfl) rfl (by show 2 * 0 + _ ≤ _; exact Nat.le_of_eq rfl) (hb hby at_66) (fun _ _ => ⟨rfl, e13, (by decide : 1 + 0 ≤ _), (by decide : 2 + 0 ≤ _)⟩)
          dsimp only [Pt.U, Pt.locs, Pt.cells, Pt.slots] at X22 l22 y22 z22 st22 hQ22
          subst l22 y22 z22
          obtain ⟨rfl, N23, Kc24, q25, q26, q27⟩ := hQ22
          have N28 := Fr.app N0 N23
          have q29 : Sta Z T22.heap "java/lang/String" "COMPACT_STRINGS" "Z" (.int zc) := own_staKeep q15 Kc24 (allS (own_plainE A13) all0)
          have q30 : Sta Z T22.heap "java/lang/Integer$IntegerCache" "high" "I" (.int (127 : Int32)) := own_staKeep q16 Kc24 (allS (own_plainE A13) all0)
          have q31 : Sta Z T22.heap "java/lang/Integer$IntegerCache" "cache" "[Ljava/lang/Integer;" (.ref rc) := own_staKeep q17 Kc24 (allS (own_plainE A13) all0)
          have q32 : Old Z n0 T22.heap := q18.keep Kc24 (allS g14 all0)
          have Z33 : n0 ≤ T22.heap.size := Nat.le_trans Z19 Kc24.1
          refine Go.via st22 ?_
          show Go p e below Qo T22 (mkF m 69 #[.val (.int i1), .val (.int i2), .val (.int i3), .val (.int i4), .val (.int i5), .val (.int v4_2), .val (.int v18_5), .val (.int (((i5.toUInt32 >>> ((2 : Int32) &&& 31).toUInt32).toInt32) &&& (3 : Int32))), .val (.int v38_8), .val (.int v50_11), .unset, .unset, .unset, .unset] [(.ref b13)])
          refine Go.of (fun t k => XS.astore X22.here hx rfl (hb hby at_69) rfl rfl (l' := #[.val (.int i1), .val (.int i2), .val (.int i3), .val (.int i4), .val (.int i5), .val (.int v4_2), .val (.int v18_5), .val (.int (((i5.toUInt32 >>> ((2 : Int32) &&& 31).toUInt32).toInt32) &&& (3 : Int32))), .val (.int v38_8), .val (.int v50_11), .val (.ref b13), .unset, .unset, .unset]) rfl k) ?_
          show Go p e below Qo T22 (mkF m 71 #[.val (.int i1), .val (.int i2), .val (.int i3), .val (.int i4), .val (.int i5), .val (.int v4_2), .val (.int v18_5), .val (.int (((i5.toUInt32 >>> ((2 : Int32) &&& 31).toUInt32).toInt32) &&& (3 : Int32))), .val (.int v38_8), .val (.int v50_11), .val (.ref b13), .unset, .unset, .unset] [])
          obtain ⟨T34, h34, X34, e34, E34, A34, D34, -, st34⟩ := newO X22 hx hZ hown (hw _ (List.mem_of_getElem? (i := 0) rfl)) (hw _ (List.mem_of_getElem? (i := 1) rfl)) (hw _ (List.mem_of_getElem? (i := 2) rfl)) rfl (g := (mkF m 71 #[.val (.int i1), .val (.int i2), .val (.int i3), .val (.int i4), .val (.int i5), .val (.int v4_2), .val (.int v18_5), .val (.int (((i5.toUInt32 >>> ((2 : Int32) &&& 31).toUInt32).toInt32) &&& (3 : Int32))), .val (.int v38_8), .val (.int v50_11), .val (.ref b13), .unset, .unset, .unset] [])) rfl (hb hby at_71) (by decide) (by decide)
          obtain ⟨b34, g34⟩ : ∃ z, z = T22.heap.size := ⟨_, rfl⟩
          rw [← g34] at A34 D34 st34
          have ne35 : b13 ≠ b34 := Nat.ne_of_lt (Nat.lt_of_lt_of_le q25.lt (Nat.le_of_eq g34.symm))
          have g36 : n0 ≤ b34 := Nat.le_trans Z33 (Nat.le_of_eq g34.symm)
          have q37 : Sta Z h34 "java/lang/String" "COMPACT_STRINGS" "Z" (.int zc) := q29.ext E34
          have q38 : Sta Z h34 "java/lang/Integer$IntegerCache" "high" "I" (.int (127 : Int32)) := q30.ext E34
          have q39 : Sta Z h34 "java/lang/Integer$IntegerCache" "cache" "[Ljava/lang/Integer;" (.ref rc) := q31.ext E34
          have q40 : Old Z n0 h34 := q32.ext E34
          have q41 : Exa Z h34 b13 "com/example/konakis/konakis/engine/Square" := q25.ext E34
          have q42 : Fld Z h34 b13 "com/example/konakis/konakis/engine/Square" "file" "I" (.int i1) := q26.ext E34
          have q43 : Fld Z h34 b13 "com/example/konakis/konakis/engine/Square" "rank" "I" (.int i2) := q27.ext E34
          have Z44 : n0 ≤ h34.size := Nat.le_trans Z33 E34.1
          have q45 : Fld Z h34 b34 "com/example/konakis/konakis/engine/Square" "file" "I" (.int (0 : Int32)) := D34 (Or.inr (hw _ (List.mem_of_getElem? (i := 15) rfl))) (ty := .int) (by decide)
          have q46 : Fld Z h34 b34 "com/example/konakis/konakis/engine/Square" "rank" "I" (.int (0 : Int32)) := D34 (Or.inr (hw _ (List.mem_of_getElem? (i := 17) rfl))) (ty := .int) (by decide)
          refine Go.of st34 ?_
          show Go p e below Qo T34 (mkF m 74 #[.val (.int i1), .val (.int i2), .val (.int i3), .val (.int i4), .val (.int i5), .val (.int v4_2), .val (.int v18_5), .val (.int (((i5.toUInt32 >>> ((2 : Int32) &&& 31).toUInt32).toInt32) &&& (3 : Int32))), .val (.int v38_8), .val (.int v50_11), .val (.ref b13), .unset, .unset, .unset] [(.ref b34)])
          refine Go.of (fun t k => XS.dup X34.here hx rfl (hb hby at_74) rfl rfl k) ?_
          show Go p e below Qo T34 (mkF m 75 #[.val (.int i1), .val (.int i2), .val (.int i3), .val (.int i4), .val (.int i5), .val (.int v4_2), .val (.int v18_5), .val (.int (((i5.toUInt32 >>> ((2 : Int32) &&& 31).toUInt32).toInt32) &&& (3 : Int32))), .val (.int v38_8), .val (.int v50_11), .val (.ref b13), .unset, .unset, .unset] [(.ref b34), (.ref b34)])
          refine Go.of (fun t k => XS.iload X34.here hx rfl (hb hby at_75) rfl  k) ?_
          show Go p e below Qo T34 (mkF m 77 #[.val (.int i1), .val (.int i2), .val (.int i3), .val (.int i4), .val (.int i5), .val (.int v4_2), .val (.int v18_5), .val (.int (((i5.toUInt32 >>> ((2 : Int32) &&& 31).toUInt32).toInt32) &&& (3 : Int32))), .val (.int v38_8), .val (.int v50_11), .val (.ref b13), .unset, .unset, .unset] [(.int v38_8), (.ref b34), (.ref b34)])
          refine Go.of (fun t k => XS.iload X34.here hx rfl (hb hby at_77) rfl  k) ?_
          show Go p e below Qo T34 (mkF m 79 #[.val (.int i1), .val (.int i2), .val (.int i3), .val (.int i4), .val (.int i5), .val (.int v4_2), .val (.int v18_5), .val (.int (((i5.toUInt32 >>> ((2 : Int32) &&& 31).toUInt32).toInt32) &&& (3 : Int32))), .val (.int v38_8), .val (.int v50_11), .val (.ref b13), .unset, .unset, .unset] [(.int v50_11), (.int v38_8), (.ref b34), (.ref b34)])
          obtain ⟨_, _, ⟨T47, L47, k47, n47⟩, -, X47, ⟨Lc47, hQ47, l47, y47, z47⟩, st47⟩ := X34.specialBack hx (y := (⟨"com/example/konakis/konakis/engine/Square", "<init>", "(II)V"⟩ : MethodName)) rfl hown (mvT hZ (hw _ (List.mem_of_getElem? (i := 3) rfl))) (mvT hZ (hw _ (List.mem_of_getElem? (i := 4) rfl))) (mvT hZ (hw _ (List.mem_of_getElem? (i := 5) rfl))) (by decide) (backOf (W := 1) (rm1 l Z a0 hw [] b34 v38_8 v50_11 (.int (0 : Int32)) (.int (0 : Int32)) h34 n0 Z44 A34 q45 q46 g36) hZ (hw _ (List.mem_of_getElem? (i := 5) rfl)) (hw _ (List.mem_of_getElem? (i := 2) rfl)) (by decide) (by decide)) (g := (mkF m 79 #[.val (.int i1), .val (.int i2), .val (.int i3), .val (.int i4), .val (.int i5), .val (.int v4_2), .val (.int v18_5), .val (.int (((i5.toUInt32 >>> ((2 : Int32) &&& 31).toUInt32).toInt32) &&& (3 : Int32))), .val (.int v38_8), .val (.int v50_11), .val (.ref b13), .unset, .unset, .unset] [(.int v50_11), (.int v38_8), (.ref b34), (.ref b34)])) rfl (by rw [hml]; rfl) (Steps.refl _) (a := b34) (argsL := [(.int v38_8), (.int v50_11)]) (rest := [(.ref b34)]) (lenOf pd_5 rfl) rfl (by show 2 * 0 + _ ≤ _; exact Nat.le_of_eq rfl) (hb hby at_79) (fun _ _ => ⟨rfl, e34, (by decide : 2 + 0 ≤ _), (by decide : 4 + 0 ≤ _)⟩)
          dsimp only [Pt.U, Pt.locs, Pt.cells, Pt.slots] at X47 l47 y47 z47 st47 hQ47
          subst l47 y47 z47
          obtain ⟨rfl, N48, Kc49, q50, q51, q52⟩ := hQ47
          have N53 := Fr.app N28 N48
          have q54 : Sta Z T47.heap "java/lang/String" "COMPACT_STRINGS" "Z" (.int zc) := own_staKeep q37 Kc49 (allS (own_plainE A34) all0)
          have q55 : Sta Z T47.heap "java/lang/Integer$IntegerCache" "high" "I" (.int (127 : Int32)) := own_staKeep q38 Kc49 (allS (own_plainE A34) all0)
          have q56 : Sta Z T47.heap "java/lang/Integer$IntegerCache" "cache" "[Ljava/lang/Integer;" (.ref rc) := own_staKeep q39 Kc49 (allS (own_plainE A34) all0)
          have q57 : Old Z n0 T47.heap := q40.keep Kc49 (allS g36 all0)
          have q58 : Exa Z T47.heap b13 "com/example/konakis/konakis/engine/Square" := q41.keep Kc49
          have q59 : Fld Z T47.heap b13 "com/example/konakis/konakis/engine/Square" "file" "I" (.int i1) := q42.keep Kc49 (ninS ne35 nin0)
          have q60 : Fld Z T47.heap b13 "com/example/konakis/konakis/engine/Square" "rank" "I" (.int i2) := q43.keep Kc49 (ninS ne35 nin0)
          have Z61 : n0 ≤ T47.heap.size := Nat.le_trans Z44 Kc49.1
          refine Go.via st47 ?_
          show Go p e below Qo T47 (mkF m 82 #[.val (.int i1), .val (.int i2), .val (.int i3), .val (.int i4), .val (.int i5), .val (.int v4_2), .val (.int v18_5), .val (.int (((i5.toUInt32 >>> ((2 : Int32) &&& 31).toUInt32).toInt32) &&& (3 : Int32))), .val (.int v38_8), .val (.int v50_11), .val (.ref b13), .unset, .unset, .unset] [(.ref b34)])
          refine Go.of (fun t k => XS.astore X47.here hx rfl (hb hby at_82) rfl rfl (l' := #[.val (.int i1), .val (.int i2), .val (.int i3), .val (.int i4), .val (.int i5), .val (.int v4_2), .val (.int v18_5), .val (.int (((i5.toUInt32 >>> ((2 : Int32) &&& 31).toUInt32).toInt32) &&& (3 : Int32))), .val (.int v38_8), .val (.int v50_11), .val (.ref b13), .val (.ref b34), .unset, .unset]) rfl k) ?_
          show Go p e below Qo T47 (mkF m 84 #[.val (.int i1), .val (.int i2), .val (.int i3), .val (.int i4), .val (.int i5), .val (.int v4_2), .val (.int v18_5), .val (.int (((i5.toUInt32 >>> ((2 : Int32) &&& 31).toUInt32).toInt32) &&& (3 : Int32))), .val (.int v38_8), .val (.int v50_11), .val (.ref b13), .val (.ref b34), .unset, .unset] [])
          refine Go.of (fun t k => XS.iload X47.here hx rfl (hb hby at_84) rfl  k) ?_
          show Go p e below Qo T47 (mkF m 86 #[.val (.int i1), .val (.int i2), .val (.int i3), .val (.int i4), .val (.int i5), .val (.int v4_2), .val (.int v18_5), .val (.int (((i5.toUInt32 >>> ((2 : Int32) &&& 31).toUInt32).toInt32) &&& (3 : Int32))), .val (.int v38_8), .val (.int v50_11), .val (.ref b13), .val (.ref b34), .unset, .unset] [(.int (((i5.toUInt32 >>> ((2 : Int32) &&& 31).toUInt32).toInt32) &&& (3 : Int32)))])
          by_cases hc86_62 : (((i5.toUInt32 >>> ((2 : Int32) &&& 31).toUInt32).toInt32) &&& (3 : Int32)) = (0 : Int32)
          · refine Go.of (fun t k => XS.ifNo X47.here hx rfl (hb hby at_86) rfl ((if0 _ _).trans (teq hc86_62).2) k) ?_
            show Go p e below Qo T47 (mkF m 89 #[.val (.int i1), .val (.int i2), .val (.int i3), .val (.int i4), .val (.int i5), .val (.int v4_2), .val (.int v18_5), .val (.int (((i5.toUInt32 >>> ((2 : Int32) &&& 31).toUInt32).toInt32) &&& (3 : Int32))), .val (.int v38_8), .val (.int v50_11), .val (.ref b13), .val (.ref b34), .unset, .unset] [])
            refine Go.of (fun t k => XS.aload X47.here hx rfl (hb hby at_89) rfl rfl k) ?_
            show Go p e below Qo T47 (mkF m 91 #[.val (.int i1), .val (.int i2), .val (.int i3), .val (.int i4), .val (.int i5), .val (.int v4_2), .val (.int v18_5), .val (.int (((i5.toUInt32 >>> ((2 : Int32) &&& 31).toUInt32).toInt32) &&& (3 : Int32))), .val (.int v38_8), .val (.int v50_11), .val (.ref b13), .val (.ref b34), .unset, .unset] [(.ref b34)])
            refine Go.of (fun t k => XS.astore X47.here hx rfl (hb hby at_91) rfl rfl (l' := #[.val (.int i1), .val (.int i2), .val (.int i3), .val (.int i4), .val (.int i5), .val (.int v4_2), .val (.int v18_5), .val (.int (((i5.toUInt32 >>> ((2 : Int32) &&& 31).toUInt32).toInt32) &&& (3 : Int32))), .val (.int v38_8), .val (.int v50_11), .val (.ref b13), .val (.ref b34), .val (.ref b34), .unset]) rfl k) ?_
            show Go p e below Qo T47 (mkF m 93 #[.val (.int i1), .val (.int i2), .val (.int i3), .val (.int i4), .val (.int i5), .val (.int v4_2), .val (.int v18_5), .val (.int (((i5.toUInt32 >>> ((2 : Int32) &&& 31).toUInt32).toInt32) &&& (3 : Int32))), .val (.int v38_8), .val (.int v50_11), .val (.ref b13), .val (.ref b34), .val (.ref b34), .unset] [])
            refine Go.of (fun t k => XS.iloadN X47.here hx rfl (hb hby at_93) rfl  k) ?_
            show Go p e below Qo T47 (mkF m 94 #[.val (.int i1), .val (.int i2), .val (.int i3), .val (.int i4), .val (.int i5), .val (.int v4_2), .val (.int v18_5), .val (.int (((i5.toUInt32 >>> ((2 : Int32) &&& 31).toUInt32).toInt32) &&& (3 : Int32))), .val (.int v38_8), .val (.int v50_11), .val (.ref b13), .val (.ref b34), .val (.ref b34), .unset] [(.int i1)])
            refine Go.of (fun t k => XS.iload X47.here hx rfl (hb hby at_94) rfl  k) ?_
            show Go p e below Qo T47 (mkF m 96 #[.val (.int i1), .val (.int i2), .val (.int i3), .val (.int i4), .val (.int i5), .val (.int v4_2), .val (.int v18_5), .val (.int (((i5.toUInt32 >>> ((2 : Int32) &&& 31).toUInt32).toInt32) &&& (3 : Int32))), .val (.int v38_8), .val (.int v50_11), .val (.ref b13), .val (.ref b34), .val (.ref b34), .unset] [(.int v38_8), (.int i1)])
            have J96_66 : ∀ (v96_65 : Int32), v96_65 = (if i1 = v38_8 then (if i2 = v50_11 then (1 : Int32) else (0 : Int32)) else (0 : Int32)) → Go p e below Qo T47 (mkF m 110 #[.val (.int i1), .val (.int i2), .val (.int i3), .val (.int i4), .val (.int i5), .val (.int v4_2), .val (.int v18_5), .val (.int (((i5.toUInt32 >>> ((2 : Int32) &&& 31).toUInt32).toInt32) &&& (3 : Int32))), .val (.int v38_8), .val (.int v50_11), .val (.ref b13), .val (.ref b34), .val (.ref b34), .unset] [(.int v96_65)]) := by
              intro v96_65 hv96_65
              show Go p e below Qo T47 (mkF m 110 #[.val (.int i1), .val (.int i2), .val (.int i3), .val (.int i4), .val (.int i5), .val (.int v4_2), .val (.int v18_5), .val (.int (((i5.toUInt32 >>> ((2 : Int32) &&& 31).toUInt32).toInt32) &&& (3 : Int32))), .val (.int v38_8), .val (.int v50_11), .val (.ref b13), .val (.ref b34), .val (.ref b34), .unset] [(.int v96_65)])
              refine Go.of (fun t k => XS.istore X47.here hx rfl (hb hby at_110) rfl (l' := #[.val (.int i1), .val (.int i2), .val (.int i3), .val (.int i4), .val (.int i5), .val (.int v4_2), .val (.int v18_5), .val (.int (((i5.toUInt32 >>> ((2 : Int32) &&& 31).toUInt32).toInt32) &&& (3 : Int32))), .val (.int v38_8), .val (.int v50_11), .val (.ref b13), .val (.ref b34), .val (.ref b34), .val (.int v96_65)]) rfl k) ?_
              show Go p e below Qo T47 (mkF m 112 #[.val (.int i1), .val (.int i2), .val (.int i3), .val (.int i4), .val (.int i5), .val (.int v4_2), .val (.int v18_5), .val (.int (((i5.toUInt32 >>> ((2 : Int32) &&& 31).toUInt32).toInt32) &&& (3 : Int32))), .val (.int v38_8), .val (.int v50_11), .val (.ref b13), .val (.ref b34), .val (.ref b34), .val (.int v96_65)] [])
              refine Go.of (fun t k => XS.goto X47.here hx rfl (pc0 := 112) (pc' := 162) rfl (hb hby at_112) (by decide) (by decide) k) ?_
              show Go p e below Qo T47 (mkF m 162 #[.val (.int i1), .val (.int i2), .val (.int i3), .val (.int i4), .val (.int i5), .val (.int v4_2), .val (.int v18_5), .val (.int (((i5.toUInt32 >>> ((2 : Int32) &&& 31).toUInt32).toInt32) &&& (3 : Int32))), .val (.int v38_8), .val (.int v50_11), .val (.ref b13), .val (.ref b34), .val (.ref b34), .val (.int v96_65)] [])
              refine Go.of (fun t k => XS.aload X47.here hx rfl (hb hby at_162) rfl rfl k) ?_
              show Go p e below Qo T47 (mkF m 164 #[.val (.int i1), .val (.int i2), .val (.int i3), .val (.int i4), .val (.int i5), .val (.int v4_2), .val (.int v18_5), .val (.int (((i5.toUInt32 >>> ((2 : Int32) &&& 31).toUInt32).toInt32) &&& (3 : Int32))), .val (.int v38_8), .val (.int v50_11), .val (.ref b13), .val (.ref b34), .val (.ref b34), .val (.int v96_65)] [(.ref b13)])
              refine Go.of (fun t k => XS.aload X47.here hx rfl (hb hby at_164) rfl rfl k) ?_
              show Go p e below Qo T47 (mkF m 166 #[.val (.int i1), .val (.int i2), .val (.int i3), .val (.int i4), .val (.int i5), .val (.int v4_2), .val (.int v18_5), .val (.int (((i5.toUInt32 >>> ((2 : Int32) &&& 31).toUInt32).toInt32) &&& (3 : Int32))), .val (.int v38_8), .val (.int v50_11), .val (.ref b13), .val (.ref b34), .val (.ref b34), .val (.int v96_65)] [(.ref b34), (.ref b13)])
              obtain ⟨ciq68, kiq68, iq68a, iq68b, iq68c⟩ := isOf hZ rfl q58
              obtain ⟨_, _, ⟨T67, L67, k67, n67⟩, -, X67, ⟨Lc67, hQ67, l67, y67, z67⟩, st67⟩ := X47.virtualBack hx (y := (⟨"com/example/konakis/konakis/engine/Square", "equals", "(Ljava/lang/Object;)Z"⟩ : MethodName)) (z := (⟨"com/example/konakis/konakis/engine/Square", "equals", "(Ljava/lang/Object;)Z"⟩ : MethodName)) hown (mvT hZ (hw _ (List.mem_of_getElem? (i := 18) rfl))) (mvT hZ (hw _ (List.mem_of_getElem? (i := 19) rfl))) (notFace_of_selects (args := #[]) (mvT hZ (hw _ (List.mem_of_getElem? (i := 21) rfl)))) (mvT hZ (hw _ (List.mem_of_getElem? (i := 21) rfl))) (mvT hZ (hw _ (List.mem_of_getElem? (i := 20) rfl))) (by decide) (backOf (W := 0) (rm40 l Z a0 hw [] b13 b34 i1 i2 v38_8 v50_11 T47.heap n0 Z61 q50 q59 q60 q51 q52) hZ (hw _ (List.mem_of_getElem? (i := 22) rfl)) (hw _ (List.mem_of_getElem? (i := 2) rfl)) (by decide) (by decide)) iq68a iq68c (g := (mkF m 166 #[.val (.int i1), .val (.int i2), .val (.int i3), .val (.int i4), .val (.int i5), .val (.int v4_2), .val (.int v18_5), .val (.int (((i5.toUInt32 >>> ((2 : Int32) &&& 31).toUInt32).toInt32) &&& (3 : Int32))), .val (.int v38_8), .val (.int v50_11), .val (.ref b13), .val (.ref b34), .val (.ref b34), .val (.int v96_65)] [(.ref b34), (.ref b13)])) rfl (by rw [hml]; rfl) (Steps.refl _) (argsL := [(.ref b34)]) (rest := []) (lenOf pd_6 rfl) rfl (by show 2 * 0 + _ ≤ _; exact Nat.le_of_eq rfl) (hb hby at_166) (fun _ _ => ⟨rfl, rfl, (by decide : 2 + 0 ≤ _), (by decide : 4 + 0 ≤ _)⟩)
              dsimp only [Pt.U, Pt.locs, Pt.cells, Pt.slots] at X67 l67 y67 z67 st67 hQ67
              subst l67 y67 z67
              obtain ⟨rfl, N69, eh70⟩ := hQ67
              have N71 := Fr.app N53 N69
              refine Go.via st67 ?_
              show Go p e below Qo T67 (mkF m 169 #[.val (.int i1), .val (.int i2), .val (.int i3), .val (.int i4), .val (.int i5), .val (.int v4_2), .val (.int v18_5), .val (.int (((i5.toUInt32 >>> ((2 : Int32) &&& 31).toUInt32).toInt32) &&& (3 : Int32))), .val (.int v38_8), .val (.int v50_11), .val (.ref b13), .val (.ref b34), .val (.ref b34), .val (.int v96_65)] [(.int (F40 i1 i2 v38_8 v50_11))])
              refine Go.of (fun t k => XS.iload X67.here hx rfl (hb hby at_169) rfl  k) ?_
              show Go p e below Qo T67 (mkF m 171 #[.val (.int i1), .val (.int i2), .val (.int i3), .val (.int i4), .val (.int i5), .val (.int v4_2), .val (.int v18_5), .val (.int (((i5.toUInt32 >>> ((2 : Int32) &&& 31).toUInt32).toInt32) &&& (3 : Int32))), .val (.int v38_8), .val (.int v50_11), .val (.ref b13), .val (.ref b34), .val (.ref b34), .val (.int v96_65)] [(.int v96_65), (.int (F40 i1 i2 v38_8 v50_11))])
              by_cases hc171_72 : (F40 i1 i2 v38_8 v50_11) = v96_65
              · refine Go.of (fun t k => XS.icmpNo X67.here hx rfl (hb hby at_171) rfl (teq hc171_72).2 k) ?_
                show Go p e below Qo T67 (mkF m 174 #[.val (.int i1), .val (.int i2), .val (.int i3), .val (.int i4), .val (.int i5), .val (.int v4_2), .val (.int v18_5), .val (.int (((i5.toUInt32 >>> ((2 : Int32) &&& 31).toUInt32).toInt32) &&& (3 : Int32))), .val (.int v38_8), .val (.int v50_11), .val (.ref b13), .val (.ref b34), .val (.ref b34), .val (.int v96_65)] [])
                refine Go.of (fun t k => XS.aload X67.here hx rfl (hb hby at_174) rfl rfl k) ?_
                show Go p e below Qo T67 (mkF m 176 #[.val (.int i1), .val (.int i2), .val (.int i3), .val (.int i4), .val (.int i5), .val (.int v4_2), .val (.int v18_5), .val (.int (((i5.toUInt32 >>> ((2 : Int32) &&& 31).toUInt32).toInt32) &&& (3 : Int32))), .val (.int v38_8), .val (.int v50_11), .val (.ref b13), .val (.ref b34), .val (.ref b34), .val (.int v96_65)] [(.ref b13)])
                refine Go.of (fun t k => XS.aload X67.here hx rfl (hb hby at_176) rfl rfl k) ?_
                show Go p e below Qo T67 (mkF m 178 #[.val (.int i1), .val (.int i2), .val (.int i3), .val (.int i4), .val (.int i5), .val (.int v4_2), .val (.int v18_5), .val (.int (((i5.toUInt32 >>> ((2 : Int32) &&& 31).toUInt32).toInt32) &&& (3 : Int32))), .val (.int v38_8), .val (.int v50_11), .val (.ref b13), .val (.ref b34), .val (.ref b34), .val (.int v96_65)] [(.ref b13), (.ref b13)])
                obtain ⟨ciq74, kiq74, iq74a, iq74b, iq74c⟩ := isOf hZ eh70 q58
                obtain ⟨_, _, ⟨T73, L73, k73, n73⟩, -, X73, ⟨Lc73, hQ73, l73, y73, z73⟩, st73⟩ := X67.virtualBack hx (y := (⟨"com/example/konakis/konakis/engine/Square", "equals", "(Ljava/lang/Object;)Z"⟩ : MethodName)) (z := (⟨"com/example/konakis/konakis/engine/Square", "equals", "(Ljava/lang/Object;)Z"⟩ : MethodName)) hown (mvT hZ (hw _ (List.mem_of_getElem? (i := 18) rfl))) (mvT hZ (hw _ (List.mem_of_getElem? (i := 19) rfl))) (notFace_of_selects (args := #[]) (mvT hZ (hw _ (List.mem_of_getElem? (i := 21) rfl)))) (mvT hZ (hw _ (List.mem_of_getElem? (i := 21) rfl))) (mvT hZ (hw _ (List.mem_of_getElem? (i := 20) rfl))) (by decide) (backOf (W := 0) (rm40 l Z a0 hw [] b13 b13 i1 i2 i1 i2 T47.heap n0 Z61 q58 q59 q60 q59 q60) hZ (hw _ (List.mem_of_getElem? (i := 22) rfl)) (hw _ (List.mem_of_getElem? (i := 2) rfl)) (by decide) (by decide)) iq74a iq74c (g := (mkF m 178 #[.val (.int i1), .val (.int i2), .val (.int i3), .val (.int i4), .val (.int i5), .val (.int v4_2), .val (.int v18_5), .val (.int (((i5.toUInt32 >>> ((2 : Int32) &&& 31).toUInt32).toInt32) &&& (3 : Int32))), .val (.int v38_8), .val (.int v50_11), .val (.ref b13), .val (.ref b34), .val (.ref b34), .val (.int v96_65)] [(.ref b13), (.ref b13)])) rfl (by rw [hml]; rfl) (Steps.refl _) (argsL := [(.ref b13)]) (rest := []) (lenOf pd_6 rfl) rfl (by show 2 * 0 + _ ≤ _; exact Nat.le_of_eq rfl) (hb hby at_178) (fun _ _ => ⟨rfl, eh70, (by decide : 2 + 0 ≤ _), (by decide : 4 + 0 ≤ _)⟩)
                dsimp only [Pt.U, Pt.locs, Pt.cells, Pt.slots] at X73 l73 y73 z73 st73 hQ73
                subst l73 y73 z73
                obtain ⟨rfl, N75, eh76⟩ := hQ73
                have N77 := Fr.app N71 N75
                refine Go.via st73 ?_
                show Go p e below Qo T73 (mkF m 181 #[.val (.int i1), .val (.int i2), .val (.int i3), .val (.int i4), .val (.int i5), .val (.int v4_2), .val (.int v18_5), .val (.int (((i5.toUInt32 >>> ((2 : Int32) &&& 31).toUInt32).toInt32) &&& (3 : Int32))), .val (.int v38_8), .val (.int v50_11), .val (.ref b13), .val (.ref b34), .val (.ref b34), .val (.int v96_65)] [(.int (F40 i1 i2 i1 i2))])
                have J181_80 : ∀ (v181_79 : Int32), v181_79 = (if (F40 i1 i2 i1 i2) = (0 : Int32) then (0 : Int32) else (1 : Int32)) → Go p e below Qo T73 (mkF m 189 #[.val (.int i1), .val (.int i2), .val (.int i3), .val (.int i4), .val (.int i5), .val (.int v4_2), .val (.int v18_5), .val (.int (((i5.toUInt32 >>> ((2 : Int32) &&& 31).toUInt32).toInt32) &&& (3 : Int32))), .val (.int v38_8), .val (.int v50_11), .val (.ref b13), .val (.ref b34), .val (.ref b34), .val (.int v96_65)] [(.int v181_79)]) := by
                  intro v181_79 hv181_79
                  show Go p e below Qo T73 (mkF m 189 #[.val (.int i1), .val (.int i2), .val (.int i3), .val (.int i4), .val (.int i5), .val (.int v4_2), .val (.int v18_5), .val (.int (((i5.toUInt32 >>> ((2 : Int32) &&& 31).toUInt32).toInt32) &&& (3 : Int32))), .val (.int v38_8), .val (.int v50_11), .val (.ref b13), .val (.ref b34), .val (.ref b34), .val (.int v96_65)] [(.int v181_79)])
                  have hfin : v181_79 = 1 := by
                    exact hv181_79.trans (if_neg (own_self _ _))
                  exact own_retN X73 hx Bd.notSynchronized (t := .boolean) Bd.returns (by simp) (hb hby at_189) (fun u hu hF => hQo _ _ _ ⟨by rw [hfin]; rfl, N77⟩ (own_mono hF (by decide) (by decide)))
                by_cases hc181_81 : (F40 i1 i2 i1 i2) = (0 : Int32)
                · refine Go.of (fun t k => XS.ifYes X73.here hx rfl (pc0 := 181) (pc' := 188) rfl (hb hby at_181) rfl ((if0 _ _).trans (teq hc181_81).1) (by decide) (by decide) k) ?_
                  show Go p e below Qo T73 (mkF m 188 #[.val (.int i1), .val (.int i2), .val (.int i3), .val (.int i4), .val (.int i5), .val (.int v4_2), .val (.int v18_5), .val (.int (((i5.toUInt32 >>> ((2 : Int32) &&& 31).toUInt32).toInt32) &&& (3 : Int32))), .val (.int v38_8), .val (.int v50_11), .val (.ref b13), .val (.ref b34), .val (.ref b34), .val (.int v96_65)] [])
                  refine Go.of (fun t k => XS.iconst X73.here hx rfl (hb hby at_188) k) ?_
                  show Go p e below Qo T73 (mkF m 189 #[.val (.int i1), .val (.int i2), .val (.int i3), .val (.int i4), .val (.int i5), .val (.int v4_2), .val (.int v18_5), .val (.int (((i5.toUInt32 >>> ((2 : Int32) &&& 31).toUInt32).toInt32) &&& (3 : Int32))), .val (.int v38_8), .val (.int v50_11), .val (.ref b13), .val (.ref b34), .val (.ref b34), .val (.int v96_65)] [(.int (0 : Int32))])
                  exact J181_80 _ (by first | rfl | (rw [if_pos hc181_81]) | (simp only [hc181_81, if_true, if_false]; done) | simp [hc181_81])
                · refine Go.of (fun t k => XS.ifNo X73.here hx rfl (hb hby at_181) rfl ((if0 _ _).trans (feq hc181_81).1) k) ?_
                  show Go p e below Qo T73 (mkF m 184 #[.val (.int i1), .val (.int i2), .val (.int i3), .val (.int i4), .val (.int i5), .val (.int v4_2), .val (.int v18_5), .val (.int (((i5.toUInt32 >>> ((2 : Int32) &&& 31).toUInt32).toInt32) &&& (3 : Int32))), .val (.int v38_8), .val (.int v50_11), .val (.ref b13), .val (.ref b34), .val (.ref b34), .val (.int v96_65)] [])
                  refine Go.of (fun t k => XS.iconst X73.here hx rfl (hb hby at_184) k) ?_
                  show Go p e below Qo T73 (mkF m 185 #[.val (.int i1), .val (.int i2), .val (.int i3), .val (.int i4), .val (.int i5), .val (.int v4_2), .val (.int v18_5), .val (.int (((i5.toUInt32 >>> ((2 : Int32) &&& 31).toUInt32).toInt32) &&& (3 : Int32))), .val (.int v38_8), .val (.int v50_11), .val (.ref b13), .val (.ref b34), .val (.ref b34), .val (.int v96_65)] [(.int (1 : Int32))])
                  refine Go.of (fun t k => XS.goto X73.here hx rfl (pc0 := 185) (pc' := 189) rfl (hb hby at_185) (by decide) (by decide) k) ?_
                  show Go p e below Qo T73 (mkF m 189 #[.val (.int i1), .val (.int i2), .val (.int i3), .val (.int i4), .val (.int i5), .val (.int v4_2), .val (.int v18_5), .val (.int (((i5.toUInt32 >>> ((2 : Int32) &&& 31).toUInt32).toInt32) &&& (3 : Int32))), .val (.int v38_8), .val (.int v50_11), .val (.ref b13), .val (.ref b34), .val (.ref b34), .val (.int v96_65)] [(.int (1 : Int32))])
                  exact J181_80 _ (by first | rfl | (rw [if_neg hc181_81]) | (simp only [hc181_81, if_true, if_false]; done) | simp [hc181_81])
              · refine Go.of (fun t k => XS.icmpYes X67.here hx rfl (pc0 := 171) (pc' := 188) rfl (hb hby at_171) rfl (feq hc171_72).2 (by decide) (by decide) k) ?_
                show Go p e below Qo T67 (mkF m 188 #[.val (.int i1), .val (.int i2), .val (.int i3), .val (.int i4), .val (.int i5), .val (.int v4_2), .val (.int v18_5), .val (.int (((i5.toUInt32 >>> ((2 : Int32) &&& 31).toUInt32).toInt32) &&& (3 : Int32))), .val (.int v38_8), .val (.int v50_11), .val (.ref b13), .val (.ref b34), .val (.ref b34), .val (.int v96_65)] [])
                refine Go.of (fun t k => XS.iconst X67.here hx rfl (hb hby at_188) k) ?_
                show Go p e below Qo T67 (mkF m 189 #[.val (.int i1), .val (.int i2), .val (.int i3), .val (.int i4), .val (.int i5), .val (.int v4_2), .val (.int v18_5), .val (.int (((i5.toUInt32 >>> ((2 : Int32) &&& 31).toUInt32).toInt32) &&& (3 : Int32))), .val (.int v38_8), .val (.int v50_11), .val (.ref b13), .val (.ref b34), .val (.ref b34), .val (.int v96_65)] [(.int (0 : Int32))])
                exfalso
                exact hc171_72 ((own_eq _ _ _ _).trans hv96_65.symm)
            by_cases hc96_82 : i1 = v38_8
            · refine Go.of (fun t k => XS.icmpNo X47.here hx rfl (hb hby at_96) rfl (teq hc96_82).2 k) ?_
              show Go p e below Qo T47 (mkF m 99 #[.val (.int i1), .val (.int i2), .val (.int i3), .val (.int i4), .val (.int i5), .val (.int v4_2), .val (.int v18_5), .val (.int (((i5.toUInt32 >>> ((2 : Int32) &&& 31).toUInt32).toInt32) &&& (3 : Int32))), .val (.int v38_8), .val (.int v50_11), .val (.ref b13), .val (.ref b34), .val (.ref b34), .unset] [])
              refine Go.of (fun t k => XS.iloadN X47.here hx rfl (hb hby at_99) rfl  k) ?_
              show Go p e below Qo T47 (mkF m 100 #[.val (.int i1), .val (.int i2), .val (.int i3), .val (.int i4), .val (.int i5), .val (.int v4_2), .val (.int v18_5), .val (.int (((i5.toUInt32 >>> ((2 : Int32) &&& 31).toUInt32).toInt32) &&& (3 : Int32))), .val (.int v38_8), .val (.int v50_11), .val (.ref b13), .val (.ref b34), .val (.ref b34), .unset] [(.int i2)])
              refine Go.of (fun t k => XS.iload X47.here hx rfl (hb hby at_100) rfl  k) ?_
              show Go p e below Qo T47 (mkF m 102 #[.val (.int i1), .val (.int i2), .val (.int i3), .val (.int i4), .val (.int i5), .val (.int v4_2), .val (.int v18_5), .val (.int (((i5.toUInt32 >>> ((2 : Int32) &&& 31).toUInt32).toInt32) &&& (3 : Int32))), .val (.int v38_8), .val (.int v50_11), .val (.ref b13), .val (.ref b34), .val (.ref b34), .unset] [(.int v50_11), (.int i2)])
              by_cases hc102_83 : i2 = v50_11
              · refine Go.of (fun t k => XS.icmpNo X47.here hx rfl (hb hby at_102) rfl (teq hc102_83).2 k) ?_
                show Go p e below Qo T47 (mkF m 105 #[.val (.int i1), .val (.int i2), .val (.int i3), .val (.int i4), .val (.int i5), .val (.int v4_2), .val (.int v18_5), .val (.int (((i5.toUInt32 >>> ((2 : Int32) &&& 31).toUInt32).toInt32) &&& (3 : Int32))), .val (.int v38_8), .val (.int v50_11), .val (.ref b13), .val (.ref b34), .val (.ref b34), .unset] [])
                refine Go.of (fun t k => XS.iconst X47.here hx rfl (hb hby at_105) k) ?_
                show Go p e below Qo T47 (mkF m 106 #[.val (.int i1), .val (.int i2), .val (.int i3), .val (.int i4), .val (.int i5), .val (.int v4_2), .val (.int v18_5), .val (.int (((i5.toUInt32 >>> ((2 : Int32) &&& 31).toUInt32).toInt32) &&& (3 : Int32))), .val (.int v38_8), .val (.int v50_11), .val (.ref b13), .val (.ref b34), .val (.ref b34), .unset] [(.int (1 : Int32))])
                refine Go.of (fun t k => XS.goto X47.here hx rfl (pc0 := 106) (pc' := 110) rfl (hb hby at_106) (by decide) (by decide) k) ?_
                show Go p e below Qo T47 (mkF m 110 #[.val (.int i1), .val (.int i2), .val (.int i3), .val (.int i4), .val (.int i5), .val (.int v4_2), .val (.int v18_5), .val (.int (((i5.toUInt32 >>> ((2 : Int32) &&& 31).toUInt32).toInt32) &&& (3 : Int32))), .val (.int v38_8), .val (.int v50_11), .val (.ref b13), .val (.ref b34), .val (.ref b34), .unset] [(.int (1 : Int32))])
                exact J96_66 _ (by first | rfl | (rw [if_pos hc96_82, if_pos hc102_83]) | (simp only [hc96_82, hc102_83, if_true, if_false]; done) | simp [hc96_82, hc102_83])
              · refine Go.of (fun t k => XS.icmpYes X47.here hx rfl (pc0 := 102) (pc' := 109) rfl (hb hby at_102) rfl (feq hc102_83).2 (by decide) (by decide) k) ?_
                show Go p e below Qo T47 (mkF m 109 #[.val (.int i1), .val (.int i2), .val (.int i3), .val (.int i4), .val (.int i5), .val (.int v4_2), .val (.int v18_5), .val (.int (((i5.toUInt32 >>> ((2 : Int32) &&& 31).toUInt32).toInt32) &&& (3 : Int32))), .val (.int v38_8), .val (.int v50_11), .val (.ref b13), .val (.ref b34), .val (.ref b34), .unset] [])
                refine Go.of (fun t k => XS.iconst X47.here hx rfl (hb hby at_109) k) ?_
                show Go p e below Qo T47 (mkF m 110 #[.val (.int i1), .val (.int i2), .val (.int i3), .val (.int i4), .val (.int i5), .val (.int v4_2), .val (.int v18_5), .val (.int (((i5.toUInt32 >>> ((2 : Int32) &&& 31).toUInt32).toInt32) &&& (3 : Int32))), .val (.int v38_8), .val (.int v50_11), .val (.ref b13), .val (.ref b34), .val (.ref b34), .unset] [(.int (0 : Int32))])
                exact J96_66 _ (by first | rfl | (rw [if_pos hc96_82, if_neg hc102_83]) | (simp only [hc96_82, hc102_83, if_true, if_false]; done) | simp [hc96_82, hc102_83])
            · refine Go.of (fun t k => XS.icmpYes X47.here hx rfl (pc0 := 96) (pc' := 109) rfl (hb hby at_96) rfl (feq hc96_82).2 (by decide) (by decide) k) ?_
              show Go p e below Qo T47 (mkF m 109 #[.val (.int i1), .val (.int i2), .val (.int i3), .val (.int i4), .val (.int i5), .val (.int v4_2), .val (.int v18_5), .val (.int (((i5.toUInt32 >>> ((2 : Int32) &&& 31).toUInt32).toInt32) &&& (3 : Int32))), .val (.int v38_8), .val (.int v50_11), .val (.ref b13), .val (.ref b34), .val (.ref b34), .unset] [])
              refine Go.of (fun t k => XS.iconst X47.here hx rfl (hb hby at_109) k) ?_
              show Go p e below Qo T47 (mkF m 110 #[.val (.int i1), .val (.int i2), .val (.int i3), .val (.int i4), .val (.int i5), .val (.int v4_2), .val (.int v18_5), .val (.int (((i5.toUInt32 >>> ((2 : Int32) &&& 31).toUInt32).toInt32) &&& (3 : Int32))), .val (.int v38_8), .val (.int v50_11), .val (.ref b13), .val (.ref b34), .val (.ref b34), .unset] [(.int (0 : Int32))])
              exact J96_66 _ (by first | rfl | (rw [if_neg hc96_82]) | (simp only [hc96_82, if_true, if_false]; done) | simp [hc96_82])
          · refine Go.of (fun t k => XS.ifYes X47.here hx rfl (pc0 := 86) (pc' := 115) rfl (hb hby at_86) rfl ((if0 _ _).trans (feq hc86_62).2) (by decide) (by decide) k) ?_
            show Go p e below Qo T47 (mkF m 115 #[.val (.int i1), .val (.int i2), .val (.int i3), .val (.int i4), .val (.int i5), .val (.int v4_2), .val (.int v18_5), .val (.int (((i5.toUInt32 >>> ((2 : Int32) &&& 31).toUInt32).toInt32) &&& (3 : Int32))), .val (.int v38_8), .val (.int v50_11), .val (.ref b13), .val (.ref b34), .unset, .unset] [])
            refine Go.of (fun t k => XS.iload X47.here hx rfl (hb hby at_115) rfl  k) ?_
            show Go p e below Qo T47 (mkF m 117 #[.val (.int i1), .val (.int i2), .val (.int i3), .val (.int i4), .val (.int i5), .val (.int v4_2), .val (.int v18_5), .val (.int (((i5.toUInt32 >>> ((2 : Int32) &&& 31).toUInt32).toInt32) &&& (3 : Int32))), .val (.int v38_8), .val (.int v50_11), .val (.ref b13), .val (.ref b34), .unset, .unset] [(.int (((i5.toUInt32 >>> ((2 : Int32) &&& 31).toUInt32).toInt32) &&& (3 : Int32)))])
            refine Go.of (fun t k => XS.iconst X47.here hx rfl (hb hby at_117) k) ?_
            show Go p e below Qo T47 (mkF m 118 #[.val (.int i1), .val (.int i2), .val (.int i3), .val (.int i4), .val (.int i5), .val (.int v4_2), .val (.int v18_5), .val (.int (((i5.toUInt32 >>> ((2 : Int32) &&& 31).toUInt32).toInt32) &&& (3 : Int32))), .val (.int v38_8), .val (.int v50_11), .val (.ref b13), .val (.ref b34), .unset, .unset] [(.int (1 : Int32)), (.int (((i5.toUInt32 >>> ((2 : Int32) &&& 31).toUInt32).toInt32) &&& (3 : Int32)))])
            by_cases hc118_84 : (((i5.toUInt32 >>> ((2 : Int32) &&& 31).toUInt32).toInt32) &&& (3 : Int32)) = (1 : Int32)
            · refine Go.of (fun t k => XS.icmpNo X47.here hx rfl (hb hby at_118) rfl (teq hc118_84).2 k) ?_
              show Go p e below Qo T47 (mkF m 121 #[.val (.int i1), .val (.int i2), .val (.int i3), .val (.int i4), .val (.int i5), .val (.int v4_2), .val (.int v18_5), .val (.int (((i5.toUInt32 >>> ((2 : Int32) &&& 31).toUInt32).toInt32) &&& (3 : Int32))), .val (.int v38_8), .val (.int v50_11), .val (.ref b13), .val (.ref b34), .unset, .unset] [])
              refine Go.of (fun t k => XS.aconstNull X47.here hx rfl (hb hby at_121) k) ?_
              show Go p e below Qo T47 (mkF m 122 #[.val (.int i1), .val (.int i2), .val (.int i3), .val (.int i4), .val (.int i5), .val (.int v4_2), .val (.int v18_5), .val (.int (((i5.toUInt32 >>> ((2 : Int32) &&& 31).toUInt32).toInt32) &&& (3 : Int32))), .val (.int v38_8), .val (.int v50_11), .val (.ref b13), .val (.ref b34), .unset, .unset] [.null])
              refine Go.of (fun t k => XS.astore X47.here hx rfl (hb hby at_122) rfl rfl (l' := #[.val (.int i1), .val (.int i2), .val (.int i3), .val (.int i4), .val (.int i5), .val (.int v4_2), .val (.int v18_5), .val (.int (((i5.toUInt32 >>> ((2 : Int32) &&& 31).toUInt32).toInt32) &&& (3 : Int32))), .val (.int v38_8), .val (.int v50_11), .val (.ref b13), .val (.ref b34), .val .null, .unset]) rfl k) ?_
              show Go p e below Qo T47 (mkF m 124 #[.val (.int i1), .val (.int i2), .val (.int i3), .val (.int i4), .val (.int i5), .val (.int v4_2), .val (.int v18_5), .val (.int (((i5.toUInt32 >>> ((2 : Int32) &&& 31).toUInt32).toInt32) &&& (3 : Int32))), .val (.int v38_8), .val (.int v50_11), .val (.ref b13), .val (.ref b34), .val .null, .unset] [])
              refine Go.of (fun t k => XS.iconst X47.here hx rfl (hb hby at_124) k) ?_
              show Go p e below Qo T47 (mkF m 125 #[.val (.int i1), .val (.int i2), .val (.int i3), .val (.int i4), .val (.int i5), .val (.int v4_2), .val (.int v18_5), .val (.int (((i5.toUInt32 >>> ((2 : Int32) &&& 31).toUInt32).toInt32) &&& (3 : Int32))), .val (.int v38_8), .val (.int v50_11), .val (.ref b13), .val (.ref b34), .val .null, .unset] [(.int (0 : Int32))])
              refine Go.of (fun t k => XS.istore X47.here hx rfl (hb hby at_125) rfl (l' := #[.val (.int i1), .val (.int i2), .val (.int i3), .val (.int i4), .val (.int i5), .val (.int v4_2), .val (.int v18_5), .val (.int (((i5.toUInt32 >>> ((2 : Int32) &&& 31).toUInt32).toInt32) &&& (3 : Int32))), .val (.int v38_8), .val (.int v50_11), .val (.ref b13), .val (.ref b34), .val .null, .val (.int (0 : Int32))]) rfl k) ?_
              show Go p e below Qo T47 (mkF m 127 #[.val (.int i1), .val (.int i2), .val (.int i3), .val (.int i4), .val (.int i5), .val (.int v4_2), .val (.int v18_5), .val (.int (((i5.toUInt32 >>> ((2 : Int32) &&& 31).toUInt32).toInt32) &&& (3 : Int32))), .val (.int v38_8), .val (.int v50_11), .val (.ref b13), .val (.ref b34), .val .null, .val (.int (0 : Int32))] [])
              refine Go.of (fun t k => XS.goto X47.here hx rfl (pc0 := 127) (pc' := 162) rfl (hb hby at_127) (by decide) (by decide) k) ?_
              show Go p e below Qo T47 (mkF m 162 #[.val (.int i1), .val (.int i2), .val (.int i3), .val (.int i4), .val (.int i5), .val (.int v4_2), .val (.int v18_5), .val (.int (((i5.toUInt32 >>> ((2 : Int32) &&& 31).toUInt32).toInt32) &&& (3 : Int32))), .val (.int v38_8), .val (.int v50_11), .val (.ref b13), .val (.ref b34), .val .null, .val (.int (0 : Int32))] [])
              refine Go.of (fun t k => XS.aload X47.here hx rfl (hb hby at_162) rfl rfl k) ?_
              show Go p e below Qo T47 (mkF m 164 #[.val (.int i1), .val (.int i2), .val (.int i3), .val (.int i4), .val (.int i5), .val (.int v4_2), .val (.int v18_5), .val (.int (((i5.toUInt32 >>> ((2 : Int32) &&& 31).toUInt32).toInt32) &&& (3 : Int32))), .val (.int v38_8), .val (.int v50_11), .val (.ref b13), .val (.ref b34), .val .null, .val (.int (0 : Int32))] [(.ref b13)])
              refine Go.of (fun t k => XS.aload X47.here hx rfl (hb hby at_164) rfl rfl k) ?_
              show Go p e below Qo T47 (mkF m 166 #[.val (.int i1), .val (.int i2), .val (.int i3), .val (.int i4), .val (.int i5), .val (.int v4_2), .val (.int v18_5), .val (.int (((i5.toUInt32 >>> ((2 : Int32) &&& 31).toUInt32).toInt32) &&& (3 : Int32))), .val (.int v38_8), .val (.int v50_11), .val (.ref b13), .val (.ref b34), .val .null, .val (.int (0 : Int32))] [.null, (.ref b13)])
              obtain ⟨ciq86, kiq86, iq86a, iq86b, iq86c⟩ := isOf hZ rfl q58
              obtain ⟨_, _, ⟨T85, L85, k85, n85⟩, -, X85, ⟨Lc85, hQ85, l85, y85, z85⟩, st85⟩ := X47.virtualBack hx (y := (⟨"com/example/konakis/konakis/engine/Square", "equals", "(Ljava/lang/Object;)Z"⟩ : MethodName)) (z := (⟨"com/example/konakis/konakis/engine/Square", "equals", "(Ljava/lang/Object;)Z"⟩ : MethodName)) hown (mvT hZ (hw _ (List.mem_of_getElem? (i := 18) rfl))) (mvT hZ (hw _ (List.mem_of_getElem? (i := 19) rfl))) (notFace_of_selects (args := #[]) (mvT hZ (hw _ (List.mem_of_getElem? (i := 21) rfl)))) (mvT hZ (hw _ (List.mem_of_getElem? (i := 21) rfl))) (mvT hZ (hw _ (List.mem_of_getElem? (i := 20) rfl))) (by decide) (backOf (W := 0) (rm41 l Z a0 hw [] b13 T47.heap n0 Z61 ) hZ (hw _ (List.mem_of_getElem? (i := 22) rfl)) (hw _ (List.mem_of_getElem? (i := 2) rfl)) (by decide) (by decide)) iq86a iq86c (g := (mkF m 166 #[.val (.int i1), .val (.int i2), .val (.int i3), .val (.int i4), .val (.int i5), .val (.int v4_2), .val (.int v18_5), .val (.int (((i5.toUInt32 >>> ((2 : Int32) &&& 31).toUInt32).toInt32) &&& (3 : Int32))), .val (.int v38_8), .val (.int v50_11), .val (.ref b13), .val (.ref b34), .val .null, .val (.int (0 : Int32))] [.null, (.ref b13)])) rfl (by rw [hml]; rfl) (Steps.refl _) (argsL := [.null]) (rest := []) (lenOf pd_6 rfl) rfl (by show 2 * 0 + _ ≤ _; exact Nat.le_of_eq rfl) (hb hby at_166) (fun _ _ => ⟨rfl, rfl, (by decide : 2 + 0 ≤ _), (by decide : 4 + 0 ≤ _)⟩)
              dsimp only [Pt.U, Pt.locs, Pt.cells, Pt.slots] at X85 l85 y85 z85 st85 hQ85
              subst l85 y85 z85
              obtain ⟨rfl, N87, eh88⟩ := hQ85
              have N89 := Fr.app N53 N87
              refine Go.via st85 ?_
              show Go p e below Qo T85 (mkF m 169 #[.val (.int i1), .val (.int i2), .val (.int i3), .val (.int i4), .val (.int i5), .val (.int v4_2), .val (.int v18_5), .val (.int (((i5.toUInt32 >>> ((2 : Int32) &&& 31).toUInt32).toInt32) &&& (3 : Int32))), .val (.int v38_8), .val (.int v50_11), .val (.ref b13), .val (.ref b34), .val .null, .val (.int (0 : Int32))] [(.int (0 : Int32))])
              refine Go.of (fun t k => XS.iload X85.here hx rfl (hb hby at_169) rfl  k) ?_
              show Go p e below Qo T85 (mkF m 171 #[.val (.int i1), .val (.int i2), .val (.int i3), .val (.int i4), .val (.int i5), .val (.int v4_2), .val (.int v18_5), .val (.int (((i5.toUInt32 >>> ((2 : Int32) &&& 31).toUInt32).toInt32) &&& (3 : Int32))), .val (.int v38_8), .val (.int v50_11), .val (.ref b13), .val (.ref b34), .val .null, .val (.int (0 : Int32))] [(.int (0 : Int32)), (.int (0 : Int32))])
              refine Go.of (fun t k => XS.icmpNo X85.here hx rfl (hb hby at_171) rfl (teq (by decide : (0 : Int32) = (0 : Int32))).2 k) ?_
              show Go p e below Qo T85 (mkF m 174 #[.val (.int i1), .val (.int i2), .val (.int i3), .val (.int i4), .val (.int i5), .val (.int v4_2), .val (.int v18_5), .val (.int (((i5.toUInt32 >>> ((2 : Int32) &&& 31).toUInt32).toInt32) &&& (3 : Int32))), .val (.int v38_8), .val (.int v50_11), .val (.ref b13), .val (.ref b34), .val .null, .val (.int (0 : Int32))] [])
              refine Go.of (fun t k => XS.aload X85.here hx rfl (hb hby at_174) rfl rfl k) ?_
              show Go p e below Qo T85 (mkF m 176 #[.val (.int i1), .val (.int i2), .val (.int i3), .val (.int i4), .val (.int i5), .val (.int v4_2), .val (.int v18_5), .val (.int (((i5.toUInt32 >>> ((2 : Int32) &&& 31).toUInt32).toInt32) &&& (3 : Int32))), .val (.int v38_8), .val (.int v50_11), .val (.ref b13), .val (.ref b34), .val .null, .val (.int (0 : Int32))] [(.ref b13)])
              refine Go.of (fun t k => XS.aload X85.here hx rfl (hb hby at_176) rfl rfl k) ?_
              show Go p e below Qo T85 (mkF m 178 #[.val (.int i1), .val (.int i2), .val (.int i3), .val (.int i4), .val (.int i5), .val (.int v4_2), .val (.int v18_5), .val (.int (((i5.toUInt32 >>> ((2 : Int32) &&& 31).toUInt32).toInt32) &&& (3 : Int32))), .val (.int v38_8), .val (.int v50_11), .val (.ref b13), .val (.ref b34), .val .null, .val (.int (0 : Int32))] [(.ref b13), (.ref b13)])
              obtain ⟨ciq91, kiq91, iq91a, iq91b, iq91c⟩ := isOf hZ eh88 q58
              obtain ⟨_, _, ⟨T90, L90, k90, n90⟩, -, X90, ⟨Lc90, hQ90, l90, y90, z90⟩, st90⟩ := X85.virtualBack hx (y := (⟨"com/example/konakis/konakis/engine/Square", "equals", "(Ljava/lang/Object;)Z"⟩ : MethodName)) (z := (⟨"com/example/konakis/konakis/engine/Square", "equals", "(Ljava/lang/Object;)Z"⟩ : MethodName)) hown (mvT hZ (hw _ (List.mem_of_getElem? (i := 18) rfl))) (mvT hZ (hw _ (List.mem_of_getElem? (i := 19) rfl))) (notFace_of_selects (args := #[]) (mvT hZ (hw _ (List.mem_of_getElem? (i := 21) rfl)))) (mvT hZ (hw _ (List.mem_of_getElem? (i := 21) rfl))) (mvT hZ (hw _ (List.mem_of_getElem? (i := 20) rfl))) (by decide) (backOf (W := 0) (rm40 l Z a0 hw [] b13 b13 i1 i2 i1 i2 T47.heap n0 Z61 q58 q59 q60 q59 q60) hZ (hw _ (List.mem_of_getElem? (i := 22) rfl)) (hw _ (List.mem_of_getElem? (i := 2) rfl)) (by decide) (by decide)) iq91a iq91c (g := (mkF m 178 #[.val (.int i1), .val (.int i2), .val (.int i3), .val (.int i4), .val (.int i5), .val (.int v4_2), .val (.int v18_5), .val (.int (((i5.toUInt32 >>> ((2 : Int32) &&& 31).toUInt32).toInt32) &&& (3 : Int32))), .val (.int v38_8), .val (.int v50_11), .val (.ref b13), .val (.ref b34), .val .null, .val (.int (0 : Int32))] [(.ref b13), (.ref b13)])) rfl (by rw [hml]; rfl) (Steps.refl _) (argsL := [(.ref b13)]) (rest := []) (lenOf pd_6 rfl) rfl (by show 2 * 0 + _ ≤ _; exact Nat.le_of_eq rfl) (hb hby at_178) (fun _ _ => ⟨rfl, eh88, (by decide : 2 + 0 ≤ _), (by decide : 4 + 0 ≤ _)⟩)
              dsimp only [Pt.U, Pt.locs, Pt.cells, Pt.slots] at X90 l90 y90 z90 st90 hQ90
              subst l90 y90 z90
              obtain ⟨rfl, N92, eh93⟩ := hQ90
              have N94 := Fr.app N89 N92
              refine Go.via st90 ?_
              show Go p e below Qo T90 (mkF m 181 #[.val (.int i1), .val (.int i2), .val (.int i3), .val (.int i4), .val (.int i5), .val (.int v4_2), .val (.int v18_5), .val (.int (((i5.toUInt32 >>> ((2 : Int32) &&& 31).toUInt32).toInt32) &&& (3 : Int32))), .val (.int v38_8), .val (.int v50_11), .val (.ref b13), .val (.ref b34), .val .null, .val (.int (0 : Int32))] [(.int (F40 i1 i2 i1 i2))])
              have J181_97 : ∀ (v181_96 : Int32), v181_96 = (if (F40 i1 i2 i1 i2) = (0 : Int32) then (0 : Int32) else (1 : Int32)) → Go p e below Qo T90 (mkF m 189 #[.val (.int i1), .val (.int i2), .val (.int i3), .val (.int i4), .val (.int i5), .val (.int v4_2), .val (.int v18_5), .val (.int (((i5.toUInt32 >>> ((2 : Int32) &&& 31).toUInt32).toInt32) &&& (3 : Int32))), .val (.int v38_8), .val (.int v50_11), .val (.ref b13), .val (.ref b34), .val .null, .val (.int (0 : Int32))] [(.int v181_96)]) := by
                intro v181_96 hv181_96
                show Go p e below Qo T90 (mkF m 189 #[.val (.int i1), .val (.int i2), .val (.int i3), .val (.int i4), .val (.int i5), .val (.int v4_2), .val (.int v18_5), .val (.int (((i5.toUInt32 >>> ((2 : Int32) &&& 31).toUInt32).toInt32) &&& (3 : Int32))), .val (.int v38_8), .val (.int v50_11), .val (.ref b13), .val (.ref b34), .val .null, .val (.int (0 : Int32))] [(.int v181_96)])
                have hfin : v181_96 = 1 := by
                  exact hv181_96.trans (if_neg (own_self _ _))
                exact own_retN X90 hx Bd.notSynchronized (t := .boolean) Bd.returns (by simp) (hb hby at_189) (fun u hu hF => hQo _ _ _ ⟨by rw [hfin]; rfl, N94⟩ (own_mono hF (by decide) (by decide)))
              by_cases hc181_98 : (F40 i1 i2 i1 i2) = (0 : Int32)
              · refine Go.of (fun t k => XS.ifYes X90.here hx rfl (pc0 := 181) (pc' := 188) rfl (hb hby at_181) rfl ((if0 _ _).trans (teq hc181_98).1) (by decide) (by decide) k) ?_
                show Go p e below Qo T90 (mkF m 188 #[.val (.int i1), .val (.int i2), .val (.int i3), .val (.int i4), .val (.int i5), .val (.int v4_2), .val (.int v18_5), .val (.int (((i5.toUInt32 >>> ((2 : Int32) &&& 31).toUInt32).toInt32) &&& (3 : Int32))), .val (.int v38_8), .val (.int v50_11), .val (.ref b13), .val (.ref b34), .val .null, .val (.int (0 : Int32))] [])
                refine Go.of (fun t k => XS.iconst X90.here hx rfl (hb hby at_188) k) ?_
                show Go p e below Qo T90 (mkF m 189 #[.val (.int i1), .val (.int i2), .val (.int i3), .val (.int i4), .val (.int i5), .val (.int v4_2), .val (.int v18_5), .val (.int (((i5.toUInt32 >>> ((2 : Int32) &&& 31).toUInt32).toInt32) &&& (3 : Int32))), .val (.int v38_8), .val (.int v50_11), .val (.ref b13), .val (.ref b34), .val .null, .val (.int (0 : Int32))] [(.int (0 : Int32))])
                exact J181_97 _ (by first | rfl | (rw [if_pos hc181_98]) | (simp only [hc181_98, if_true, if_false]; done) | simp [hc181_98])
              · refine Go.of (fun t k => XS.ifNo X90.here hx rfl (hb hby at_181) rfl ((if0 _ _).trans (feq hc181_98).1) k) ?_
                show Go p e below Qo T90 (mkF m 184 #[.val (.int i1), .val (.int i2), .val (.int i3), .val (.int i4), .val (.int i5), .val (.int v4_2), .val (.int v18_5), .val (.int (((i5.toUInt32 >>> ((2 : Int32) &&& 31).toUInt32).toInt32) &&& (3 : Int32))), .val (.int v38_8), .val (.int v50_11), .val (.ref b13), .val (.ref b34), .val .null, .val (.int (0 : Int32))] [])
                refine Go.of (fun t k => XS.iconst X90.here hx rfl (hb hby at_184) k) ?_
                show Go p e below Qo T90 (mkF m 185 #[.val (.int i1), .val (.int i2), .val (.int i3), .val (.int i4), .val (.int i5), .val (.int v4_2), .val (.int v18_5), .val (.int (((i5.toUInt32 >>> ((2 : Int32) &&& 31).toUInt32).toInt32) &&& (3 : Int32))), .val (.int v38_8), .val (.int v50_11), .val (.ref b13), .val (.ref b34), .val .null, .val (.int (0 : Int32))] [(.int (1 : Int32))])
                refine Go.of (fun t k => XS.goto X90.here hx rfl (pc0 := 185) (pc' := 189) rfl (hb hby at_185) (by decide) (by decide) k) ?_
                show Go p e below Qo T90 (mkF m 189 #[.val (.int i1), .val (.int i2), .val (.int i3), .val (.int i4), .val (.int i5), .val (.int v4_2), .val (.int v18_5), .val (.int (((i5.toUInt32 >>> ((2 : Int32) &&& 31).toUInt32).toInt32) &&& (3 : Int32))), .val (.int v38_8), .val (.int v50_11), .val (.ref b13), .val (.ref b34), .val .null, .val (.int (0 : Int32))] [(.int (1 : Int32))])
                exact J181_97 _ (by first | rfl | (rw [if_neg hc181_98]) | (simp only [hc181_98, if_true, if_false]; done) | simp [hc181_98])
            · refine Go.of (fun t k => XS.icmpYes X47.here hx rfl (pc0 := 118) (pc' := 130) rfl (hb hby at_118) rfl (feq hc118_84).2 (by decide) (by decide) k) ?_
              show Go p e below Qo T47 (mkF m 130 #[.val (.int i1), .val (.int i2), .val (.int i3), .val (.int i4), .val (.int i5), .val (.int v4_2), .val (.int v18_5), .val (.int (((i5.toUInt32 >>> ((2 : Int32) &&& 31).toUInt32).toInt32) &&& (3 : Int32))), .val (.int v38_8), .val (.int v50_11), .val (.ref b13), .val (.ref b34), .unset, .unset] [])
              refine Go.of (fun t k => XS.iload X47.here hx rfl (hb hby at_130) rfl  k) ?_
              show Go p e below Qo T47 (mkF m 132 #[.val (.int i1), .val (.int i2), .val (.int i3), .val (.int i4), .val (.int i5), .val (.int v4_2), .val (.int v18_5), .val (.int (((i5.toUInt32 >>> ((2 : Int32) &&& 31).toUInt32).toInt32) &&& (3 : Int32))), .val (.int v38_8), .val (.int v50_11), .val (.ref b13), .val (.ref b34), .unset, .unset] [(.int (((i5.toUInt32 >>> ((2 : Int32) &&& 31).toUInt32).toInt32) &&& (3 : Int32)))])
              refine Go.of (fun t k => XS.iconst X47.here hx rfl (hb hby at_132) k) ?_
              show Go p e below Qo T47 (mkF m 133 #[.val (.int i1), .val (.int i2), .val (.int i3), .val (.int i4), .val (.int i5), .val (.int v4_2), .val (.int v18_5), .val (.int (((i5.toUInt32 >>> ((2 : Int32) &&& 31).toUInt32).toInt32) &&& (3 : Int32))), .val (.int v38_8), .val (.int v50_11), .val (.ref b13), .val (.ref b34), .unset, .unset] [(.int (2 : Int32)), (.int (((i5.toUInt32 >>> ((2 : Int32) &&& 31).toUInt32).toInt32) &&& (3 : Int32)))])
              by_cases hc133_99 : (((i5.toUInt32 >>> ((2 : Int32) &&& 31).toUInt32).toInt32) &&& (3 : Int32)) = (2 : Int32)
              · refine Go.of (fun t k => XS.icmpNo X47.here hx rfl (hb hby at_133) rfl (teq hc133_99).2 k) ?_
                show Go p e below Qo T47 (mkF m 136 #[.val (.int i1), .val (.int i2), .val (.int i3), .val (.int i4), .val (.int i5), .val (.int v4_2), .val (.int v18_5), .val (.int (((i5.toUInt32 >>> ((2 : Int32) &&& 31).toUInt32).toInt32) &&& (3 : Int32))), .val (.int v38_8), .val (.int v50_11), .val (.ref b13), .val (.ref b34), .unset, .unset] [])
                refine Go.of (fun t k => XS.iloadN X47.here hx rfl (hb hby at_136) rfl  k) ?_
                show Go p e below Qo T47 (mkF m 137 #[.val (.int i1), .val (.int i2), .val (.int i3), .val (.int i4), .val (.int i5), .val (.int v4_2), .val (.int v18_5), .val (.int (((i5.toUInt32 >>> ((2 : Int32) &&& 31).toUInt32).toInt32) &&& (3 : Int32))), .val (.int v38_8), .val (.int v50_11), .val (.ref b13), .val (.ref b34), .unset, .unset] [(.int i1)])
                refine Go.of (fun t k => XS.sipush X47.here hx rfl (hb hby at_137) k) ?_
                show Go p e below Qo T47 (mkF m 140 #[.val (.int i1), .val (.int i2), .val (.int i3), .val (.int i4), .val (.int i5), .val (.int v4_2), .val (.int v18_5), .val (.int (((i5.toUInt32 >>> ((2 : Int32) &&& 31).toUInt32).toInt32) &&& (3 : Int32))), .val (.int v38_8), .val (.int v50_11), .val (.ref b13), .val (.ref b34), .unset, .unset] [(.int (255 : Int32)), (.int i1)])
                refine Go.of (fun t k => XS.iand X47.here hx rfl (hb hby at_140) rfl k) ?_
                show Go p e below Qo T47 (mkF m 141 #[.val (.int i1), .val (.int i2), .val (.int i3), .val (.int i4), .val (.int i5), .val (.int v4_2), .val (.int v18_5), .val (.int (((i5.toUInt32 >>> ((2 : Int32) &&& 31).toUInt32).toInt32) &&& (3 : Int32))), .val (.int v38_8), .val (.int v50_11), .val (.ref b13), .val (.ref b34), .unset, .unset] [(.int (i1 &&& (255 : Int32)))])
                refine Go.of (fun t k => XS.i2c X47.here hx rfl (hb hby at_141) rfl k) ?_
                show Go p e below Qo T47 (mkF m 142 #[.val (.int i1), .val (.int i2), .val (.int i3), .val (.int i4), .val (.int i5), .val (.int v4_2), .val (.int v18_5), .val (.int (((i5.toUInt32 >>> ((2 : Int32) &&& 31).toUInt32).toInt32) &&& (3 : Int32))), .val (.int v38_8), .val (.int v50_11), .val (.ref b13), .val (.ref b34), .unset, .unset] [(.int ((i1 &&& (255 : Int32)).toUInt32.toUInt16.toUInt32.toInt32))])
                obtain ⟨_, _, ⟨T100, L100, k100, n100⟩, -, X100, ⟨Lc100, hQ100, l100, y100, z100⟩, st100⟩ := Jvm.LawKit.callS X47 hx (y := (⟨"java/lang/String", "valueOf", "(C)Ljava/lang/String;"⟩ : MethodName)) hown (mvT hZ (hw _ (List.mem_of_getElem? (i := 25) rfl))) (mvT hZ (hw _ (List.mem_of_getElem? (i := 26) rfl))) (mvT hZ (hw _ (List.mem_of_getElem? (i := 27) rfl))) (mvT hZ (hw _ (List.mem_of_getElem? (i := 28) rfl))) (by decide) (backOf (W := 0) (rm5 l Z a0 hw [] ((i1 &&& (255 : Int32)).toUInt32.toUInt16.toUInt32.toInt32) zc T47.heap n0 Z61 q54 (hz) (own_enc _)) hZ (hw _ (List.mem_of_getElem? (i := 28) rfl)) (hw _ (List.mem_of_getElem? (i := 27) rfl)) (by decide) (by decide)) (g := (mkF m 142 #[.val (.int i1), .val (.int i2), .val (.int i3), .val (.int i4), .val (.int i5), .val (.int v4_2), .val (.int v18_5), .val (.int (((i5.toUInt32 >>> ((2 : Int32) &&& 31).toUInt32).toInt32) &&& (3 : Int32))), .val (.int v38_8), .val (.int v50_11), .val (.ref b13), .val (.ref b34), .unset, .unset] [(.int ((i1 &&& (255 : Int32)).toUInt32.toUInt16.toUInt32.toInt32))])) rfl (by rw [hml]; rfl) (argsL := [(.int ((i1 &&& (255 : Int32)).toUInt32.toUInt16.toUInt32.toInt32))]) (rest := []) (lenOf pd_7 rfl) rfl (by show 2 * 0 + _ ≤ _; exact Nat.le_of_eq rfl) (hb hby at_142) (fun _ _ => ⟨rfl, rfl, (by decide : 2 + 2 ≤ _), (by decide : 4 + 5 ≤ _)⟩)
                dsimp only [Pt.U, Pt.locs, Pt.cells, Pt.slots] at X100 l100 y100 z100 st100 hQ100
                subst l100 y100 z100
                obtain ⟨x102, rfl, N101, Kc103, g105, q104⟩ := hQ100
                have N106 := Fr.app N53 N101
                have ne107 : b13 ≠ x102 := Nat.ne_of_lt (Nat.lt_of_lt_of_le q58.lt g105)
                have ne108 : b34 ≠ x102 := Nat.ne_of_lt (Nat.lt_of_lt_of_le q50.lt g105)
                have g109 : n0 ≤ x102 := Nat.le_trans Z61 g105
                have q110 : Sta Z T100.heap "java/lang/String" "COMPACT_STRINGS" "Z" (.int zc) := own_staKeep q54 Kc103 all0
                have q111 : Sta Z T100.heap "java/lang/Integer$IntegerCache" "high" "I" (.int (127 : Int32)) := own_staKeep q55 Kc103 all0
                have q112 : Sta Z T100.heap "java/lang/Integer$IntegerCache" "cache" "[Ljava/lang/Integer;" (.ref rc) := own_staKeep q56 Kc103 all0
                have q113 : Old Z n0 T100.heap := q57.keep Kc103 all0
                have q114 : Exa Z T100.heap b13 "com/example/konakis/konakis/engine/Square" := q58.keep Kc103
                have q115 : Fld Z T100.heap b13 "com/example/konakis/konakis/engine/Square" "file" "I" (.int i1) := q59.keep Kc103 nin0
                have q116 : Fld Z T100.heap b13 "com/example/konakis/konakis/engine/Square" "rank" "I" (.int i2) := q60.keep Kc103 nin0
                have q117 : Exa Z T100.heap b34 "com/example/konakis/konakis/engine/Square" := q50.keep Kc103
                have q118 : Fld Z T100.heap b34 "com/example/konakis/konakis/engine/Square" "file" "I" (.int v38_8) := q51.keep Kc103 nin0
                have q119 : Fld Z T100.heap b34 "com/example/konakis/konakis/engine/Square" "rank" "I" (.int v50_11) := q52.keep Kc103 nin0
                have Z120 : n0 ≤ T100.heap.size := Nat.le_trans Z61 Kc103.1
                refine Go.of st100 ?_
                show Go p e below Qo T100 (mkF m 145 #[.val (.int i1), .val (.int i2), .val (.int i3), .val (.int i4), .val (.int i5), .val (.int v4_2), .val (.int v18_5), .val (.int (((i5.toUInt32 >>> ((2 : Int32) &&& 31).toUInt32).toInt32) &&& (3 : Int32))), .val (.int v38_8), .val (.int v50_11), .val (.ref b13), .val (.ref b34), .unset, .unset] [(.ref x102)])
                refine Go.of (fun t k => XS.astore X100.here hx rfl (hb hby at_145) rfl rfl (l' := #[.val (.int i1), .val (.int i2), .val (.int i3), .val (.int i4), .val (.int i5), .val (.int v4_2), .val (.int v18_5), .val (.int (((i5.toUInt32 >>> ((2 : Int32) &&& 31).toUInt32).toInt32) &&& (3 : Int32))), .val (.int v38_8), .val (.int v50_11), .val (.ref b13), .val (.ref b34), .val (.ref x102), .unset]) rfl k) ?_
                show Go p e below Qo T100 (mkF m 147 #[.val (.int i1), .val (.int i2), .val (.int i3), .val (.int i4), .val (.int i5), .val (.int v4_2), .val (.int v18_5), .val (.int (((i5.toUInt32 >>> ((2 : Int32) &&& 31).toUInt32).toInt32) &&& (3 : Int32))), .val (.int v38_8), .val (.int v50_11), .val (.ref b13), .val (.ref b34), .val (.ref x102), .unset] [])
                refine Go.of (fun t k => XS.iconst X100.here hx rfl (hb hby at_147) k) ?_
                show Go p e below Qo T100 (mkF m 148 #[.val (.int i1), .val (.int i2), .val (.int i3), .val (.int i4), .val (.int i5), .val (.int v4_2), .val (.int v18_5), .val (.int (((i5.toUInt32 >>> ((2 : Int32) &&& 31).toUInt32).toInt32) &&& (3 : Int32))), .val (.int v38_8), .val (.int v50_11), .val (.ref b13), .val (.ref b34), .val (.ref x102), .unset] [(.int (0 : Int32))])
                refine Go.of (fun t k => XS.istore X100.here hx rfl (hb hby at_148) rfl (l' := #[.val (.int i1), .val (.int i2), .val (.int i3), .val (.int i4), .val (.int i5), .val (.int v4_2), .val (.int v18_5), .val (.int (((i5.toUInt32 >>> ((2 : Int32) &&& 31).toUInt32).toInt32) &&& (3 : Int32))), .val (.int v38_8), .val (.int v50_11), .val (.ref b13), .val (.ref b34), .val (.ref x102), .val (.int (0 : Int32))]) rfl k) ?_
                show Go p e below Qo T100 (mkF m 150 #[.val (.int i1), .val (.int i2), .val (.int i3), .val (.int i4), .val (.int i5), .val (.int v4_2), .val (.int v18_5), .val (.int (((i5.toUInt32 >>> ((2 : Int32) &&& 31).toUInt32).toInt32) &&& (3 : Int32))), .val (.int v38_8), .val (.int v50_11), .val (.ref b13), .val (.ref b34), .val (.ref x102), .val (.int (0 : Int32))] [])
                refine Go.of (fun t k => XS.goto X100.here hx rfl (pc0 := 150) (pc' := 162) rfl (hb hby at_150) (by decide) (by decide) k) ?_
                show Go p e below Qo T100 (mkF m 162 #[.val (.int i1), .val (.int i2), .val (.int i3), .val (.int i4), .val (.int i5), .val (.int v4_2), .val (.int v18_5), .val (.int (((i5.toUInt32 >>> ((2 : Int32) &&& 31).toUInt32).toInt32) &&& (3 : Int32))), .val (.int v38_8), .val (.int v50_11), .val (.ref b13), .val (.ref b34), .val (.ref x102), .val (.int (0 : Int32))] [])
                refine Go.of (fun t k => XS.aload X100.here hx rfl (hb hby at_162) rfl rfl k) ?_
                show Go p e below Qo T100 (mkF m 164 #[.val (.int i1), .val (.int i2), .val (.int i3), .val (.int i4), .val (.int i5), .val (.int v4_2), .val (.int v18_5), .val (.int (((i5.toUInt32 >>> ((2 : Int32) &&& 31).toUInt32).toInt32) &&& (3 : Int32))), .val (.int v38_8), .val (.int v50_11), .val (.ref b13), .val (.ref b34), .val (.ref x102), .val (.int (0 : Int32))] [(.ref b13)])
                refine Go.of (fun t k => XS.aload X100.here hx rfl (hb hby at_164) rfl rfl k) ?_
                show Go p e below Qo T100 (mkF m 166 #[.val (.int i1), .val (.int i2), .val (.int i3), .val (.int i4), .val (.int i5), .val (.int v4_2), .val (.int v18_5), .val (.int (((i5.toUInt32 >>> ((2 : Int32) &&& 31).toUInt32).toInt32) &&& (3 : Int32))), .val (.int v38_8), .val (.int v50_11), .val (.ref b13), .val (.ref b34), .val (.ref x102), .val (.int (0 : Int32))] [(.ref x102), (.ref b13)])
                obtain ⟨ciq122, kiq122, iq122a, iq122b, iq122c⟩ := isOf hZ rfl q114
                obtain ⟨_, _, ⟨T121, L121, k121, n121⟩, -, X121, ⟨Lc121, hQ121, l121, y121, z121⟩, st121⟩ := X100.virtualBack hx (y := (⟨"com/example/konakis/konakis/engine/Square", "equals", "(Ljava/lang/Object;)Z"⟩ : MethodName)) (z := (⟨"com/example/konakis/konakis/engine/Square", "equals", "(Ljava/lang/Object;)Z"⟩ : MethodName)) hown (mvT hZ (hw _ (List.mem_of_getElem? (i := 18) rfl))) (mvT hZ (hw _ (List.mem_of_getElem? (i := 19) rfl))) (notFace_of_selects (args := #[]) (mvT hZ (hw _ (List.mem_of_getElem? (i := 21) rfl)))) (mvT hZ (hw _ (List.mem_of_getElem? (i := 21) rfl))) (mvT hZ (hw _ (List.mem_of_getElem? (i := 20) rfl))) (by decide) (backOf (W := 0) (rm42 l Z a0 hw [] b13 x102 T100.heap n0 Z120 q104) hZ (hw _ (List.mem_of_getElem? (i := 22) rfl)) (hw _ (List.mem_of_getElem? (i := 2) rfl)) (by decide) (by decide)) iq122a iq122c (g := (mkF m 166 #[.val (.int i1), .val (.int i2), .val (.int i3), .val (.int i4), .val (.int i5), .val (.int v4_2), .val (.int v18_5), .val (.int (((i5.toUInt32 >>> ((2 : Int32) &&& 31).toUInt32).toInt32) &&& (3 : Int32))), .val (.int v38_8), .val (.int v50_11), .val (.ref b13), .val (.ref b34), .val (.ref x102), .val (.int (0 : Int32))] [(.ref x102), (.ref b13)])) rfl (by rw [hml]; rfl) (Steps.refl _) (argsL := [(.ref x102)]) (rest := []) (lenOf pd_6 rfl) rfl (by show 2 * 0 + _ ≤ _; exact Nat.le_of_eq rfl) (hb hby at_166) (fun _ _ => ⟨rfl, rfl, (by decide : 4 + 0 ≤ _), (by decide : 9 + 0 ≤ _)⟩)
                dsimp only [Pt.U, Pt.locs, Pt.cells, Pt.slots] at X121 l121 y121 z121 st121 hQ121
                subst l121 y121 z121
                obtain ⟨rfl, N123, eh124⟩ := hQ121
                have N125 := Fr.app N106 N123
                refine Go.via st121 ?_
                show Go p e below Qo T121 (mkF m 169 #[.val (.int i1), .val (.int i2), .val (.int i3), .val (.int i4), .val (.int i5), .val (.int v4_2), .val (.int v18_5), .val (.int (((i5.toUInt32 >>> ((2 : Int32) &&& 31).toUInt32).toInt32) &&& (3 : Int32))), .val (.int v38_8), .val (.int v50_11), .val (.ref b13), .val (.ref b34), .val (.ref x102), .val (.int (0 : Int32))] [(.int (0 : Int32))])
                refine Go.of (fun t k => XS.iload X121.here hx rfl (hb hby at_169) rfl  k) ?_
                show Go p e below Qo T121 (mkF m 171 #[.val (.int i1), .val (.int i2), .val (.int i3), .val (.int i4), .val (.int i5), .val (.int v4_2), .val (.int v18_5), .val (.int (((i5.toUInt32 >>> ((2 : Int32) &&& 31).toUInt32).toInt32) &&& (3 : Int32))), .val (.int v38_8), .val (.int v50_11), .val (.ref b13), .val (.ref b34), .val (.ref x102), .val (.int (0 : Int32))] [(.int (0 : Int32)), (.int (0 : Int32))])
                refine Go.of (fun t k => XS.icmpNo X121.here hx rfl (hb hby at_171) rfl (teq (by decide : (0 : Int32) = (0 : Int32))).2 k) ?_
                show Go p e below Qo T121 (mkF m 174 #[.val (.int i1), .val (.int i2), .val (.int i3), .val (.int i4), .val (.int i5), .val (.int v4_2), .val (.int v18_5), .val (.int (((i5.toUInt32 >>> ((2 : Int32) &&& 31).toUInt32).toInt32) &&& (3 : Int32))), .val (.int v38_8), .val (.int v50_11), .val (.ref b13), .val (.ref b34), .val (.ref x102), .val (.int (0 : Int32))] [])
                refine Go.of (fun t k => XS.aload X121.here hx rfl (hb hby at_174) rfl rfl k) ?_
                show Go p e below Qo T121 (mkF m 176 #[.val (.int i1), .val (.int i2), .val (.int i3), .val (.int i4), .val (.int i5), .val (.int v4_2), .val (.int v18_5), .val (.int (((i5.toUInt32 >>> ((2 : Int32) &&& 31).toUInt32).toInt32) &&& (3 : Int32))), .val (.int v38_8), .val (.int v50_11), .val (.ref b13), .val (.ref b34), .val (.ref x102), .val (.int (0 : Int32))] [(.ref b13)])
                refine Go.of (fun t k => XS.aload X121.here hx rfl (hb hby at_176) rfl rfl k) ?_
                show Go p e below Qo T121 (mkF m 178 #[.val (.int i1), .val (.int i2), .val (.int i3), .val (.int i4), .val (.int i5), .val (.int v4_2), .val (.int v18_5), .val (.int (((i5.toUInt32 >>> ((2 : Int32) &&& 31).toUInt32).toInt32) &&& (3 : Int32))), .val (.int v38_8), .val (.int v50_11), .val (.ref b13), .val (.ref b34), .val (.ref x102), .val (.int (0 : Int32))] [(.ref b13), (.ref b13)])
                obtain ⟨ciq127, kiq127, iq127a, iq127b, iq127c⟩ := isOf hZ eh124 q114
                obtain ⟨_, _, ⟨T126, L126, k126, n126⟩, -, X126, ⟨Lc126, hQ126, l126, y126, z126⟩, st126⟩ := X121.virtualBack hx (y := (⟨"com/example/konakis/konakis/engine/Square", "equals", "(Ljava/lang/Object;)Z"⟩ : MethodName)) (z := (⟨"com/example/konakis/konakis/engine/Square", "equals", "(Ljava/lang/Object;)Z"⟩ : MethodName)) hown (mvT hZ (hw _ (List.mem_of_getElem? (i := 18) rfl))) (mvT hZ (hw _ (List.mem_of_getElem? (i := 19) rfl))) (notFace_of_selects (args := #[]) (mvT hZ (hw _ (List.mem_of_getElem? (i := 21) rfl)))) (mvT hZ (hw _ (List.mem_of_getElem? (i := 21) rfl))) (mvT hZ (hw _ (List.mem_of_getElem? (i := 20) rfl))) (by decide) (backOf (W := 0) (rm40 l Z a0 hw [] b13 b13 i1 i2 i1 i2 T100.heap n0 Z120 q114 q115 q116 q115 q116) hZ (hw _ (List.mem_of_getElem? (i := 22) rfl)) (hw _ (List.mem_of_getElem? (i := 2) rfl)) (by decide) (by decide)) iq127a iq127c (g := (mkF m 178 #[.val (.int i1), .val (.int i2), .val (.int i3), .val (.int i4), .val (.int i5), .val (.int v4_2), .val (.int v18_5), .val (.int (((i5.toUInt32 >>> ((2 : Int32) &&& 31).toUInt32).toInt32) &&& (3 : Int32))), .val (.int v38_8), .val (.int v50_11), .val (.ref b13), .val (.ref b34), .val (.ref x102), .val (.int (0 : Int32))] [(.ref b13), (.ref b13)])) rfl (by rw [hml]; rfl) (Steps.refl _) (argsL := [(.ref b13)]) (rest := []) (lenOf pd_6 rfl) rfl (by show 2 * 0 + _ ≤ _; exact Nat.le_of_eq rfl) (hb hby at_178) (fun _ _ => ⟨rfl, eh124, (by decide : 4 + 0 ≤ _), (by decide : 9 + 0 ≤ _)⟩)
                dsimp only [Pt.U, Pt.locs, Pt.cells, Pt.slots] at X126 l126 y126 z126 st126 hQ126
                subst l126 y126 z126
                obtain ⟨rfl, N128, eh129⟩ := hQ126
                have N130 := Fr.app N125 N128
                refine Go.via st126 ?_
                show Go p e below Qo T126 (mkF m 181 #[.val (.int i1), .val (.int i2), .val (.int i3), .val (.int i4), .val (.int i5), .val (.int v4_2), .val (.int v18_5), .val (.int (((i5.toUInt32 >>> ((2 : Int32) &&& 31).toUInt32).toInt32) &&& (3 : Int32))), .val (.int v38_8), .val (.int v50_11), .val (.ref b13), .val (.ref b34), .val (.ref x102), .val (.int (0 : Int32))] [(.int (F40 i1 i2 i1 i2))])
                have J181_133 : ∀ (v181_132 : Int32), v181_132 = (if (F40 i1 i2 i1 i2) = (0 : Int32) then (0 : Int32) else (1 : Int32)) → Go p e below Qo T126 (mkF m 189 #[.val (.int i1), .val (.int i2), .val (.int i3), .val (.int i4), .val (.int i5), .val (.int v4_2), .val (.int v18_5), .val (.int (((i5.toUInt32 >>> ((2 : Int32) &&& 31).toUInt32).toInt32) &&& (3 : Int32))), .val (.int v38_8), .val (.int v50_11), .val (.ref b13), .val (.ref b34), .val (.ref x102), .val (.int (0 : Int32))] [(.int v181_132)]) := by
                  intro v181_132 hv181_132
                  show Go p e below Qo T126 (mkF m 189 #[.val (.int i1), .val (.int i2), .val (.int i3), .val (.int i4), .val (.int i5), .val (.int v4_2), .val (.int v18_5), .val (.int (((i5.toUInt32 >>> ((2 : Int32) &&& 31).toUInt32).toInt32) &&& (3 : Int32))), .val (.int v38_8), .val (.int v50_11), .val (.ref b13), .val (.ref b34), .val (.ref x102), .val (.int (0 : Int32))] [(.int v181_132)])
                  have hfin : v181_132 = 1 := by
                    exact hv181_132.trans (if_neg (own_self _ _))
                  exact own_retN X126 hx Bd.notSynchronized (t := .boolean) Bd.returns (by simp) (hb hby at_189) (fun u hu hF => hQo _ _ _ ⟨by rw [hfin]; rfl, N130⟩ (own_mono hF (by decide) (by decide)))
                by_cases hc181_134 : (F40 i1 i2 i1 i2) = (0 : Int32)
                · refine Go.of (fun t k => XS.ifYes X126.here hx rfl (pc0 := 181) (pc' := 188) rfl (hb hby at_181) rfl ((if0 _ _).trans (teq hc181_134).1) (by decide) (by decide) k) ?_
                  show Go p e below Qo T126 (mkF m 188 #[.val (.int i1), .val (.int i2), .val (.int i3), .val (.int i4), .val (.int i5), .val (.int v4_2), .val (.int v18_5), .val (.int (((i5.toUInt32 >>> ((2 : Int32) &&& 31).toUInt32).toInt32) &&& (3 : Int32))), .val (.int v38_8), .val (.int v50_11), .val (.ref b13), .val (.ref b34), .val (.ref x102), .val (.int (0 : Int32))] [])
                  refine Go.of (fun t k => XS.iconst X126.here hx rfl (hb hby at_188) k) ?_
                  show Go p e below Qo T126 (mkF m 189 #[.val (.int i1), .val (.int i2), .val (.int i3), .val (.int i4), .val (.int i5), .val (.int v4_2), .val (.int v18_5), .val (.int (((i5.toUInt32 >>> ((2 : Int32) &&& 31).toUInt32).toInt32) &&& (3 : Int32))), .val (.int v38_8), .val (.int v50_11), .val (.ref b13), .val (.ref b34), .val (.ref x102), .val (.int (0 : Int32))] [(.int (0 : Int32))])
                  exact J181_133 _ (by first | rfl | (rw [if_pos hc181_134]) | (simp only [hc181_134, if_true, if_false]; done) | simp [hc181_134])
                · refine Go.of (fun t k => XS.ifNo X126.here hx rfl (hb hby at_181) rfl ((if0 _ _).trans (feq hc181_134).1) k) ?_
                  show Go p e below Qo T126 (mkF m 184 #[.val (.int i1), .val (.int i2), .val (.int i3), .val (.int i4), .val (.int i5), .val (.int v4_2), .val (.int v18_5), .val (.int (((i5.toUInt32 >>> ((2 : Int32) &&& 31).toUInt32).toInt32) &&& (3 : Int32))), .val (.int v38_8), .val (.int v50_11), .val (.ref b13), .val (.ref b34), .val (.ref x102), .val (.int (0 : Int32))] [])
                  refine Go.of (fun t k => XS.iconst X126.here hx rfl (hb hby at_184) k) ?_
                  show Go p e below Qo T126 (mkF m 185 #[.val (.int i1), .val (.int i2), .val (.int i3), .val (.int i4), .val (.int i5), .val (.int v4_2), .val (.int v18_5), .val (.int (((i5.toUInt32 >>> ((2 : Int32) &&& 31).toUInt32).toInt32) &&& (3 : Int32))), .val (.int v38_8), .val (.int v50_11), .val (.ref b13), .val (.ref b34), .val (.ref x102), .val (.int (0 : Int32))] [(.int (1 : Int32))])
                  refine Go.of (fun t k => XS.goto X126.here hx rfl (pc0 := 185) (pc' := 189) rfl (hb hby at_185) (by decide) (by decide) k) ?_
                  show Go p e below Qo T126 (mkF m 189 #[.val (.int i1), .val (.int i2), .val (.int i3), .val (.int i4), .val (.int i5), .val (.int v4_2), .val (.int v18_5), .val (.int (((i5.toUInt32 >>> ((2 : Int32) &&& 31).toUInt32).toInt32) &&& (3 : Int32))), .val (.int v38_8), .val (.int v50_11), .val (.ref b13), .val (.ref b34), .val (.ref x102), .val (.int (0 : Int32))] [(.int (1 : Int32))])
                  exact J181_133 _ (by first | rfl | (rw [if_neg hc181_134]) | (simp only [hc181_134, if_true, if_false]; done) | simp [hc181_134])
              · refine Go.of (fun t k => XS.icmpYes X47.here hx rfl (pc0 := 133) (pc' := 153) rfl (hb hby at_133) rfl (feq hc133_99).2 (by decide) (by decide) k) ?_
                show Go p e below Qo T47 (mkF m 153 #[.val (.int i1), .val (.int i2), .val (.int i3), .val (.int i4), .val (.int i5), .val (.int v4_2), .val (.int v18_5), .val (.int (((i5.toUInt32 >>> ((2 : Int32) &&& 31).toUInt32).toInt32) &&& (3 : Int32))), .val (.int v38_8), .val (.int v50_11), .val (.ref b13), .val (.ref b34), .unset, .unset] [])
                refine Go.of (fun t k => XS.iloadN X47.here hx rfl (hb hby at_153) rfl  k) ?_
                show Go p e below Qo T47 (mkF m 154 #[.val (.int i1), .val (.int i2), .val (.int i3), .val (.int i4), .val (.int i5), .val (.int v4_2), .val (.int v18_5), .val (.int (((i5.toUInt32 >>> ((2 : Int32) &&& 31).toUInt32).toInt32) &&& (3 : Int32))), .val (.int v38_8), .val (.int v50_11), .val (.ref b13), .val (.ref b34), .unset, .unset] [(.int i1)])
                obtain ⟨_, _, ⟨T135, L135, k135, n135⟩, -, X135, ⟨Lc135, hQ135, l135, y135, z135⟩, st135⟩ := Jvm.LawKit.callS X47 hx (y := (⟨"java/lang/Integer", "valueOf", "(I)Ljava/lang/Integer;"⟩ : MethodName)) hown (mvT hZ (hw _ (List.mem_of_getElem? (i := 51) rfl))) (mvT hZ (hw _ (List.mem_of_getElem? (i := 52) rfl))) (mvT hZ (hw _ (List.mem_of_getElem? (i := 53) rfl))) (mvT hZ (hw _ (List.mem_of_getElem? (i := 54) rfl))) (by decide) (backOf (W := 0) (rm9 l Z a0 hw [] i1 rc T47.heap n0 Z61 q55 q56 q57 (hC)) hZ (hw _ (List.mem_of_getElem? (i := 54) rfl)) (hw _ (List.mem_of_getElem? (i := 53) rfl)) (by decide) (by decide)) (g := (mkF m 154 #[.val (.int i1), .val (.int i2), .val (.int i3), .val (.int i4), .val (.int i5), .val (.int v4_2), .val (.int v18_5), .val (.int (((i5.toUInt32 >>> ((2 : Int32) &&& 31).toUInt32).toInt32) &&& (3 : Int32))), .val (.int v38_8), .val (.int v50_11), .val (.ref b13), .val (.ref b34), .unset, .unset] [(.int i1)])) rfl (by rw [hml]; rfl) (argsL := [(.int i1)]) (rest := []) (lenOf pd_8 rfl) rfl (by show 2 * 0 + _ ≤ _; exact Nat.le_of_eq rfl) (hb hby at_154) (fun _ _ => ⟨rfl, rfl, (by decide : 2 + 1 ≤ _), (by decide : 4 + 1 ≤ _)⟩)
                dsimp only [Pt.U, Pt.locs, Pt.cells, Pt.slots] at X135 l135 y135 z135 st135 hQ135
                subst l135 y135 z135
                obtain ⟨x137, rfl, N136, Kc138, q139⟩ := hQ135
                have N140 := Fr.app N53 N136
                have q141 : Sta Z T135.heap "java/lang/String" "COMPACT_STRINGS" "Z" (.int zc) := own_staKeep q54 Kc138 all0
                have q142 : Sta Z T135.heap "java/lang/Integer$IntegerCache" "high" "I" (.int (127 : Int32)) := own_staKeep q55 Kc138 all0
                have q143 : Sta Z T135.heap "java/lang/Integer$IntegerCache" "cache" "[Ljava/lang/Integer;" (.ref rc) := own_staKeep q56 Kc138 all0
                have q144 : Old Z n0 T135.heap := q57.keep Kc138 all0
                have q145 : Exa Z T135.heap b13 "com/example/konakis/konakis/engine/Square" := q58.keep Kc138
                have q146 : Fld Z T135.heap b13 "com/example/konakis/konakis/engine/Square" "file" "I" (.int i1) := q59.keep Kc138 nin0
                have q147 : Fld Z T135.heap b13 "com/example/konakis/konakis/engine/Square" "rank" "I" (.int i2) := q60.keep Kc138 nin0
                have q148 : Exa Z T135.heap b34 "com/example/konakis/konakis/engine/Square" := q50.keep Kc138
                have q149 : Fld Z T135.heap b34 "com/example/konakis/konakis/engine/Square" "file" "I" (.int v38_8) := q51.keep Kc138 nin0
                have q150 : Fld Z T135.heap b34 "com/example/konakis/konakis/engine/Square" "rank" "I" (.int v50_11) := q52.keep Kc138 nin0
                have Z151 : n0 ≤ T135.heap.size := Nat.le_trans Z61 Kc138.1
                refine Go.of st135 ?_
                show Go p e below Qo T135 (mkF m 157 #[.val (.int i1), .val (.int i2), .val (.int i3), .val (.int i4), .val (.int i5), .val (.int v4_2), .val (.int v18_5), .val (.int (((i5.toUInt32 >>> ((2 : Int32) &&& 31).toUInt32).toInt32) &&& (3 : Int32))), .val (.int v38_8), .val (.int v50_11), .val (.ref b13), .val (.ref b34), .unset, .unset] [(.ref x137)])
                refine Go.of (fun t k => XS.astore X135.here hx rfl (hb hby at_157) rfl rfl (l' := #[.val (.int i1), .val (.int i2), .val (.int i3), .val (.int i4), .val (.int i5), .val (.int v4_2), .val (.int v18_5), .val (.int (((i5.toUInt32 >>> ((2 : Int32) &&& 31).toUInt32).toInt32) &&& (3 : Int32))), .val (.int v38_8), .val (.int v50_11), .val (.ref b13), .val (.ref b34), .val (.ref x137), .unset]) rfl k) ?_
                show Go p e below Qo T135 (mkF m 159 #[.val (.int i1), .val (.int i2), .val (.int i3), .val (.int i4), .val (.int i5), .val (.int v4_2), .val (.int v18_5), .val (.int (((i5.toUInt32 >>> ((2 : Int32) &&& 31).toUInt32).toInt32) &&& (3 : Int32))), .val (.int v38_8), .val (.int v50_11), .val (.ref b13), .val (.ref b34), .val (.ref x137), .unset] [])
                refine Go.of (fun t k => XS.iconst X135.here hx rfl (hb hby at_159) k) ?_
                show Go p e below Qo T135 (mkF m 160 #[.val (.int i1), .val (.int i2), .val (.int i3), .val (.int i4), .val (.int i5), .val (.int v4_2), .val (.int v18_5), .val (.int (((i5.toUInt32 >>> ((2 : Int32) &&& 31).toUInt32).toInt32) &&& (3 : Int32))), .val (.int v38_8), .val (.int v50_11), .val (.ref b13), .val (.ref b34), .val (.ref x137), .unset] [(.int (0 : Int32))])
                refine Go.of (fun t k => XS.istore X135.here hx rfl (hb hby at_160) rfl (l' := #[.val (.int i1), .val (.int i2), .val (.int i3), .val (.int i4), .val (.int i5), .val (.int v4_2), .val (.int v18_5), .val (.int (((i5.toUInt32 >>> ((2 : Int32) &&& 31).toUInt32).toInt32) &&& (3 : Int32))), .val (.int v38_8), .val (.int v50_11), .val (.ref b13), .val (.ref b34), .val (.ref x137), .val (.int (0 : Int32))]) rfl k) ?_
                show Go p e below Qo T135 (mkF m 162 #[.val (.int i1), .val (.int i2), .val (.int i3), .val (.int i4), .val (.int i5), .val (.int v4_2), .val (.int v18_5), .val (.int (((i5.toUInt32 >>> ((2 : Int32) &&& 31).toUInt32).toInt32) &&& (3 : Int32))), .val (.int v38_8), .val (.int v50_11), .val (.ref b13), .val (.ref b34), .val (.ref x137), .val (.int (0 : Int32))] [])
                refine Go.of (fun t k => XS.aload X135.here hx rfl (hb hby at_162) rfl rfl k) ?_
                show Go p e below Qo T135 (mkF m 164 #[.val (.int i1), .val (.int i2), .val (.int i3), .val (.int i4), .val (.int i5), .val (.int v4_2), .val (.int v18_5), .val (.int (((i5.toUInt32 >>> ((2 : Int32) &&& 31).toUInt32).toInt32) &&& (3 : Int32))), .val (.int v38_8), .val (.int v50_11), .val (.ref b13), .val (.ref b34), .val (.ref x137), .val (.int (0 : Int32))] [(.ref b13)])
                refine Go.of (fun t k => XS.aload X135.here hx rfl (hb hby at_164) rfl rfl k) ?_
                show Go p e below Qo T135 (mkF m 166 #[.val (.int i1), .val (.int i2), .val (.int i3), .val (.int i4), .val (.int i5), .val (.int v4_2), .val (.int v18_5), .val (.int (((i5.toUInt32 >>> ((2 : Int32) &&& 31).toUInt32).toInt32) &&& (3 : Int32))), .val (.int v38_8), .val (.int v50_11), .val (.ref b13), .val (.ref b34), .val (.ref x137), .val (.int (0 : Int32))] [(.ref x137), (.ref b13)])
                obtain ⟨ciq153, kiq153, iq153a, iq153b, iq153c⟩ := isOf hZ rfl q145
                obtain ⟨_, _, ⟨T152, L152, k152, n152⟩, -, X152, ⟨Lc152, hQ152, l152, y152, z152⟩, st152⟩ := X135.virtualBack hx (y := (⟨"com/example/konakis/konakis/engine/Square", "equals", "(Ljava/lang/Object;)Z"⟩ : MethodName)) (z := (⟨"com/example/konakis/konakis/engine/Square", "equals", "(Ljava/lang/Object;)Z"⟩ : MethodName)) hown (mvT hZ (hw _ (List.mem_of_getElem? (i := 18) rfl))) (mvT hZ (hw _ (List.mem_of_getElem? (i := 19) rfl))) (notFace_of_selects (args := #[]) (mvT hZ (hw _ (List.mem_of_getElem? (i := 21) rfl)))) (mvT hZ (hw _ (List.mem_of_getElem? (i := 21) rfl))) (mvT hZ (hw _ (List.mem_of_getElem? (i := 20) rfl))) (by decide) (backOf (W := 0) (rm43 l Z a0 hw [] b13 x137 T135.heap n0 Z151 q139) hZ (hw _ (List.mem_of_getElem? (i := 22) rfl)) (hw _ (List.mem_of_getElem? (i := 2) rfl)) (by decide) (by decide)) iq153a iq153c (g := (mkF m 166 #[.val (.int i1), .val (.int i2), .val (.int i3), .val (.int i4), .val (.int i5), .val (.int v4_2), .val (.int v18_5), .val (.int (((i5.toUInt32 >>> ((2 : Int32) &&& 31).toUInt32).toInt32) &&& (3 : Int32))), .val (.int v38_8), .val (.int v50_11), .val (.ref b13), .val (.ref b34), .val (.ref x137), .val (.int (0 : Int32))] [(.ref x137), (.ref b13)])) rfl (by rw [hml]; rfl) (Steps.refl _) (argsL := [(.ref x137)]) (rest := []) (lenOf pd_6 rfl) rfl (by show 2 * 0 + _ ≤ _; exact Nat.le_of_eq rfl) (hb hby at_166) (fun _ _ => ⟨rfl, rfl, (by decide : 3 + 0 ≤ _), (by decide : 5 + 0 ≤ _)⟩)
                dsimp only [Pt.U, Pt.locs, Pt.cells, Pt.slots] at X152 l152 y152 z152 st152 hQ152
                subst l152 y152 z152
                obtain ⟨rfl, N154, eh155⟩ := hQ152
                have N156 := Fr.app N140 N154
                refine Go.via st152 ?_
                show Go p e below Qo T152 (mkF m 169 #[.val (.int i1), .val (.int i2), .val (.int i3), .val (.int i4), .val (.int i5), .val (.int v4_2), .val (.int v18_5), .val (.int (((i5.toUInt32 >>> ((2 : Int32) &&& 31).toUInt32).toInt32) &&& (3 : Int32))), .val (.int v38_8), .val (.int v50_11), .val (.ref b13), .val (.ref b34), .val (.ref x137), .val (.int (0 : Int32))] [(.int (0 : Int32))])
                refine Go.of (fun t k => XS.iload X152.here hx rfl (hb hby at_169) rfl  k) ?_
                show Go p e below Qo T152 (mkF m 171 #[.val (.int i1), .val (.int i2), .val (.int i3), .val (.int i4), .val (.int i5), .val (.int v4_2), .val (.int v18_5), .val (.int (((i5.toUInt32 >>> ((2 : Int32) &&& 31).toUInt32).toInt32) &&& (3 : Int32))), .val (.int v38_8), .val (.int v50_11), .val (.ref b13), .val (.ref b34), .val (.ref x137), .val (.int (0 : Int32))] [(.int (0 : Int32)), (.int (0 : Int32))])
                refine Go.of (fun t k => XS.icmpNo X152.here hx rfl (hb hby at_171) rfl (teq (by decide : (0 : Int32) = (0 : Int32))).2 k) ?_
                show Go p e below Qo T152 (mkF m 174 #[.val (.int i1), .val (.int i2), .val (.int i3), .val (.int i4), .val (.int i5), .val (.int v4_2), .val (.int v18_5), .val (.int (((i5.toUInt32 >>> ((2 : Int32) &&& 31).toUInt32).toInt32) &&& (3 : Int32))), .val (.int v38_8), .val (.int v50_11), .val (.ref b13), .val (.ref b34), .val (.ref x137), .val (.int (0 : Int32))] [])
                refine Go.of (fun t k => XS.aload X152.here hx rfl (hb hby at_174) rfl rfl k) ?_
                show Go p e below Qo T152 (mkF m 176 #[.val (.int i1), .val (.int i2), .val (.int i3), .val (.int i4), .val (.int i5), .val (.int v4_2), .val (.int v18_5), .val (.int (((i5.toUInt32 >>> ((2 : Int32) &&& 31).toUInt32).toInt32) &&& (3 : Int32))), .val (.int v38_8), .val (.int v50_11), .val (.ref b13), .val (.ref b34), .val (.ref x137), .val (.int (0 : Int32))] [(.ref b13)])
                refine Go.of (fun t k => XS.aload X152.here hx rfl (hb hby at_176) rfl rfl k) ?_
                show Go p e below Qo T152 (mkF m 178 #[.val (.int i1), .val (.int i2), .val (.int i3), .val (.int i4), .val (.int i5), .val (.int v4_2), .val (.int v18_5), .val (.int (((i5.toUInt32 >>> ((2 : Int32) &&& 31).toUInt32).toInt32) &&& (3 : Int32))), .val (.int v38_8), .val (.int v50_11), .val (.ref b13), .val (.ref b34), .val (.ref x137), .val (.int (0 : Int32))] [(.ref b13), (.ref b13)])
                obtain ⟨ciq158, kiq158, iq158a, iq158b, iq158c⟩ := isOf hZ eh155 q145
                obtain ⟨_, _, ⟨T157, L157, k157, n157⟩, -, X157, ⟨Lc157, hQ157, l157, y157, z157⟩, st157⟩ := X152.virtualBack hx (y := (⟨"com/example/konakis/konakis/engine/Square", "equals", "(Ljava/lang/Object;)Z"⟩ : MethodName)) (z := (⟨"com/example/konakis/konakis/engine/Square", "equals", "(Ljava/lang/Object;)Z"⟩ : MethodName)) hown (mvT hZ (hw _ (List.mem_of_getElem? (i := 18) rfl))) (mvT hZ (hw _ (List.mem_of_getElem? (i := 19) rfl))) (notFace_of_selects (args := #[]) (mvT hZ (hw _ (List.mem_of_getElem? (i := 21) rfl)))) (mvT hZ (hw _ (List.mem_of_getElem? (i := 21) rfl))) (mvT hZ (hw _ (List.mem_of_getElem? (i := 20) rfl))) (by decide) (backOf (W := 0) (rm40 l Z a0 hw [] b13 b13 i1 i2 i1 i2 T135.heap n0 Z151 q145 q146 q147 q146 q147) hZ (hw _ (List.mem_of_getElem? (i := 22) rfl)) (hw _ (List.mem_of_getElem? (i := 2) rfl)) (by decide) (by decide)) iq158a iq158c (g := (mkF m 178 #[.val (.int i1), .val (.int i2), .val (.int i3), .val (.int i4), .val (.int i5), .val (.int v4_2), .val (.int v18_5), .val (.int (((i5.toUInt32 >>> ((2 : Int32) &&& 31).toUInt32).toInt32) &&& (3 : Int32))), .val (.int v38_8), .val (.int v50_11), .val (.ref b13), .val (.ref b34), .val (.ref x137), .val (.int (0 : Int32))] [(.ref b13), (.ref b13)])) rfl (by rw [hml]; rfl) (Steps.refl _) (argsL := [(.ref b13)]) (rest := []) (lenOf pd_6 rfl) rfl (by show 2 * 0 + _ ≤ _; exact Nat.le_of_eq rfl) (hb hby at_178) (fun _ _ => ⟨rfl, eh155, (by decide : 3 + 0 ≤ _), (by decide : 5 + 0 ≤ _)⟩)
                dsimp only [Pt.U, Pt.locs, Pt.cells, Pt.slots] at X157 l157 y157 z157 st157 hQ157
                subst l157 y157 z157
                obtain ⟨rfl, N159, eh160⟩ := hQ157
                have N161 := Fr.app N156 N159
                refine Go.via st157 ?_
                show Go p e below Qo T157 (mkF m 181 #[.val (.int i1), .val (.int i2), .val (.int i3), .val (.int i4), .val (.int i5), .val (.int v4_2), .val (.int v18_5), .val (.int (((i5.toUInt32 >>> ((2 : Int32) &&& 31).toUInt32).toInt32) &&& (3 : Int32))), .val (.int v38_8), .val (.int v50_11), .val (.ref b13), .val (.ref b34), .val (.ref x137), .val (.int (0 : Int32))] [(.int (F40 i1 i2 i1 i2))])
                have J181_164 : ∀ (v181_163 : Int32), v181_163 = (if (F40 i1 i2 i1 i2) = (0 : Int32) then (0 : Int32) else (1 : Int32)) → Go p e below Qo T157 (mkF m 189 #[.val (.int i1), .val (.int i2), .val (.int i3), .val (.int i4), .val (.int i5), .val (.int v4_2), .val (.int v18_5), .val (.int (((i5.toUInt32 >>> ((2 : Int32) &&& 31).toUInt32).toInt32) &&& (3 : Int32))), .val (.int v38_8), .val (.int v50_11), .val (.ref b13), .val (.ref b34), .val (.ref x137), .val (.int (0 : Int32))] [(.int v181_163)]) := by
                  intro v181_163 hv181_163
                  show Go p e below Qo T157 (mkF m 189 #[.val (.int i1), .val (.int i2), .val (.int i3), .val (.int i4), .val (.int i5), .val (.int v4_2), .val (.int v18_5), .val (.int (((i5.toUInt32 >>> ((2 : Int32) &&& 31).toUInt32).toInt32) &&& (3 : Int32))), .val (.int v38_8), .val (.int v50_11), .val (.ref b13), .val (.ref b34), .val (.ref x137), .val (.int (0 : Int32))] [(.int v181_163)])
                  have hfin : v181_163 = 1 := by
                    exact hv181_163.trans (if_neg (own_self _ _))
                  exact own_retN X157 hx Bd.notSynchronized (t := .boolean) Bd.returns (by simp) (hb hby at_189) (fun u hu hF => hQo _ _ _ ⟨by rw [hfin]; rfl, N161⟩ (own_mono hF (by decide) (by decide)))
                by_cases hc181_165 : (F40 i1 i2 i1 i2) = (0 : Int32)
                · refine Go.of (fun t k => XS.ifYes X157.here hx rfl (pc0 := 181) (pc' := 188) rfl (hb hby at_181) rfl ((if0 _ _).trans (teq hc181_165).1) (by decide) (by decide) k) ?_
                  show Go p e below Qo T157 (mkF m 188 #[.val (.int i1), .val (.int i2), .val (.int i3), .val (.int i4), .val (.int i5), .val (.int v4_2), .val (.int v18_5), .val (.int (((i5.toUInt32 >>> ((2 : Int32) &&& 31).toUInt32).toInt32) &&& (3 : Int32))), .val (.int v38_8), .val (.int v50_11), .val (.ref b13), .val (.ref b34), .val (.ref x137), .val (.int (0 : Int32))] [])
                  refine Go.of (fun t k => XS.iconst X157.here hx rfl (hb hby at_188) k) ?_
                  show Go p e below Qo T157 (mkF m 189 #[.val (.int i1), .val (.int i2), .val (.int i3), .val (.int i4), .val (.int i5), .val (.int v4_2), .val (.int v18_5), .val (.int (((i5.toUInt32 >>> ((2 : Int32) &&& 31).toUInt32).toInt32) &&& (3 : Int32))), .val (.int v38_8), .val (.int v50_11), .val (.ref b13), .val (.ref b34), .val (.ref x137), .val (.int (0 : Int32))] [(.int (0 : Int32))])
                  exact J181_164 _ (by first | rfl | (rw [if_pos hc181_165]) | (simp only [hc181_165, if_true, if_false]; done) | simp [hc181_165])
                · refine Go.of (fun t k => XS.ifNo X157.here hx rfl (hb hby at_181) rfl ((if0 _ _).trans (feq hc181_165).1) k) ?_
                  show Go p e below Qo T157 (mkF m 184 #[.val (.int i1), .val (.int i2), .val (.int i3), .val (.int i4), .val (.int i5), .val (.int v4_2), .val (.int v18_5), .val (.int (((i5.toUInt32 >>> ((2 : Int32) &&& 31).toUInt32).toInt32) &&& (3 : Int32))), .val (.int v38_8), .val (.int v50_11), .val (.ref b13), .val (.ref b34), .val (.ref x137), .val (.int (0 : Int32))] [])
                  refine Go.of (fun t k => XS.iconst X157.here hx rfl (hb hby at_184) k) ?_
                  show Go p e below Qo T157 (mkF m 185 #[.val (.int i1), .val (.int i2), .val (.int i3), .val (.int i4), .val (.int i5), .val (.int v4_2), .val (.int v18_5), .val (.int (((i5.toUInt32 >>> ((2 : Int32) &&& 31).toUInt32).toInt32) &&& (3 : Int32))), .val (.int v38_8), .val (.int v50_11), .val (.ref b13), .val (.ref b34), .val (.ref x137), .val (.int (0 : Int32))] [(.int (1 : Int32))])
                  refine Go.of (fun t k => XS.goto X157.here hx rfl (pc0 := 185) (pc' := 189) rfl (hb hby at_185) (by decide) (by decide) k) ?_
                  show Go p e below Qo T157 (mkF m 189 #[.val (.int i1), .val (.int i2), .val (.int i3), .val (.int i4), .val (.int i5), .val (.int v4_2), .val (.int v18_5), .val (.int (((i5.toUInt32 >>> ((2 : Int32) &&& 31).toUInt32).toInt32) &&& (3 : Int32))), .val (.int v38_8), .val (.int v50_11), .val (.ref b13), .val (.ref b34), .val (.ref x137), .val (.int (0 : Int32))] [(.int (1 : Int32))])
                  exact J181_164 _ (by first | rfl | (rw [if_neg hc181_165]) | (simp only [hc181_165, if_true, if_false]; done) | simp [hc181_165])
        by_cases hc50_166 : v18_5 = (0 : Int32)
        · refine Go.of (fun t k => XS.ifYes X0.here hx rfl (pc0 := 50) (pc' := 57) rfl (hb hby at_50) rfl ((if0 _ _).trans (teq hc50_166).1) (by decide) (by decide) k) ?_
          show Go p e below Qo s₁ (mkF m 57 #[.val (.int i1), .val (.int i2), .val (.int i3), .val (.int i4), .val (.int i5), .val (.int v4_2), .val (.int v18_5), .val (.int (((i5.toUInt32 >>> ((2 : Int32) &&& 31).toUInt32).toInt32) &&& (3 : Int32))), .val (.int v38_8), .unset, .unset, .unset, .unset, .unset] [])
          refine Go.of (fun t k => XS.iloadN X0.here hx rfl (hb hby at_57) rfl  k) ?_
          show Go p e below Qo s₁ (mkF m 58 #[.val (.int i1), .val (.int i2), .val (.int i3), .val (.int i4), .val (.int i5), .val (.int v4_2), .val (.int v18_5), .val (.int (((i5.toUInt32 >>> ((2 : Int32) &&& 31).toUInt32).toInt32) &&& (3 : Int32))), .val (.int v38_8), .unset, .unset, .unset, .unset, .unset] [(.int i4)])
          exact J50_12 _ (by first | rfl | (rw [if_pos hc50_166]) | (simp only [hc50_166, if_true, if_false]; done) | simp [hc50_166])
        · refine Go.of (fun t k => XS.ifNo X0.here hx rfl (hb hby at_50) rfl ((if0 _ _).trans (feq hc50_166).1) k) ?_
          show Go p e below Qo s₁ (mkF m 53 #[.val (.int i1), .val (.int i2), .val (.int i3), .val (.int i4), .val (.int i5), .val (.int v4_2), .val (.int v18_5), .val (.int (((i5.toUInt32 >>> ((2 : Int32) &&& 31).toUInt32).toInt32) &&& (3 : Int32))), .val (.int v38_8), .unset, .unset, .unset, .unset, .unset] [])
          refine Go.of (fun t k => XS.iloadN X0.here hx rfl (hb hby at_53) rfl  k) ?_
          show Go p e below Qo s₁ (mkF m 54 #[.val (.int i1), .val (.int i2), .val (.int i3), .val (.int i4), .val (.int i5), .val (.int v4_2), .val (.int v18_5), .val (.int (((i5.toUInt32 >>> ((2 : Int32) &&& 31).toUInt32).toInt32) &&& (3 : Int32))), .val (.int v38_8), .unset, .unset, .unset, .unset, .unset] [(.int i2)])
          refine Go.of (fun t k => XS.goto X0.here hx rfl (pc0 := 54) (pc' := 58) rfl (hb hby at_54) (by decide) (by decide) k) ?_
          show Go p e below Qo s₁ (mkF m 58 #[.val (.int i1), .val (.int i2), .val (.int i3), .val (.int i4), .val (.int i5), .val (.int v4_2), .val (.int v18_5), .val (.int (((i5.toUInt32 >>> ((2 : Int32) &&& 31).toUInt32).toInt32) &&& (3 : Int32))), .val (.int v38_8), .unset, .unset, .unset, .unset, .unset] [(.int i2)])
          exact J50_12 _ (by first | rfl | (rw [if_neg hc50_166]) | (simp only [hc50_166, if_true, if_false]; done) | simp [hc50_166])
      by_cases hc38_167 : v4_2 = (0 : Int32)
      · refine Go.of (fun t k => XS.ifYes X0.here hx rfl (pc0 := 38) (pc' := 45) rfl (hb hby at_38) rfl ((if0 _ _).trans (teq hc38_167).1) (by decide) (by decide) k) ?_
        show Go p e below Qo s₁ (mkF m 45 #[.val (.int i1), .val (.int i2), .val (.int i3), .val (.int i4), .val (.int i5), .val (.int v4_2), .val (.int v18_5), .val (.int (((i5.toUInt32 >>> ((2 : Int32) &&& 31).toUInt32).toInt32) &&& (3 : Int32))), .unset, .unset, .unset, .unset, .unset, .unset] [])
        refine Go.of (fun t k => XS.iloadN X0.here hx rfl (hb hby at_45) rfl  k) ?_
        show Go p e below Qo s₁ (mkF m 46 #[.val (.int i1), .val (.int i2), .val (.int i3), .val (.int i4), .val (.int i5), .val (.int v4_2), .val (.int v18_5), .val (.int (((i5.toUInt32 >>> ((2 : Int32) &&& 31).toUInt32).toInt32) &&& (3 : Int32))), .unset, .unset, .unset, .unset, .unset, .unset] [(.int i3)])
        exact J38_9 _ (by first | rfl | (rw [if_pos hc38_167]) | (simp only [hc38_167, if_true, if_false]; done) | simp [hc38_167])
      · refine Go.of (fun t k => XS.ifNo X0.here hx rfl (hb hby at_38) rfl ((if0 _ _).trans (feq hc38_167).1) k) ?_
        show Go p e below Qo s₁ (mkF m 41 #[.val (.int i1), .val (.int i2), .val (.int i3), .val (.int i4), .val (.int i5), .val (.int v4_2), .val (.int v18_5), .val (.int (((i5.toUInt32 >>> ((2 : Int32) &&& 31).toUInt32).toInt32) &&& (3 : Int32))), .unset, .unset, .unset, .unset, .unset, .unset] [])
        refine Go.of (fun t k => XS.iloadN X0.here hx rfl (hb hby at_41) rfl  k) ?_
        show Go p e below Qo s₁ (mkF m 42 #[.val (.int i1), .val (.int i2), .val (.int i3), .val (.int i4), .val (.int i5), .val (.int v4_2), .val (.int v18_5), .val (.int (((i5.toUInt32 >>> ((2 : Int32) &&& 31).toUInt32).toInt32) &&& (3 : Int32))), .unset, .unset, .unset, .unset, .unset, .unset] [(.int i1)])
        refine Go.of (fun t k => XS.goto X0.here hx rfl (pc0 := 42) (pc' := 46) rfl (hb hby at_42) (by decide) (by decide) k) ?_
        show Go p e below Qo s₁ (mkF m 46 #[.val (.int i1), .val (.int i2), .val (.int i3), .val (.int i4), .val (.int i5), .val (.int v4_2), .val (.int v18_5), .val (.int (((i5.toUInt32 >>> ((2 : Int32) &&& 31).toUInt32).toInt32) &&& (3 : Int32))), .unset, .unset, .unset, .unset, .unset, .unset] [(.int i1)])
        exact J38_9 _ (by first | rfl | (rw [if_neg hc38_167]) | (simp only [hc38_167, if_true, if_false]; done) | simp [hc38_167])
    by_cases hc18_168 : (i5 &&& (2 : Int32)) = (0 : Int32)
    · refine Go.of (fun t k => XS.ifYes X0.here hx rfl (pc0 := 18) (pc' := 25) rfl (hb hby at_18) rfl ((if0 _ _).trans (teq hc18_168).1) (by decide) (by decide) k) ?_
      show Go p e below Qo s₁ (mkF m 25 #[.val (.int i1), .val (.int i2), .val (.int i3), .val (.int i4), .val (.int i5), .val (.int v4_2), .unset, .unset, .unset, .unset, .unset, .unset, .unset, .unset] [])
      refine Go.of (fun t k => XS.iconst X0.here hx rfl (hb hby at_25) k) ?_
      show Go p e below Qo s₁ (mkF m 26 #[.val (.int i1), .val (.int i2), .val (.int i3), .val (.int i4), .val (.int i5), .val (.int v4_2), .unset, .unset, .unset, .unset, .unset, .unset, .unset, .unset] [(.int (0 : Int32))])
      exact J18_6 _ (by first | rfl | (rw [if_pos hc18_168]) | (simp only [hc18_168, if_true, if_false]; done) | simp [hc18_168])
    · refine Go.of (fun t k => XS.ifNo X0.here hx rfl (hb hby at_18) rfl ((if0 _ _).trans (feq hc18_168).1) k) ?_
      show Go p e below Qo s₁ (mkF m 21 #[.val (.int i1), .val (.int i2), .val (.int i3), .val (.int i4), .val (.int i5), .val (.int v4_2), .unset, .unset, .unset, .unset, .unset, .unset, .unset, .unset] [])
      refine Go.of (fun t k => XS.iconst X0.here hx rfl (hb hby at_21) k) ?_
      show Go p e below Qo s₁ (mkF m 22 #[.val (.int i1), .val (.int i2), .val (.int i3), .val (.int i4), .val (.int i5), .val (.int v4_2), .unset, .unset, .unset, .unset, .unset, .unset, .unset, .unset] [(.int (1 : Int32))])
      refine Go.of (fun t k => XS.goto X0.here hx rfl (pc0 := 22) (pc' := 26) rfl (hb hby at_22) (by decide) (by decide) k) ?_
      show Go p e below Qo s₁ (mkF m 26 #[.val (.int i1), .val (.int i2), .val (.int i3), .val (.int i4), .val (.int i5), .val (.int v4_2), .unset, .unset, .unset, .unset, .unset, .unset, .unset, .unset] [(.int (1 : Int32))])
      exact J18_6 _ (by first | rfl | (rw [if_neg hc18_168]) | (simp only [hc18_168, if_true, if_false]; done) | simp [hc18_168])
  by_cases hc4_169 : (i5 &&& (1 : Int32)) = (0 : Int32)
  · refine Go.of (fun t k => XS.ifYes X0.here hx rfl (pc0 := 4) (pc' := 11) rfl (hb hby at_4) rfl ((if0 _ _).trans (teq hc4_169).1) (by decide) (by decide) k) ?_
    show Go p e below Qo s₁ (mkF m 11 #[.val (.int i1), .val (.int i2), .val (.int i3), .val (.int i4), .val (.int i5), .unset, .unset, .unset, .unset, .unset, .unset, .unset, .unset, .unset] [])
    refine Go.of (fun t k => XS.iconst X0.here hx rfl (hb hby at_11) k) ?_
    show Go p e below Qo s₁ (mkF m 12 #[.val (.int i1), .val (.int i2), .val (.int i3), .val (.int i4), .val (.int i5), .unset, .unset, .unset, .unset, .unset, .unset, .unset, .unset, .unset] [(.int (0 : Int32))])
    exact J4_3 _ (by first | rfl | (rw [if_pos hc4_169]) | (simp only [hc4_169, if_true, if_false]; done) | simp [hc4_169])
  · refine Go.of (fun t k => XS.ifNo X0.here hx rfl (hb hby at_4) rfl ((if0 _ _).trans (feq hc4_169).1) k) ?_
    show Go p e below Qo s₁ (mkF m 7 #[.val (.int i1), .val (.int i2), .val (.int i3), .val (.int i4), .val (.int i5), .unset, .unset, .unset, .unset, .unset, .unset, .unset, .unset, .unset] [])
    refine Go.of (fun t k => XS.iconst X0.here hx rfl (hb hby at_7) k) ?_
    show Go p e below Qo s₁ (mkF m 8 #[.val (.int i1), .val (.int i2), .val (.int i3), .val (.int i4), .val (.int i5), .unset, .unset, .unset, .unset, .unset, .unset, .unset, .unset, .unset] [(.int (1 : Int32))])
    refine Go.of (fun t k => XS.goto X0.here hx rfl (pc0 := 8) (pc' := 12) rfl (hb hby at_8) (by decide) (by decide) k) ?_
    show Go p e below Qo s₁ (mkF m 12 #[.val (.int i1), .val (.int i2), .val (.int i3), .val (.int i4), .val (.int i5), .unset, .unset, .unset, .unset, .unset, .unset, .unset, .unset, .unset] [(.int (1 : Int32))])
    exact J4_3 _ (by first | rfl | (rw [if_neg hc4_169]) | (simp only [hc4_169, if_true, if_false]; done) | simp [hc4_169])
theorem own_cache_start {s : State} {args : Array Value} {rc : Addr} (ev : (Term.static "java/lang/Integer$IntegerCache" "cache" "[Ljava/lang/Integer;").eval args s none [] s = some (.ref rc)) (h13 : (Cond.arrayOf (Term.static "java/lang/Integer$IntegerCache" "cache" "[Ljava/lang/Integer;") (.object "java/lang/Integer")).before args s = true)
    (h15 : (Cond.eq (.length (Term.static "java/lang/Integer$IntegerCache" "cache" "[Ljava/lang/Integer;")) (.int 256)).before args s = true) {d : Jvm.Cond} (h16 : (Cond.all (Term.static "java/lang/Integer$IntegerCache" "cache" "[Ljava/lang/Integer;") (.and (.exactly (.elem (Term.static "java/lang/Integer$IntegerCache" "cache" "[Ljava/lang/Integer;") (.index 0)) "java/lang/Integer") d)).before args s = true) : own_cache s rc := by
  obtain ⟨cl, A⟩ := Arr.start ev (Cond.before_iff.mp h13)
  obtain ⟨q1, q2⟩ := IntBox.length_fwd h15 ev A.1 A.2.1 A.2.2
  have hs : cl.slots.size = 256 := by
    have k := len_toInt q1
    rw [q2] at k
    have e : (256 : Int32).toInt = 256 := by decide
    omega
  refine ⟨cl, A, hs, fun i hi => ?_⟩
  have hat := IntBox.arrayAt_of A.1 A.2.1 A.2.2
  have k := Cond.all_elim ev hat (Cond.before_iff.mp h16) i (by omega)
  obtain ⟨k1, -⟩ := and_e k
  obtain ⟨a, ea⟩ := exa_v k1
  have ev' : (Term.static "java/lang/Integer$IntegerCache" "cache" "[Ljava/lang/Integer;").eval args s none [i] s = some (.ref rc) := ev
  have ej : (Term.index 0).eval args s none [i] s = some (.int i.toInt32) := rfl
  have ez := elem_f ev' ej hat (IntBox.place_nonneg i hi).1
  rw [(IntBox.place_nonneg i hi).2, ea] at ez
  exact ⟨a, ez.symm, exa_at ea k1⟩
theorem own_neI {args : Array Value} {s : State} {t : Term} {z k : Int32} (ev : t.eval args s none [] s = some (.int z)) (h : (Cond.not (.eq t (.int k))).before args s = true) : ¬ z = k := by
  have h1 := not_v (Cond.before_iff.mp h)
  intro e
  subst e
  rw [eq_i ev (Term.int_eval _) rfl] at h1
  cases h1
set_option maxRecDepth 65536 in
set_option maxHeartbeats 40000000 in
theorem comes_1 {Post : Tables → Env → Array Value → State → Outcome → State → Prop} (hpost : ∀ tb e args s v u, (limb_1_1.after args s (.returned v) u = true ∧ limb_1_2.after args s (.returned v) u = true ∧ True) → FrameEnd s (.returned v) u (Jvm.fieldLocs frame_1_writes args s ++ Jvm.arrayLocs frame_1_arrays args s ++ Jvm.staticLocs frame_1_statics s) 16 128 → Post tb e args s (.returned v) u) :
    ArmFor flags0 classFile x code maxLocals ret World_1 tables_1 room_1 Calls_1 rest_1 Pre_1 Post := by
  intro l hfl _ _ p e ha hc hk s m args below hf hA hF happ hP
  obtain ⟨hcalls, hrest, hpre⟩ := hP
  obtain ⟨-, -, -, hnamed, -, -, -, hat⟩ := (Spec.applies_iff hf).mp happ
  obtain ⟨hg, hn⟩ := and_e (Cond.before_iff.mp (show (Jvm.Cond.and given_1 narrow_1).before args s = true from hpre))
  obtain ⟨hg0, hgr0⟩ := and_e hg
  obtain ⟨ha0, hgr1⟩ := and_e hgr0
  obtain ⟨ha1, hgr2⟩ := and_e hgr1
  obtain ⟨ha2, hgr3⟩ := and_e hgr2
  obtain ⟨ha3, hgr4⟩ := and_e hgr3
  obtain ⟨w0, w1, w2, w3, w4, rfl⟩ : ∃ w0 w1 w2 w3 w4 : Value, args = #[w0, w1, w2, w3, w4] := by
    have hs : args.size = 5 := by simpa [Cond.value, given_1] using hg0
    obtain ⟨L⟩ := args
    match L, hs with
    | [w0, w1, w2, w3, w4], _ => exact ⟨w0, w1, w2, w3, w4, rfl⟩
  have hw := fun d (hd : d ∈ tables_1) => atoms_spec (ws := Jvm.Cond.code x code maxLocals ret :: tables_1) hat d (List.mem_cons_of_mem _ hd)
  have hfit : Fit s := fun {y c} hc i hi => by
    obtain ⟨ha, rfl⟩ := Array.getElem?_eq_some_iff.mp hc
    have q := List.all_eq_true.mp ((Array.all_eq_true_iff_forall_mem.mp hF) _ (Array.getElem_mem ha)) i (List.mem_range.mpr hi)
    simpa [Array.getElem?_eq_getElem hi] using q
  obtain ⟨hsets, hown0⟩ := atoms_of _ (rest_1_c_eq ▸ (show rest_1_c.before _ s = true from hrest))
  obtain ⟨i0, ei0⟩ := is_v ha0
  obtain rfl : w0 = (.int i0) := Option.some.inj ei0
  obtain ⟨i1, ei1⟩ := is_v ha1
  obtain rfl : w1 = (.int i1) := Option.some.inj ei1
  obtain ⟨i2, ei2⟩ := is_v ha2
  obtain rfl : w2 = (.int i2) := Option.some.inj ei2
  obtain ⟨i3, ei3⟩ := is_v ha3
  obtain rfl : w3 = (.int i3) := Option.some.inj ei3
  obtain ⟨i4, ei4⟩ := is_v hgr4
  obtain rfl : w4 = (.int i4) := Option.some.inj ei4
  obtain ⟨zc, evz⟩ := is_v (Cond.before_iff.mp (hsets _ (List.mem_of_getElem? (i := 1) rfl)))
  have Sz : Sta s s.heap "java/lang/String" "COMPACT_STRINGS" "Z" (.int zc) := Sta.start evz (Or.inl (hsets _ (List.mem_of_getElem? (i := 0) rfl)))
  have hz : ¬ zc = 0 := own_neI evz (hsets _ (List.mem_of_getElem? (i := 2) rfl))
  have Sh : Sta s s.heap "java/lang/Integer$IntegerCache" "high" "I" (.int (127 : Int32)) := Sta.start (own_eqI (Cond.before_iff.mp (hsets _ (List.mem_of_getElem? (i := 12) rfl)))) (Or.inl (hsets _ (List.mem_of_getElem? (i := 10) rfl)))
  obtain ⟨rc, evc⟩ := arr_v (Cond.before_iff.mp (hsets _ (List.mem_of_getElem? (i := 13) rfl)))
  have Sc : Sta s s.heap "java/lang/Integer$IntegerCache" "cache" "[Ljava/lang/Integer;" (.ref rc) := Sta.start evc (Or.inr ⟨(hw _ (List.mem_of_getElem? (i := 56) rfl)), (hsets _ (List.mem_of_getElem? (i := 11) rfl))⟩)
  have hC : own_cache s rc := own_cache_start evc (hsets _ (List.mem_of_getElem? (i := 13) rfl)) (hsets _ (List.mem_of_getElem? (i := 15) rfl)) (hsets _ (List.mem_of_getElem? (i := 16) rfl))
  obtain ⟨n, o, h1, h2, h3, _, L, rfl, ⟨rfl, N⟩, hq⟩ := rm0 l s _ hw tables_1 i0 i1 i2 i3 i4 zc rc s.heap s.heap.size (Nat.le_refl _) Sz Sh Sc (Old.start s) hz hC p e ha hc hk s m _ below hf ((Spec.applies_iff_loose hf).mp happ).1 ⟨rfl, State.Warmed39.refl s, rfl⟩ trivial
  refine ⟨n, _, h1, h2, h3, hpost _ _ _ _ _ _ ⟨Cond.after_iff.mpr rfl, Cond.after_iff.mpr (eq_i res_at (Term.int_eval (1)) rfl), trivial⟩ ⟨hq.1, hq.2.1, (hq.2.2.sift fun y hy => Or.inr (N y hy)).mono (by decide) (by decide)⟩⟩
theorem main_1_1 : Claimed_1_1 := comes_1 fun _ _ _ _ _ _ h hF => ⟨h.1, hF⟩
theorem main_1_2 : Claimed_1_2 := comes_1 fun _ _ _ _ _ _ h hF => ⟨h.2.1, hF⟩
end Jvm.Pilot.@@N@@
namespace Jvm.Pilot.@@N@@
open Jvm Jvm.ClassFile Sem Op Lib Jvm.Free Jvm.Stand Jvm.Pilot.@@N@@.Jvm.D
/-! MADE BY PROGRAM (witnessworld.py) out of the Statement's table words and the real class files: 22 classes; the members and pool entries that the words name. The judged class is class 1, her method 1. -/
namespace start1
open Jvm.ClassFile
def u (s : String) : CpInfo := .utf8 (stringToUtf16 s)
/-- a pool by its gaps: so many unusable entries, then the entry; so many at the end -/
def gap : Nat → List CpInfo → List CpInfo
  | 0, r => r
  | n + 1, r => .unusable :: gap n r
def poolList (es : List (Nat × CpInfo)) (last : Nat) : List CpInfo := es.foldr (fun e r => gap e.1 (e.2 :: r)) (gap last [])
def pool (es : List (Nat × CpInfo)) (last : Nat) : Array CpInfo := ⟨poolList es last⟩
def fileOf (pool : Array CpInfo) (this : Nat) (attrs : Array Attribute := #[]) (ms : Array MethodInfo := #[]) (fl : Nat := 33) (sup : Nat := 0) (ifs : Array Nat := #[]) (fds : Array FieldInfo := #[]) : ClassFile where
  minorVersion := 0
  majorVersion := 65
  constantPool := pool
  accessFlags := fl
  thisClass := this
  superClass := sup
  interfaces := ifs
  fields := fds
  methods := ms
  attributes := attrs
def plain (name : String) (sup : Option ClassId) : Class where
  name := name
  kind := .ordinary
  loader := none
  accessFlags := 33
  super := sup
  interfaces := #[]
  cf := none
  fields := #[]
  methods := #[]
  instanceTypes := #[]
  staticTypes := #[]
  resolved := #[]
  callSites := []
  init := .initialized
  statics := none
  mirror := none

def pool0 : Array CpInfo := pool [(5, u "<init>"), (0, u "()V"), (1, .class_ 10), (1, u "java/lang/Object")] 113

def k0c0 : Code := { maxStack := 0, maxLocals := 1, code := object_method_1_code, exceptionTable := #[], attributes := #[] }
def k0m0 : Method := { name := "<init>", desc := "()V", sig := { parameters := [], returnType := none }, accessFlags := 1, code := some k0c0 }
/-- java/lang/Object -/
def k0 : Class := { plain "java/lang/Object" none with
  accessFlags := 33
  interfaces := #[]
  cf := some (fileOf pool0 8 #[] #[{ accessFlags := 1, nameIndex := 5, descriptorIndex := 6, attributes := #[] }] 33 0 #[] #[])
  fields := #[]
  methods := #[k0m0]
  instanceTypes := #[]
  staticTypes := #[]
  resolved := Array.replicate 124 none
  statics := none }

def pool1 : Array CpInfo := pool [(2, .class_ 4), (1, u "java/lang/Object"), (0, u "<init>"), (0, u "()V"), (0, .class_ 8), (0, u "com/example/konakis/konakis/engine/Square"), (0, .methodref 7 10), (0, .nameAndType 5 11), (0, u "(II)V"), (0, .methodref 13 14), (0, .class_ 15), (0, .nameAndType 16 17), (0, u "java/lang/String"), (0, u "valueOf"), (0, u "(C)Ljava/lang/String;"), (0, .methodref 19 20), (0, .class_ 21), (0, .nameAndType 16 22), (0, u "java/lang/Integer"), (0, u "(I)Ljava/lang/Integer;"), (0, .methodref 7 24), (0, .nameAndType 25 26), (0, u "equals"), (0, u "(Ljava/lang/Object;)Z"), (0, .class_ 28), (0, u "com/example/konakis/konakis/engine/SquareEqualsPinLaw"), (2, u "law"), (0, u "(IIIII)Z")] 3

def k1m0 : Method := { name := "<init>", desc := "()V", sig := { parameters := [], returnType := none }, accessFlags := 1, code := none }
def k1c1 : Code := { maxStack := 4, maxLocals := 14, code := code, exceptionTable := #[], attributes := #[] }
def k1m1 : Method := { name := "law", desc := "(IIIII)Z", sig := { parameters := [.int, .int, .int, .int, .int], returnType := some .boolean }, accessFlags := 9, code := some k1c1 }
/-- com/example/konakis/konakis/engine/SquareEqualsPinLaw -/
def k1 : Class := { plain "com/example/konakis/konakis/engine/SquareEqualsPinLaw" (some 0) with
  accessFlags := 49
  interfaces := #[]
  cf := some (fileOf pool1 27 #[] #[{ accessFlags := 1, nameIndex := 5, descriptorIndex := 6, attributes := #[] }, { accessFlags := 9, nameIndex := 31, descriptorIndex := 32, attributes := #[] }] 49 2 #[] #[])
  fields := #[]
  methods := #[k1m0, k1m1]
  instanceTypes := #[]
  staticTypes := #[]
  resolved := Array.replicate 36 none
  statics := none }

def pool2 : Array CpInfo := pool [(1, .methodref 2 3), (0, .class_ 4), (0, .nameAndType 5 6), (0, u "java/lang/Object"), (0, u "<init>"), (0, u "()V"), (0, .class_ 8), (0, u "java/lang/Record")] 13

def k2c0 : Code := { maxStack := 1, maxLocals := 1, code := jdk_30_method_1_code, exceptionTable := #[], attributes := #[] }
def k2m0 : Method := { name := "<init>", desc := "()V", sig := { parameters := [], returnType := none }, accessFlags := 4, code := some k2c0 }
/-- java/lang/Record -/
def k2 : Class := { plain "java/lang/Record" (some 0) with
  accessFlags := 1057
  interfaces := #[]
  cf := some (fileOf pool2 7 #[] #[{ accessFlags := 4, nameIndex := 5, descriptorIndex := 6, attributes := #[] }] 1057 2 #[] #[])
  fields := #[]
  methods := #[k2m0]
  instanceTypes := #[]
  staticTypes := #[]
  resolved := Array.replicate 22 none
  statics := none }

def pool3 : Array CpInfo := pool [(1, .methodref 2 3), (0, .class_ 4), (0, .nameAndType 5 6), (0, u "java/lang/Record"), (0, u "<init>"), (0, u "()V"), (0, .fieldref 8 9), (0, .class_ 10), (0, .nameAndType 11 12), (0, u "com/example/konakis/konakis/engine/Square"), (0, u "file"), (0, u "I"), (0, .fieldref 8 14), (0, .nameAndType 15 12), (0, u "rank"), (2, u "NAME"), (0, u "Ljava/util/regex/Pattern;"), (36, u "(II)V"), (32, u "PATTERN"), (0, u "Ljava/lang/String;"), (12, u "equals"), (0, u "(Ljava/lang/Object;)Z")] 9

def k3c0 : Code := { maxStack := 2, maxLocals := 3, code := prog_47_method_1_code, exceptionTable := #[], attributes := #[] }
def k3m0 : Method := { name := "<init>", desc := "(II)V", sig := { parameters := [.int, .int], returnType := none }, accessFlags := 1, code := some k3c0 }
def k3c1 : Code := { maxStack := 2, maxLocals := 3, code := prog_47_method_5_code, exceptionTable := #[], attributes := #[] }
def k3m1 : Method := { name := "equals", desc := "(Ljava/lang/Object;)Z", sig := { parameters := [(.object "java/lang/Object")], returnType := some .boolean }, accessFlags := 1, code := some k3c1 }
/-- com/example/konakis/konakis/engine/Square -/
def k3 : Class := { plain "com/example/konakis/konakis/engine/Square" (some 2) with
  accessFlags := 49
  interfaces := #[]
  cf := some (fileOf pool3 8 #[] #[{ accessFlags := 1, nameIndex := 5, descriptorIndex := 56, attributes := #[] }, { accessFlags := 1, nameIndex := 103, descriptorIndex := 104, attributes := #[] }] 49 2 #[] #[{ accessFlags := 18, nameIndex := 11, descriptorIndex := 12, attributes := #[] }, { accessFlags := 18, nameIndex := 15, descriptorIndex := 12, attributes := #[] }, { accessFlags := 24, nameIndex := 89, descriptorIndex := 90, attributes := #[] }, { accessFlags := 26, nameIndex := 18, descriptorIndex := 19, attributes := #[] }])
  fields := #[{ name := "file", type := .int, accessFlags := 18, slot := 0, constantValue := 0 }, { name := "rank", type := .int, accessFlags := 18, slot := 1, constantValue := 0 }, { name := "PATTERN", type := (.object "java/lang/String"), accessFlags := 24, slot := 0, constantValue := 0 }, { name := "NAME", type := (.object "java/util/regex/Pattern"), accessFlags := 26, slot := 1, constantValue := 0 }]
  methods := #[k3m0, k3m1]
  instanceTypes := #[.int, .int]
  staticTypes := #[(.object "java/lang/String"), (.object "java/util/regex/Pattern")]
  resolved := Array.replicate 114 none
  statics := none }

def pool4 : Array CpInfo := pool [(1, .class_ 2), (0, u "java/io/Serializable"), (0, .class_ 4), (0, u "java/lang/Object")] 2

/-- java/io/Serializable -/
def k4 : Class := { plain "java/io/Serializable" (some 0) with
  accessFlags := 1537
  interfaces := #[]
  cf := some (fileOf pool4 1 #[] #[] 1537 3 #[] #[])
  fields := #[]
  methods := #[]
  instanceTypes := #[]
  staticTypes := #[]
  resolved := Array.replicate 7 none
  statics := none }

def pool5 : Array CpInfo := pool [(1, .class_ 2), (0, u "java/lang/Comparable"), (0, .class_ 4), (0, u "java/lang/Object")] 7

/-- java/lang/Comparable -/
def k5 : Class := { plain "java/lang/Comparable" (some 0) with
  accessFlags := 1537
  interfaces := #[]
  cf := some (fileOf pool5 1 #[] #[] 1537 3 #[] #[])
  fields := #[]
  methods := #[]
  instanceTypes := #[]
  staticTypes := #[]
  resolved := Array.replicate 12 none
  statics := none }

def pool6 : Array CpInfo := pool [(2, .class_ 4), (1, u "java/lang/CharSequence"), (42, .class_ 48), (0, u "java/lang/CharSequence$1CodePointIterator"), (10, .class_ 60), (0, u "java/lang/CharSequence$1CharIterator"), (5, .class_ 67), (0, u "java/lang/Object")] 63

/-- java/lang/CharSequence -/
def k6 : Class := { plain "java/lang/CharSequence" (some 0) with
  accessFlags := 1537
  interfaces := #[]
  cf := some (fileOf pool6 2 #[.nestMembers #[47, 59]] #[] 1537 66 #[] #[])
  fields := #[]
  methods := #[]
  instanceTypes := #[]
  staticTypes := #[]
  resolved := Array.replicate 131 none
  statics := none }

def pool7 : Array CpInfo := pool [(1, .class_ 2), (0, u "java/lang/constant/Constable"), (0, .class_ 4), (0, u "java/lang/Object")] 6

/-- java/lang/constant/Constable -/
def k7 : Class := { plain "java/lang/constant/Constable" (some 0) with
  accessFlags := 1537
  interfaces := #[]
  cf := some (fileOf pool7 1 #[] #[] 1537 3 #[] #[])
  fields := #[]
  methods := #[]
  instanceTypes := #[]
  staticTypes := #[]
  resolved := Array.replicate 11 none
  statics := none }

def pool8 : Array CpInfo := pool [(1, .class_ 2), (0, u "java/lang/constant/ConstantDesc"), (0, .class_ 4), (0, u "java/lang/Object")] 32

/-- java/lang/constant/ConstantDesc -/
def k8 : Class := { plain "java/lang/constant/ConstantDesc" (some 0) with
  accessFlags := 1537
  interfaces := #[]
  cf := some (fileOf pool8 1 #[] #[] 1537 3 #[] #[])
  fields := #[]
  methods := #[]
  instanceTypes := #[]
  staticTypes := #[]
  resolved := Array.replicate 37 none
  statics := none }

def pool9 : Array CpInfo := pool [(1, .methodref 2 3), (0, .class_ 4), (0, .nameAndType 5 6), (0, u "java/lang/Object"), (0, u "<init>"), (0, u "()V"), (2, .fieldref 10 11), (0, .class_ 12), (0, .nameAndType 13 14), (0, u "java/lang/String"), (0, u "value"), (0, u "[B"), (0, .fieldref 10 16), (0, .nameAndType 17 18), (0, u "coder"), (0, u "B"), (2, u "hash"), (0, u "I"), (2, u "hashIsZero"), (0, u "Z"), (11, .fieldref 10 39), (0, .nameAndType 40 26), (0, u "COMPACT_STRINGS"), (12, u "toBytes"), (53, .class_ 109), (1, u "java/lang/StringLatin1"), (99, .methodref 10 210), (0, .nameAndType 5 211), (0, u "([BB)V"), (157, u "(C)Z"), (205, .class_ 576), (0, u "java/lang/CharSequence"), (22, u "CASE_INSENSITIVE_ORDER"), (0, u "Ljava/util/Comparator;"), (181, u "valueOf"), (0, u "(C)Ljava/lang/String;"), (231, .methodref 107 1016), (0, .nameAndType 1017 369), (0, u "canEncode"), (0, .methodref 107 1019), (0, .nameAndType 53 1020), (0, u "(C)[B"), (80, u "serialPersistentFields"), (0, u "[Ljava/io/ObjectStreamField;"), (0, .class_ 1104), (0, u "java/lang/String$CaseInsensitiveComparator"), (1, .class_ 1107), (0, u "java/io/Serializable"), (0, .class_ 1109), (0, u "java/lang/Comparable"), (0, .class_ 1111), (0, u "java/lang/constant/Constable"), (0, .class_ 1113), (0, u "java/lang/constant/ConstantDesc"), (2, u "serialVersionUID"), (0, u "J"), (3, u "REPL"), (0, u "C"), (2, u "LATIN1"), (1, u "UTF16")] 323

def k9m0 : Method := { name := "<init>", desc := "()V", sig := { parameters := [], returnType := none }, accessFlags := 1, code := none }
def k9c1 : Code := { maxStack := 4, maxLocals := 1, code := jdk_42_method_139_code, exceptionTable := #[], attributes := #[] }
def k9m1 : Method := { name := "valueOf", desc := "(C)Ljava/lang/String;", sig := { parameters := [.char], returnType := some (.object "java/lang/String") }, accessFlags := 9, code := some k9c1 }
def k9c2 : Code := { maxStack := 2, maxLocals := 3, code := jdk_42_method_151_code, exceptionTable := #[], attributes := #[] }
def k9m2 : Method := { name := "<init>", desc := "([BB)V", sig := { parameters := [(.array .byte), .byte], returnType := none }, accessFlags := 0, code := some k9c2 }
/-- java/lang/String -/
def k9 : Class := { plain "java/lang/String" (some 0) with
  accessFlags := 49
  interfaces := #[4, 5, 6, 7, 8]
  cf := some (fileOf pool9 10 #[.nestMembers #[1103]] #[{ accessFlags := 1, nameIndex := 5, descriptorIndex := 6, attributes := #[] }, { accessFlags := 9, nameIndex := 782, descriptorIndex := 783, attributes := #[] }, { accessFlags := 0, nameIndex := 5, descriptorIndex := 211, attributes := #[] }] 49 2 #[1106, 1108, 575, 1110, 1112] #[{ accessFlags := 18, nameIndex := 13, descriptorIndex := 14, attributes := #[] }, { accessFlags := 18, nameIndex := 17, descriptorIndex := 18, attributes := #[] }, { accessFlags := 2, nameIndex := 21, descriptorIndex := 22, attributes := #[] }, { accessFlags := 2, nameIndex := 25, descriptorIndex := 26, attributes := #[] }, { accessFlags := 26, nameIndex := 1116, descriptorIndex := 1117, attributes := #[] }, { accessFlags := 24, nameIndex := 40, descriptorIndex := 26, attributes := #[] }, { accessFlags := 26, nameIndex := 1101, descriptorIndex := 1102, attributes := #[] }, { accessFlags := 26, nameIndex := 1121, descriptorIndex := 1122, attributes := #[] }, { accessFlags := 25, nameIndex := 599, descriptorIndex := 600, attributes := #[] }, { accessFlags := 24, nameIndex := 1125, descriptorIndex := 18, attributes := #[] }, { accessFlags := 24, nameIndex := 1127, descriptorIndex := 18, attributes := #[] }])
  fields := #[{ name := "value", type := (.array .byte), accessFlags := 18, slot := 0, constantValue := 0 }, { name := "coder", type := .byte, accessFlags := 18, slot := 1, constantValue := 0 }, { name := "hash", type := .int, accessFlags := 2, slot := 2, constantValue := 0 }, { name := "hashIsZero", type := .boolean, accessFlags := 2, slot := 3, constantValue := 0 }, { name := "serialVersionUID", type := .long, accessFlags := 26, slot := 0, constantValue := 0 }, { name := "COMPACT_STRINGS", type := .boolean, accessFlags := 24, slot := 1, constantValue := 0 }, { name := "serialPersistentFields", type := (.array (.object "java/io/ObjectStreamField")), accessFlags := 26, slot := 2, constantValue := 0 }, { name := "REPL", type := .char, accessFlags := 26, slot := 3, constantValue := 0 }, { name := "CASE_INSENSITIVE_ORDER", type := (.object "java/util/Comparator"), accessFlags := 25, slot := 4, constantValue := 0 }, { name := "LATIN1", type := .byte, accessFlags := 24, slot := 5, constantValue := 0 }, { name := "UTF16", type := .byte, accessFlags := 24, slot := 6, constantValue := 0 }]
  methods := #[k9m0, k9m1, k9m2]
  instanceTypes := #[(.array .byte), .byte, .int, .boolean]
  staticTypes := #[.long, .boolean, (.array (.object "java/io/ObjectStreamField")), .char, (.object "java/util/Comparator"), .byte, .byte]
  resolved := Array.replicate 1451 none
  statics := some 0 }

def pool10 : Array CpInfo := pool [(4, .class_ 6), (1, u "java/lang/Object"), (0, u "<init>"), (0, u "()V"), (5, .class_ 16), (1, u "java/lang/StringLatin1"), (73, u "canEncode"), (14, u "(C)Z"), (15, u "$assertionsDisabled"), (0, u "Z"), (98, .class_ 223), (1, u "java/lang/StringLatin1$LinesSpliterator"), (156, u "toBytes"), (1, u "(C)[B"), (7, .class_ 391), (0, u "java/lang/StringLatin1$CharsSpliterator")] 3

def k10m0 : Method := { name := "<init>", desc := "()V", sig := { parameters := [], returnType := none }, accessFlags := 0, code := none }
def k10c1 : Code := { maxStack := 2, maxLocals := 1, code := jdk_43_method_3_code, exceptionTable := #[], attributes := #[] }
def k10m1 : Method := { name := "canEncode", desc := "(C)Z", sig := { parameters := [.char], returnType := some .boolean }, accessFlags := 9, code := some k10c1 }
def k10c2 : Code := { maxStack := 4, maxLocals := 1, code := jdk_43_method_46_code, exceptionTable := #[], attributes := #[] }
def k10m2 : Method := { name := "toBytes", desc := "(C)[B", sig := { parameters := [.char], returnType := some (.array .byte) }, accessFlags := 9, code := some k10c2 }
/-- java/lang/StringLatin1 -/
def k10 : Class := { plain "java/lang/StringLatin1" (some 0) with
  accessFlags := 48
  interfaces := #[]
  cf := some (fileOf pool10 14 #[.nestMembers #[390, 221]] #[{ accessFlags := 0, nameIndex := 7, descriptorIndex := 8, attributes := #[] }, { accessFlags := 9, nameIndex := 90, descriptorIndex := 105, attributes := #[] }, { accessFlags := 9, nameIndex := 380, descriptorIndex := 382, attributes := #[] }] 48 4 #[] #[{ accessFlags := 4120, nameIndex := 121, descriptorIndex := 122, attributes := #[] }])
  fields := #[{ name := "$assertionsDisabled", type := .boolean, accessFlags := 4120, slot := 0, constantValue := 0 }]
  methods := #[k10m0, k10m1, k10m2]
  instanceTypes := #[]
  staticTypes := #[.boolean]
  resolved := Array.replicate 395 none
  statics := none }

def pool11 : Array CpInfo := pool [(1, .methodref 2 3), (0, .class_ 4), (0, .nameAndType 5 6), (0, u "java/lang/Object"), (0, u "<init>"), (0, u "()V"), (1, .class_ 10), (1, u "java/lang/Number"), (2, .class_ 14), (0, u "java/io/Serializable"), (0, u "serialVersionUID"), (0, u "J")] 20

def k11c0 : Code := { maxStack := 1, maxLocals := 1, code := jdk_18_method_1_code, exceptionTable := #[], attributes := #[] }
def k11m0 : Method := { name := "<init>", desc := "()V", sig := { parameters := [], returnType := none }, accessFlags := 1, code := some k11c0 }
/-- java/lang/Number -/
def k11 : Class := { plain "java/lang/Number" (some 0) with
  accessFlags := 1057
  interfaces := #[4]
  cf := some (fileOf pool11 8 #[] #[{ accessFlags := 1, nameIndex := 5, descriptorIndex := 6, attributes := #[] }] 1057 2 #[13] #[{ accessFlags := 26, nameIndex := 15, descriptorIndex := 16, attributes := #[] }])
  fields := #[{ name := "serialVersionUID", type := .long, accessFlags := 26, slot := 0, constantValue := 0 }]
  methods := #[k11m0]
  instanceTypes := #[]
  staticTypes := #[.long]
  resolved := Array.replicate 37 none
  statics := none }

def pool12 : Array CpInfo := pool [(1, .class_ 2), (0, u "java/lang/Integer"), (16, u "digits"), (0, u "[C"), (46, u "<init>"), (17, u "DigitOnes"), (0, u "[B"), (2, u "DigitTens"), (10, .nameAndType 67 101), (0, u "()V"), (85, u "valueOf"), (0, u "(I)Ljava/lang/Integer;"), (0, .class_ 190), (0, u "java/lang/Integer$IntegerCache"), (0, .fieldref 189 192), (0, .nameAndType 193 194), (0, u "high"), (0, u "I"), (0, .fieldref 189 196), (0, .nameAndType 197 198), (0, u "cache"), (0, u "[Ljava/lang/Integer;"), (0, .methodref 1 200), (0, .nameAndType 67 201), (0, u "(I)V"), (0, .methodref 203 100), (0, .class_ 204), (0, u "java/lang/Number"), (0, .fieldref 1 206), (0, .nameAndType 207 194), (0, u "value"), (94, u "TYPE"), (0, u "Ljava/lang/Class;"), (0, .class_ 305), (0, u "java/lang/Comparable"), (0, .class_ 307), (0, u "java/lang/constant/Constable"), (0, .class_ 309), (0, u "java/lang/constant/ConstantDesc"), (0, u "MIN_VALUE"), (1, u "MAX_VALUE"), (3, u "SIZE"), (1, u "BYTES"), (1, u "serialVersionUID"), (0, u "J")] 131

def k12c0 : Code := { maxStack := 3, maxLocals := 1, code := jdk_33_method_22_code, exceptionTable := #[], attributes := #[] }
def k12m0 : Method := { name := "valueOf", desc := "(I)Ljava/lang/Integer;", sig := { parameters := [.int], returnType := some (.object "java/lang/Integer") }, accessFlags := 9, code := some k12c0 }
def k12c1 : Code := { maxStack := 2, maxLocals := 2, code := jdk_33_method_23_code, exceptionTable := #[], attributes := #[] }
def k12m1 : Method := { name := "<init>", desc := "(I)V", sig := { parameters := [.int], returnType := none }, accessFlags := 1, code := some k12c1 }
/-- java/lang/Integer -/
def k12 : Class := { plain "java/lang/Integer" (some 11) with
  accessFlags := 49
  interfaces := #[5, 7, 8]
  cf := some (fileOf pool12 1 #[.nestMembers #[189]] #[{ accessFlags := 9, nameIndex := 187, descriptorIndex := 188, attributes := #[] }, { accessFlags := 1, nameIndex := 67, descriptorIndex := 201, attributes := #[] }] 49 203 #[304, 306, 308] #[{ accessFlags := 25, nameIndex := 310, descriptorIndex := 194, attributes := #[] }, { accessFlags := 25, nameIndex := 312, descriptorIndex := 194, attributes := #[] }, { accessFlags := 25, nameIndex := 302, descriptorIndex := 303, attributes := #[] }, { accessFlags := 24, nameIndex := 19, descriptorIndex := 20, attributes := #[] }, { accessFlags := 24, nameIndex := 89, descriptorIndex := 86, attributes := #[] }, { accessFlags := 24, nameIndex := 85, descriptorIndex := 86, attributes := #[] }, { accessFlags := 18, nameIndex := 207, descriptorIndex := 194, attributes := #[] }, { accessFlags := 25, nameIndex := 316, descriptorIndex := 194, attributes := #[] }, { accessFlags := 25, nameIndex := 318, descriptorIndex := 194, attributes := #[] }, { accessFlags := 26, nameIndex := 320, descriptorIndex := 321, attributes := #[] }])
  fields := #[{ name := "MIN_VALUE", type := .int, accessFlags := 25, slot := 0, constantValue := 0 }, { name := "MAX_VALUE", type := .int, accessFlags := 25, slot := 1, constantValue := 0 }, { name := "TYPE", type := (.object "java/lang/Class"), accessFlags := 25, slot := 2, constantValue := 0 }, { name := "digits", type := (.array .char), accessFlags := 24, slot := 3, constantValue := 0 }, { name := "DigitTens", type := (.array .byte), accessFlags := 24, slot := 4, constantValue := 0 }, { name := "DigitOnes", type := (.array .byte), accessFlags := 24, slot := 5, constantValue := 0 }, { name := "value", type := .int, accessFlags := 18, slot := 0, constantValue := 0 }, { name := "SIZE", type := .int, accessFlags := 25, slot := 6, constantValue := 0 }, { name := "BYTES", type := .int, accessFlags := 25, slot := 7, constantValue := 0 }, { name := "serialVersionUID", type := .long, accessFlags := 26, slot := 8, constantValue := 0 }]
  methods := #[k12m0, k12m1]
  instanceTypes := #[.int]
  staticTypes := #[.int, .int, (.object "java/lang/Class"), (.array .char), (.array .byte), (.array .byte), .int, .int, .long]
  resolved := Array.replicate 453 none
  statics := none }

def pool13 : Array CpInfo := pool [(2, .class_ 4), (1, u "java/lang/Object"), (0, u "<init>"), (0, u "()V"), (0, .class_ 8), (0, u "java/lang/Integer"), (7, .class_ 18), (1, u "java/lang/Integer$IntegerCache"), (0, u "$assertionsDisabled"), (0, u "Z"), (26, u "high"), (0, u "I"), (8, u "archivedCache"), (0, u "[Ljava/lang/Integer;"), (12, u "cache"), (0, u "low")] 27

def k13m0 : Method := { name := "<init>", desc := "()V", sig := { parameters := [], returnType := none }, accessFlags := 2, code := none }
/-- java/lang/Integer$IntegerCache -/
def k13 : Class := { plain "java/lang/Integer$IntegerCache" (some 0) with
  accessFlags := 48
  interfaces := #[]
  cf := some (fileOf pool13 16 #[.nestHost 7] #[{ accessFlags := 2, nameIndex := 5, descriptorIndex := 6, attributes := #[] }] 48 2 #[] #[{ accessFlags := 24, nameIndex := 72, descriptorIndex := 48, attributes := #[] }, { accessFlags := 24, nameIndex := 47, descriptorIndex := 48, attributes := #[] }, { accessFlags := 24, nameIndex := 71, descriptorIndex := 58, attributes := #[] }, { accessFlags := 8, nameIndex := 57, descriptorIndex := 58, attributes := #[] }, { accessFlags := 4120, nameIndex := 19, descriptorIndex := 20, attributes := #[] }])
  fields := #[{ name := "low", type := .int, accessFlags := 24, slot := 0, constantValue := 0 }, { name := "high", type := .int, accessFlags := 24, slot := 1, constantValue := 0 }, { name := "cache", type := (.array (.object "java/lang/Integer")), accessFlags := 24, slot := 2, constantValue := 0 }, { name := "archivedCache", type := (.array (.object "java/lang/Integer")), accessFlags := 8, slot := 3, constantValue := 0 }, { name := "$assertionsDisabled", type := .boolean, accessFlags := 4120, slot := 4, constantValue := 0 }]
  methods := #[k13m0]
  instanceTypes := #[]
  staticTypes := #[.int, .int, (.array (.object "java/lang/Integer")), (.array (.object "java/lang/Integer")), .boolean]
  resolved := Array.replicate 100 none
  statics := some 1 }

def pool14 : Array CpInfo := pool [(2, .class_ 4), (1, u "java/lang/Object"), (0, u "<init>"), (0, u "()V"), (17, .class_ 26), (1, u "jdk/internal/util/Preconditions"), (28, .class_ 56), (0, u "jdk/internal/util/Preconditions$4"), (57, .class_ 115), (0, u "jdk/internal/util/Preconditions$1"), (7, u "SIOOBE_FORMATTER"), (0, u "Ljava/util/function/BiFunction;"), (0, .class_ 126), (0, u "jdk/internal/util/Preconditions$2"), (3, u "AIOOBE_FORMATTER"), (0, .class_ 132), (0, u "jdk/internal/util/Preconditions$3"), (3, u "IOOBE_FORMATTER")] 57

def k14m0 : Method := { name := "<init>", desc := "()V", sig := { parameters := [], returnType := none }, accessFlags := 1, code := none }
/-- jdk/internal/util/Preconditions -/
def k14 : Class := { plain "jdk/internal/util/Preconditions" (some 0) with
  accessFlags := 33
  interfaces := #[]
  cf := some (fileOf pool14 24 #[.nestMembers #[55, 131, 125, 114]] #[{ accessFlags := 1, nameIndex := 5, descriptorIndex := 6, attributes := #[] }] 33 2 #[] #[{ accessFlags := 25, nameIndex := 123, descriptorIndex := 124, attributes := #[] }, { accessFlags := 25, nameIndex := 130, descriptorIndex := 124, attributes := #[] }, { accessFlags := 25, nameIndex := 136, descriptorIndex := 124, attributes := #[] }])
  fields := #[{ name := "SIOOBE_FORMATTER", type := (.object "java/util/function/BiFunction"), accessFlags := 25, slot := 0, constantValue := 0 }, { name := "AIOOBE_FORMATTER", type := (.object "java/util/function/BiFunction"), accessFlags := 25, slot := 1, constantValue := 0 }, { name := "IOOBE_FORMATTER", type := (.object "java/util/function/BiFunction"), accessFlags := 25, slot := 2, constantValue := 0 }]
  methods := #[k14m0]
  instanceTypes := #[]
  staticTypes := #[(.object "java/util/function/BiFunction"), (.object "java/util/function/BiFunction"), (.object "java/util/function/BiFunction")]
  resolved := Array.replicate 194 none
  statics := some 2 }

def pool15 : Array CpInfo := pool [(9, u "<init>"), (6, .class_ 18), (1, u "java/lang/Object"), (0, u "()V"), (1, .class_ 23), (1, u "jdk/internal/util/ArraysSupport"), (0, u "LOG2_ARRAY_LONG_INDEX_SCALE"), (0, u "I"), (2, u "U"), (0, u "Ljdk/internal/misc/Unsafe;"), (8, u "BIG_ENDIAN"), (0, u "Z"), (8, u "LOG2_BYTE_BIT_SIZE"), (4, u "LOG2_ARRAY_INT_INDEX_SCALE"), (54, u "JLA"), (0, u "Ljdk/internal/access/JavaLangAccess;"), (11, u "LOG2_ARRAY_BOOLEAN_INDEX_SCALE"), (9, u "LOG2_ARRAY_BYTE_INDEX_SCALE"), (5, u "LOG2_ARRAY_CHAR_INDEX_SCALE"), (5, u "LOG2_ARRAY_SHORT_INDEX_SCALE"), (18, u "LOG2_ARRAY_FLOAT_INDEX_SCALE"), (24, u "LOG2_ARRAY_DOUBLE_INDEX_SCALE"), (89, u "T_BOOLEAN"), (2, u "T_CHAR"), (1, u "T_FLOAT"), (1, u "T_DOUBLE"), (1, u "T_BYTE"), (1, u "T_SHORT"), (1, u "T_INT"), (1, u "T_LONG"), (1, u "SOFT_MAX_ARRAY_LENGTH")] 83

def k15m0 : Method := { name := "<init>", desc := "()V", sig := { parameters := [], returnType := none }, accessFlags := 2, code := none }
/-- jdk/internal/util/ArraysSupport -/
def k15 : Class := { plain "jdk/internal/util/ArraysSupport" (some 0) with
  accessFlags := 33
  interfaces := #[]
  cf := some (fileOf pool15 21 #[] #[{ accessFlags := 2, nameIndex := 9, descriptorIndex := 19, attributes := #[] }] 33 16 #[] #[{ accessFlags := 24, nameIndex := 28, descriptorIndex := 29, attributes := #[] }, { accessFlags := 26, nameIndex := 38, descriptorIndex := 39, attributes := #[] }, { accessFlags := 25, nameIndex := 121, descriptorIndex := 25, attributes := #[] }, { accessFlags := 25, nameIndex := 131, descriptorIndex := 25, attributes := #[] }, { accessFlags := 25, nameIndex := 137, descriptorIndex := 25, attributes := #[] }, { accessFlags := 25, nameIndex := 143, descriptorIndex := 25, attributes := #[] }, { accessFlags := 25, nameIndex := 53, descriptorIndex := 25, attributes := #[] }, { accessFlags := 25, nameIndex := 24, descriptorIndex := 25, attributes := #[] }, { accessFlags := 25, nameIndex := 162, descriptorIndex := 25, attributes := #[] }, { accessFlags := 25, nameIndex := 187, descriptorIndex := 25, attributes := #[] }, { accessFlags := 26, nameIndex := 48, descriptorIndex := 25, attributes := #[] }, { accessFlags := 25, nameIndex := 277, descriptorIndex := 25, attributes := #[] }, { accessFlags := 25, nameIndex := 280, descriptorIndex := 25, attributes := #[] }, { accessFlags := 25, nameIndex := 282, descriptorIndex := 25, attributes := #[] }, { accessFlags := 25, nameIndex := 284, descriptorIndex := 25, attributes := #[] }, { accessFlags := 25, nameIndex := 286, descriptorIndex := 25, attributes := #[] }, { accessFlags := 25, nameIndex := 288, descriptorIndex := 25, attributes := #[] }, { accessFlags := 25, nameIndex := 290, descriptorIndex := 25, attributes := #[] }, { accessFlags := 25, nameIndex := 292, descriptorIndex := 25, attributes := #[] }, { accessFlags := 26, nameIndex := 108, descriptorIndex := 109, attributes := #[] }, { accessFlags := 25, nameIndex := 294, descriptorIndex := 25, attributes := #[] }])
  fields := #[{ name := "U", type := (.object "jdk/internal/misc/Unsafe"), accessFlags := 24, slot := 0, constantValue := 0 }, { name := "BIG_ENDIAN", type := .boolean, accessFlags := 26, slot := 1, constantValue := 0 }, { name := "LOG2_ARRAY_BOOLEAN_INDEX_SCALE", type := .int, accessFlags := 25, slot := 2, constantValue := 0 }, { name := "LOG2_ARRAY_BYTE_INDEX_SCALE", type := .int, accessFlags := 25, slot := 3, constantValue := 0 }, { name := "LOG2_ARRAY_CHAR_INDEX_SCALE", type := .int, accessFlags := 25, slot := 4, constantValue := 0 }, { name := "LOG2_ARRAY_SHORT_INDEX_SCALE", type := .int, accessFlags := 25, slot := 5, constantValue := 0 }, { name := "LOG2_ARRAY_INT_INDEX_SCALE", type := .int, accessFlags := 25, slot := 6, constantValue := 0 }, { name := "LOG2_ARRAY_LONG_INDEX_SCALE", type := .int, accessFlags := 25, slot := 7, constantValue := 0 }, { name := "LOG2_ARRAY_FLOAT_INDEX_SCALE", type := .int, accessFlags := 25, slot := 8, constantValue := 0 }, { name := "LOG2_ARRAY_DOUBLE_INDEX_SCALE", type := .int, accessFlags := 25, slot := 9, constantValue := 0 }, { name := "LOG2_BYTE_BIT_SIZE", type := .int, accessFlags := 26, slot := 10, constantValue := 0 }, { name := "T_BOOLEAN", type := .int, accessFlags := 25, slot := 11, constantValue := 0 }, { name := "T_CHAR", type := .int, accessFlags := 25, slot := 12, constantValue := 0 }, { name := "T_FLOAT", type := .int, accessFlags := 25, slot := 13, constantValue := 0 }, { name := "T_DOUBLE", type := .int, accessFlags := 25, slot := 14, constantValue := 0 }, { name := "T_BYTE", type := .int, accessFlags := 25, slot := 15, constantValue := 0 }, { name := "T_SHORT", type := .int, accessFlags := 25, slot := 16, constantValue := 0 }, { name := "T_INT", type := .int, accessFlags := 25, slot := 17, constantValue := 0 }, { name := "T_LONG", type := .int, accessFlags := 25, slot := 18, constantValue := 0 }, { name := "JLA", type := (.object "jdk/internal/access/JavaLangAccess"), accessFlags := 26, slot := 19, constantValue := 0 }, { name := "SOFT_MAX_ARRAY_LENGTH", type := .int, accessFlags := 25, slot := 20, constantValue := 0 }]
  methods := #[k15m0]
  instanceTypes := #[]
  staticTypes := #[(.object "jdk/internal/misc/Unsafe"), .boolean, .int, .int, .int, .int, .int, .int, .int, .int, .int, .int, .int, .int, .int, .int, .int, .int, .int, (.object "jdk/internal/access/JavaLangAccess"), .int]
  resolved := Array.replicate 378 none
  statics := none }

def pool16 : Array CpInfo := pool [(1, u "java/lang/Cloneable"), (0, .class_ 1), (0, u "java/lang/Object"), (0, .class_ 3)] 3

/-- java/lang/Cloneable -/
def k16 : Class := { plain "java/lang/Cloneable" (some 0) with
  accessFlags := 1537
  interfaces := #[]
  cf := some (fileOf pool16 2 #[] #[] 1537 4 #[] #[])
  fields := #[]
  methods := #[]
  instanceTypes := #[]
  staticTypes := #[]
  resolved := Array.replicate 8 none
  statics := none }

/-- the primitive byte -/
def k17 : Class := { plain "byte" none with kind := .primitive 'B', accessFlags := 0x411 }
/-- [B -/
def k18 : Class := { plain "[B" (some 0) with kind := .array 17 .byte, interfaces := #[16, 4], accessFlags := 1041 }

/-- the primitive int -/
def k19 : Class := { plain "int" none with kind := .primitive 'I', accessFlags := 0x411 }
/-- [I -/
def k20 : Class := { plain "[I" (some 0) with kind := .array 19 .int, interfaces := #[16, 4], accessFlags := 1041 }

/-- [Ljava/lang/Integer; -/
def k21 : Class := { plain "[Ljava/lang/Integer;" (some 0) with kind := .array 12 (.object "java/lang/Integer"), interfaces := #[16, 4], accessFlags := 1041 }

def heap : Heap := #[{ cls := 9, slots := #[.long 0, .int 1, .null, .int 0, .null, .int 0, .int 0], vm := .statics 9 },
  { cls := 13, slots := #[.int 0, .int 127, .ref 3, .null, .int 0], vm := .statics 13 },
  { cls := 14, slots := #[.null, .null, .null], vm := .statics 14 },
  { cls := 21, slots := #[.ref 4, .ref 5, .ref 6, .ref 7, .ref 8, .ref 9, .ref 10, .ref 11, .ref 12, .ref 13, .ref 14, .ref 15, .ref 16, .ref 17, .ref 18, .ref 19, .ref 20, .ref 21, .ref 22, .ref 23, .ref 24, .ref 25, .ref 26, .ref 27, .ref 28, .ref 29, .ref 30, .ref 31, .ref 32, .ref 33, .ref 34, .ref 35, .ref 36, .ref 37, .ref 38, .ref 39, .ref 40, .ref 41, .ref 42, .ref 43, .ref 44, .ref 45, .ref 46, .ref 47, .ref 48, .ref 49, .ref 50, .ref 51, .ref 52, .ref 53, .ref 54, .ref 55, .ref 56, .ref 57, .ref 58, .ref 59, .ref 60, .ref 61, .ref 62, .ref 63, .ref 64, .ref 65, .ref 66, .ref 67, .ref 68, .ref 69, .ref 70, .ref 71, .ref 72, .ref 73, .ref 74, .ref 75, .ref 76, .ref 77, .ref 78, .ref 79, .ref 80, .ref 81, .ref 82, .ref 83, .ref 84, .ref 85, .ref 86, .ref 87, .ref 88, .ref 89, .ref 90, .ref 91, .ref 92, .ref 93, .ref 94, .ref 95, .ref 96, .ref 97, .ref 98, .ref 99, .ref 100, .ref 101, .ref 102, .ref 103, .ref 104, .ref 105, .ref 106, .ref 107, .ref 108, .ref 109, .ref 110, .ref 111, .ref 112, .ref 113, .ref 114, .ref 115, .ref 116, .ref 117, .ref 118, .ref 119, .ref 120, .ref 121, .ref 122, .ref 123, .ref 124, .ref 125, .ref 126, .ref 127, .ref 128, .ref 129, .ref 130, .ref 131, .ref 132, .ref 133, .ref 134, .ref 135, .ref 136, .ref 137, .ref 138, .ref 139, .ref 140, .ref 141, .ref 142, .ref 143, .ref 144, .ref 145, .ref 146, .ref 147, .ref 148, .ref 149, .ref 150, .ref 151, .ref 152, .ref 153, .ref 154, .ref 155, .ref 156, .ref 157, .ref 158, .ref 159, .ref 160, .ref 161, .ref 162, .ref 163, .ref 164, .ref 165, .ref 166, .ref 167, .ref 168, .ref 169, .ref 170, .ref 171, .ref 172, .ref 173, .ref 174, .ref 175, .ref 176, .ref 177, .ref 178, .ref 179, .ref 180, .ref 181, .ref 182, .ref 183, .ref 184, .ref 185, .ref 186, .ref 187, .ref 188, .ref 189, .ref 190, .ref 191, .ref 192, .ref 193, .ref 194, .ref 195, .ref 196, .ref 197, .ref 198, .ref 199, .ref 200, .ref 201, .ref 202, .ref 203, .ref 204, .ref 205, .ref 206, .ref 207, .ref 208, .ref 209, .ref 210, .ref 211, .ref 212, .ref 213, .ref 214, .ref 215, .ref 216, .ref 217, .ref 218, .ref 219, .ref 220, .ref 221, .ref 222, .ref 223, .ref 224, .ref 225, .ref 226, .ref 227, .ref 228, .ref 229, .ref 230, .ref 231, .ref 232, .ref 233, .ref 234, .ref 235, .ref 236, .ref 237, .ref 238, .ref 239, .ref 240, .ref 241, .ref 242, .ref 243, .ref 244, .ref 245, .ref 246, .ref 247, .ref 248, .ref 249, .ref 250, .ref 251, .ref 252, .ref 253, .ref 254, .ref 255, .ref 256, .ref 257, .ref 258, .ref 259], vm := .none },
  { cls := 12, slots := #[.int (-128)], vm := .none },
  { cls := 12, slots := #[.int (-127)], vm := .none },
  { cls := 12, slots := #[.int (-126)], vm := .none },
  { cls := 12, slots := #[.int (-125)], vm := .none },
  { cls := 12, slots := #[.int (-124)], vm := .none },
  { cls := 12, slots := #[.int (-123)], vm := .none },
  { cls := 12, slots := #[.int (-122)], vm := .none },
  { cls := 12, slots := #[.int (-121)], vm := .none },
  { cls := 12, slots := #[.int (-120)], vm := .none },
  { cls := 12, slots := #[.int (-119)], vm := .none },
  { cls := 12, slots := #[.int (-118)], vm := .none },
  { cls := 12, slots := #[.int (-117)], vm := .none },
  { cls := 12, slots := #[.int (-116)], vm := .none },
  { cls := 12, slots := #[.int (-115)], vm := .none },
  { cls := 12, slots := #[.int (-114)], vm := .none },
  { cls := 12, slots := #[.int (-113)], vm := .none },
  { cls := 12, slots := #[.int (-112)], vm := .none },
  { cls := 12, slots := #[.int (-111)], vm := .none },
  { cls := 12, slots := #[.int (-110)], vm := .none },
  { cls := 12, slots := #[.int (-109)], vm := .none },
  { cls := 12, slots := #[.int (-108)], vm := .none },
  { cls := 12, slots := #[.int (-107)], vm := .none },
  { cls := 12, slots := #[.int (-106)], vm := .none },
  { cls := 12, slots := #[.int (-105)], vm := .none },
  { cls := 12, slots := #[.int (-104)], vm := .none },
  { cls := 12, slots := #[.int (-103)], vm := .none },
  { cls := 12, slots := #[.int (-102)], vm := .none },
  { cls := 12, slots := #[.int (-101)], vm := .none },
  { cls := 12, slots := #[.int (-100)], vm := .none },
  { cls := 12, slots := #[.int (-99)], vm := .none },
  { cls := 12, slots := #[.int (-98)], vm := .none },
  { cls := 12, slots := #[.int (-97)], vm := .none },
  { cls := 12, slots := #[.int (-96)], vm := .none },
  { cls := 12, slots := #[.int (-95)], vm := .none },
  { cls := 12, slots := #[.int (-94)], vm := .none },
  { cls := 12, slots := #[.int (-93)], vm := .none },
  { cls := 12, slots := #[.int (-92)], vm := .none },
  { cls := 12, slots := #[.int (-91)], vm := .none },
  { cls := 12, slots := #[.int (-90)], vm := .none },
  { cls := 12, slots := #[.int (-89)], vm := .none },
  { cls := 12, slots := #[.int (-88)], vm := .none },
  { cls := 12, slots := #[.int (-87)], vm := .none },
  { cls := 12, slots := #[.int (-86)], vm := .none },
  { cls := 12, slots := #[.int (-85)], vm := .none },
  { cls := 12, slots := #[.int (-84)], vm := .none },
  { cls := 12, slots := #[.int (-83)], vm := .none },
  { cls := 12, slots := #[.int (-82)], vm := .none },
  { cls := 12, slots := #[.int (-81)], vm := .none },
  { cls := 12, slots := #[.int (-80)], vm := .none },
  { cls := 12, slots := #[.int (-79)], vm := .none },
  { cls := 12, slots := #[.int (-78)], vm := .none },
  { cls := 12, slots := #[.int (-77)], vm := .none },
  { cls := 12, slots := #[.int (-76)], vm := .none },
  { cls := 12, slots := #[.int (-75)], vm := .none },
  { cls := 12, slots := #[.int (-74)], vm := .none },
  { cls := 12, slots := #[.int (-73)], vm := .none },
  { cls := 12, slots := #[.int (-72)], vm := .none },
  { cls := 12, slots := #[.int (-71)], vm := .none },
  { cls := 12, slots := #[.int (-70)], vm := .none },
  { cls := 12, slots := #[.int (-69)], vm := .none },
  { cls := 12, slots := #[.int (-68)], vm := .none },
  { cls := 12, slots := #[.int (-67)], vm := .none },
  { cls := 12, slots := #[.int (-66)], vm := .none },
  { cls := 12, slots := #[.int (-65)], vm := .none },
  { cls := 12, slots := #[.int (-64)], vm := .none },
  { cls := 12, slots := #[.int (-63)], vm := .none },
  { cls := 12, slots := #[.int (-62)], vm := .none },
  { cls := 12, slots := #[.int (-61)], vm := .none },
  { cls := 12, slots := #[.int (-60)], vm := .none },
  { cls := 12, slots := #[.int (-59)], vm := .none },
  { cls := 12, slots := #[.int (-58)], vm := .none },
  { cls := 12, slots := #[.int (-57)], vm := .none },
  { cls := 12, slots := #[.int (-56)], vm := .none },
  { cls := 12, slots := #[.int (-55)], vm := .none },
  { cls := 12, slots := #[.int (-54)], vm := .none },
  { cls := 12, slots := #[.int (-53)], vm := .none },
  { cls := 12, slots := #[.int (-52)], vm := .none },
  { cls := 12, slots := #[.int (-51)], vm := .none },
  { cls := 12, slots := #[.int (-50)], vm := .none },
  { cls := 12, slots := #[.int (-49)], vm := .none },
  { cls := 12, slots := #[.int (-48)], vm := .none },
  { cls := 12, slots := #[.int (-47)], vm := .none },
  { cls := 12, slots := #[.int (-46)], vm := .none },
  { cls := 12, slots := #[.int (-45)], vm := .none },
  { cls := 12, slots := #[.int (-44)], vm := .none },
  { cls := 12, slots := #[.int (-43)], vm := .none },
  { cls := 12, slots := #[.int (-42)], vm := .none },
  { cls := 12, slots := #[.int (-41)], vm := .none },
  { cls := 12, slots := #[.int (-40)], vm := .none },
  { cls := 12, slots := #[.int (-39)], vm := .none },
  { cls := 12, slots := #[.int (-38)], vm := .none },
  { cls := 12, slots := #[.int (-37)], vm := .none },
  { cls := 12, slots := #[.int (-36)], vm := .none },
  { cls := 12, slots := #[.int (-35)], vm := .none },
  { cls := 12, slots := #[.int (-34)], vm := .none },
  { cls := 12, slots := #[.int (-33)], vm := .none },
  { cls := 12, slots := #[.int (-32)], vm := .none },
  { cls := 12, slots := #[.int (-31)], vm := .none },
  { cls := 12, slots := #[.int (-30)], vm := .none },
  { cls := 12, slots := #[.int (-29)], vm := .none },
  { cls := 12, slots := #[.int (-28)], vm := .none },
  { cls := 12, slots := #[.int (-27)], vm := .none },
  { cls := 12, slots := #[.int (-26)], vm := .none },
  { cls := 12, slots := #[.int (-25)], vm := .none },
  { cls := 12, slots := #[.int (-24)], vm := .none },
  { cls := 12, slots := #[.int (-23)], vm := .none },
  { cls := 12, slots := #[.int (-22)], vm := .none },
  { cls := 12, slots := #[.int (-21)], vm := .none },
  { cls := 12, slots := #[.int (-20)], vm := .none },
  { cls := 12, slots := #[.int (-19)], vm := .none },
  { cls := 12, slots := #[.int (-18)], vm := .none },
  { cls := 12, slots := #[.int (-17)], vm := .none },
  { cls := 12, slots := #[.int (-16)], vm := .none },
  { cls := 12, slots := #[.int (-15)], vm := .none },
  { cls := 12, slots := #[.int (-14)], vm := .none },
  { cls := 12, slots := #[.int (-13)], vm := .none },
  { cls := 12, slots := #[.int (-12)], vm := .none },
  { cls := 12, slots := #[.int (-11)], vm := .none },
  { cls := 12, slots := #[.int (-10)], vm := .none },
  { cls := 12, slots := #[.int (-9)], vm := .none },
  { cls := 12, slots := #[.int (-8)], vm := .none },
  { cls := 12, slots := #[.int (-7)], vm := .none },
  { cls := 12, slots := #[.int (-6)], vm := .none },
  { cls := 12, slots := #[.int (-5)], vm := .none },
  { cls := 12, slots := #[.int (-4)], vm := .none },
  { cls := 12, slots := #[.int (-3)], vm := .none },
  { cls := 12, slots := #[.int (-2)], vm := .none },
  { cls := 12, slots := #[.int (-1)], vm := .none },
  { cls := 12, slots := #[.int 0], vm := .none },
  { cls := 12, slots := #[.int 1], vm := .none },
  { cls := 12, slots := #[.int 2], vm := .none },
  { cls := 12, slots := #[.int 3], vm := .none },
  { cls := 12, slots := #[.int 4], vm := .none },
  { cls := 12, slots := #[.int 5], vm := .none },
  { cls := 12, slots := #[.int 6], vm := .none },
  { cls := 12, slots := #[.int 7], vm := .none },
  { cls := 12, slots := #[.int 8], vm := .none },
  { cls := 12, slots := #[.int 9], vm := .none },
  { cls := 12, slots := #[.int 10], vm := .none },
  { cls := 12, slots := #[.int 11], vm := .none },
  { cls := 12, slots := #[.int 12], vm := .none },
  { cls := 12, slots := #[.int 13], vm := .none },
  { cls := 12, slots := #[.int 14], vm := .none },
  { cls := 12, slots := #[.int 15], vm := .none },
  { cls := 12, slots := #[.int 16], vm := .none },
  { cls := 12, slots := #[.int 17], vm := .none },
  { cls := 12, slots := #[.int 18], vm := .none },
  { cls := 12, slots := #[.int 19], vm := .none },
  { cls := 12, slots := #[.int 20], vm := .none },
  { cls := 12, slots := #[.int 21], vm := .none },
  { cls := 12, slots := #[.int 22], vm := .none },
  { cls := 12, slots := #[.int 23], vm := .none },
  { cls := 12, slots := #[.int 24], vm := .none },
  { cls := 12, slots := #[.int 25], vm := .none },
  { cls := 12, slots := #[.int 26], vm := .none },
  { cls := 12, slots := #[.int 27], vm := .none },
  { cls := 12, slots := #[.int 28], vm := .none },
  { cls := 12, slots := #[.int 29], vm := .none },
  { cls := 12, slots := #[.int 30], vm := .none },
  { cls := 12, slots := #[.int 31], vm := .none },
  { cls := 12, slots := #[.int 32], vm := .none },
  { cls := 12, slots := #[.int 33], vm := .none },
  { cls := 12, slots := #[.int 34], vm := .none },
  { cls := 12, slots := #[.int 35], vm := .none },
  { cls := 12, slots := #[.int 36], vm := .none },
  { cls := 12, slots := #[.int 37], vm := .none },
  { cls := 12, slots := #[.int 38], vm := .none },
  { cls := 12, slots := #[.int 39], vm := .none },
  { cls := 12, slots := #[.int 40], vm := .none },
  { cls := 12, slots := #[.int 41], vm := .none },
  { cls := 12, slots := #[.int 42], vm := .none },
  { cls := 12, slots := #[.int 43], vm := .none },
  { cls := 12, slots := #[.int 44], vm := .none },
  { cls := 12, slots := #[.int 45], vm := .none },
  { cls := 12, slots := #[.int 46], vm := .none },
  { cls := 12, slots := #[.int 47], vm := .none },
  { cls := 12, slots := #[.int 48], vm := .none },
  { cls := 12, slots := #[.int 49], vm := .none },
  { cls := 12, slots := #[.int 50], vm := .none },
  { cls := 12, slots := #[.int 51], vm := .none },
  { cls := 12, slots := #[.int 52], vm := .none },
  { cls := 12, slots := #[.int 53], vm := .none },
  { cls := 12, slots := #[.int 54], vm := .none },
  { cls := 12, slots := #[.int 55], vm := .none },
  { cls := 12, slots := #[.int 56], vm := .none },
  { cls := 12, slots := #[.int 57], vm := .none },
  { cls := 12, slots := #[.int 58], vm := .none },
  { cls := 12, slots := #[.int 59], vm := .none },
  { cls := 12, slots := #[.int 60], vm := .none },
  { cls := 12, slots := #[.int 61], vm := .none },
  { cls := 12, slots := #[.int 62], vm := .none },
  { cls := 12, slots := #[.int 63], vm := .none },
  { cls := 12, slots := #[.int 64], vm := .none },
  { cls := 12, slots := #[.int 65], vm := .none },
  { cls := 12, slots := #[.int 66], vm := .none },
  { cls := 12, slots := #[.int 67], vm := .none },
  { cls := 12, slots := #[.int 68], vm := .none },
  { cls := 12, slots := #[.int 69], vm := .none },
  { cls := 12, slots := #[.int 70], vm := .none },
  { cls := 12, slots := #[.int 71], vm := .none },
  { cls := 12, slots := #[.int 72], vm := .none },
  { cls := 12, slots := #[.int 73], vm := .none },
  { cls := 12, slots := #[.int 74], vm := .none },
  { cls := 12, slots := #[.int 75], vm := .none },
  { cls := 12, slots := #[.int 76], vm := .none },
  { cls := 12, slots := #[.int 77], vm := .none },
  { cls := 12, slots := #[.int 78], vm := .none },
  { cls := 12, slots := #[.int 79], vm := .none },
  { cls := 12, slots := #[.int 80], vm := .none },
  { cls := 12, slots := #[.int 81], vm := .none },
  { cls := 12, slots := #[.int 82], vm := .none },
  { cls := 12, slots := #[.int 83], vm := .none },
  { cls := 12, slots := #[.int 84], vm := .none },
  { cls := 12, slots := #[.int 85], vm := .none },
  { cls := 12, slots := #[.int 86], vm := .none },
  { cls := 12, slots := #[.int 87], vm := .none },
  { cls := 12, slots := #[.int 88], vm := .none },
  { cls := 12, slots := #[.int 89], vm := .none },
  { cls := 12, slots := #[.int 90], vm := .none },
  { cls := 12, slots := #[.int 91], vm := .none },
  { cls := 12, slots := #[.int 92], vm := .none },
  { cls := 12, slots := #[.int 93], vm := .none },
  { cls := 12, slots := #[.int 94], vm := .none },
  { cls := 12, slots := #[.int 95], vm := .none },
  { cls := 12, slots := #[.int 96], vm := .none },
  { cls := 12, slots := #[.int 97], vm := .none },
  { cls := 12, slots := #[.int 98], vm := .none },
  { cls := 12, slots := #[.int 99], vm := .none },
  { cls := 12, slots := #[.int 100], vm := .none },
  { cls := 12, slots := #[.int 101], vm := .none },
  { cls := 12, slots := #[.int 102], vm := .none },
  { cls := 12, slots := #[.int 103], vm := .none },
  { cls := 12, slots := #[.int 104], vm := .none },
  { cls := 12, slots := #[.int 105], vm := .none },
  { cls := 12, slots := #[.int 106], vm := .none },
  { cls := 12, slots := #[.int 107], vm := .none },
  { cls := 12, slots := #[.int 108], vm := .none },
  { cls := 12, slots := #[.int 109], vm := .none },
  { cls := 12, slots := #[.int 110], vm := .none },
  { cls := 12, slots := #[.int 111], vm := .none },
  { cls := 12, slots := #[.int 112], vm := .none },
  { cls := 12, slots := #[.int 113], vm := .none },
  { cls := 12, slots := #[.int 114], vm := .none },
  { cls := 12, slots := #[.int 115], vm := .none },
  { cls := 12, slots := #[.int 116], vm := .none },
  { cls := 12, slots := #[.int 117], vm := .none },
  { cls := 12, slots := #[.int 118], vm := .none },
  { cls := 12, slots := #[.int 119], vm := .none },
  { cls := 12, slots := #[.int 120], vm := .none },
  { cls := 12, slots := #[.int 121], vm := .none },
  { cls := 12, slots := #[.int 122], vm := .none },
  { cls := 12, slots := #[.int 123], vm := .none },
  { cls := 12, slots := #[.int 124], vm := .none },
  { cls := 12, slots := #[.int 125], vm := .none },
  { cls := 12, slots := #[.int 126], vm := .none },
  { cls := 12, slots := #[.int 127], vm := .none }]
def classes : Array Class := #[k0, k1, k2, k3, k4, k5, k6, k7, k8, k9, k10, k11, k12, k13, k14, k15, k16, k17, k18, k19, k20, k21]
def interned : List (Array UInt16 × Addr) := []
def slotsUsed : Nat := 527
def theMethod : MethodId := ⟨1, 1⟩
def args0 : Array Value := #[.int 5, .int 6, .int 7, .int 8, .int 9]
def aboutOver (below : List Frame) : State where
  vm := { classes := classes, interned := interned.toArray }
  heap := heap
  slotsUsed := slotsUsed
  threads := #[{ frames := .invoking theMethod args0 :: below }]
def below0 : List Frame := [.native { method := ⟨0, 0⟩, args := #[] }]
def about1 : State := aboutOver below0
def p0 : Program := .bare "" "" ""
def e0 : Env := launch0.env 0 0 0
theorem w_frames : about1.frames = Frame.invoking theMethod args0 :: below0 := rfl
set_option maxRecDepth 65536 in
theorem w_args : argsFit about1.vm theMethod args0 = true := by decide +kernel
set_option maxRecDepth 65536 in
theorem w_heap : heapFits about1 = true := by decide +kernel
set_option maxRecDepth 65536 in
theorem w_runnable : about1.curStatus? = some .runnable := by decide +kernel
set_option maxRecDepth 65536 in
theorem w_alone : about1.alone = true := by decide +kernel
set_option maxRecDepth 65536 in
theorem w_named : about1.methodNamed? x = some theMethod := by decide +kernel
set_option maxRecDepth 65536 in
theorem w_hears : about1.hears theMethod below0 = true := by decide +kernel
set_option maxRecDepth 65536 in
theorem w_ripe : about1.ripe theMethod args0 below0 = true := by decide +kernel
theorem w_running : about1.status = .running := rfl
set_option maxRecDepth 65536 in
theorem w_room : about1.hasRoom e0.platform room_1 = true :=
  launch0.hasRoom_least _ room_1 (by decide +kernel) (by decide +kernel) (by decide +kernel) (by decide +kernel) (by decide +kernel) (by decide +kernel)
theorem allAtoms_all (ts : List Jvm.Cond) (a : Array Jvm.Value) (st : Jvm.State) : (allAtoms ts).before a st = ts.all (fun c => c.before a st) := by
  induction ts with
  | nil => rfl
  | cons c t ih =>
    show (Jvm.Cond.and c (allAtoms t)).before a st = _
    rw [Jvm.Cond.before_and, ih, List.all_cons]
def words1 : List Jvm.Cond := Jvm.Cond.code x code maxLocals ret :: tables_1
/-- a 'code' word, met by the world's own term for the bytes: nothing is compared byte by byte -/
theorem code_word {y : MethodName} {bytes : ByteArray} {mx : Nat} {rt : Option FieldType} {a : Array Value} {s : State} {m : MethodId} {meth : Method} {c : Code} (h1 : s.methodNamed? y = some m) (h2 : s.vm.method? m = some meth) (h3 : meth.code = some c) (h4 : c.code = bytes)
    (h5 : (c.maxLocals == mx && c.exceptionTable.isEmpty && decide (c.maxStack ≤ mostOperands) && decide (meth.sig.returnType = rt) && !meth.locks && decide (parseMethodDescriptor y.desc = some meth.sig)) = true) : (Jvm.Cond.code y bytes mx rt).before a s = true := by
  simp only [Bool.and_eq_true, beq_iff_eq, Bool.not_eq_true', decide_eq_true_eq] at h5
  obtain ⟨⟨⟨⟨⟨g1, g2⟩, g3⟩, g4⟩, g5⟩, g6⟩ := h5
  simp [Cond.before, Cond.holds, Cond.value, h1, h2, h3, h4, g1, g2, g3, g4, g5, g6]
def isCode : Jvm.Cond → Bool
  | .code _ _ _ _ => true
  | _ => false
theorem all_split {L : List Jvm.Cond} {P : Jvm.Cond → Bool} (h1 : L.all (fun c => isCode c || P c) = true) (h2 : ∀ c ∈ L.filter isCode, P c = true) : L.all P = true := by
  refine List.all_eq_true.mpr fun c hc => ?_
  have h := List.all_eq_true.mp h1 c hc
  rcases Bool.eq_false_or_eq_true (isCode c) with hi | hi
  · exact h2 c (List.mem_filter.mpr ⟨hc, hi⟩)
  · simpa [hi] using h
set_option maxRecDepth 65536 in
theorem w_c0 : (Jvm.Cond.code x code maxLocals ret).before args0 about1 = true := code_word (m := ⟨1, 1⟩) (meth := k1m1) (c := k1c1) (by decide +kernel) rfl rfl rfl (by decide +kernel)
set_option maxRecDepth 65536 in
theorem w_c1 : (Jvm.Cond.code ({ cls := "com/example/konakis/konakis/engine/Square", name := "<init>", desc := "(II)V" } : Jvm.MethodName) prog_47_method_1_code (3 : Nat) (Option.none : Option Jvm.ClassFile.FieldType)).before args0 about1 = true := code_word (m := ⟨3, 0⟩) (meth := k3m0) (c := k3c0) (by decide +kernel) rfl rfl rfl (by decide +kernel)
set_option maxRecDepth 65536 in
theorem w_c2 : (Jvm.Cond.code ({ cls := "java/lang/Record", name := "<init>", desc := "()V" } : Jvm.MethodName) jdk_30_method_1_code (1 : Nat) (Option.none : Option Jvm.ClassFile.FieldType)).before args0 about1 = true := code_word (m := ⟨2, 0⟩) (meth := k2m0) (c := k2c0) (by decide +kernel) rfl rfl rfl (by decide +kernel)
set_option maxRecDepth 65536 in
theorem w_c3 : (Jvm.Cond.code ({ cls := "java/lang/Object", name := "<init>", desc := "()V" } : Jvm.MethodName) object_method_1_code (1 : Nat) (Option.none : Option Jvm.ClassFile.FieldType)).before args0 about1 = true := code_word (m := ⟨0, 0⟩) (meth := k0m0) (c := k0c0) (by decide +kernel) rfl rfl rfl (by decide +kernel)
set_option maxRecDepth 65536 in
theorem w_c4 : (Jvm.Cond.code ({ cls := "com/example/konakis/konakis/engine/Square", name := "equals", desc := "(Ljava/lang/Object;)Z" } : Jvm.MethodName) prog_47_method_5_code (3 : Nat) (Option.some Jvm.ClassFile.FieldType.boolean)).before args0 about1 = true := code_word (m := ⟨3, 1⟩) (meth := k3m1) (c := k3c1) (by decide +kernel) rfl rfl rfl (by decide +kernel)
set_option maxRecDepth 65536 in
theorem w_c5 : (Jvm.Cond.code ({ cls := "java/lang/String", name := "valueOf", desc := "(C)Ljava/lang/String;" } : Jvm.MethodName) jdk_42_method_139_code (1 : Nat) (Option.some (Jvm.ClassFile.FieldType.object "java/lang/String"))).before args0 about1 = true := code_word (m := ⟨9, 1⟩) (meth := k9m1) (c := k9c1) (by decide +kernel) rfl rfl rfl (by decide +kernel)
set_option maxRecDepth 65536 in
theorem w_c6 : (Jvm.Cond.code ({ cls := "java/lang/StringLatin1", name := "canEncode", desc := "(C)Z" } : Jvm.MethodName) jdk_43_method_3_code (1 : Nat) (Option.some Jvm.ClassFile.FieldType.boolean)).before args0 about1 = true := code_word (m := ⟨10, 1⟩) (meth := k10m1) (c := k10c1) (by decide +kernel) rfl rfl rfl (by decide +kernel)
set_option maxRecDepth 65536 in
theorem w_c7 : (Jvm.Cond.code ({ cls := "java/lang/StringLatin1", name := "toBytes", desc := "(C)[B" } : Jvm.MethodName) jdk_43_method_46_code (1 : Nat) (Option.some (Jvm.ClassFile.FieldType.array Jvm.ClassFile.FieldType.byte))).before args0 about1 = true := code_word (m := ⟨10, 2⟩) (meth := k10m2) (c := k10c2) (by decide +kernel) rfl rfl rfl (by decide +kernel)
set_option maxRecDepth 65536 in
theorem w_c8 : (Jvm.Cond.code ({ cls := "java/lang/String", name := "<init>", desc := "([BB)V" } : Jvm.MethodName) jdk_42_method_151_code (3 : Nat) (Option.none : Option Jvm.ClassFile.FieldType)).before args0 about1 = true := code_word (m := ⟨9, 2⟩) (meth := k9m2) (c := k9c2) (by decide +kernel) rfl rfl rfl (by decide +kernel)
set_option maxRecDepth 65536 in
theorem w_c9 : (Jvm.Cond.code ({ cls := "java/lang/Integer", name := "valueOf", desc := "(I)Ljava/lang/Integer;" } : Jvm.MethodName) jdk_33_method_22_code (1 : Nat) (Option.some (Jvm.ClassFile.FieldType.object "java/lang/Integer"))).before args0 about1 = true := code_word (m := ⟨12, 0⟩) (meth := k12m0) (c := k12c0) (by decide +kernel) rfl rfl rfl (by decide +kernel)
set_option maxRecDepth 65536 in
theorem w_c10 : (Jvm.Cond.code ({ cls := "java/lang/Integer", name := "<init>", desc := "(I)V" } : Jvm.MethodName) jdk_33_method_23_code (2 : Nat) (Option.none : Option Jvm.ClassFile.FieldType)).before args0 about1 = true := code_word (m := ⟨12, 1⟩) (meth := k12m1) (c := k12c1) (by decide +kernel) rfl rfl rfl (by decide +kernel)
set_option maxRecDepth 65536 in
theorem w_c11 : (Jvm.Cond.code ({ cls := "java/lang/Number", name := "<init>", desc := "()V" } : Jvm.MethodName) jdk_18_method_1_code (1 : Nat) (Option.none : Option Jvm.ClassFile.FieldType)).before args0 about1 = true := code_word (m := ⟨11, 0⟩) (meth := k11m0) (c := k11c0) (by decide +kernel) rfl rfl rfl (by decide +kernel)
def codes1 : List Jvm.Cond := [Jvm.Cond.code x code maxLocals ret, Jvm.Cond.code ({ cls := "com/example/konakis/konakis/engine/Square", name := "<init>", desc := "(II)V" } : Jvm.MethodName) prog_47_method_1_code (3 : Nat) (Option.none : Option Jvm.ClassFile.FieldType), Jvm.Cond.code ({ cls := "java/lang/Record", name := "<init>", desc := "()V" } : Jvm.MethodName) jdk_30_method_1_code (1 : Nat) (Option.none : Option Jvm.ClassFile.FieldType), Jvm.Cond.code ({ cls := "java/lang/Object", name := "<init>", desc := "()V" } : Jvm.MethodName) object_method_1_code (1 : Nat) (Option.none : Option Jvm.ClassFile.FieldType), Jvm.Cond.code ({ cls := "com/example/konakis/konakis/engine/Square", name := "equals", desc := "(Ljava/lang/Object;)Z" } : Jvm.MethodName) prog_47_method_5_code (3 : Nat) (Option.some Jvm.ClassFile.FieldType.boolean), Jvm.Cond.code ({ cls := "java/lang/String", name := "valueOf", desc := "(C)Ljava/lang/String;" } : Jvm.MethodName) jdk_42_method_139_code (1 : Nat) (Option.some (Jvm.ClassFile.FieldType.object "java/lang/String")), Jvm.Cond.code ({ cls := "java/lang/StringLatin1", name := "canEncode", desc := "(C)Z" } : Jvm.MethodName) jdk_43_method_3_code (1 : Nat) (Option.some Jvm.ClassFile.FieldType.boolean), Jvm.Cond.code ({ cls := "java/lang/StringLatin1", name := "toBytes", desc := "(C)[B" } : Jvm.MethodName) jdk_43_method_46_code (1 : Nat) (Option.some (Jvm.ClassFile.FieldType.array Jvm.ClassFile.FieldType.byte)), Jvm.Cond.code ({ cls := "java/lang/String", name := "<init>", desc := "([BB)V" } : Jvm.MethodName) jdk_42_method_151_code (3 : Nat) (Option.none : Option Jvm.ClassFile.FieldType), Jvm.Cond.code ({ cls := "java/lang/Integer", name := "valueOf", desc := "(I)Ljava/lang/Integer;" } : Jvm.MethodName) jdk_33_method_22_code (1 : Nat) (Option.some (Jvm.ClassFile.FieldType.object "java/lang/Integer")), Jvm.Cond.code ({ cls := "java/lang/Integer", name := "<init>", desc := "(I)V" } : Jvm.MethodName) jdk_33_method_23_code (2 : Nat) (Option.none : Option Jvm.ClassFile.FieldType), Jvm.Cond.code ({ cls := "java/lang/Number", name := "<init>", desc := "()V" } : Jvm.MethodName) jdk_18_method_1_code (1 : Nat) (Option.none : Option Jvm.ClassFile.FieldType)]
set_option maxRecDepth 65536 in
theorem codes_eq : words1.filter isCode = codes1 := rfl
theorem w_codes : ∀ c ∈ words1.filter isCode, c.before args0 about1 = true := by
  rw [codes_eq]
  intro c hc
  simp only [codes1, List.mem_cons, List.not_mem_nil, or_false] at hc
  rcases hc with rfl | rfl | rfl | rfl | rfl | rfl | rfl | rfl | rfl | rfl | rfl | rfl
  · exact w_c0
  · exact w_c1
  · exact w_c2
  · exact w_c3
  · exact w_c4
  · exact w_c5
  · exact w_c6
  · exact w_c7
  · exact w_c8
  · exact w_c9
  · exact w_c10
  · exact w_c11
set_option maxRecDepth 65536 in
theorem w_t1 : (words1.take 24).all (fun c => isCode c || c.before args0 about1) = true := by decide +kernel
set_option maxRecDepth 65536 in
theorem w_t2 : ((words1.drop 24).take 24).all (fun c => isCode c || c.before args0 about1) = true := by decide +kernel
set_option maxRecDepth 65536 in
theorem w_t3 : (((words1.drop 24).drop 24).take 24).all (fun c => isCode c || c.before args0 about1) = true := by decide +kernel
set_option maxRecDepth 65536 in
theorem w_t4 : (((words1.drop 24).drop 24).drop 24).all (fun c => isCode c || c.before args0 about1) = true := by decide +kernel
theorem w_tables : (allAtoms (Jvm.Cond.code x code maxLocals ret :: tables_1)).before args0 about1 = true := by
  rw [allAtoms_all]
  show words1.all (fun c => c.before args0 about1) = true
  refine all_split ?_ w_codes
  rw [← List.take_append_drop 24 words1, List.all_append, w_t1, ← List.take_append_drop 24 (words1.drop 24), List.all_append, w_t2, ← List.take_append_drop 24 ((words1.drop 24).drop 24), List.all_append, w_t3, w_t4]
  rfl
set_option maxRecDepth 65536 in
theorem w_rest : rest_1_c.before args0 about1 = true := by decide +kernel
set_option maxRecDepth 65536 in
theorem w_case : (Jvm.Cond.and given_1 narrow_1).before args0 about1 = true := by decide +kernel
theorem w_applies : (headSpec (Jvm.Cond.code x code maxLocals ret :: tables_1) room_1).applies x e0.platform about1 = true :=
  (Spec.applies_iff w_frames).mpr ⟨w_running, w_runnable, w_alone, w_named, w_hears, w_ripe, w_room, w_tables⟩
theorem atStart : AtStart classFile x code maxLocals ret World_1 tables_1 room_1 Calls_1 rest_1 Pre_1 launch0 p0 e0 about1 theMethod args0 below0 :=
  ⟨lists_1, trivial, launch0.admits_env _ _ _, launch0.least_env, fairChoices_fair.cas, fairChoices_fair.clock, w_frames, w_args, w_heap, w_applies, trivial, w_rest, w_case⟩
end start1
theorem witness_1 : WitnessClaimed_1 := ⟨start1.p0, start1.e0, start1.about1, start1.theMethod, start1.args0, start1.below0, start1.atStart⟩
end Jvm.Pilot.@@N@@
