import JvmDerived
import JvmDerived.Pilot.@@N@@Statement
import JvmDerived.Pilot.@@N@@Code
set_option linter.unusedVariables false
set_option linter.unusedSimpArgs false
namespace Jvm.Pilot.@@N@@
open Jvm Jvm.ClassFile Sem Op Lib Jvm.Free Jvm.Stand Jvm.LawKit Jvm.RoadKit Bundle Jvm.Pilot.@@N@@.Jvm.D
/-! the run comes to an end that answers Q -/
def Go (p : Program) (e : Env) (below : List Frame) (Q : Outcome → State → Prop) (T : State) (g : JFrame) : Prop :=
  ∃ s₂ o, Steps p.tables e below (T.setTop g) s₂ ∧ s₂.status = .running ∧ Ended s₂ below o ∧ Q o s₂
section Own
variable {p : Program} {l : Launch} {e : Env} {R : Room} {s : State} {m : MethodId} {args : Array Value} {below : List Frame} {meth : Method} {c : Code} {T T' : State} {locs : List Loc} {cells slots : Nat} {Q : Outcome → State → Prop} {g g' : JFrame}
theorem Go.of (k : ∀ t, Steps p.tables e below (T'.setTop g') t → Steps p.tables e below (T.setTop g) t) (h : Go p e below Q T' g') : Go p e below Q T g := by
  obtain ⟨u, o, h1, h2⟩ := h
  exact ⟨u, o, k _ h1, h2⟩
theorem Go.via (k : Steps p.tables e below (T.setTop g) (T'.setTop g')) (h : Go p e below Q T' g') : Go p e below Q T g := by
  obtain ⟨u, o, h1, h2⟩ := h
  exact ⟨u, o, k.trans h1, h2⟩
theorem Go.cast (q : g = g') (h : Go p e below Q T g') : Go p e below Q T g := q ▸ h
theorem own_out (X : Stand p l e R s m args below meth c T locs cells slots) {v : Option Value} (hv : meth.sig.returnType = none → v = none) (hlocks : meth.locks = false)
    (k : ∀ fs : List Frame, (∀ (f : JFrame) (acts : List Action), f.method = m → f.locked = none → f.entered = [] → (doReturn e (T.setTop f) acts v).1 = T.setFrames fs) → Steps p.tables e below (T.setTop g) (T.setFrames fs))
    (hQ : ∀ u : State, u.heap = T.heap → FrameEnd s (.returned v) u locs cells slots → Q (.returned v) u) : Go p e below Q T g := by
  obtain ⟨fs, hr, hrun, hended, hW, hsame⟩ := X.leave hv hlocks
  exact ⟨_, _, k fs hr, hrun, hended, hQ _ rfl ⟨⟨_, rfl⟩, hW, hsame⟩⟩
theorem own_retN (X : Stand p l e R s m args below meth c T locs cells slots) (hx : p.tables.exec = Jvm.exec) (hlocks : meth.locks = false) {pc : Nat} {Ls : Array Slot} {z : Int32} {t : FieldType} {rest : List Value} (hret : meth.sig.returnType = some t) (ht : t = .boolean ∨ t = .byte ∨ t = .char ∨ t = .short)
    (hd : decode c.code pc = .ok (.ireturn, 1)) (hQ : ∀ u : State, u.heap = T.heap → FrameEnd s (.returned (some (.int (nar t z)))) u locs cells slots → Q (.returned (some (.int (nar t z)))) u) : Go p e below Q T (mkF m pc Ls (.int z :: rest)) :=
  own_out X (fun h => by rw [hret] at h; cases h) hlocks (fun fs hr => retN X hx hret ht hd hr) hQ
theorem own_retW (X : Stand p l e R s m args below meth c T locs cells slots) (hx : p.tables.exec = Jvm.exec) (hlocks : meth.locks = false) {pc : Nat} {Ls : Array Slot} {w : Value} {t : FieldType} {i : Instr} {rest : List Value} (hret : meth.sig.returnType = some t) (hn : narrow t w = w)
    (hi : (i = .ireturn ∧ (t = .int ∨ t = .boolean ∨ t = .byte ∨ t = .char ∨ t = .short) ∧ ∃ z, w = .int z) ∨ (i = .lreturn ∧ t = .long ∧ ∃ z, w = .long z) ∨ (i = .dreturn ∧ t = .double ∧ ∃ z, w = .double z) ∨ (i = .freturn ∧ t = .float ∧ ∃ z, w = .float z) ∨ (i = .areturn ∧ t.isReference = true ∧ w.isRef = true))
    (hd : decode c.code pc = .ok (i, 1)) (hQ : ∀ u : State, u.heap = T.heap → FrameEnd s (.returned (some w)) u locs cells slots → Q (.returned (some w)) u) : Go p e below Q T (mkF m pc Ls (w :: rest)) :=
  own_out X (fun h => by rw [hret] at h; cases h) hlocks (fun fs hr => retOut X hx hret hn hi hd hr) hQ
theorem own_ret0 (X : Stand p l e R s m args below meth c T locs cells slots) (hx : p.tables.exec = Jvm.exec) (hlocks : meth.locks = false) {pc : Nat} {Ls : Array Slot} (hret : meth.sig.returnType = none)
    (hd : decode c.code pc = .ok (.return_, 1)) (hQ : ∀ u : State, u.heap = T.heap → FrameEnd s (.returned none) u locs cells slots → Q (.returned none) u) : Go p e below Q T (mkF m pc Ls []) :=
  own_out X (fun _ => rfl) hlocks (fun fs hr => X.returnOut hx hret hd hr) hQ
theorem own_mono {o : Outcome} {u : State} {k n k' n' : Nat} (h : FrameEnd s o u locs k n) (hk : k ≤ k') (hn : n ≤ n') : FrameEnd s o u locs k' n' := ⟨h.1, h.2.1, h.2.2.mono hk hn⟩
end Own
theorem d2_0 : decode jdk_30_method_1_code 0 = .ok (.aload_n 0, 1) := by decide +kernel
theorem d2_1 : decode jdk_30_method_1_code 1 = .ok (.invokespecial 1, 3) := by decide +kernel
theorem d2_4 : decode jdk_30_method_1_code 4 = .ok (.return_, 1) := by decide +kernel
theorem pn_0 : plainName "java/lang/Record" = true := by first | (simp [plainName, overriddenIn]; done) | decide +kernel
theorem ef_2 (m : MethodId) (r1 : Addr)  : entryFrame m #[(.ref r1)] 1 = mkF m 0 #[.val (.ref r1)] [] := by
  first | (simp [entryFrame, mkF, argsToLocals, Value.category]; done) | rfl
def Q2 (Z : State) (r1 : Addr) (h0 : Heap) (n0 : Nat) (v : Option Value) (h : Heap) (L : List Loc) : Prop := v = none ∧ Fr n0 L ∧ h = h0
set_option maxRecDepth 65536 in
set_option maxHeartbeats 40000000 in
theorem rm2 (l : Launch) (Z : State) (a0 : Array Value) (hw : ∀ d ∈ tables_1, d.before a0 Z = true) (ws : List Jvm.Cond) (r1 : Addr) (h0 : Heap) (n0 : Nat) (Z0 : n0 ≤ h0.size)  :
    MetFree l (⟨"java/lang/Record", "<init>", "()V"⟩ : MethodName) (head1 (Jvm.Cond.code (⟨"java/lang/Record", "<init>", "()V"⟩ : MethodName) jdk_30_method_1_code 1 none :: ws) ({ frames := 1, cells := 0, slots := 0, locals := 12 } : Room)) (fun a U => a = #[(.ref r1)] ∧ Z.Warmed39 U.vm ∧ U.heap = h0) (fun _ _ _ _ _ => True) (fun _ U o U' => ∃ v L, o = .returned v ∧ Q2 Z r1 h0 n0 v U'.heap L ∧ FrameEnd U o U' L ({ frames := 1, cells := 0, slots := 0, locals := 12 } : Room).cells ({ frames := 1, cells := 0, slots := 0, locals := 12 } : Room).slots) := by
  refine MetFree.of_bodySF (plainFor_of_name pn_0) hisR ?_
  intro p e s m args below meth c s₁ Bd hml0 hP hK
  obtain ⟨rfl, hZ, hh⟩ := hP
  have hx := Bd.exec
  have hby := Bd.bytes
  have hml : c.maxLocals = 1 := hml0
  have hown : s.vm.findClass "java/lang/Record" = some m.cls := findClass_of_methodNamed Bd.named
  have hnm := (name_of_methodNamed Bd.named Bd.method).1
  have X0 : Stand p l e ({ frames := 1, cells := 0, slots := 0, locals := 12 } : Room) s m #[(.ref r1)] below meth c s₁ [] 0 0 := Stand.of_body Bd
  have e0 : s₁.heap = h0 := by rw [← hh, Bd.state]; rfl
  have N0 := Fr.nil n0
  suffices H : ∀ Qo : Outcome → State → Prop, (∀ (v : Option Value) (u : State) (L : List Loc), Q2 Z r1 h0 n0 v u.heap L → FrameEnd s (.returned v) u L ({ frames := 1, cells := 0, slots := 0, locals := 12 } : Room).cells ({ frames := 1, cells := 0, slots := 0, locals := 12 } : Room).slots → Qo (.returned v) u) → Go p e below Qo s₁ (mkF m 0 #[.val (.ref r1)] []) from
    Go.cast (ef_2 m r1) (H _ fun v u L h1 h2 => ⟨v, L, rfl, h1, h2⟩)
  intro Qo hQo
  show Go p e below Qo s₁ (mkF m 0 #[.val (.ref r1)] [])
  refine Go.of (fun t k => XS.aloadN X0.here hx rfl (hb hby d2_0) rfl rfl k) ?_
  show Go p e below Qo s₁ (mkF m 1 #[.val (.ref r1)] [(.ref r1)])
  obtain ⟨T1, X1, e1, st1⟩ := initO X0 hx hZ hown (hw _ (List.mem_of_getElem? (i := 11) rfl)) (hw _ (List.mem_of_getElem? (i := 12) rfl)) (hw _ (List.mem_of_getElem? (i := 13) rfl)) e0 (g := (mkF m 1 #[.val (.ref r1)] [(.ref r1)])) rfl (by rw [hml]; rfl) rfl (hb hby d2_1) (by decide) (W := 0) (by show 2 * 0 + _ ≤ _; exact Nat.le_of_eq rfl) (by decide)
  refine Go.of st1 ?_
  show Go p e below Qo T1 (mkF m 4 #[.val (.ref r1)] [])
  exact own_ret0 X1 hx Bd.notSynchronized Bd.returns (hb hby d2_4) (fun u hu hF => hQo _ _ _ ⟨rfl, N0, by rw [hu, e1]⟩ (own_mono hF (by decide) (by decide)))
theorem pd_0 : parseMethodDescriptor "()V" = some ⟨[], none⟩ := by decide +kernel
theorem d1_0 : decode prog_13_method_1_code 0 = .ok (.aload_n 0, 1) := by decide +kernel
theorem d1_1 : decode prog_13_method_1_code 1 = .ok (.invokespecial 1, 3) := by decide +kernel
theorem d1_4 : decode prog_13_method_1_code 4 = .ok (.aload_n 0, 1) := by decide +kernel
theorem d1_5 : decode prog_13_method_1_code 5 = .ok (.lload_n 1, 1) := by decide +kernel
theorem d1_6 : decode prog_13_method_1_code 6 = .ok (.putfield 7, 3) := by decide +kernel
theorem d1_9 : decode prog_13_method_1_code 9 = .ok (.aload_n 0, 1) := by decide +kernel
theorem d1_10 : decode prog_13_method_1_code 10 = .ok (.lload_n 3, 1) := by decide +kernel
theorem d1_11 : decode prog_13_method_1_code 11 = .ok (.putfield 13, 3) := by decide +kernel
theorem d1_14 : decode prog_13_method_1_code 14 = .ok (.aload_n 0, 1) := by decide +kernel
theorem d1_15 : decode prog_13_method_1_code 15 = .ok (.lload 5, 2) := by decide +kernel
theorem d1_17 : decode prog_13_method_1_code 17 = .ok (.putfield 16, 3) := by decide +kernel
theorem d1_20 : decode prog_13_method_1_code 20 = .ok (.aload_n 0, 1) := by decide +kernel
theorem d1_21 : decode prog_13_method_1_code 21 = .ok (.lload 7, 2) := by decide +kernel
theorem d1_23 : decode prog_13_method_1_code 23 = .ok (.putfield 19, 3) := by decide +kernel
theorem d1_26 : decode prog_13_method_1_code 26 = .ok (.aload_n 0, 1) := by decide +kernel
theorem d1_27 : decode prog_13_method_1_code 27 = .ok (.lload 9, 2) := by decide +kernel
theorem d1_29 : decode prog_13_method_1_code 29 = .ok (.putfield 22, 3) := by decide +kernel
theorem d1_32 : decode prog_13_method_1_code 32 = .ok (.aload_n 0, 1) := by decide +kernel
theorem d1_33 : decode prog_13_method_1_code 33 = .ok (.lload 11, 2) := by decide +kernel
theorem d1_35 : decode prog_13_method_1_code 35 = .ok (.putfield 25, 3) := by decide +kernel
theorem d1_38 : decode prog_13_method_1_code 38 = .ok (.aload_n 0, 1) := by decide +kernel
theorem d1_39 : decode prog_13_method_1_code 39 = .ok (.lload 13, 2) := by decide +kernel
theorem d1_41 : decode prog_13_method_1_code 41 = .ok (.putfield 28, 3) := by decide +kernel
theorem d1_44 : decode prog_13_method_1_code 44 = .ok (.aload_n 0, 1) := by decide +kernel
theorem d1_45 : decode prog_13_method_1_code 45 = .ok (.lload 15, 2) := by decide +kernel
theorem d1_47 : decode prog_13_method_1_code 47 = .ok (.putfield 31, 3) := by decide +kernel
theorem d1_50 : decode prog_13_method_1_code 50 = .ok (.aload_n 0, 1) := by decide +kernel
theorem d1_51 : decode prog_13_method_1_code 51 = .ok (.lload 17, 2) := by decide +kernel
theorem d1_53 : decode prog_13_method_1_code 53 = .ok (.putfield 34, 3) := by decide +kernel
theorem d1_56 : decode prog_13_method_1_code 56 = .ok (.aload_n 0, 1) := by decide +kernel
theorem d1_57 : decode prog_13_method_1_code 57 = .ok (.lload 19, 2) := by decide +kernel
theorem d1_59 : decode prog_13_method_1_code 59 = .ok (.putfield 37, 3) := by decide +kernel
theorem d1_62 : decode prog_13_method_1_code 62 = .ok (.aload_n 0, 1) := by decide +kernel
theorem d1_63 : decode prog_13_method_1_code 63 = .ok (.lload 21, 2) := by decide +kernel
theorem d1_65 : decode prog_13_method_1_code 65 = .ok (.putfield 40, 3) := by decide +kernel
theorem d1_68 : decode prog_13_method_1_code 68 = .ok (.aload_n 0, 1) := by decide +kernel
theorem d1_69 : decode prog_13_method_1_code 69 = .ok (.lload 23, 2) := by decide +kernel
theorem d1_71 : decode prog_13_method_1_code 71 = .ok (.putfield 43, 3) := by decide +kernel
theorem d1_74 : decode prog_13_method_1_code 74 = .ok (.return_, 1) := by decide +kernel
theorem pn_1 : plainName "com/example/examwright/examwright/CompetitionScore" = true := by first | (simp [plainName, overriddenIn]; done) | decide +kernel
theorem ef_1 (m : MethodId) (r1 : Addr) (j1 : Int64) (j2 : Int64) (j3 : Int64) (j4 : Int64) (j5 : Int64) (j6 : Int64) (j7 : Int64) (j8 : Int64) (j9 : Int64) (j10 : Int64) (j11 : Int64) (j12 : Int64)  : entryFrame m #[(.ref r1), (.long j1), (.long j2), (.long j3), (.long j4), (.long j5), (.long j6), (.long j7), (.long j8), (.long j9), (.long j10), (.long j11), (.long j12)] 25 = mkF m 0 #[.val (.ref r1), .val (.long j1), .second, .val (.long j2), .second, .val (.long j3), .second, .val (.long j4), .second, .val (.long j5), .second, .val (.long j6), .second, .val (.long j7), .second, .val (.long j8), .second, .val (.long j9), .second, .val (.long j10), .second, .val (.long j11), .second, .val (.long j12), .second] [] := by
  first | (simp [entryFrame, mkF, argsToLocals, Value.category]; done) | rfl
def Q1 (Z : State) (r1 : Addr) (j1 : Int64) (j2 : Int64) (j3 : Int64) (j4 : Int64) (j5 : Int64) (j6 : Int64) (j7 : Int64) (j8 : Int64) (j9 : Int64) (j10 : Int64) (j11 : Int64) (j12 : Int64) (u_0 : Value) (u_1 : Value) (u_2 : Value) (u_3 : Value) (u_4 : Value) (u_5 : Value) (u_6 : Value) (u_7 : Value) (u_8 : Value) (u_9 : Value) (u_10 : Value) (u_11 : Value) (h0 : Heap) (n0 : Nat) (v : Option Value) (h : Heap) (L : List Loc) : Prop := v = none ∧ Fr n0 L ∧ Keep h0 h [r1] ∧ Exa Z h r1 "com/example/examwright/examwright/CompetitionScore" ∧ Fld Z h r1 "com/example/examwright/examwright/CompetitionScore" "conflicts" "J" (.long j1) ∧ Fld Z h r1 "com/example/examwright/examwright/CompetitionScore" "roomOccupancy" "J" (.long j2) ∧ Fld Z h r1 "com/example/examwright/examwright/CompetitionScore" "periodUtilisation" "J" (.long j3) ∧ Fld Z h r1 "com/example/examwright/examwright/CompetitionScore" "periodRelated" "J" (.long j4) ∧ Fld Z h r1 "com/example/examwright/examwright/CompetitionScore" "roomRelated" "J" (.long j5) ∧ Fld Z h r1 "com/example/examwright/examwright/CompetitionScore" "twoInARow" "J" (.long j6) ∧ Fld Z h r1 "com/example/examwright/examwright/CompetitionScore" "twoInADay" "J" (.long j7) ∧ Fld Z h r1 "com/example/examwright/examwright/CompetitionScore" "periodSpread" "J" (.long j8) ∧ Fld Z h r1 "com/example/examwright/examwright/CompetitionScore" "mixedDurations" "J" (.long j9) ∧ Fld Z h r1 "com/example/examwright/examwright/CompetitionScore" "frontLoad" "J" (.long j10) ∧ Fld Z h r1 "com/example/examwright/examwright/CompetitionScore" "periodPenalty" "J" (.long j11) ∧ Fld Z h r1 "com/example/examwright/examwright/CompetitionScore" "roomPenalty" "J" (.long j12)
set_option maxRecDepth 65536 in
set_option maxHeartbeats 40000000 in
theorem rm1 (l : Launch) (Z : State) (a0 : Array Value) (hw : ∀ d ∈ tables_1, d.before a0 Z = true) (ws : List Jvm.Cond) (r1 : Addr) (j1 : Int64) (j2 : Int64) (j3 : Int64) (j4 : Int64) (j5 : Int64) (j6 : Int64) (j7 : Int64) (j8 : Int64) (j9 : Int64) (j10 : Int64) (j11 : Int64) (j12 : Int64) (u_0 : Value) (u_1 : Value) (u_2 : Value) (u_3 : Value) (u_4 : Value) (u_5 : Value) (u_6 : Value) (u_7 : Value) (u_8 : Value) (u_9 : Value) (u_10 : Value) (u_11 : Value) (h0 : Heap) (n0 : Nat) (Z0 : n0 ≤ h0.size) (f0 : Exa Z h0 r1 "com/example/examwright/examwright/CompetitionScore") (f1 : Fld Z h0 r1 "com/example/examwright/examwright/CompetitionScore" "conflicts" "J" u_0) (f2 : Fld Z h0 r1 "com/example/examwright/examwright/CompetitionScore" "roomOccupancy" "J" u_1) (f3 : Fld Z h0 r1 "com/example/examwright/examwright/CompetitionScore" "periodUtilisation" "J" u_2) (f4 : Fld Z h0 r1 "com/example/examwright/examwright/CompetitionScore" "periodRelated" "J" u_3) (f5 : Fld Z h0 r1 "com/example/examwright/examwright/CompetitionScore" "roomRelated" "J" u_4) (f6 : Fld Z h0 r1 "com/example/examwright/examwright/CompetitionScore" "twoInARow" "J" u_5) (f7 : Fld Z h0 r1 "com/example/examwright/examwright/CompetitionScore" "twoInADay" "J" u_6) (f8 : Fld Z h0 r1 "com/example/examwright/examwright/CompetitionScore" "periodSpread" "J" u_7) (f9 : Fld Z h0 r1 "com/example/examwright/examwright/CompetitionScore" "mixedDurations" "J" u_8) (f10 : Fld Z h0 r1 "com/example/examwright/examwright/CompetitionScore" "frontLoad" "J" u_9) (f11 : Fld Z h0 r1 "com/example/examwright/examwright/CompetitionScore" "periodPenalty" "J" u_10) (f12 : Fld Z h0 r1 "com/example/examwright/examwright/CompetitionScore" "roomPenalty" "J" u_11) (g_r1 : n0 ≤ r1) :
    MetFree l (⟨"com/example/examwright/examwright/CompetitionScore", "<init>", "(JJJJJJJJJJJJ)V"⟩ : MethodName) (head1 (Jvm.Cond.code (⟨"com/example/examwright/examwright/CompetitionScore", "<init>", "(JJJJJJJJJJJJ)V"⟩ : MethodName) prog_13_method_1_code 25 none :: ws) ({ frames := 2, cells := 0, slots := 0, locals := 24 } : Room)) (fun a U => a = #[(.ref r1), (.long j1), (.long j2), (.long j3), (.long j4), (.long j5), (.long j6), (.long j7), (.long j8), (.long j9), (.long j10), (.long j11), (.long j12)] ∧ Z.Warmed39 U.vm ∧ U.heap = h0) (fun _ _ _ _ _ => True) (fun _ U o U' => ∃ v L, o = .returned v ∧ Q1 Z r1 j1 j2 j3 j4 j5 j6 j7 j8 j9 j10 j11 j12 u_0 u_1 u_2 u_3 u_4 u_5 u_6 u_7 u_8 u_9 u_10 u_11 h0 n0 v U'.heap L ∧ FrameEnd U o U' L ({ frames := 2, cells := 0, slots := 0, locals := 24 } : Room).cells ({ frames := 2, cells := 0, slots := 0, locals := 24 } : Room).slots) := by
  refine MetFree.of_bodySF (plainFor_of_name pn_1) hisR ?_
  intro p e s m args below meth c s₁ Bd hml0 hP hK
  obtain ⟨rfl, hZ, hh⟩ := hP
  have hx := Bd.exec
  have hby := Bd.bytes
  have hml : c.maxLocals = 25 := hml0
  have hown : s.vm.findClass "com/example/examwright/examwright/CompetitionScore" = some m.cls := findClass_of_methodNamed Bd.named
  have hnm := (name_of_methodNamed Bd.named Bd.method).1
  have X0 : Stand p l e ({ frames := 2, cells := 0, slots := 0, locals := 24 } : Room) s m #[(.ref r1), (.long j1), (.long j2), (.long j3), (.long j4), (.long j5), (.long j6), (.long j7), (.long j8), (.long j9), (.long j10), (.long j11), (.long j12)] below meth c s₁ [] 0 0 := Stand.of_body Bd
  have e0 : s₁.heap = h0 := by rw [← hh, Bd.state]; rfl
  have N0 := Fr.nil n0
  suffices H : ∀ Qo : Outcome → State → Prop, (∀ (v : Option Value) (u : State) (L : List Loc), Q1 Z r1 j1 j2 j3 j4 j5 j6 j7 j8 j9 j10 j11 j12 u_0 u_1 u_2 u_3 u_4 u_5 u_6 u_7 u_8 u_9 u_10 u_11 h0 n0 v u.heap L → FrameEnd s (.returned v) u L ({ frames := 2, cells := 0, slots := 0, locals := 24 } : Room).cells ({ frames := 2, cells := 0, slots := 0, locals := 24 } : Room).slots → Qo (.returned v) u) → Go p e below Qo s₁ (mkF m 0 #[.val (.ref r1), .val (.long j1), .second, .val (.long j2), .second, .val (.long j3), .second, .val (.long j4), .second, .val (.long j5), .second, .val (.long j6), .second, .val (.long j7), .second, .val (.long j8), .second, .val (.long j9), .second, .val (.long j10), .second, .val (.long j11), .second, .val (.long j12), .second] []) from
    Go.cast (ef_1 m r1 j1 j2 j3 j4 j5 j6 j7 j8 j9 j10 j11 j12) (H _ fun v u L h1 h2 => ⟨v, L, rfl, h1, h2⟩)
  intro Qo hQo
  show Go p e below Qo s₁ (mkF m 0 #[.val (.ref r1), .val (.long j1), .second, .val (.long j2), .second, .val (.long j3), .second, .val (.long j4), .second, .val (.long j5), .second, .val (.long j6), .second, .val (.long j7), .second, .val (.long j8), .second, .val (.long j9), .second, .val (.long j10), .second, .val (.long j11), .second, .val (.long j12), .second] [])
  refine Go.of (fun t k => XS.aloadN X0.here hx rfl (hb hby d1_0) rfl rfl k) ?_
  show Go p e below Qo s₁ (mkF m 1 #[.val (.ref r1), .val (.long j1), .second, .val (.long j2), .second, .val (.long j3), .second, .val (.long j4), .second, .val (.long j5), .second, .val (.long j6), .second, .val (.long j7), .second, .val (.long j8), .second, .val (.long j9), .second, .val (.long j10), .second, .val (.long j11), .second, .val (.long j12), .second] [(.ref r1)])
  obtain ⟨_, _, ⟨T1, L1, k1, n1⟩, -, X1, ⟨Lc1, hQ1, l1, y1, z1⟩, st1⟩ := X0.specialBack hx (y := (⟨"java/lang/Record", "<init>", "()V"⟩ : MethodName)) rfl hown (mvT hZ (hw _ (List.mem_of_getElem? (i := 6) rfl))) (mvT hZ (hw _ (List.mem_of_getElem? (i := 7) rfl))) (mvT hZ (hw _ (List.mem_of_getElem? (i := 10) rfl))) (by decide) (backOf (W := 0) (rm2 l Z a0 hw [] r1 h0 n0 Z0 ) hZ (hw _ (List.mem_of_getElem? (i := 10) rfl)) (hw _ (List.mem_of_getElem? (i := 9) rfl)) (by decide) (by decide)) (g := (mkF m 1 #[.val (.ref r1), .val (.long j1), .second, .val (.long j2), .second, .val (.long j3), .second, .val (.long j4), .second, .val (.long j5), .second, .val (.long j6), .second, .val (.long j7), .second, .val (.long j8), .second, .val (.long j9), .second, .val (.long j10), .second, .val (.long j11), .second, .val (.long j12), .second] [(.ref r1)])) rfl (by rw [hml]; rfl) (Steps.refl _) (a := r1) (argsL := []) (rest := []) (lenOf pd_0 rfl) rfl (by show 2 * 0 + _ ≤ _; exact Nat.le_of_eq rfl) (hb hby d1_1) (fun _ _ => ⟨rfl, e0, (by decide : 0 + 0 ≤ _), (by decide : 0 + 0 ≤ _)⟩)
  dsimp only [Pt.U, Pt.locs, Pt.cells, Pt.slots] at X1 l1 y1 z1 st1 hQ1
  subst l1 y1 z1
  obtain ⟨rfl, N2, eh3⟩ := hQ1
  have N4 := Fr.app N0 N2
  refine Go.via st1 ?_
  show Go p e below Qo T1 (mkF m 4 #[.val (.ref r1), .val (.long j1), .second, .val (.long j2), .second, .val (.long j3), .second, .val (.long j4), .second, .val (.long j5), .second, .val (.long j6), .second, .val (.long j7), .second, .val (.long j8), .second, .val (.long j9), .second, .val (.long j10), .second, .val (.long j11), .second, .val (.long j12), .second] [])
  refine Go.of (fun t k => XS.aloadN X1.here hx rfl (hb hby d1_4) rfl rfl k) ?_
  show Go p e below Qo T1 (mkF m 5 #[.val (.ref r1), .val (.long j1), .second, .val (.long j2), .second, .val (.long j3), .second, .val (.long j4), .second, .val (.long j5), .second, .val (.long j6), .second, .val (.long j7), .second, .val (.long j8), .second, .val (.long j9), .second, .val (.long j10), .second, .val (.long j11), .second, .val (.long j12), .second] [(.ref r1)])
  refine Go.of (fun t k => XS.lloadN X1.here hx rfl (hb hby d1_5) rfl  k) ?_
  show Go p e below Qo T1 (mkF m 6 #[.val (.ref r1), .val (.long j1), .second, .val (.long j2), .second, .val (.long j3), .second, .val (.long j4), .second, .val (.long j5), .second, .val (.long j6), .second, .val (.long j7), .second, .val (.long j8), .second, .val (.long j9), .second, .val (.long j10), .second, .val (.long j11), .second, .val (.long j12), .second] [(.long j1), (.ref r1)])
  obtain ⟨T5, h5, X5, e5, W5, st5⟩ := putF X1 hx hZ hown (host := "") (Or.inl (hw _ (List.mem_of_getElem? (i := 14) rfl))) Via.refl eh3 f1 f0 (Or.inr ⟨(hw _ (List.mem_of_getElem? (i := 15) rfl)), rfl, hnm⟩) (hw _ (List.mem_of_getElem? (i := 1) rfl)) (ty := .long) (by decide) rfl rfl (g := (mkF m 6 #[.val (.ref r1), .val (.long j1), .second, .val (.long j2), .second, .val (.long j3), .second, .val (.long j4), .second, .val (.long j5), .second, .val (.long j6), .second, .val (.long j7), .second, .val (.long j8), .second, .val (.long j9), .second, .val (.long j10), .second, .val (.long j11), .second, .val (.long j12), .second] [(.long j1), (.ref r1)])) rfl rfl (hb hby d1_6)
  have q6 : Exa Z h5 r1 "com/example/examwright/examwright/CompetitionScore" := f0.wr W5
  have q7 : Fld Z h5 r1 "com/example/examwright/examwright/CompetitionScore" "conflicts" "J" (.long j1) := f1.same W5
  have q8 : Fld Z h5 r1 "com/example/examwright/examwright/CompetitionScore" "roomOccupancy" "J" u_1 := f2.other W5 (Or.inr (slot_ne (Or.inr (hw _ (List.mem_of_getElem? (i := 17) rfl))) (Or.inr (hw _ (List.mem_of_getElem? (i := 15) rfl))) (by decide) (t := .long) (t' := .long) (by decide) (by decide)))
  have q9 : Fld Z h5 r1 "com/example/examwright/examwright/CompetitionScore" "periodUtilisation" "J" u_2 := f3.other W5 (Or.inr (slot_ne (Or.inr (hw _ (List.mem_of_getElem? (i := 19) rfl))) (Or.inr (hw _ (List.mem_of_getElem? (i := 15) rfl))) (by decide) (t := .long) (t' := .long) (by decide) (by decide)))
  have q10 : Fld Z h5 r1 "com/example/examwright/examwright/CompetitionScore" "periodRelated" "J" u_3 := f4.other W5 (Or.inr (slot_ne (Or.inr (hw _ (List.mem_of_getElem? (i := 21) rfl))) (Or.inr (hw _ (List.mem_of_getElem? (i := 15) rfl))) (by decide) (t := .long) (t' := .long) (by decide) (by decide)))
  have q11 : Fld Z h5 r1 "com/example/examwright/examwright/CompetitionScore" "roomRelated" "J" u_4 := f5.other W5 (Or.inr (slot_ne (Or.inr (hw _ (List.mem_of_getElem? (i := 23) rfl))) (Or.inr (hw _ (List.mem_of_getElem? (i := 15) rfl))) (by decide) (t := .long) (t' := .long) (by decide) (by decide)))
  have q12 : Fld Z h5 r1 "com/example/examwright/examwright/CompetitionScore" "twoInARow" "J" u_5 := f6.other W5 (Or.inr (slot_ne (Or.inr (hw _ (List.mem_of_getElem? (i := 25) rfl))) (Or.inr (hw _ (List.mem_of_getElem? (i := 15) rfl))) (by decide) (t := .long) (t' := .long) (by decide) (by decide)))
  have q13 : Fld Z h5 r1 "com/example/examwright/examwright/CompetitionScore" "twoInADay" "J" u_6 := f7.other W5 (Or.inr (slot_ne (Or.inr (hw _ (List.mem_of_getElem? (i := 27) rfl))) (Or.inr (hw _ (List.mem_of_getElem? (i := 15) rfl))) (by decide) (t := .long) (t' := .long) (by decide) (by decide)))
  have q14 : Fld Z h5 r1 "com/example/examwright/examwright/CompetitionScore" "periodSpread" "J" u_7 := f8.other W5 (Or.inr (slot_ne (Or.inr (hw _ (List.mem_of_getElem? (i := 29) rfl))) (Or.inr (hw _ (List.mem_of_getElem? (i := 15) rfl))) (by decide) (t := .long) (t' := .long) (by decide) (by decide)))
  have q15 : Fld Z h5 r1 "com/example/examwright/examwright/CompetitionScore" "mixedDurations" "J" u_8 := f9.other W5 (Or.inr (slot_ne (Or.inr (hw _ (List.mem_of_getElem? (i := 31) rfl))) (Or.inr (hw _ (List.mem_of_getElem? (i := 15) rfl))) (by decide) (t := .long) (t' := .long) (by decide) (by decide)))
  have q16 : Fld Z h5 r1 "com/example/examwright/examwright/CompetitionScore" "frontLoad" "J" u_9 := f10.other W5 (Or.inr (slot_ne (Or.inr (hw _ (List.mem_of_getElem? (i := 33) rfl))) (Or.inr (hw _ (List.mem_of_getElem? (i := 15) rfl))) (by decide) (t := .long) (t' := .long) (by decide) (by decide)))
  have q17 : Fld Z h5 r1 "com/example/examwright/examwright/CompetitionScore" "periodPenalty" "J" u_10 := f11.other W5 (Or.inr (slot_ne (Or.inr (hw _ (List.mem_of_getElem? (i := 35) rfl))) (Or.inr (hw _ (List.mem_of_getElem? (i := 15) rfl))) (by decide) (t := .long) (t' := .long) (by decide) (by decide)))
  have q18 : Fld Z h5 r1 "com/example/examwright/examwright/CompetitionScore" "roomPenalty" "J" u_11 := f12.other W5 (Or.inr (slot_ne (Or.inr (hw _ (List.mem_of_getElem? (i := 37) rfl))) (Or.inr (hw _ (List.mem_of_getElem? (i := 15) rfl))) (by decide) (t := .long) (t' := .long) (by decide) (by decide)))
  have Z19 : n0 ≤ h5.size := Nat.le_trans Z0 (Keep.of_wr W5).1
  have K20 : Keep h0 h5 [r1] := (Keep.refl h0 [r1]).wr W5 (Or.inl (List.mem_of_getElem? (i := 0) rfl))
  have N21 := Fr.snoc X5 N4 g_r1
  refine Go.of st5 ?_
  show Go p e below Qo T5 (mkF m 9 #[.val (.ref r1), .val (.long j1), .second, .val (.long j2), .second, .val (.long j3), .second, .val (.long j4), .second, .val (.long j5), .second, .val (.long j6), .second, .val (.long j7), .second, .val (.long j8), .second, .val (.long j9), .second, .val (.long j10), .second, .val (.long j11), .second, .val (.long j12), .second] [])
  refine Go.of (fun t k => XS.aloadN X5.here hx rfl (hb hby d1_9) rfl rfl k) ?_
  show Go p e below Qo T5 (mkF m 10 #[.val (.ref r1), .val (.long j1), .second, .val (.long j2), .second, .val (.long j3), .second, .val (.long j4), .second, .val (.long j5), .second, .val (.long j6), .second, .val (.long j7), .second, .val (.long j8), .second, .val (.long j9), .second, .val (.long j10), .second, .val (.long j11), .second, .val (.long j12), .second] [(.ref r1)])
  refine Go.of (fun t k => XS.lloadN X5.here hx rfl (hb hby d1_10) rfl  k) ?_
  show Go p e below Qo T5 (mkF m 11 #[.val (.ref r1), .val (.long j1), .second, .val (.long j2), .second, .val (.long j3), .second, .val (.long j4), .second, .val (.long j5), .second, .val (.long j6), .second, .val (.long j7), .second, .val (.long j8), .second, .val (.long j9), .second, .val (.long j10), .second, .val (.long j11), .second, .val (.long j12), .second] [(.long j2), (.ref r1)])
  obtain ⟨T22, h22, X22, e22, W22, st22⟩ := putF X5 hx hZ hown (host := "") (Or.inl (hw _ (List.mem_of_getElem? (i := 16) rfl))) Via.refl e5 q8 q6 (Or.inr ⟨(hw _ (List.mem_of_getElem? (i := 17) rfl)), rfl, hnm⟩) (hw _ (List.mem_of_getElem? (i := 1) rfl)) (ty := .long) (by decide) rfl rfl (g := (mkF m 11 #[.val (.ref r1), .val (.long j1), .second, .val (.long j2), .second, .val (.long j3), .second, .val (.long j4), .second, .val (.long j5), .second, .val (.long j6), .second, .val (.long j7), .second, .val (.long j8), .second, .val (.long j9), .second, .val (.long j10), .second, .val (.long j11), .second, .val (.long j12), .second] [(.long j2), (.ref r1)])) rfl rfl (hb hby d1_11)
  have q23 : Exa Z h22 r1 "com/example/examwright/examwright/CompetitionScore" := q6.wr W22
  have q24 : Fld Z h22 r1 "com/example/examwright/examwright/CompetitionScore" "conflicts" "J" (.long j1) := q7.other W22 (Or.inr (slot_ne (Or.inr (hw _ (List.mem_of_getElem? (i := 15) rfl))) (Or.inr (hw _ (List.mem_of_getElem? (i := 17) rfl))) (by decide) (t := .long) (t' := .long) (by decide) (by decide)))
  have q25 : Fld Z h22 r1 "com/example/examwright/examwright/CompetitionScore" "roomOccupancy" "J" (.long j2) := q8.same W22
  have q26 : Fld Z h22 r1 "com/example/examwright/examwright/CompetitionScore" "periodUtilisation" "J" u_2 := q9.other W22 (Or.inr (slot_ne (Or.inr (hw _ (List.mem_of_getElem? (i := 19) rfl))) (Or.inr (hw _ (List.mem_of_getElem? (i := 17) rfl))) (by decide) (t := .long) (t' := .long) (by decide) (by decide)))
  have q27 : Fld Z h22 r1 "com/example/examwright/examwright/CompetitionScore" "periodRelated" "J" u_3 := q10.other W22 (Or.inr (slot_ne (Or.inr (hw _ (List.mem_of_getElem? (i := 21) rfl))) (Or.inr (hw _ (List.mem_of_getElem? (i := 17) rfl))) (by decide) (t := .long) (t' := .long) (by decide) (by decide)))
  have q28 : Fld Z h22 r1 "com/example/examwright/examwright/CompetitionScore" "roomRelated" "J" u_4 := q11.other W22 (Or.inr (slot_ne (Or.inr (hw _ (List.mem_of_getElem? (i := 23) rfl))) (Or.inr (hw _ (List.mem_of_getElem? (i := 17) rfl))) (by decide) (t := .long) (t' := .long) (by decide) (by decide)))
  have q29 : Fld Z h22 r1 "com/example/examwright/examwright/CompetitionScore" "twoInARow" "J" u_5 := q12.other W22 (Or.inr (slot_ne (Or.inr (hw _ (List.mem_of_getElem? (i := 25) rfl))) (Or.inr (hw _ (List.mem_of_getElem? (i := 17) rfl))) (by decide) (t := .long) (t' := .long) (by decide) (by decide)))
  have q30 : Fld Z h22 r1 "com/example/examwright/examwright/CompetitionScore" "twoInADay" "J" u_6 := q13.other W22 (Or.inr (slot_ne (Or.inr (hw _ (List.mem_of_getElem? (i := 27) rfl))) (Or.inr (hw _ (List.mem_of_getElem? (i := 17) rfl))) (by decide) (t := .long) (t' := .long) (by decide) (by decide)))
  have q31 : Fld Z h22 r1 "com/example/examwright/examwright/CompetitionScore" "periodSpread" "J" u_7 := q14.other W22 (Or.inr (slot_ne (Or.inr (hw _ (List.mem_of_getElem? (i := 29) rfl))) (Or.inr (hw _ (List.mem_of_getElem? (i := 17) rfl))) (by decide) (t := .long) (t' := .long) (by decide) (by decide)))
  have q32 : Fld Z h22 r1 "com/example/examwright/examwright/CompetitionScore" "mixedDurations" "J" u_8 := q15.other W22 (Or.inr (slot_ne (Or.inr (hw _ (List.mem_of_getElem? (i := 31) rfl))) (Or.inr (hw _ (List.mem_of_getElem? (i := 17) rfl))) (by decide) (t := .long) (t' := .long) (by decide) (by decide)))
  have q33 : Fld Z h22 r1 "com/example/examwright/examwright/CompetitionScore" "frontLoad" "J" u_9 := q16.other W22 (Or.inr (slot_ne (Or.inr (hw _ (List.mem_of_getElem? (i := 33) rfl))) (Or.inr (hw _ (List.mem_of_getElem? (i := 17) rfl))) (by decide) (t := .long) (t' := .long) (by decide) (by decide)))
  have q34 : Fld Z h22 r1 "com/example/examwright/examwright/CompetitionScore" "periodPenalty" "J" u_10 := q17.other W22 (Or.inr (slot_ne (Or.inr (hw _ (List.mem_of_getElem? (i := 35) rfl))) (Or.inr (hw _ (List.mem_of_getElem? (i := 17) rfl))) (by decide) (t := .long) (t' := .long) (by decide) (by decide)))
  have q35 : Fld Z h22 r1 "com/example/examwright/examwright/CompetitionScore" "roomPenalty" "J" u_11 := q18.other W22 (Or.inr (slot_ne (Or.inr (hw _ (List.mem_of_getElem? (i := 37) rfl))) (Or.inr (hw _ (List.mem_of_getElem? (i := 17) rfl))) (by decide) (t := .long) (t' := .long) (by decide) (by decide)))
  have Z36 : n0 ≤ h22.size := Nat.le_trans Z19 (Keep.of_wr W22).1
  have K37 : Keep h0 h22 [r1] := K20.wr W22 (Or.inl (List.mem_of_getElem? (i := 0) rfl))
  have N38 := Fr.snoc X22 N21 g_r1
  refine Go.of st22 ?_
  show Go p e below Qo T22 (mkF m 14 #[.val (.ref r1), .val (.long j1), .second, .val (.long j2), .second, .val (.long j3), .second, .val (.long j4), .second, .val (.long j5), .second, .val (.long j6), .second, .val (.long j7), .second, .val (.long j8), .second, .val (.long j9), .second, .val (.long j10), .second, .val (.long j11), .second, .val (.long j12), .second] [])
  refine Go.of (fun t k => XS.aloadN X22.here hx rfl (hb hby d1_14) rfl rfl k) ?_
  show Go p e below Qo T22 (mkF m 15 #[.val (.ref r1), .val (.long j1), .second, .val (.long j2), .second, .val (.long j3), .second, .val (.long j4), .second, .val (.long j5), .second, .val (.long j6), .second, .val (.long j7), .second, .val (.long j8), .second, .val (.long j9), .second, .val (.long j10), .second, .val (.long j11), .second, .val (.long j12), .second] [(.ref r1)])
  refine Go.of (fun t k => XS.lload X22.here hx rfl (hb hby d1_15) rfl  k) ?_
  show Go p e below Qo T22 (mkF m 17 #[.val (.ref r1), .val (.long j1), .second, .val (.long j2), .second, .val (.long j3), .second, .val (.long j4), .second, .val (.long j5), .second, .val (.long j6), .second, .val (.long j7), .second, .val (.long j8), .second, .val (.long j9), .second, .val (.long j10), .second, .val (.long j11), .second, .val (.long j12), .second] [(.long j3), (.ref r1)])
  obtain ⟨T39, h39, X39, e39, W39, st39⟩ := putF X22 hx hZ hown (host := "") (Or.inl (hw _ (List.mem_of_getElem? (i := 18) rfl))) Via.refl e22 q26 q23 (Or.inr ⟨(hw _ (List.mem_of_getElem? (i := 19) rfl)), rfl, hnm⟩) (hw _ (List.mem_of_getElem? (i := 1) rfl)) (ty := .long) (by decide) rfl rfl (g := (mkF m 17 #[.val (.ref r1), .val (.long j1), .second, .val (.long j2), .second, .val (.long j3), .second, .val (.long j4), .second, .val (.long j5), .second, .val (.long j6), .second, .val (.long j7), .second, .val (.long j8), .second, .val (.long j9), .second, .val (.long j10), .second, .val (.long j11), .second, .val (.long j12), .second] [(.long j3), (.ref r1)])) rfl rfl (hb hby d1_17)
  have q40 : Exa Z h39 r1 "com/example/examwright/examwright/CompetitionScore" := q23.wr W39
  have q41 : Fld Z h39 r1 "com/example/examwright/examwright/CompetitionScore" "conflicts" "J" (.long j1) := q24.other W39 (Or.inr (slot_ne (Or.inr (hw _ (List.mem_of_getElem? (i := 15) rfl))) (Or.inr (hw _ (List.mem_of_getElem? (i := 19) rfl))) (by decide) (t := .long) (t' := .long) (by decide) (by decide)))
  have q42 : Fld Z h39 r1 "com/example/examwright/examwright/CompetitionScore" "roomOccupancy" "J" (.long j2) := q25.other W39 (Or.inr (slot_ne (Or.inr (hw _ (List.mem_of_getElem? (i := 17) rfl))) (Or.inr (hw _ (List.mem_of_getElem? (i := 19) rfl))) (by decide) (t := .long) (t' := .long) (by decide) (by decide)))
  have q43 : Fld Z h39 r1 "com/example/examwright/examwright/CompetitionScore" "periodUtilisation" "J" (.long j3) := q26.same W39
  have q44 : Fld Z h39 r1 "com/example/examwright/examwright/CompetitionScore" "periodRelated" "J" u_3 := q27.other W39 (Or.inr (slot_ne (Or.inr (hw _ (List.mem_of_getElem? (i := 21) rfl))) (Or.inr (hw _ (List.mem_of_getElem? (i := 19) rfl))) (by decide) (t := .long) (t' := .long) (by decide) (by decide)))
  have q45 : Fld Z h39 r1 "com/example/examwright/examwright/CompetitionScore" "roomRelated" "J" u_4 := q28.other W39 (Or.inr (slot_ne (Or.inr (hw _ (List.mem_of_getElem? (i := 23) rfl))) (Or.inr (hw _ (List.mem_of_getElem? (i := 19) rfl))) (by decide) (t := .long) (t' := .long) (by decide) (by decide)))
  have q46 : Fld Z h39 r1 "com/example/examwright/examwright/CompetitionScore" "twoInARow" "J" u_5 := q29.other W39 (Or.inr (slot_ne (Or.inr (hw _ (List.mem_of_getElem? (i := 25) rfl))) (Or.inr (hw _ (List.mem_of_getElem? (i := 19) rfl))) (by decide) (t := .long) (t' := .long) (by decide) (by decide)))
  have q47 : Fld Z h39 r1 "com/example/examwright/examwright/CompetitionScore" "twoInADay" "J" u_6 := q30.other W39 (Or.inr (slot_ne (Or.inr (hw _ (List.mem_of_getElem? (i := 27) rfl))) (Or.inr (hw _ (List.mem_of_getElem? (i := 19) rfl))) (by decide) (t := .long) (t' := .long) (by decide) (by decide)))
  have q48 : Fld Z h39 r1 "com/example/examwright/examwright/CompetitionScore" "periodSpread" "J" u_7 := q31.other W39 (Or.inr (slot_ne (Or.inr (hw _ (List.mem_of_getElem? (i := 29) rfl))) (Or.inr (hw _ (List.mem_of_getElem? (i := 19) rfl))) (by decide) (t := .long) (t' := .long) (by decide) (by decide)))
  have q49 : Fld Z h39 r1 "com/example/examwright/examwright/CompetitionScore" "mixedDurations" "J" u_8 := q32.other W39 (Or.inr (slot_ne (Or.inr (hw _ (List.mem_of_getElem? (i := 31) rfl))) (Or.inr (hw _ (List.mem_of_getElem? (i := 19) rfl))) (by decide) (t := .long) (t' := .long) (by decide) (by decide)))
  have q50 : Fld Z h39 r1 "com/example/examwright/examwright/CompetitionScore" "frontLoad" "J" u_9 := q33.other W39 (Or.inr (slot_ne (Or.inr (hw _ (List.mem_of_getElem? (i := 33) rfl))) (Or.inr (hw _ (List.mem_of_getElem? (i := 19) rfl))) (by decide) (t := .long) (t' := .long) (by decide) (by decide)))
  have q51 : Fld Z h39 r1 "com/example/examwright/examwright/CompetitionScore" "periodPenalty" "J" u_10 := q34.other W39 (Or.inr (slot_ne (Or.inr (hw _ (List.mem_of_getElem? (i := 35) rfl))) (Or.inr (hw _ (List.mem_of_getElem? (i := 19) rfl))) (by decide) (t := .long) (t' := .long) (by decide) (by decide)))
  have q52 : Fld Z h39 r1 "com/example/examwright/examwright/CompetitionScore" "roomPenalty" "J" u_11 := q35.other W39 (Or.inr (slot_ne (Or.inr (hw _ (List.mem_of_getElem? (i := 37) rfl))) (Or.inr (hw _ (List.mem_of_getElem? (i := 19) rfl))) (by decide) (t := .long) (t' := .long) (by decide) (by decide)))
  have Z53 : n0 ≤ h39.size := Nat.le_trans Z36 (Keep.of_wr W39).1
  have K54 : Keep h0 h39 [r1] := K37.wr W39 (Or.inl (List.mem_of_getElem? (i := 0) rfl))
  have N55 := Fr.snoc X39 N38 g_r1
  refine Go.of st39 ?_
  show Go p e below Qo T39 (mkF m 20 #[.val (.ref r1), .val (.long j1), .second, .val (.long j2), .second, .val (.long j3), .second, .val (.long j4), .second, .val (.long j5), .second, .val (.long j6), .second, .val (.long j7), .second, .val (.long j8), .second, .val (.long j9), .second, .val (.long j10), .second, .val (.long j11), .second, .val (.long j12), .second] [])
  refine Go.of (fun t k => XS.aloadN X39.here hx rfl (hb hby d1_20) rfl rfl k) ?_
  show Go p e below Qo T39 (mkF m 21 #[.val (.ref r1), .val (.long j1), .second, .val (.long j2), .second, .val (.long j3), .second, .val (.long j4), .second, .val (.long j5), .second, .val (.long j6), .second, .val (.long j7), .second, .val (.long j8), .second, .val (.long j9), .second, .val (.long j10), .second, .val (.long j11), .second, .val (.long j12), .second] [(.ref r1)])
  refine Go.of (fun t k => XS.lload X39.here hx rfl (hb hby d1_21) rfl  k) ?_
  show Go p e below Qo T39 (mkF m 23 #[.val (.ref r1), .val (.long j1), .second, .val (.long j2), .second, .val (.long j3), .second, .val (.long j4), .second, .val (.long j5), .second, .val (.long j6), .second, .val (.long j7), .second, .val (.long j8), .second, .val (.long j9), .second, .val (.long j10), .second, .val (.long j11), .second, .val (.long j12), .second] [(.long j4), (.ref r1)])
  obtain ⟨T56, h56, X56, e56, W56, st56⟩ := putF X39 hx hZ hown (host := "") (Or.inl (hw _ (List.mem_of_getElem? (i := 20) rfl))) Via.refl e39 q44 q40 (Or.inr ⟨(hw _ (List.mem_of_getElem? (i := 21) rfl)), rfl, hnm⟩) (hw _ (List.mem_of_getElem? (i := 1) rfl)) (ty := .long) (by decide) rfl rfl (g := (mkF m 23 #[.val (.ref r1), .val (.long j1), .second, .val (.long j2), .second, .val (.long j3), .second, .val (.long j4), .second, .val (.long j5), .second, .val (.long j6), .second, .val (.long j7), .second, .val (.long j8), .second, .val (.long j9), .second, .val (.long j10), .second, .val (.long j11), .second, .val (.long j12), .second] [(.long j4), (.ref r1)])) rfl rfl (hb hby d1_23)
  have q57 : Exa Z h56 r1 "com/example/examwright/examwright/CompetitionScore" := q40.wr W56
  have q58 : Fld Z h56 r1 "com/example/examwright/examwright/CompetitionScore" "conflicts" "J" (.long j1) := q41.other W56 (Or.inr (slot_ne (Or.inr (hw _ (List.mem_of_getElem? (i := 15) rfl))) (Or.inr (hw _ (List.mem_of_getElem? (i := 21) rfl))) (by decide) (t := .long) (t' := .long) (by decide) (by decide)))
  have q59 : Fld Z h56 r1 "com/example/examwright/examwright/CompetitionScore" "roomOccupancy" "J" (.long j2) := q42.other W56 (Or.inr (slot_ne (Or.inr (hw _ (List.mem_of_getElem? (i := 17) rfl))) (Or.inr (hw _ (List.mem_of_getElem? (i := 21) rfl))) (by decide) (t := .long) (t' := .long) (by decide) (by decide)))
  have q60 : Fld Z h56 r1 "com/example/examwright/examwright/CompetitionScore" "periodUtilisation" "J" (.long j3) := q43.other W56 (Or.inr (slot_ne (Or.inr (hw _ (List.mem_of_getElem? (i := 19) rfl))) (Or.inr (hw _ (List.mem_of_getElem? (i := 21) rfl))) (by decide) (t := .long) (t' := .long) (by decide) (by decide)))
  have q61 : Fld Z h56 r1 "com/example/examwright/examwright/CompetitionScore" "periodRelated" "J" (.long j4) := q44.same W56
  have q62 : Fld Z h56 r1 "com/example/examwright/examwright/CompetitionScore" "roomRelated" "J" u_4 := q45.other W56 (Or.inr (slot_ne (Or.inr (hw _ (List.mem_of_getElem? (i := 23) rfl))) (Or.inr (hw _ (List.mem_of_getElem? (i := 21) rfl))) (by decide) (t := .long) (t' := .long) (by decide) (by decide)))
  have q63 : Fld Z h56 r1 "com/example/examwright/examwright/CompetitionScore" "twoInARow" "J" u_5 := q46.other W56 (Or.inr (slot_ne (Or.inr (hw _ (List.mem_of_getElem? (i := 25) rfl))) (Or.inr (hw _ (List.mem_of_getElem? (i := 21) rfl))) (by decide) (t := .long) (t' := .long) (by decide) (by decide)))
  have q64 : Fld Z h56 r1 "com/example/examwright/examwright/CompetitionScore" "twoInADay" "J" u_6 := q47.other W56 (Or.inr (slot_ne (Or.inr (hw _ (List.mem_of_getElem? (i := 27) rfl))) (Or.inr (hw _ (List.mem_of_getElem? (i := 21) rfl))) (by decide) (t := .long) (t' := .long) (by decide) (by decide)))
  have q65 : Fld Z h56 r1 "com/example/examwright/examwright/CompetitionScore" "periodSpread" "J" u_7 := q48.other W56 (Or.inr (slot_ne (Or.inr (hw _ (List.mem_of_getElem? (i := 29) rfl))) (Or.inr (hw _ (List.mem_of_getElem? (i := 21) rfl))) (by decide) (t := .long) (t' := .long) (by decide) (by decide)))
  have q66 : Fld Z h56 r1 "com/example/examwright/examwright/CompetitionScore" "mixedDurations" "J" u_8 := q49.other W56 (Or.inr (slot_ne (Or.inr (hw _ (List.mem_of_getElem? (i := 31) rfl))) (Or.inr (hw _ (List.mem_of_getElem? (i := 21) rfl))) (by decide) (t := .long) (t' := .long) (by decide) (by decide)))
  have q67 : Fld Z h56 r1 "com/example/examwright/examwright/CompetitionScore" "frontLoad" "J" u_9 := q50.other W56 (Or.inr (slot_ne (Or.inr (hw _ (List.mem_of_getElem? (i := 33) rfl))) (Or.inr (hw _ (List.mem_of_getElem? (i := 21) rfl))) (by decide) (t := .long) (t' := .long) (by decide) (by decide)))
  have q68 : Fld Z h56 r1 "com/example/examwright/examwright/CompetitionScore" "periodPenalty" "J" u_10 := q51.other W56 (Or.inr (slot_ne (Or.inr (hw _ (List.mem_of_getElem? (i := 35) rfl))) (Or.inr (hw _ (List.mem_of_getElem? (i := 21) rfl))) (by decide) (t := .long) (t' := .long) (by decide) (by decide)))
  have q69 : Fld Z h56 r1 "com/example/examwright/examwright/CompetitionScore" "roomPenalty" "J" u_11 := q52.other W56 (Or.inr (slot_ne (Or.inr (hw _ (List.mem_of_getElem? (i := 37) rfl))) (Or.inr (hw _ (List.mem_of_getElem? (i := 21) rfl))) (by decide) (t := .long) (t' := .long) (by decide) (by decide)))
  have Z70 : n0 ≤ h56.size := Nat.le_trans Z53 (Keep.of_wr W56).1
  have K71 : Keep h0 h56 [r1] := K54.wr W56 (Or.inl (List.mem_of_getElem? (i := 0) rfl))
  have N72 := Fr.snoc X56 N55 g_r1
  refine Go.of st56 ?_
  show Go p e below Qo T56 (mkF m 26 #[.val (.ref r1), .val (.long j1), .second, .val (.long j2), .second, .val (.long j3), .second, .val (.long j4), .second, .val (.long j5), .second, .val (.long j6), .second, .val (.long j7), .second, .val (.long j8), .second, .val (.long j9), .second, .val (.long j10), .second, .val (.long j11), .second, .val (.long j12), .second] [])
  refine Go.of (fun t k => XS.aloadN X56.here hx rfl (hb hby d1_26) rfl rfl k) ?_
  show Go p e below Qo T56 (mkF m 27 #[.val (.ref r1), .val (.long j1), .second, .val (.long j2), .second, .val (.long j3), .second, .val (.long j4), .second, .val (.long j5), .second, .val (.long j6), .second, .val (.long j7), .second, .val (.long j8), .second, .val (.long j9), .second, .val (.long j10), .second, .val (.long j11), .second, .val (.long j12), .second] [(.ref r1)])
  refine Go.of (fun t k => XS.lload X56.here hx rfl (hb hby d1_27) rfl  k) ?_
  show Go p e below Qo T56 (mkF m 29 #[.val (.ref r1), .val (.long j1), .second, .val (.long j2), .second, .val (.long j3), .second, .val (.long j4), .second, .val (.long j5), .second, .val (.long j6), .second, .val (.long j7), .second, .val (.long j8), .second, .val (.long j9), .second, .val (.long j10), .second, .val (.long j11), .second, .val (.long j12), .second] [(.long j5), (.ref r1)])
  obtain ⟨T73, h73, X73, e73, W73, st73⟩ := putF X56 hx hZ hown (host := "") (Or.inl (hw _ (List.mem_of_getElem? (i := 22) rfl))) Via.refl e56 q62 q57 (Or.inr ⟨(hw _ (List.mem_of_getElem? (i := 23) rfl)), rfl, hnm⟩) (hw _ (List.mem_of_getElem? (i := 1) rfl)) (ty := .long) (by decide) rfl rfl (g := (mkF m 29 #[.val (.ref r1), .val (.long j1), .second, .val (.long j2), .second, .val (.long j3), .second, .val (.long j4), .second, .val (.long j5), .second, .val (.long j6), .second, .val (.long j7), .second, .val (.long j8), .second, .val (.long j9), .second, .val (.long j10), .second, .val (.long j11), .second, .val (.long j12), .second] [(.long j5), (.ref r1)])) rfl rfl (hb hby d1_29)
  have q74 : Exa Z h73 r1 "com/example/examwright/examwright/CompetitionScore" := q57.wr W73
  have q75 : Fld Z h73 r1 "com/example/examwright/examwright/CompetitionScore" "conflicts" "J" (.long j1) := q58.other W73 (Or.inr (slot_ne (Or.inr (hw _ (List.mem_of_getElem? (i := 15) rfl))) (Or.inr (hw _ (List.mem_of_getElem? (i := 23) rfl))) (by decide) (t := .long) (t' := .long) (by decide) (by decide)))
  have q76 : Fld Z h73 r1 "com/example/examwright/examwright/CompetitionScore" "roomOccupancy" "J" (.long j2) := q59.other W73 (Or.inr (slot_ne (Or.inr (hw _ (List.mem_of_getElem? (i := 17) rfl))) (Or.inr (hw _ (List.mem_of_getElem? (i := 23) rfl))) (by decide) (t := .long) (t' := .long) (by decide) (by decide)))
  have q77 : Fld Z h73 r1 "com/example/examwright/examwright/CompetitionScore" "periodUtilisation" "J" (.long j3) := q60.other W73 (Or.inr (slot_ne (Or.inr (hw _ (List.mem_of_getElem? (i := 19) rfl))) (Or.inr (hw _ (List.mem_of_getElem? (i := 23) rfl))) (by decide) (t := .long) (t' := .long) (by decide) (by decide)))
  have q78 : Fld Z h73 r1 "com/example/examwright/examwright/CompetitionScore" "periodRelated" "J" (.long j4) := q61.other W73 (Or.inr (slot_ne (Or.inr (hw _ (List.mem_of_getElem? (i := 21) rfl))) (Or.inr (hw _ (List.mem_of_getElem? (i := 23) rfl))) (by decide) (t := .long) (t' := .long) (by decide) (by decide)))
  have q79 : Fld Z h73 r1 "com/example/examwright/examwright/CompetitionScore" "roomRelated" "J" (.long j5) := q62.same W73
  have q80 : Fld Z h73 r1 "com/example/examwright/examwright/CompetitionScore" "twoInARow" "J" u_5 := q63.other W73 (Or.inr (slot_ne (Or.inr (hw _ (List.mem_of_getElem? (i := 25) rfl))) (Or.inr (hw _ (List.mem_of_getElem? (i := 23) rfl))) (by decide) (t := .long) (t' := .long) (by decide) (by decide)))
  have q81 : Fld Z h73 r1 "com/example/examwright/examwright/CompetitionScore" "twoInADay" "J" u_6 := q64.other W73 (Or.inr (slot_ne (Or.inr (hw _ (List.mem_of_getElem? (i := 27) rfl))) (Or.inr (hw _ (List.mem_of_getElem? (i := 23) rfl))) (by decide) (t := .long) (t' := .long) (by decide) (by decide)))
  have q82 : Fld Z h73 r1 "com/example/examwright/examwright/CompetitionScore" "periodSpread" "J" u_7 := q65.other W73 (Or.inr (slot_ne (Or.inr (hw _ (List.mem_of_getElem? (i := 29) rfl))) (Or.inr (hw _ (List.mem_of_getElem? (i := 23) rfl))) (by decide) (t := .long) (t' := .long) (by decide) (by decide)))
  have q83 : Fld Z h73 r1 "com/example/examwright/examwright/CompetitionScore" "mixedDurations" "J" u_8 := q66.other W73 (Or.inr (slot_ne (Or.inr (hw _ (List.mem_of_getElem? (i := 31) rfl))) (Or.inr (hw _ (List.mem_of_getElem? (i := 23) rfl))) (by decide) (t := .long) (t' := .long) (by decide) (by decide)))
  have q84 : Fld Z h73 r1 "com/example/examwright/examwright/CompetitionScore" "frontLoad" "J" u_9 := q67.other W73 (Or.inr (slot_ne (Or.inr (hw _ (List.mem_of_getElem? (i := 33) rfl))) (Or.inr (hw _ (List.mem_of_getElem? (i := 23) rfl))) (by decide) (t := .long) (t' := .long) (by decide) (by decide)))
  have q85 : Fld Z h73 r1 "com/example/examwright/examwright/CompetitionScore" "periodPenalty" "J" u_10 := q68.other W73 (Or.inr (slot_ne (Or.inr (hw _ (List.mem_of_getElem? (i := 35) rfl))) (Or.inr (hw _ (List.mem_of_getElem? (i := 23) rfl))) (by decide) (t := .long) (t' := .long) (by decide) (by decide)))
  have q86 : Fld Z h73 r1 "com/example/examwright/examwright/CompetitionScore" "roomPenalty" "J" u_11 := q69.other W73 (Or.inr (slot_ne (Or.inr (hw _ (List.mem_of_getElem? (i := 37) rfl))) (Or.inr (hw _ (List.mem_of_getElem? (i := 23) rfl))) (by decide) (t := .long) (t' := .long) (by decide) (by decide)))
  have Z87 : n0 ≤ h73.size := Nat.le_trans Z70 (Keep.of_wr W73).1
  have K88 : Keep h0 h73 [r1] := K71.wr W73 (Or.inl (List.mem_of_getElem? (i := 0) rfl))
  have N89 := Fr.snoc X73 N72 g_r1
  refine Go.of st73 ?_
  show Go p e below Qo T73 (mkF m 32 #[.val (.ref r1), .val (.long j1), .second, .val (.long j2), .second, .val (.long j3), .second, .val (.long j4), .second, .val (.long j5), .second, .val (.long j6), .second, .val (.long j7), .second, .val (.long j8), .second, .val (.long j9), .second, .val (.long j10), .second, .val (.long j11), .second, .val (.long j12), .second] [])
  refine Go.of (fun t k => XS.aloadN X73.here hx rfl (hb hby d1_32) rfl rfl k) ?_
  show Go p e below Qo T73 (mkF m 33 #[.val (.ref r1), .val (.long j1), .second, .val (.long j2), .second, .val (.long j3), .second, .val (.long j4), .second, .val (.long j5), .second, .val (.long j6), .second, .val (.long j7), .second, .val (.long j8), .second, .val (.long j9), .second, .val (.long j10), .second, .val (.long j11), .second, .val (.long j12), .second] [(.ref r1)])
  refine Go.of (fun t k => XS.lload X73.here hx rfl (hb hby d1_33) rfl  k) ?_
  show Go p e below Qo T73 (mkF m 35 #[.val (.ref r1), .val (.long j1), .second, .val (.long j2), .second, .val (.long j3), .second, .val (.long j4), .second, .val (.long j5), .second, .val (.long j6), .second, .val (.long j7), .second, .val (.long j8), .second, .val (.long j9), .second, .val (.long j10), .second, .val (.long j11), .second, .val (.long j12), .second] [(.long j6), (.ref r1)])
  obtain ⟨T90, h90, X90, e90, W90, st90⟩ := putF X73 hx hZ hown (host := "") (Or.inl (hw _ (List.mem_of_getElem? (i := 24) rfl))) Via.refl e73 q80 q74 (Or.inr ⟨(hw _ (List.mem_of_getElem? (i := 25) rfl)), rfl, hnm⟩) (hw _ (List.mem_of_getElem? (i := 1) rfl)) (ty := .long) (by decide) rfl rfl (g := (mkF m 35 #[.val (.ref r1), .val (.long j1), .second, .val (.long j2), .second, .val (.long j3), .second, .val (.long j4), .second, .val (.long j5), .second, .val (.long j6), .second, .val (.long j7), .second, .val (.long j8), .second, .val (.long j9), .second, .val (.long j10), .second, .val (.long j11), .second, .val (.long j12), .second] [(.long j6), (.ref r1)])) rfl rfl (hb hby d1_35)
  have q91 : Exa Z h90 r1 "com/example/examwright/examwright/CompetitionScore" := q74.wr W90
  have q92 : Fld Z h90 r1 "com/example/examwright/examwright/CompetitionScore" "conflicts" "J" (.long j1) := q75.other W90 (Or.inr (slot_ne (Or.inr (hw _ (List.mem_of_getElem? (i := 15) rfl))) (Or.inr (hw _ (List.mem_of_getElem? (i := 25) rfl))) (by decide) (t := .long) (t' := .long) (by decide) (by decide)))
  have q93 : Fld Z h90 r1 "com/example/examwright/examwright/CompetitionScore" "roomOccupancy" "J" (.long j2) := q76.other W90 (Or.inr (slot_ne (Or.inr (hw _ (List.mem_of_getElem? (i := 17) rfl))) (Or.inr (hw _ (List.mem_of_getElem? (i := 25) rfl))) (by decide) (t := .long) (t' := .long) (by decide) (by decide)))
  have q94 : Fld Z h90 r1 "com/example/examwright/examwright/CompetitionScore" "periodUtilisation" "J" (.long j3) := q77.other W90 (Or.inr (slot_ne (Or.inr (hw _ (List.mem_of_getElem? (i := 19) rfl))) (Or.inr (hw _ (List.mem_of_getElem? (i := 25) rfl))) (by decide) (t := .long) (t' := .long) (by decide) (by decide)))
  have q95 : Fld Z h90 r1 "com/example/examwright/examwright/CompetitionScore" "periodRelated" "J" (.long j4) := q78.other W90 (Or.inr (slot_ne (Or.inr (hw _ (List.mem_of_getElem? (i := 21) rfl))) (Or.inr (hw _ (List.mem_of_getElem? (i := 25) rfl))) (by decide) (t := .long) (t' := .long) (by decide) (by decide)))
  have q96 : Fld Z h90 r1 "com/example/examwright/examwright/CompetitionScore" "roomRelated" "J" (.long j5) := q79.other W90 (Or.inr (slot_ne (Or.inr (hw _ (List.mem_of_getElem? (i := 23) rfl))) (Or.inr (hw _ (List.mem_of_getElem? (i := 25) rfl))) (by decide) (t := .long) (t' := .long) (by decide) (by decide)))
  have q97 : Fld Z h90 r1 "com/example/examwright/examwright/CompetitionScore" "twoInARow" "J" (.long j6) := q80.same W90
  have q98 : Fld Z h90 r1 "com/example/examwright/examwright/CompetitionScore" "twoInADay" "J" u_6 := q81.other W90 (Or.inr (slot_ne (Or.inr (hw _ (List.mem_of_getElem? (i := 27) rfl))) (Or.inr (hw _ (List.mem_of_getElem? (i := 25) rfl))) (by decide) (t := .long) (t' := .long) (by decide) (by decide)))
  have q99 : Fld Z h90 r1 "com/example/examwright/examwright/CompetitionScore" "periodSpread" "J" u_7 := q82.other W90 (Or.inr (slot_ne (Or.inr (hw _ (List.mem_of_getElem? (i := 29) rfl))) (Or.inr (hw _ (List.mem_of_getElem? (i := 25) rfl))) (by decide) (t := .long) (t' := .long) (by decide) (by decide)))
  have q100 : Fld Z h90 r1 "com/example/examwright/examwright/CompetitionScore" "mixedDurations" "J" u_8 := q83.other W90 (Or.inr (slot_ne (Or.inr (hw _ (List.mem_of_getElem? (i := 31) rfl))) (Or.inr (hw _ (List.mem_of_getElem? (i := 25) rfl))) (by decide) (t := .long) (t' := .long) (by decide) (by decide)))
  have q101 : Fld Z h90 r1 "com/example/examwright/examwright/CompetitionScore" "frontLoad" "J" u_9 := q84.other W90 (Or.inr (slot_ne (Or.inr (hw _ (List.mem_of_getElem? (i := 33) rfl))) (Or.inr (hw _ (List.mem_of_getElem? (i := 25) rfl))) (by decide) (t := .long) (t' := .long) (by decide) (by decide)))
  have q102 : Fld Z h90 r1 "com/example/examwright/examwright/CompetitionScore" "periodPenalty" "J" u_10 := q85.other W90 (Or.inr (slot_ne (Or.inr (hw _ (List.mem_of_getElem? (i := 35) rfl))) (Or.inr (hw _ (List.mem_of_getElem? (i := 25) rfl))) (by decide) (t := .long) (t' := .long) (by decide) (by decide)))
  have q103 : Fld Z h90 r1 "com/example/examwright/examwright/CompetitionScore" "roomPenalty" "J" u_11 := q86.other W90 (Or.inr (slot_ne (Or.inr (hw _ (List.mem_of_getElem? (i := 37) rfl))) (Or.inr (hw _ (List.mem_of_getElem? (i := 25) rfl))) (by decide) (t := .long) (t' := .long) (by decide) (by decide)))
  have Z104 : n0 ≤ h90.size := Nat.le_trans Z87 (Keep.of_wr W90).1
  have K105 : Keep h0 h90 [r1] := K88.wr W90 (Or.inl (List.mem_of_getElem? (i := 0) rfl))
  have N106 := Fr.snoc X90 N89 g_r1
  refine Go.of st90 ?_
  show Go p e below Qo T90 (mkF m 38 #[.val (.ref r1), .val (.long j1), .second, .val (.long j2), .second, .val (.long j3), .second, .val (.long j4), .second, .val (.long j5), .second, .val (.long j6), .second, .val (.long j7), .second, .val (.long j8), .second, .val (.long j9), .second, .val (.long j10), .second, .val (.long j11), .second, .val (.long j12), .second] [])
  refine Go.of (fun t k => XS.aloadN X90.here hx rfl (hb hby d1_38) rfl rfl k) ?_
  show Go p e below Qo T90 (mkF m 39 #[.val (.ref r1), .val (.long j1), .second, .val (.long j2), .second, .val (.long j3), .second, .val (.long j4), .second, .val (.long j5), .second, .val (.long j6), .second, .val (.long j7), .second, .val (.long j8), .second, .val (.long j9), .second, .val (.long j10), .second, .val (.long j11), .second, .val (.long j12), .second] [(.ref r1)])
  refine Go.of (fun t k => XS.lload X90.here hx rfl (hb hby d1_39) rfl  k) ?_
  show Go p e below Qo T90 (mkF m 41 #[.val (.ref r1), .val (.long j1), .second, .val (.long j2), .second, .val (.long j3), .second, .val (.long j4), .second, .val (.long j5), .second, .val (.long j6), .second, .val (.long j7), .second, .val (.long j8), .second, .val (.long j9), .second, .val (.long j10), .second, .val (.long j11), .second, .val (.long j12), .second] [(.long j7), (.ref r1)])
  obtain ⟨T107, h107, X107, e107, W107, st107⟩ := putF X90 hx hZ hown (host := "") (Or.inl (hw _ (List.mem_of_getElem? (i := 26) rfl))) Via.refl e90 q98 q91 (Or.inr ⟨(hw _ (List.mem_of_getElem? (i := 27) rfl)), rfl, hnm⟩) (hw _ (List.mem_of_getElem? (i := 1) rfl)) (ty := .long) (by decide) rfl rfl (g := (mkF m 41 #[.val (.ref r1), .val (.long j1), .second, .val (.long j2), .second, .val (.long j3), .second, .val (.long j4), .second, .val (.long j5), .second, .val (.long j6), .second, .val (.long j7), .second, .val (.long j8), .second, .val (.long j9), .second, .val (.long j10), .second, .val (.long j11), .second, .val (.long j12), .second] [(.long j7), (.ref r1)])) rfl rfl (hb hby d1_41)
  have q108 : Exa Z h107 r1 "com/example/examwright/examwright/CompetitionScore" := q91.wr W107
  have q109 : Fld Z h107 r1 "com/example/examwright/examwright/CompetitionScore" "conflicts" "J" (.long j1) := q92.other W107 (Or.inr (slot_ne (Or.inr (hw _ (List.mem_of_getElem? (i := 15) rfl))) (Or.inr (hw _ (List.mem_of_getElem? (i := 27) rfl))) (by decide) (t := .long) (t' := .long) (by decide) (by decide)))
  have q110 : Fld Z h107 r1 "com/example/examwright/examwright/CompetitionScore" "roomOccupancy" "J" (.long j2) := q93.other W107 (Or.inr (slot_ne (Or.inr (hw _ (List.mem_of_getElem? (i := 17) rfl))) (Or.inr (hw _ (List.mem_of_getElem? (i := 27) rfl))) (by decide) (t := .long) (t' := .long) (by decide) (by decide)))
  have q111 : Fld Z h107 r1 "com/example/examwright/examwright/CompetitionScore" "periodUtilisation" "J" (.long j3) := q94.other W107 (Or.inr (slot_ne (Or.inr (hw _ (List.mem_of_getElem? (i := 19) rfl))) (Or.inr (hw _ (List.mem_of_getElem? (i := 27) rfl))) (by decide) (t := .long) (t' := .long) (by decide) (by decide)))
  have q112 : Fld Z h107 r1 "com/example/examwright/examwright/CompetitionScore" "periodRelated" "J" (.long j4) := q95.other W107 (Or.inr (slot_ne (Or.inr (hw _ (List.mem_of_getElem? (i := 21) rfl))) (Or.inr (hw _ (List.mem_of_getElem? (i := 27) rfl))) (by decide) (t := .long) (t' := .long) (by decide) (by decide)))
  have q113 : Fld Z h107 r1 "com/example/examwright/examwright/CompetitionScore" "roomRelated" "J" (.long j5) := q96.other W107 (Or.inr (slot_ne (Or.inr (hw _ (List.mem_of_getElem? (i := 23) rfl))) (Or.inr (hw _ (List.mem_of_getElem? (i := 27) rfl))) (by decide) (t := .long) (t' := .long) (by decide) (by decide)))
  have q114 : Fld Z h107 r1 "com/example/examwright/examwright/CompetitionScore" "twoInARow" "J" (.long j6) := q97.other W107 (Or.inr (slot_ne (Or.inr (hw _ (List.mem_of_getElem? (i := 25) rfl))) (Or.inr (hw _ (List.mem_of_getElem? (i := 27) rfl))) (by decide) (t := .long) (t' := .long) (by decide) (by decide)))
  have q115 : Fld Z h107 r1 "com/example/examwright/examwright/CompetitionScore" "twoInADay" "J" (.long j7) := q98.same W107
  have q116 : Fld Z h107 r1 "com/example/examwright/examwright/CompetitionScore" "periodSpread" "J" u_7 := q99.other W107 (Or.inr (slot_ne (Or.inr (hw _ (List.mem_of_getElem? (i := 29) rfl))) (Or.inr (hw _ (List.mem_of_getElem? (i := 27) rfl))) (by decide) (t := .long) (t' := .long) (by decide) (by decide)))
  have q117 : Fld Z h107 r1 "com/example/examwright/examwright/CompetitionScore" "mixedDurations" "J" u_8 := q100.other W107 (Or.inr (slot_ne (Or.inr (hw _ (List.mem_of_getElem? (i := 31) rfl))) (Or.inr (hw _ (List.mem_of_getElem? (i := 27) rfl))) (by decide) (t := .long) (t' := .long) (by decide) (by decide)))
  have q118 : Fld Z h107 r1 "com/example/examwright/examwright/CompetitionScore" "frontLoad" "J" u_9 := q101.other W107 (Or.inr (slot_ne (Or.inr (hw _ (List.mem_of_getElem? (i := 33) rfl))) (Or.inr (hw _ (List.mem_of_getElem? (i := 27) rfl))) (by decide) (t := .long) (t' := .long) (by decide) (by decide)))
  have q119 : Fld Z h107 r1 "com/example/examwright/examwright/CompetitionScore" "periodPenalty" "J" u_10 := q102.other W107 (Or.inr (slot_ne (Or.inr (hw _ (List.mem_of_getElem? (i := 35) rfl))) (Or.inr (hw _ (List.mem_of_getElem? (i := 27) rfl))) (by decide) (t := .long) (t' := .long) (by decide) (by decide)))
  have q120 : Fld Z h107 r1 "com/example/examwright/examwright/CompetitionScore" "roomPenalty" "J" u_11 := q103.other W107 (Or.inr (slot_ne (Or.inr (hw _ (List.mem_of_getElem? (i := 37) rfl))) (Or.inr (hw _ (List.mem_of_getElem? (i := 27) rfl))) (by decide) (t := .long) (t' := .long) (by decide) (by decide)))
  have Z121 : n0 ≤ h107.size := Nat.le_trans Z104 (Keep.of_wr W107).1
  have K122 : Keep h0 h107 [r1] := K105.wr W107 (Or.inl (List.mem_of_getElem? (i := 0) rfl))
  have N123 := Fr.snoc X107 N106 g_r1
  refine Go.of st107 ?_
  show Go p e below Qo T107 (mkF m 44 #[.val (.ref r1), .val (.long j1), .second, .val (.long j2), .second, .val (.long j3), .second, .val (.long j4), .second, .val (.long j5), .second, .val (.long j6), .second, .val (.long j7), .second, .val (.long j8), .second, .val (.long j9), .second, .val (.long j10), .second, .val (.long j11), .second, .val (.long j12), .second] [])
  refine Go.of (fun t k => XS.aloadN X107.here hx rfl (hb hby d1_44) rfl rfl k) ?_
  show Go p e below Qo T107 (mkF m 45 #[.val (.ref r1), .val (.long j1), .second, .val (.long j2), .second, .val (.long j3), .second, .val (.long j4), .second, .val (.long j5), .second, .val (.long j6), .second, .val (.long j7), .second, .val (.long j8), .second, .val (.long j9), .second, .val (.long j10), .second, .val (.long j11), .second, .val (.long j12), .second] [(.ref r1)])
  refine Go.of (fun t k => XS.lload X107.here hx rfl (hb hby d1_45) rfl  k) ?_
  show Go p e below Qo T107 (mkF m 47 #[.val (.ref r1), .val (.long j1), .second, .val (.long j2), .second, .val (.long j3), .second, .val (.long j4), .second, .val (.long j5), .second, .val (.long j6), .second, .val (.long j7), .second, .val (.long j8), .second, .val (.long j9), .second, .val (.long j10), .second, .val (.long j11), .second, .val (.long j12), .second] [(.long j8), (.ref r1)])
  obtain ⟨T124, h124, X124, e124, W124, st124⟩ := putF X107 hx hZ hown (host := "") (Or.inl (hw _ (List.mem_of_getElem? (i := 28) rfl))) Via.refl e107 q116 q108 (Or.inr ⟨(hw _ (List.mem_of_getElem? (i := 29) rfl)), rfl, hnm⟩) (hw _ (List.mem_of_getElem? (i := 1) rfl)) (ty := .long) (by decide) rfl rfl (g := (mkF m 47 #[.val (.ref r1), .val (.long j1), .second, .val (.long j2), .second, .val (.long j3), .second, .val (.long j4), .second, .val (.long j5), .second, .val (.long j6), .second, .val (.long j7), .second, .val (.long j8), .second, .val (.long j9), .second, .val (.long j10), .second, .val (.long j11), .second, .val (.long j12), .second] [(.long j8), (.ref r1)])) rfl rfl (hb hby d1_47)
  have q125 : Exa Z h124 r1 "com/example/examwright/examwright/CompetitionScore" := q108.wr W124
  have q126 : Fld Z h124 r1 "com/example/examwright/examwright/CompetitionScore" "conflicts" "J" (.long j1) := q109.other W124 (Or.inr (slot_ne (Or.inr (hw _ (List.mem_of_getElem? (i := 15) rfl))) (Or.inr (hw _ (List.mem_of_getElem? (i := 29) rfl))) (by decide) (t := .long) (t' := .long) (by decide) (by decide)))
  have q127 : Fld Z h124 r1 "com/example/examwright/examwright/CompetitionScore" "roomOccupancy" "J" (.long j2) := q110.other W124 (Or.inr (slot_ne (Or.inr (hw _ (List.mem_of_getElem? (i := 17) rfl))) (Or.inr (hw _ (List.mem_of_getElem? (i := 29) rfl))) (by decide) (t := .long) (t' := .long) (by decide) (by decide)))
  have q128 : Fld Z h124 r1 "com/example/examwright/examwright/CompetitionScore" "periodUtilisation" "J" (.long j3) := q111.other W124 (Or.inr (slot_ne (Or.inr (hw _ (List.mem_of_getElem? (i := 19) rfl))) (Or.inr (hw _ (List.mem_of_getElem? (i := 29) rfl))) (by decide) (t := .long) (t' := .long) (by decide) (by decide)))
  have q129 : Fld Z h124 r1 "com/example/examwright/examwright/CompetitionScore" "periodRelated" "J" (.long j4) := q112.other W124 (Or.inr (slot_ne (Or.inr (hw _ (List.mem_of_getElem? (i := 21) rfl))) (Or.inr (hw _ (List.mem_of_getElem? (i := 29) rfl))) (by decide) (t := .long) (t' := .long) (by decide) (by decide)))
  have q130 : Fld Z h124 r1 "com/example/examwright/examwright/CompetitionScore" "roomRelated" "J" (.long j5) := q113.other W124 (Or.inr (slot_ne (Or.inr (hw _ (List.mem_of_getElem? (i := 23) rfl))) (Or.inr (hw _ (List.mem_of_getElem? (i := 29) rfl))) (by decide) (t := .long) (t' := .long) (by decide) (by decide)))
  have q131 : Fld Z h124 r1 "com/example/examwright/examwright/CompetitionScore" "twoInARow" "J" (.long j6) := q114.other W124 (Or.inr (slot_ne (Or.inr (hw _ (List.mem_of_getElem? (i := 25) rfl))) (Or.inr (hw _ (List.mem_of_getElem? (i := 29) rfl))) (by decide) (t := .long) (t' := .long) (by decide) (by decide)))
  have q132 : Fld Z h124 r1 "com/example/examwright/examwright/CompetitionScore" "twoInADay" "J" (.long j7) := q115.other W124 (Or.inr (slot_ne (Or.inr (hw _ (List.mem_of_getElem? (i := 27) rfl))) (Or.inr (hw _ (List.mem_of_getElem? (i := 29) rfl))) (by decide) (t := .long) (t' := .long) (by decide) (by decide)))
  have q133 : Fld Z h124 r1 "com/example/examwright/examwright/CompetitionScore" "periodSpread" "J" (.long j8) := q116.same W124
  have q134 : Fld Z h124 r1 "com/example/examwright/examwright/CompetitionScore" "mixedDurations" "J" u_8 := q117.other W124 (Or.inr (slot_ne (Or.inr (hw _ (List.mem_of_getElem? (i := 31) rfl))) (Or.inr (hw _ (List.mem_of_getElem? (i := 29) rfl))) (by decide) (t := .long) (t' := .long) (by decide) (by decide)))
  have q135 : Fld Z h124 r1 "com/example/examwright/examwright/CompetitionScore" "frontLoad" "J" u_9 := q118.other W124 (Or.inr (slot_ne (Or.inr (hw _ (List.mem_of_getElem? (i := 33) rfl))) (Or.inr (hw _ (List.mem_of_getElem? (i := 29) rfl))) (by decide) (t := .long) (t' := .long) (by decide) (by decide)))
  have q136 : Fld Z h124 r1 "com/example/examwright/examwright/CompetitionScore" "periodPenalty" "J" u_10 := q119.other W124 (Or.inr (slot_ne (Or.inr (hw _ (List.mem_of_getElem? (i := 35) rfl))) (Or.inr (hw _ (List.mem_of_getElem? (i := 29) rfl))) (by decide) (t := .long) (t' := .long) (by decide) (by decide)))
  have q137 : Fld Z h124 r1 "com/example/examwright/examwright/CompetitionScore" "roomPenalty" "J" u_11 := q120.other W124 (Or.inr (slot_ne (Or.inr (hw _ (List.mem_of_getElem? (i := 37) rfl))) (Or.inr (hw _ (List.mem_of_getElem? (i := 29) rfl))) (by decide) (t := .long) (t' := .long) (by decide) (by decide)))
  have Z138 : n0 ≤ h124.size := Nat.le_trans Z121 (Keep.of_wr W124).1
  have K139 : Keep h0 h124 [r1] := K122.wr W124 (Or.inl (List.mem_of_getElem? (i := 0) rfl))
  have N140 := Fr.snoc X124 N123 g_r1
  refine Go.of st124 ?_
  show Go p e below Qo T124 (mkF m 50 #[.val (.ref r1), .val (.long j1), .second, .val (.long j2), .second, .val (.long j3), .second, .val (.long j4), .second, .val (.long j5), .second, .val (.long j6), .second, .val (.long j7), .second, .val (.long j8), .second, .val (.long j9), .second, .val (.long j10), .second, .val (.long j11), .second, .val (.long j12), .second] [])
  refine Go.of (fun t k => XS.aloadN X124.here hx rfl (hb hby d1_50) rfl rfl k) ?_
  show Go p e below Qo T124 (mkF m 51 #[.val (.ref r1), .val (.long j1), .second, .val (.long j2), .second, .val (.long j3), .second, .val (.long j4), .second, .val (.long j5), .second, .val (.long j6), .second, .val (.long j7), .second, .val (.long j8), .second, .val (.long j9), .second, .val (.long j10), .second, .val (.long j11), .second, .val (.long j12), .second] [(.ref r1)])
  refine Go.of (fun t k => XS.lload X124.here hx rfl (hb hby d1_51) rfl  k) ?_
  show Go p e below Qo T124 (mkF m 53 #[.val (.ref r1), .val (.long j1), .second, .val (.long j2), .second, .val (.long j3), .second, .val (.long j4), .second, .val (.long j5), .second, .val (.long j6), .second, .val (.long j7), .second, .val (.long j8), .second, .val (.long j9), .second, .val (.long j10), .second, .val (.long j11), .second, .val (.long j12), .second] [(.long j9), (.ref r1)])
  obtain ⟨T141, h141, X141, e141, W141, st141⟩ := putF X124 hx hZ hown (host := "") (Or.inl (hw _ (List.mem_of_getElem? (i := 30) rfl))) Via.refl e124 q134 q125 (Or.inr ⟨(hw _ (List.mem_of_getElem? (i := 31) rfl)), rfl, hnm⟩) (hw _ (List.mem_of_getElem? (i := 1) rfl)) (ty := .long) (by decide) rfl rfl (g := (mkF m 53 #[.val (.ref r1), .val (.long j1), .second, .val (.long j2), .second, .val (.long j3), .second, .val (.long j4), .second, .val (.long j5), .second, .val (.long j6), .second, .val (.long j7), .second, .val (.long j8), .second, .val (.long j9), .second, .val (.long j10), .second, .val (.long j11), .second, .val (.long j12), .second] [(.long j9), (.ref r1)])) rfl rfl (hb hby d1_53)
  have q142 : Exa Z h141 r1 "com/example/examwright/examwright/CompetitionScore" := q125.wr W141
  have q143 : Fld Z h141 r1 "com/example/examwright/examwright/CompetitionScore" "conflicts" "J" (.long j1) := q126.other W141 (Or.inr (slot_ne (Or.inr (hw _ (List.mem_of_getElem? (i := 15) rfl))) (Or.inr (hw _ (List.mem_of_getElem? (i := 31) rfl))) (by decide) (t := .long) (t' := .long) (by decide) (by decide)))
  have q144 : Fld Z h141 r1 "com/example/examwright/examwright/CompetitionScore" "roomOccupancy" "J" (.long j2) := q127.other W141 (Or.inr (slot_ne (Or.inr (hw _ (List.mem_of_getElem? (i := 17) rfl))) (Or.inr (hw _ (List.mem_of_getElem? (i := 31) rfl))) (by decide) (t := .long) (t' := .long) (by decide) (by decide)))
  have q145 : Fld Z h141 r1 "com/example/examwright/examwright/CompetitionScore" "periodUtilisation" "J" (.long j3) := q128.other W141 (Or.inr (slot_ne (Or.inr (hw _ (List.mem_of_getElem? (i := 19) rfl))) (Or.inr (hw _ (List.mem_of_getElem? (i := 31) rfl))) (by decide) (t := .long) (t' := .long) (by decide) (by decide)))
  have q146 : Fld Z h141 r1 "com/example/examwright/examwright/CompetitionScore" "periodRelated" "J" (.long j4) := q129.other W141 (Or.inr (slot_ne (Or.inr (hw _ (List.mem_of_getElem? (i := 21) rfl))) (Or.inr (hw _ (List.mem_of_getElem? (i := 31) rfl))) (by decide) (t := .long) (t' := .long) (by decide) (by decide)))
  have q147 : Fld Z h141 r1 "com/example/examwright/examwright/CompetitionScore" "roomRelated" "J" (.long j5) := q130.other W141 (Or.inr (slot_ne (Or.inr (hw _ (List.mem_of_getElem? (i := 23) rfl))) (Or.inr (hw _ (List.mem_of_getElem? (i := 31) rfl))) (by decide) (t := .long) (t' := .long) (by decide) (by decide)))
  have q148 : Fld Z h141 r1 "com/example/examwright/examwright/CompetitionScore" "twoInARow" "J" (.long j6) := q131.other W141 (Or.inr (slot_ne (Or.inr (hw _ (List.mem_of_getElem? (i := 25) rfl))) (Or.inr (hw _ (List.mem_of_getElem? (i := 31) rfl))) (by decide) (t := .long) (t' := .long) (by decide) (by decide)))
  have q149 : Fld Z h141 r1 "com/example/examwright/examwright/CompetitionScore" "twoInADay" "J" (.long j7) := q132.other W141 (Or.inr (slot_ne (Or.inr (hw _ (List.mem_of_getElem? (i := 27) rfl))) (Or.inr (hw _ (List.mem_of_getElem? (i := 31) rfl))) (by decide) (t := .long) (t' := .long) (by decide) (by decide)))
  have q150 : Fld Z h141 r1 "com/example/examwright/examwright/CompetitionScore" "periodSpread" "J" (.long j8) := q133.other W141 (Or.inr (slot_ne (Or.inr (hw _ (List.mem_of_getElem? (i := 29) rfl))) (Or.inr (hw _ (List.mem_of_getElem? (i := 31) rfl))) (by decide) (t := .long) (t' := .long) (by decide) (by decide)))
  have q151 : Fld Z h141 r1 "com/example/examwright/examwright/CompetitionScore" "mixedDurations" "J" (.long j9) := q134.same W141
  have q152 : Fld Z h141 r1 "com/example/examwright/examwright/CompetitionScore" "frontLoad" "J" u_9 := q135.other W141 (Or.inr (slot_ne (Or.inr (hw _ (List.mem_of_getElem? (i := 33) rfl))) (Or.inr (hw _ (List.mem_of_getElem? (i := 31) rfl))) (by decide) (t := .long) (t' := .long) (by decide) (by decide)))
  have q153 : Fld Z h141 r1 "com/example/examwright/examwright/CompetitionScore" "periodPenalty" "J" u_10 := q136.other W141 (Or.inr (slot_ne (Or.inr (hw _ (List.mem_of_getElem? (i := 35) rfl))) (Or.inr (hw _ (List.mem_of_getElem? (i := 31) rfl))) (by decide) (t := .long) (t' := .long) (by decide) (by decide)))
  have q154 : Fld Z h141 r1 "com/example/examwright/examwright/CompetitionScore" "roomPenalty" "J" u_11 := q137.other W141 (Or.inr (slot_ne (Or.inr (hw _ (List.mem_of_getElem? (i := 37) rfl))) (Or.inr (hw _ (List.mem_of_getElem? (i := 31) rfl))) (by decide) (t := .long) (t' := .long) (by decide) (by decide)))
  have Z155 : n0 ≤ h141.size := Nat.le_trans Z138 (Keep.of_wr W141).1
  have K156 : Keep h0 h141 [r1] := K139.wr W141 (Or.inl (List.mem_of_getElem? (i := 0) rfl))
  have N157 := Fr.snoc X141 N140 g_r1
  refine Go.of st141 ?_
  show Go p e below Qo T141 (mkF m 56 #[.val (.ref r1), .val (.long j1), .second, .val (.long j2), .second, .val (.long j3), .second, .val (.long j4), .second, .val (.long j5), .second, .val (.long j6), .second, .val (.long j7), .second, .val (.long j8), .second, .val (.long j9), .second, .val (.long j10), .second, .val (.long j11), .second, .val (.long j12), .second] [])
  refine Go.of (fun t k => XS.aloadN X141.here hx rfl (hb hby d1_56) rfl rfl k) ?_
  show Go p e below Qo T141 (mkF m 57 #[.val (.ref r1), .val (.long j1), .second, .val (.long j2), .second, .val (.long j3), .second, .val (.long j4), .second, .val (.long j5), .second, .val (.long j6), .second, .val (.long j7), .second, .val (.long j8), .second, .val (.long j9), .second, .val (.long j10), .second, .val (.long j11), .second, .val (.long j12), .second] [(.ref r1)])
  refine Go.of (fun t k => XS.lload X141.here hx rfl (hb hby d1_57) rfl  k) ?_
  show Go p e below Qo T141 (mkF m 59 #[.val (.ref r1), .val (.long j1), .second, .val (.long j2), .second, .val (.long j3), .second, .val (.long j4), .second, .val (.long j5), .second, .val (.long j6), .second, .val (.long j7), .second, .val (.long j8), .second, .val (.long j9), .second, .val (.long j10), .second, .val (.long j11), .second, .val (.long j12), .second] [(.long j10), (.ref r1)])
  obtain ⟨T158, h158, X158, e158, W158, st158⟩ := putF X141 hx hZ hown (host := "") (Or.inl (hw _ (List.mem_of_getElem? (i := 32) rfl))) Via.refl e141 q152 q142 (Or.inr ⟨(hw _ (List.mem_of_getElem? (i := 33) rfl)), rfl, hnm⟩) (hw _ (List.mem_of_getElem? (i := 1) rfl)) (ty := .long) (by decide) rfl rfl (g := (mkF m 59 #[.val (.ref r1), .val (.long j1), .second, .val (.long j2), .second, .val (.long j3), .second, .val (.long j4), .second, .val (.long j5), .second, .val (.long j6), .second, .val (.long j7), .second, .val (.long j8), .second, .val (.long j9), .second, .val (.long j10), .second, .val (.long j11), .second, .val (.long j12), .second] [(.long j10), (.ref r1)])) rfl rfl (hb hby d1_59)
  have q159 : Exa Z h158 r1 "com/example/examwright/examwright/CompetitionScore" := q142.wr W158
  have q160 : Fld Z h158 r1 "com/example/examwright/examwright/CompetitionScore" "conflicts" "J" (.long j1) := q143.other W158 (Or.inr (slot_ne (Or.inr (hw _ (List.mem_of_getElem? (i := 15) rfl))) (Or.inr (hw _ (List.mem_of_getElem? (i := 33) rfl))) (by decide) (t := .long) (t' := .long) (by decide) (by decide)))
  have q161 : Fld Z h158 r1 "com/example/examwright/examwright/CompetitionScore" "roomOccupancy" "J" (.long j2) := q144.other W158 (Or.inr (slot_ne (Or.inr (hw _ (List.mem_of_getElem? (i := 17) rfl))) (Or.inr (hw _ (List.mem_of_getElem? (i := 33) rfl))) (by decide) (t := .long) (t' := .long) (by decide) (by decide)))
  have q162 : Fld Z h158 r1 "com/example/examwright/examwright/CompetitionScore" "periodUtilisation" "J" (.long j3) := q145.other W158 (Or.inr (slot_ne (Or.inr (hw _ (List.mem_of_getElem? (i := 19) rfl))) (Or.inr (hw _ (List.mem_of_getElem? (i := 33) rfl))) (by decide) (t := .long) (t' := .long) (by decide) (by decide)))
  have q163 : Fld Z h158 r1 "com/example/examwright/examwright/CompetitionScore" "periodRelated" "J" (.long j4) := q146.other W158 (Or.inr (slot_ne (Or.inr (hw _ (List.mem_of_getElem? (i := 21) rfl))) (Or.inr (hw _ (List.mem_of_getElem? (i := 33) rfl))) (by decide) (t := .long) (t' := .long) (by decide) (by decide)))
  have q164 : Fld Z h158 r1 "com/example/examwright/examwright/CompetitionScore" "roomRelated" "J" (.long j5) := q147.other W158 (Or.inr (slot_ne (Or.inr (hw _ (List.mem_of_getElem? (i := 23) rfl))) (Or.inr (hw _ (List.mem_of_getElem? (i := 33) rfl))) (by decide) (t := .long) (t' := .long) (by decide) (by decide)))
  have q165 : Fld Z h158 r1 "com/example/examwright/examwright/CompetitionScore" "twoInARow" "J" (.long j6) := q148.other W158 (Or.inr (slot_ne (Or.inr (hw _ (List.mem_of_getElem? (i := 25) rfl))) (Or.inr (hw _ (List.mem_of_getElem? (i := 33) rfl))) (by decide) (t := .long) (t' := .long) (by decide) (by decide)))
  have q166 : Fld Z h158 r1 "com/example/examwright/examwright/CompetitionScore" "twoInADay" "J" (.long j7) := q149.other W158 (Or.inr (slot_ne (Or.inr (hw _ (List.mem_of_getElem? (i := 27) rfl))) (Or.inr (hw _ (List.mem_of_getElem? (i := 33) rfl))) (by decide) (t := .long) (t' := .long) (by decide) (by decide)))
  have q167 : Fld Z h158 r1 "com/example/examwright/examwright/CompetitionScore" "periodSpread" "J" (.long j8) := q150.other W158 (Or.inr (slot_ne (Or.inr (hw _ (List.mem_of_getElem? (i := 29) rfl))) (Or.inr (hw _ (List.mem_of_getElem? (i := 33) rfl))) (by decide) (t := .long) (t' := .long) (by decide) (by decide)))
  have q168 : Fld Z h158 r1 "com/example/examwright/examwright/CompetitionScore" "mixedDurations" "J" (.long j9) := q151.other W158 (Or.inr (slot_ne (Or.inr (hw _ (List.mem_of_getElem? (i := 31) rfl))) (Or.inr (hw _ (List.mem_of_getElem? (i := 33) rfl))) (by decide) (t := .long) (t' := .long) (by decide) (by decide)))
  have q169 : Fld Z h158 r1 "com/example/examwright/examwright/CompetitionScore" "frontLoad" "J" (.long j10) := q152.same W158
  have q170 : Fld Z h158 r1 "com/example/examwright/examwright/CompetitionScore" "periodPenalty" "J" u_10 := q153.other W158 (Or.inr (slot_ne (Or.inr (hw _ (List.mem_of_getElem? (i := 35) rfl))) (Or.inr (hw _ (List.mem_of_getElem? (i := 33) rfl))) (by decide) (t := .long) (t' := .long) (by decide) (by decide)))
  have q171 : Fld Z h158 r1 "com/example/examwright/examwright/CompetitionScore" "roomPenalty" "J" u_11 := q154.other W158 (Or.inr (slot_ne (Or.inr (hw _ (List.mem_of_getElem? (i := 37) rfl))) (Or.inr (hw _ (List.mem_of_getElem? (i := 33) rfl))) (by decide) (t := .long) (t' := .long) (by decide) (by decide)))
  have Z172 : n0 ≤ h158.size := Nat.le_trans Z155 (Keep.of_wr W158).1
  have K173 : Keep h0 h158 [r1] := K156.wr W158 (Or.inl (List.mem_of_getElem? (i := 0) rfl))
  have N174 := Fr.snoc X158 N157 g_r1
  refine Go.of st158 ?_
  show Go p e below Qo T158 (mkF m 62 #[.val (.ref r1), .val (.long j1), .second, .val (.long j2), .second, .val (.long j3), .second, .val (.long j4), .second, .val (.long j5), .second, .val (.long j6), .second, .val (.long j7), .second, .val (.long j8), .second, .val (.long j9), .second, .val (.long j10), .second, .val (.long j11), .second, .val (.long j12), .second] [])
  refine Go.of (fun t k => XS.aloadN X158.here hx rfl (hb hby d1_62) rfl rfl k) ?_
  show Go p e below Qo T158 (mkF m 63 #[.val (.ref r1), .val (.long j1), .second, .val (.long j2), .second, .val (.long j3), .second, .val (.long j4), .second, .val (.long j5), .second, .val (.long j6), .second, .val (.long j7), .second, .val (.long j8), .second, .val (.long j9), .second, .val (.long j10), .second, .val (.long j11), .second, .val (.long j12), .second] [(.ref r1)])
  refine Go.of (fun t k => XS.lload X158.here hx rfl (hb hby d1_63) rfl  k) ?_
  show Go p e below Qo T158 (mkF m 65 #[.val (.ref r1), .val (.long j1), .second, .val (.long j2), .second, .val (.long j3), .second, .val (.long j4), .second, .val (.long j5), .second, .val (.long j6), .second, .val (.long j7), .second, .val (.long j8), .second, .val (.long j9), .second, .val (.long j10), .second, .val (.long j11), .second, .val (.long j12), .second] [(.long j11), (.ref r1)])
  obtain ⟨T175, h175, X175, e175, W175, st175⟩ := putF X158 hx hZ hown (host := "") (Or.inl (hw _ (List.mem_of_getElem? (i := 34) rfl))) Via.refl e158 q170 q159 (Or.inr ⟨(hw _ (List.mem_of_getElem? (i := 35) rfl)), rfl, hnm⟩) (hw _ (List.mem_of_getElem? (i := 1) rfl)) (ty := .long) (by decide) rfl rfl (g := (mkF m 65 #[.val (.ref r1), .val (.long j1), .second, .val (.long j2), .second, .val (.long j3), .second, .val (.long j4), .second, .val (.long j5), .second, .val (.long j6), .second, .val (.long j7), .second, .val (.long j8), .second, .val (.long j9), .second, .val (.long j10), .second, .val (.long j11), .second, .val (.long j12), .second] [(.long j11), (.ref r1)])) rfl rfl (hb hby d1_65)
  have q176 : Exa Z h175 r1 "com/example/examwright/examwright/CompetitionScore" := q159.wr W175
  have q177 : Fld Z h175 r1 "com/example/examwright/examwright/CompetitionScore" "conflicts" "J" (.long j1) := q160.other W175 (Or.inr (slot_ne (Or.inr (hw _ (List.mem_of_getElem? (i := 15) rfl))) (Or.inr (hw _ (List.mem_of_getElem? (i := 35) rfl))) (by decide) (t := .long) (t' := .long) (by decide) (by decide)))
  have q178 : Fld Z h175 r1 "com/example/examwright/examwright/CompetitionScore" "roomOccupancy" "J" (.long j2) := q161.other W175 (Or.inr (slot_ne (Or.inr (hw _ (List.mem_of_getElem? (i := 17) rfl))) (Or.inr (hw _ (List.mem_of_getElem? (i := 35) rfl))) (by decide) (t := .long) (t' := .long) (by decide) (by decide)))
  have q179 : Fld Z h175 r1 "com/example/examwright/examwright/CompetitionScore" "periodUtilisation" "J" (.long j3) := q162.other W175 (Or.inr (slot_ne (Or.inr (hw _ (List.mem_of_getElem? (i := 19) rfl))) (Or.inr (hw _ (List.mem_of_getElem? (i := 35) rfl))) (by decide) (t := .long) (t' := .long) (by decide) (by decide)))
  have q180 : Fld Z h175 r1 "com/example/examwright/examwright/CompetitionScore" "periodRelated" "J" (.long j4) := q163.other W175 (Or.inr (slot_ne (Or.inr (hw _ (List.mem_of_getElem? (i := 21) rfl))) (Or.inr (hw _ (List.mem_of_getElem? (i := 35) rfl))) (by decide) (t := .long) (t' := .long) (by decide) (by decide)))
  have q181 : Fld Z h175 r1 "com/example/examwright/examwright/CompetitionScore" "roomRelated" "J" (.long j5) := q164.other W175 (Or.inr (slot_ne (Or.inr (hw _ (List.mem_of_getElem? (i := 23) rfl))) (Or.inr (hw _ (List.mem_of_getElem? (i := 35) rfl))) (by decide) (t := .long) (t' := .long) (by decide) (by decide)))
  have q182 : Fld Z h175 r1 "com/example/examwright/examwright/CompetitionScore" "twoInARow" "J" (.long j6) := q165.other W175 (Or.inr (slot_ne (Or.inr (hw _ (List.mem_of_getElem? (i := 25) rfl))) (Or.inr (hw _ (List.mem_of_getElem? (i := 35) rfl))) (by decide) (t := .long) (t' := .long) (by decide) (by decide)))
  have q183 : Fld Z h175 r1 "com/example/examwright/examwright/CompetitionScore" "twoInADay" "J" (.long j7) := q166.other W175 (Or.inr (slot_ne (Or.inr (hw _ (List.mem_of_getElem? (i := 27) rfl))) (Or.inr (hw _ (List.mem_of_getElem? (i := 35) rfl))) (by decide) (t := .long) (t' := .long) (by decide) (by decide)))
  have q184 : Fld Z h175 r1 "com/example/examwright/examwright/CompetitionScore" "periodSpread" "J" (.long j8) := q167.other W175 (Or.inr (slot_ne (Or.inr (hw _ (List.mem_of_getElem? (i := 29) rfl))) (Or.inr (hw _ (List.mem_of_getElem? (i := 35) rfl))) (by decide) (t := .long) (t' := .long) (by decide) (by decide)))
  have q185 : Fld Z h175 r1 "com/example/examwright/examwright/CompetitionScore" "mixedDurations" "J" (.long j9) := q168.other W175 (Or.inr (slot_ne (Or.inr (hw _ (List.mem_of_getElem? (i := 31) rfl))) (Or.inr (hw _ (List.mem_of_getElem? (i := 35) rfl))) (by decide) (t := .long) (t' := .long) (by decide) (by decide)))
  have q186 : Fld Z h175 r1 "com/example/examwright/examwright/CompetitionScore" "frontLoad" "J" (.long j10) := q169.other W175 (Or.inr (slot_ne (Or.inr (hw _ (List.mem_of_getElem? (i := 33) rfl))) (Or.inr (hw _ (List.mem_of_getElem? (i := 35) rfl))) (by decide) (t := .long) (t' := .long) (by decide) (by decide)))
  have q187 : Fld Z h175 r1 "com/example/examwright/examwright/CompetitionScore" "periodPenalty" "J" (.long j11) := q170.same W175
  have q188 : Fld Z h175 r1 "com/example/examwright/examwright/CompetitionScore" "roomPenalty" "J" u_11 := q171.other W175 (Or.inr (slot_ne (Or.inr (hw _ (List.mem_of_getElem? (i := 37) rfl))) (Or.inr (hw _ (List.mem_of_getElem? (i := 35) rfl))) (by decide) (t := .long) (t' := .long) (by decide) (by decide)))
  have Z189 : n0 ≤ h175.size := Nat.le_trans Z172 (Keep.of_wr W175).1
  have K190 : Keep h0 h175 [r1] := K173.wr W175 (Or.inl (List.mem_of_getElem? (i := 0) rfl))
  have N191 := Fr.snoc X175 N174 g_r1
  refine Go.of st175 ?_
  show Go p e below Qo T175 (mkF m 68 #[.val (.ref r1), .val (.long j1), .second, .val (.long j2), .second, .val (.long j3), .second, .val (.long j4), .second, .val (.long j5), .second, .val (.long j6), .second, .val (.long j7), .second, .val (.long j8), .second, .val (.long j9), .second, .val (.long j10), .second, .val (.long j11), .second, .val (.long j12), .second] [])
  refine Go.of (fun t k => XS.aloadN X175.here hx rfl (hb hby d1_68) rfl rfl k) ?_
  show Go p e below Qo T175 (mkF m 69 #[.val (.ref r1), .val (.long j1), .second, .val (.long j2), .second, .val (.long j3), .second, .val (.long j4), .second, .val (.long j5), .second, .val (.long j6), .second, .val (.long j7), .second, .val (.long j8), .second, .val (.long j9), .second, .val (.long j10), .second, .val (.long j11), .second, .val (.long j12), .second] [(.ref r1)])
  refine Go.of (fun t k => XS.lload X175.here hx rfl (hb hby d1_69) rfl  k) ?_
  show Go p e below Qo T175 (mkF m 71 #[.val (.ref r1), .val (.long j1), .second, .val (.long j2), .second, .val (.long j3), .second, .val (.long j4), .second, .val (.long j5), .second, .val (.long j6), .second, .val (.long j7), .second, .val (.long j8), .second, .val (.long j9), .second, .val (.long j10), .second, .val (.long j11), .second, .val (.long j12), .second] [(.long j12), (.ref r1)])
  obtain ⟨T192, h192, X192, e192, W192, st192⟩ := putF X175 hx hZ hown (host := "") (Or.inl (hw _ (List.mem_of_getElem? (i := 36) rfl))) Via.refl e175 q188 q176 (Or.inr ⟨(hw _ (List.mem_of_getElem? (i := 37) rfl)), rfl, hnm⟩) (hw _ (List.mem_of_getElem? (i := 1) rfl)) (ty := .long) (by decide) rfl rfl (g := (mkF m 71 #[.val (.ref r1), .val (.long j1), .second, .val (.long j2), .second, .val (.long j3), .second, .val (.long j4), .second, .val (.long j5), .second, .val (.long j6), .second, .val (.long j7), .second, .val (.long j8), .second, .val (.long j9), .second, .val (.long j10), .second, .val (.long j11), .second, .val (.long j12), .second] [(.long j12), (.ref r1)])) rfl rfl (hb hby d1_71)
  have q193 : Exa Z h192 r1 "com/example/examwright/examwright/CompetitionScore" := q176.wr W192
  have q194 : Fld Z h192 r1 "com/example/examwright/examwright/CompetitionScore" "conflicts" "J" (.long j1) := q177.other W192 (Or.inr (slot_ne (Or.inr (hw _ (List.mem_of_getElem? (i := 15) rfl))) (Or.inr (hw _ (List.mem_of_getElem? (i := 37) rfl))) (by decide) (t := .long) (t' := .long) (by decide) (by decide)))
  have q195 : Fld Z h192 r1 "com/example/examwright/examwright/CompetitionScore" "roomOccupancy" "J" (.long j2) := q178.other W192 (Or.inr (slot_ne (Or.inr (hw _ (List.mem_of_getElem? (i := 17) rfl))) (Or.inr (hw _ (List.mem_of_getElem? (i := 37) rfl))) (by decide) (t := .long) (t' := .long) (by decide) (by decide)))
  have q196 : Fld Z h192 r1 "com/example/examwright/examwright/CompetitionScore" "periodUtilisation" "J" (.long j3) := q179.other W192 (Or.inr (slot_ne (Or.inr (hw _ (List.mem_of_getElem? (i := 19) rfl))) (Or.inr (hw _ (List.mem_of_getElem? (i := 37) rfl))) (by decide) (t := .long) (t' := .long) (by decide) (by decide)))
  have q197 : Fld Z h192 r1 "com/example/examwright/examwright/CompetitionScore" "periodRelated" "J" (.long j4) := q180.other W192 (Or.inr (slot_ne (Or.inr (hw _ (List.mem_of_getElem? (i := 21) rfl))) (Or.inr (hw _ (List.mem_of_getElem? (i := 37) rfl))) (by decide) (t := .long) (t' := .long) (by decide) (by decide)))
  have q198 : Fld Z h192 r1 "com/example/examwright/examwright/CompetitionScore" "roomRelated" "J" (.long j5) := q181.other W192 (Or.inr (slot_ne (Or.inr (hw _ (List.mem_of_getElem? (i := 23) rfl))) (Or.inr (hw _ (List.mem_of_getElem? (i := 37) rfl))) (by decide) (t := .long) (t' := .long) (by decide) (by decide)))
  have q199 : Fld Z h192 r1 "com/example/examwright/examwright/CompetitionScore" "twoInARow" "J" (.long j6) := q182.other W192 (Or.inr (slot_ne (Or.inr (hw _ (List.mem_of_getElem? (i := 25) rfl))) (Or.inr (hw _ (List.mem_of_getElem? (i := 37) rfl))) (by decide) (t := .long) (t' := .long) (by decide) (by decide)))
  have q200 : Fld Z h192 r1 "com/example/examwright/examwright/CompetitionScore" "twoInADay" "J" (.long j7) := q183.other W192 (Or.inr (slot_ne (Or.inr (hw _ (List.mem_of_getElem? (i := 27) rfl))) (Or.inr (hw _ (List.mem_of_getElem? (i := 37) rfl))) (by decide) (t := .long) (t' := .long) (by decide) (by decide)))
  have q201 : Fld Z h192 r1 "com/example/examwright/examwright/CompetitionScore" "periodSpread" "J" (.long j8) := q184.other W192 (Or.inr (slot_ne (Or.inr (hw _ (List.mem_of_getElem? (i := 29) rfl))) (Or.inr (hw _ (List.mem_of_getElem? (i := 37) rfl))) (by decide) (t := .long) (t' := .long) (by decide) (by decide)))
  have q202 : Fld Z h192 r1 "com/example/examwright/examwright/CompetitionScore" "mixedDurations" "J" (.long j9) := q185.other W192 (Or.inr (slot_ne (Or.inr (hw _ (List.mem_of_getElem? (i := 31) rfl))) (Or.inr (hw _ (List.mem_of_getElem? (i := 37) rfl))) (by decide) (t := .long) (t' := .long) (by decide) (by decide)))
  have q203 : Fld Z h192 r1 "com/example/examwright/examwright/CompetitionScore" "frontLoad" "J" (.long j10) := q186.other W192 (Or.inr (slot_ne (Or.inr (hw _ (List.mem_of_getElem? (i := 33) rfl))) (Or.inr (hw _ (List.mem_of_getElem? (i := 37) rfl))) (by decide) (t := .long) (t' := .long) (by decide) (by decide)))
  have q204 : Fld Z h192 r1 "com/example/examwright/examwright/CompetitionScore" "periodPenalty" "J" (.long j11) := q187.other W192 (Or.inr (slot_ne (Or.inr (hw _ (List.mem_of_getElem? (i := 35) rfl))) (Or.inr (hw _ (List.mem_of_getElem? (i := 37) rfl))) (by decide) (t := .long) (t' := .long) (by decide) (by decide)))
  have q205 : Fld Z h192 r1 "com/example/examwright/examwright/CompetitionScore" "roomPenalty" "J" (.long j12) := q188.same W192
  have Z206 : n0 ≤ h192.size := Nat.le_trans Z189 (Keep.of_wr W192).1
  have K207 : Keep h0 h192 [r1] := K190.wr W192 (Or.inl (List.mem_of_getElem? (i := 0) rfl))
  have N208 := Fr.snoc X192 N191 g_r1
  refine Go.of st192 ?_
  show Go p e below Qo T192 (mkF m 74 #[.val (.ref r1), .val (.long j1), .second, .val (.long j2), .second, .val (.long j3), .second, .val (.long j4), .second, .val (.long j5), .second, .val (.long j6), .second, .val (.long j7), .second, .val (.long j8), .second, .val (.long j9), .second, .val (.long j10), .second, .val (.long j11), .second, .val (.long j12), .second] [])
  exact own_ret0 X192 hx Bd.notSynchronized Bd.returns (hb hby d1_74) (fun u hu hF => hQo _ _ _ ⟨rfl, N208, by rw [hu, e192]; exact K207, by rw [hu, e192]; exact q193, by rw [hu, e192]; exact q194, by rw [hu, e192]; exact q195, by rw [hu, e192]; exact q196, by rw [hu, e192]; exact q197, by rw [hu, e192]; exact q198, by rw [hu, e192]; exact q199, by rw [hu, e192]; exact q200, by rw [hu, e192]; exact q201, by rw [hu, e192]; exact q202, by rw [hu, e192]; exact q203, by rw [hu, e192]; exact q204, by rw [hu, e192]; exact q205⟩ (own_mono hF (by decide) (by decide)))
theorem d4_0 : decode prog_13_method_3_code 0 = .ok (.aload_n 0, 1) := by decide +kernel
theorem d4_1 : decode prog_13_method_3_code 1 = .ok (.getfield 7, 3) := by decide +kernel
theorem d4_4 : decode prog_13_method_3_code 4 = .ok (.lconst 0, 1) := by decide +kernel
theorem d4_5 : decode prog_13_method_3_code 5 = .ok (.lcmp, 1) := by decide +kernel
theorem d4_6 : decode prog_13_method_3_code 6 = .ok (.ifCond .ne 43, 3) := by decide +kernel
theorem d4_9 : decode prog_13_method_3_code 9 = .ok (.aload_n 0, 1) := by decide +kernel
theorem d4_10 : decode prog_13_method_3_code 10 = .ok (.getfield 13, 3) := by decide +kernel
theorem d4_13 : decode prog_13_method_3_code 13 = .ok (.lconst 0, 1) := by decide +kernel
theorem d4_14 : decode prog_13_method_3_code 14 = .ok (.lcmp, 1) := by decide +kernel
theorem d4_15 : decode prog_13_method_3_code 15 = .ok (.ifCond .ne 34, 3) := by decide +kernel
theorem d4_18 : decode prog_13_method_3_code 18 = .ok (.aload_n 0, 1) := by decide +kernel
theorem d4_19 : decode prog_13_method_3_code 19 = .ok (.getfield 16, 3) := by decide +kernel
theorem d4_22 : decode prog_13_method_3_code 22 = .ok (.lconst 0, 1) := by decide +kernel
theorem d4_23 : decode prog_13_method_3_code 23 = .ok (.lcmp, 1) := by decide +kernel
theorem d4_24 : decode prog_13_method_3_code 24 = .ok (.ifCond .ne 25, 3) := by decide +kernel
theorem d4_27 : decode prog_13_method_3_code 27 = .ok (.aload_n 0, 1) := by decide +kernel
theorem d4_28 : decode prog_13_method_3_code 28 = .ok (.getfield 19, 3) := by decide +kernel
theorem d4_31 : decode prog_13_method_3_code 31 = .ok (.lconst 0, 1) := by decide +kernel
theorem d4_32 : decode prog_13_method_3_code 32 = .ok (.lcmp, 1) := by decide +kernel
theorem d4_33 : decode prog_13_method_3_code 33 = .ok (.ifCond .ne 16, 3) := by decide +kernel
theorem d4_36 : decode prog_13_method_3_code 36 = .ok (.aload_n 0, 1) := by decide +kernel
theorem d4_37 : decode prog_13_method_3_code 37 = .ok (.getfield 22, 3) := by decide +kernel
theorem d4_40 : decode prog_13_method_3_code 40 = .ok (.lconst 0, 1) := by decide +kernel
theorem d4_41 : decode prog_13_method_3_code 41 = .ok (.lcmp, 1) := by decide +kernel
theorem d4_42 : decode prog_13_method_3_code 42 = .ok (.ifCond .ne 7, 3) := by decide +kernel
theorem d4_45 : decode prog_13_method_3_code 45 = .ok (.iconst 1, 1) := by decide +kernel
theorem d4_46 : decode prog_13_method_3_code 46 = .ok (.goto 4, 3) := by decide +kernel
theorem d4_49 : decode prog_13_method_3_code 49 = .ok (.iconst 0, 1) := by decide +kernel
theorem d4_50 : decode prog_13_method_3_code 50 = .ok (.ireturn, 1) := by decide +kernel
theorem ef_4 (m : MethodId) (r1 : Addr)  : entryFrame m #[(.ref r1)] 1 = mkF m 0 #[.val (.ref r1)] [] := by
  first | (simp [entryFrame, mkF, argsToLocals, Value.category]; done) | rfl
def F4 (w1 : Int64) (w2 : Int64) (w3 : Int64) (w4 : Int64) (w5 : Int64) : Int32 := (if w1 = (0 : Int64) then (if w2 = (0 : Int64) then (if w3 = (0 : Int64) then (if w4 = (0 : Int64) then (if w5 = (0 : Int64) then (nar .boolean (1 : Int32)) else (nar .boolean (0 : Int32))) else (nar .boolean (0 : Int32))) else (nar .boolean (0 : Int32))) else (nar .boolean (0 : Int32))) else (nar .boolean (0 : Int32)))
def Q4 (Z : State) (r1 : Addr) (w1 : Int64) (w2 : Int64) (w3 : Int64) (w4 : Int64) (w5 : Int64) (h0 : Heap) (n0 : Nat) (v : Option Value) (h : Heap) (L : List Loc) : Prop := v = some (.int (F4 w1 w2 w3 w4 w5)) ∧ Fr n0 L ∧ h = h0
set_option maxRecDepth 65536 in
set_option maxHeartbeats 40000000 in
theorem rm4 (l : Launch) (Z : State) (a0 : Array Value) (hw : ∀ d ∈ tables_1, d.before a0 Z = true) (ws : List Jvm.Cond) (r1 : Addr) (w1 : Int64) (w2 : Int64) (w3 : Int64) (w4 : Int64) (w5 : Int64) (h0 : Heap) (n0 : Nat) (Z0 : n0 ≤ h0.size) (f0 : Fld Z h0 r1 "com/example/examwright/examwright/CompetitionScore" "conflicts" "J" (.long w1)) (f1 : Fld Z h0 r1 "com/example/examwright/examwright/CompetitionScore" "roomOccupancy" "J" (.long w2)) (f2 : Fld Z h0 r1 "com/example/examwright/examwright/CompetitionScore" "periodUtilisation" "J" (.long w3)) (f3 : Fld Z h0 r1 "com/example/examwright/examwright/CompetitionScore" "periodRelated" "J" (.long w4)) (f4 : Fld Z h0 r1 "com/example/examwright/examwright/CompetitionScore" "roomRelated" "J" (.long w5)) :
    MetFree l (⟨"com/example/examwright/examwright/CompetitionScore", "isFeasible", "()Z"⟩ : MethodName) (head1 (Jvm.Cond.code (⟨"com/example/examwright/examwright/CompetitionScore", "isFeasible", "()Z"⟩ : MethodName) prog_13_method_3_code 1 (some .boolean) :: ws) ({ frames := 0, cells := 0, slots := 0, locals := 0 } : Room)) (fun a U => a = #[(.ref r1)] ∧ Z.Warmed39 U.vm ∧ U.heap = h0) (fun _ _ _ _ _ => True) (fun _ U o U' => ∃ v L, o = .returned v ∧ Q4 Z r1 w1 w2 w3 w4 w5 h0 n0 v U'.heap L ∧ FrameEnd U o U' L ({ frames := 0, cells := 0, slots := 0, locals := 0 } : Room).cells ({ frames := 0, cells := 0, slots := 0, locals := 0 } : Room).slots) := by
  refine MetFree.of_bodySF (plainFor_of_name pn_1) hisR ?_
  intro p e s m args below meth c s₁ Bd hml0 hP hK
  obtain ⟨rfl, hZ, hh⟩ := hP
  have hx := Bd.exec
  have hby := Bd.bytes
  have hml : c.maxLocals = 1 := hml0
  have hown : s.vm.findClass "com/example/examwright/examwright/CompetitionScore" = some m.cls := findClass_of_methodNamed Bd.named
  have hnm := (name_of_methodNamed Bd.named Bd.method).1
  have X0 : Stand p l e ({ frames := 0, cells := 0, slots := 0, locals := 0 } : Room) s m #[(.ref r1)] below meth c s₁ [] 0 0 := Stand.of_body Bd
  have e0 : s₁.heap = h0 := by rw [← hh, Bd.state]; rfl
  have N0 := Fr.nil n0
  suffices H : ∀ Qo : Outcome → State → Prop, (∀ (v : Option Value) (u : State) (L : List Loc), Q4 Z r1 w1 w2 w3 w4 w5 h0 n0 v u.heap L → FrameEnd s (.returned v) u L ({ frames := 0, cells := 0, slots := 0, locals := 0 } : Room).cells ({ frames := 0, cells := 0, slots := 0, locals := 0 } : Room).slots → Qo (.returned v) u) → Go p e below Qo s₁ (mkF m 0 #[.val (.ref r1)] []) from
    Go.cast (ef_4 m r1) (H _ fun v u L h1 h2 => ⟨v, L, rfl, h1, h2⟩)
  intro Qo hQo
  show Go p e below Qo s₁ (mkF m 0 #[.val (.ref r1)] [])
  refine Go.of (fun t k => XS.aloadN X0.here hx rfl (hb hby d4_0) rfl rfl k) ?_
  show Go p e below Qo s₁ (mkF m 1 #[.val (.ref r1)] [(.ref r1)])
  obtain ⟨T1, X1, e1, st1⟩ := getF X0 hx hZ hown (host := "") (Or.inl (hw _ (List.mem_of_getElem? (i := 14) rfl))) Via.refl e0 f0 (g := (mkF m 1 #[.val (.ref r1)] [(.ref r1)])) rfl rfl (hb hby d4_1)
  refine Go.of st1 ?_
  show Go p e below Qo T1 (mkF m 4 #[.val (.ref r1)] [(.long w1)])
  refine Go.of (fun t k => XS.lconst X1.here hx rfl (hb hby d4_4) k) ?_
  show Go p e below Qo T1 (mkF m 5 #[.val (.ref r1)] [(.long (0 : Int64)), (.long w1)])
  refine Go.of (fun t k => XS.lcmp X1.here hx rfl (hb hby d4_5) rfl k) ?_
  show Go p e below Qo T1 (mkF m 6 #[.val (.ref r1)] [(.int (lcmpW w1 (0 : Int64)))])
  by_cases hc6_2 : w1 = (0 : Int64)
  · refine Go.of (fun t k => XS.ifNo X1.here hx rfl (hb hby d4_6) rfl ((if0 _ _).trans (teq ((lw_eq w1 (0 : Int64)).mpr hc6_2)).2) k) ?_
    show Go p e below Qo T1 (mkF m 9 #[.val (.ref r1)] [])
    refine Go.of (fun t k => XS.aloadN X1.here hx rfl (hb hby d4_9) rfl rfl k) ?_
    show Go p e below Qo T1 (mkF m 10 #[.val (.ref r1)] [(.ref r1)])
    obtain ⟨T3, X3, e3, st3⟩ := getF X1 hx hZ hown (host := "") (Or.inl (hw _ (List.mem_of_getElem? (i := 16) rfl))) Via.refl e1 f1 (g := (mkF m 10 #[.val (.ref r1)] [(.ref r1)])) rfl rfl (hb hby d4_10)
    refine Go.of st3 ?_
    show Go p e below Qo T3 (mkF m 13 #[.val (.ref r1)] [(.long w2)])
    refine Go.of (fun t k => XS.lconst X3.here hx rfl (hb hby d4_13) k) ?_
    show Go p e below Qo T3 (mkF m 14 #[.val (.ref r1)] [(.long (0 : Int64)), (.long w2)])
    refine Go.of (fun t k => XS.lcmp X3.here hx rfl (hb hby d4_14) rfl k) ?_
    show Go p e below Qo T3 (mkF m 15 #[.val (.ref r1)] [(.int (lcmpW w2 (0 : Int64)))])
    by_cases hc15_4 : w2 = (0 : Int64)
    · refine Go.of (fun t k => XS.ifNo X3.here hx rfl (hb hby d4_15) rfl ((if0 _ _).trans (teq ((lw_eq w2 (0 : Int64)).mpr hc15_4)).2) k) ?_
      show Go p e below Qo T3 (mkF m 18 #[.val (.ref r1)] [])
      refine Go.of (fun t k => XS.aloadN X3.here hx rfl (hb hby d4_18) rfl rfl k) ?_
      show Go p e below Qo T3 (mkF m 19 #[.val (.ref r1)] [(.ref r1)])
      obtain ⟨T5, X5, e5, st5⟩ := getF X3 hx hZ hown (host := "") (Or.inl (hw _ (List.mem_of_getElem? (i := 18) rfl))) Via.refl e3 f2 (g := (mkF m 19 #[.val (.ref r1)] [(.ref r1)])) rfl rfl (hb hby d4_19)
      refine Go.of st5 ?_
      show Go p e below Qo T5 (mkF m 22 #[.val (.ref r1)] [(.long w3)])
      refine Go.of (fun t k => XS.lconst X5.here hx rfl (hb hby d4_22) k) ?_
      show Go p e below Qo T5 (mkF m 23 #[.val (.ref r1)] [(.long (0 : Int64)), (.long w3)])
      refine Go.of (fun t k => XS.lcmp X5.here hx rfl (hb hby d4_23) rfl k) ?_
      show Go p e below Qo T5 (mkF m 24 #[.val (.ref r1)] [(.int (lcmpW w3 (0 : Int64)))])
      by_cases hc24_6 : w3 = (0 : Int64)
      · refine Go.of (fun t k => XS.ifNo X5.here hx rfl (hb hby d4_24) rfl ((if0 _ _).trans (teq ((lw_eq w3 (0 : Int64)).mpr hc24_6)).2) k) ?_
        show Go p e below Qo T5 (mkF m 27 #[.val (.ref r1)] [])
        refine Go.of (fun t k => XS.aloadN X5.here hx rfl (hb hby d4_27) rfl rfl k) ?_
        show Go p e below Qo T5 (mkF m 28 #[.val (.ref r1)] [(.ref r1)])
        obtain ⟨T7, X7, e7, st7⟩ := getF X5 hx hZ hown (host := "") (Or.inl (hw _ (List.mem_of_getElem? (i := 20) rfl))) Via.refl e5 f3 (g := (mkF m 28 #[.val (.ref r1)] [(.ref r1)])) rfl rfl (hb hby d4_28)
        refine Go.of st7 ?_
        show Go p e below Qo T7 (mkF m 31 #[.val (.ref r1)] [(.long w4)])
        refine Go.of (fun t k => XS.lconst X7.here hx rfl (hb hby d4_31) k) ?_
        show Go p e below Qo T7 (mkF m 32 #[.val (.ref r1)] [(.long (0 : Int64)), (.long w4)])
        refine Go.of (fun t k => XS.lcmp X7.here hx rfl (hb hby d4_32) rfl k) ?_
        show Go p e below Qo T7 (mkF m 33 #[.val (.ref r1)] [(.int (lcmpW w4 (0 : Int64)))])
        by_cases hc33_8 : w4 = (0 : Int64)
        · refine Go.of (fun t k => XS.ifNo X7.here hx rfl (hb hby d4_33) rfl ((if0 _ _).trans (teq ((lw_eq w4 (0 : Int64)).mpr hc33_8)).2) k) ?_
          show Go p e below Qo T7 (mkF m 36 #[.val (.ref r1)] [])
          refine Go.of (fun t k => XS.aloadN X7.here hx rfl (hb hby d4_36) rfl rfl k) ?_
          show Go p e below Qo T7 (mkF m 37 #[.val (.ref r1)] [(.ref r1)])
          obtain ⟨T9, X9, e9, st9⟩ := getF X7 hx hZ hown (host := "") (Or.inl (hw _ (List.mem_of_getElem? (i := 22) rfl))) Via.refl e7 f4 (g := (mkF m 37 #[.val (.ref r1)] [(.ref r1)])) rfl rfl (hb hby d4_37)
          refine Go.of st9 ?_
          show Go p e below Qo T9 (mkF m 40 #[.val (.ref r1)] [(.long w5)])
          refine Go.of (fun t k => XS.lconst X9.here hx rfl (hb hby d4_40) k) ?_
          show Go p e below Qo T9 (mkF m 41 #[.val (.ref r1)] [(.long (0 : Int64)), (.long w5)])
          refine Go.of (fun t k => XS.lcmp X9.here hx rfl (hb hby d4_41) rfl k) ?_
          show Go p e below Qo T9 (mkF m 42 #[.val (.ref r1)] [(.int (lcmpW w5 (0 : Int64)))])
          by_cases hc42_10 : w5 = (0 : Int64)
          · refine Go.of (fun t k => XS.ifNo X9.here hx rfl (hb hby d4_42) rfl ((if0 _ _).trans (teq ((lw_eq w5 (0 : Int64)).mpr hc42_10)).2) k) ?_
            show Go p e below Qo T9 (mkF m 45 #[.val (.ref r1)] [])
            refine Go.of (fun t k => XS.iconst X9.here hx rfl (hb hby d4_45) k) ?_
            show Go p e below Qo T9 (mkF m 46 #[.val (.ref r1)] [(.int (1 : Int32))])
            refine Go.of (fun t k => XS.goto X9.here hx rfl (pc0 := 46) (pc' := 50) rfl (hb hby d4_46) (by decide) (by decide) k) ?_
            show Go p e below Qo T9 (mkF m 50 #[.val (.ref r1)] [(.int (1 : Int32))])
            exact own_retN X9 hx Bd.notSynchronized (t := .boolean) Bd.returns (by simp) (hb hby d4_50) (fun u hu hF => hQo _ _ _ ⟨by rw [show (F4 w1 w2 w3 w4 w5) = nar .boolean (1 : Int32) from by rw [F4, if_pos hc6_2, if_pos hc15_4, if_pos hc24_6, if_pos hc33_8, if_pos hc42_10]], N0, by rw [hu, e9]⟩ (own_mono hF (by decide) (by decide)))
          · refine Go.of (fun t k => XS.ifYes X9.here hx rfl (pc0 := 42) (pc' := 49) rfl (hb hby d4_42) rfl ((if0 _ _).trans (feq (fun z => hc42_10 ((lw_eq w5 (0 : Int64)).mp z))).2) (by decide) (by decide) k) ?_
            show Go p e below Qo T9 (mkF m 49 #[.val (.ref r1)] [])
            refine Go.of (fun t k => XS.iconst X9.here hx rfl (hb hby d4_49) k) ?_
            show Go p e below Qo T9 (mkF m 50 #[.val (.ref r1)] [(.int (0 : Int32))])
            exact own_retN X9 hx Bd.notSynchronized (t := .boolean) Bd.returns (by simp) (hb hby d4_50) (fun u hu hF => hQo _ _ _ ⟨by rw [show (F4 w1 w2 w3 w4 w5) = nar .boolean (0 : Int32) from by rw [F4, if_pos hc6_2, if_pos hc15_4, if_pos hc24_6, if_pos hc33_8, if_neg hc42_10]], N0, by rw [hu, e9]⟩ (own_mono hF (by decide) (by decide)))
        · refine Go.of (fun t k => XS.ifYes X7.here hx rfl (pc0 := 33) (pc' := 49) rfl (hb hby d4_33) rfl ((if0 _ _).trans (feq (fun z => hc33_8 ((lw_eq w4 (0 : Int64)).mp z))).2) (by decide) (by decide) k) ?_
          show Go p e below Qo T7 (mkF m 49 #[.val (.ref r1)] [])
          refine Go.of (fun t k => XS.iconst X7.here hx rfl (hb hby d4_49) k) ?_
          show Go p e below Qo T7 (mkF m 50 #[.val (.ref r1)] [(.int (0 : Int32))])
          exact own_retN X7 hx Bd.notSynchronized (t := .boolean) Bd.returns (by simp) (hb hby d4_50) (fun u hu hF => hQo _ _ _ ⟨by rw [show (F4 w1 w2 w3 w4 w5) = nar .boolean (0 : Int32) from by rw [F4, if_pos hc6_2, if_pos hc15_4, if_pos hc24_6, if_neg hc33_8]], N0, by rw [hu, e7]⟩ (own_mono hF (by decide) (by decide)))
      · refine Go.of (fun t k => XS.ifYes X5.here hx rfl (pc0 := 24) (pc' := 49) rfl (hb hby d4_24) rfl ((if0 _ _).trans (feq (fun z => hc24_6 ((lw_eq w3 (0 : Int64)).mp z))).2) (by decide) (by decide) k) ?_
        show Go p e below Qo T5 (mkF m 49 #[.val (.ref r1)] [])
        refine Go.of (fun t k => XS.iconst X5.here hx rfl (hb hby d4_49) k) ?_
        show Go p e below Qo T5 (mkF m 50 #[.val (.ref r1)] [(.int (0 : Int32))])
        exact own_retN X5 hx Bd.notSynchronized (t := .boolean) Bd.returns (by simp) (hb hby d4_50) (fun u hu hF => hQo _ _ _ ⟨by rw [show (F4 w1 w2 w3 w4 w5) = nar .boolean (0 : Int32) from by rw [F4, if_pos hc6_2, if_pos hc15_4, if_neg hc24_6]], N0, by rw [hu, e5]⟩ (own_mono hF (by decide) (by decide)))
    · refine Go.of (fun t k => XS.ifYes X3.here hx rfl (pc0 := 15) (pc' := 49) rfl (hb hby d4_15) rfl ((if0 _ _).trans (feq (fun z => hc15_4 ((lw_eq w2 (0 : Int64)).mp z))).2) (by decide) (by decide) k) ?_
      show Go p e below Qo T3 (mkF m 49 #[.val (.ref r1)] [])
      refine Go.of (fun t k => XS.iconst X3.here hx rfl (hb hby d4_49) k) ?_
      show Go p e below Qo T3 (mkF m 50 #[.val (.ref r1)] [(.int (0 : Int32))])
      exact own_retN X3 hx Bd.notSynchronized (t := .boolean) Bd.returns (by simp) (hb hby d4_50) (fun u hu hF => hQo _ _ _ ⟨by rw [show (F4 w1 w2 w3 w4 w5) = nar .boolean (0 : Int32) from by rw [F4, if_pos hc6_2, if_neg hc15_4]], N0, by rw [hu, e3]⟩ (own_mono hF (by decide) (by decide)))
  · refine Go.of (fun t k => XS.ifYes X1.here hx rfl (pc0 := 6) (pc' := 49) rfl (hb hby d4_6) rfl ((if0 _ _).trans (feq (fun z => hc6_2 ((lw_eq w1 (0 : Int64)).mp z))).2) (by decide) (by decide) k) ?_
    show Go p e below Qo T1 (mkF m 49 #[.val (.ref r1)] [])
    refine Go.of (fun t k => XS.iconst X1.here hx rfl (hb hby d4_49) k) ?_
    show Go p e below Qo T1 (mkF m 50 #[.val (.ref r1)] [(.int (0 : Int32))])
    exact own_retN X1 hx Bd.notSynchronized (t := .boolean) Bd.returns (by simp) (hb hby d4_50) (fun u hu hF => hQo _ _ _ ⟨by rw [show (F4 w1 w2 w3 w4 w5) = nar .boolean (0 : Int32) from by rw [F4, if_neg hc6_2]], N0, by rw [hu, e1]⟩ (own_mono hF (by decide) (by decide)))
theorem own_or (a b : Int64) : a ||| b = 0 ↔ a = 0 ∧ b = 0 := by
  rw [← Int64.toBitVec_inj, ← Int64.toBitVec_inj, ← Int64.toBitVec_inj]
  exact BitVec.or_eq_zero_iff
theorem own_law (a b d e f : Int64) : F4 a b d e f = if ((((a ||| b) ||| d) ||| e) ||| f) = 0 then 1 else 0 := by
  unfold F4
  simp only [own_or]
  (repeat' split) <;> first | rfl | (exfalso; simp_all; done)
theorem pd_1 : parseMethodDescriptor "(JJJJJJJJJJJJ)V" = some ⟨[.long, .long, .long, .long, .long, .long, .long, .long, .long, .long, .long, .long], none⟩ := by decide +kernel
theorem pd_2 : parseMethodDescriptor "()Z" = some ⟨[], some .boolean⟩ := by decide +kernel
theorem pn_2 : plainName "com/example/examwright/examwright/CompetitionScoreIsFeasiblePinLaw" = true := by first | (simp [plainName, overriddenIn]; done) | decide +kernel
theorem ef_0 (m : MethodId) (i1 : Int32) (j1 : Int64) (j2 : Int64) (j3 : Int64) (j4 : Int64) (j5 : Int64)  : entryFrame m #[(.int i1), (.long j1), (.long j2), (.long j3), (.long j4), (.long j5)] maxLocals = mkF m 0 #[.val (.int i1), .val (.long j1), .second, .val (.long j2), .second, .val (.long j3), .second, .val (.long j4), .second, .val (.long j5), .second, .unset, .unset, .unset, .unset, .unset, .unset, .unset, .unset, .unset, .unset, .unset, .unset, .unset, .unset, .unset, .unset] [] := by
  first | (simp [entryFrame, mkF, argsToLocals, Value.category, maxLocals]; done) | rfl
def Q0 (Z : State) (i1 : Int32) (j1 : Int64) (j2 : Int64) (j3 : Int64) (j4 : Int64) (j5 : Int64) (h0 : Heap) (n0 : Nat) (v : Option Value) (h : Heap) (L : List Loc) : Prop := v = some (.int 1) ∧ Fr n0 L
set_option maxRecDepth 65536 in
set_option maxHeartbeats 40000000 in
theorem rm0 (l : Launch) (Z : State) (a0 : Array Value) (hw : ∀ d ∈ tables_1, d.before a0 Z = true) (ws : List Jvm.Cond) (i1 : Int32) (j1 : Int64) (j2 : Int64) (j3 : Int64) (j4 : Int64) (j5 : Int64) (h0 : Heap) (n0 : Nat) (Z0 : n0 ≤ h0.size)  :
    MetFree l x (head1 (Jvm.Cond.code x code maxLocals ret :: ws) room_1) (fun a U => a = #[(.int i1), (.long j1), (.long j2), (.long j3), (.long j4), (.long j5)] ∧ Z.Warmed39 U.vm ∧ U.heap = h0) (fun _ _ _ _ _ => True) (fun _ U o U' => ∃ v L, o = .returned v ∧ Q0 Z i1 j1 j2 j3 j4 j5 h0 n0 v U'.heap L ∧ FrameEnd U o U' L 1 12) := by
  refine MetFree.of_bodySF (plainFor_of_name pn_2) hisR ?_
  intro p e s m args below meth c s₁ Bd hml0 hP hK
  obtain ⟨rfl, hZ, hh⟩ := hP
  have hx := Bd.exec
  have hby := Bd.bytes
  have hml : c.maxLocals = 27 := hml0
  have hown : s.vm.findClass "com/example/examwright/examwright/CompetitionScoreIsFeasiblePinLaw" = some m.cls := findClass_of_methodNamed Bd.named
  have hnm := (name_of_methodNamed Bd.named Bd.method).1
  have X0 : Stand p l e room_1 s m #[(.int i1), (.long j1), (.long j2), (.long j3), (.long j4), (.long j5)] below meth c s₁ [] 0 0 := Stand.of_body Bd
  have e0 : s₁.heap = h0 := by rw [← hh, Bd.state]; rfl
  have N0 := Fr.nil n0
  suffices H : ∀ Qo : Outcome → State → Prop, (∀ (v : Option Value) (u : State) (L : List Loc), Q0 Z i1 j1 j2 j3 j4 j5 h0 n0 v u.heap L → FrameEnd s (.returned v) u L 1 12 → Qo (.returned v) u) → Go p e below Qo s₁ (mkF m 0 #[.val (.int i1), .val (.long j1), .second, .val (.long j2), .second, .val (.long j3), .second, .val (.long j4), .second, .val (.long j5), .second, .unset, .unset, .unset, .unset, .unset, .unset, .unset, .unset, .unset, .unset, .unset, .unset, .unset, .unset, .unset, .unset] []) from
    Go.cast (ef_0 m i1 j1 j2 j3 j4 j5) (H _ fun v u L h1 h2 => ⟨v, L, rfl, h1, h2⟩)
  intro Qo hQo
  show Go p e below Qo s₁ (mkF m 0 #[.val (.int i1), .val (.long j1), .second, .val (.long j2), .second, .val (.long j3), .second, .val (.long j4), .second, .val (.long j5), .second, .unset, .unset, .unset, .unset, .unset, .unset, .unset, .unset, .unset, .unset, .unset, .unset, .unset, .unset, .unset, .unset] [])
  refine Go.of (fun t k => XS.iloadN X0.here hx rfl (hb hby at_0) rfl  k) ?_
  show Go p e below Qo s₁ (mkF m 1 #[.val (.int i1), .val (.long j1), .second, .val (.long j2), .second, .val (.long j3), .second, .val (.long j4), .second, .val (.long j5), .second, .unset, .unset, .unset, .unset, .unset, .unset, .unset, .unset, .unset, .unset, .unset, .unset, .unset, .unset, .unset, .unset] [(.int i1)])
  refine Go.of (fun t k => XS.iconst X0.here hx rfl (hb hby at_1) k) ?_
  show Go p e below Qo s₁ (mkF m 2 #[.val (.int i1), .val (.long j1), .second, .val (.long j2), .second, .val (.long j3), .second, .val (.long j4), .second, .val (.long j5), .second, .unset, .unset, .unset, .unset, .unset, .unset, .unset, .unset, .unset, .unset, .unset, .unset, .unset, .unset, .unset, .unset] [(.int (1 : Int32)), (.int i1)])
  refine Go.of (fun t k => XS.iand X0.here hx rfl (hb hby at_2) rfl k) ?_
  show Go p e below Qo s₁ (mkF m 3 #[.val (.int i1), .val (.long j1), .second, .val (.long j2), .second, .val (.long j3), .second, .val (.long j4), .second, .val (.long j5), .second, .unset, .unset, .unset, .unset, .unset, .unset, .unset, .unset, .unset, .unset, .unset, .unset, .unset, .unset, .unset, .unset] [(.int (i1 &&& (1 : Int32)))])
  have J3_3 : ∀ (v3_2 : Int64), v3_2 = (if (i1 &&& (1 : Int32)) = (0 : Int32) then (0 : Int64) else j1) → Go p e below Qo s₁ (mkF m 11 #[.val (.int i1), .val (.long j1), .second, .val (.long j2), .second, .val (.long j3), .second, .val (.long j4), .second, .val (.long j5), .second, .unset, .unset, .unset, .unset, .unset, .unset, .unset, .unset, .unset, .unset, .unset, .unset, .unset, .unset, .unset, .unset] [(.long v3_2)]) := by
    intro v3_2 hv3_2
    show Go p e below Qo s₁ (mkF m 11 #[.val (.int i1), .val (.long j1), .second, .val (.long j2), .second, .val (.long j3), .second, .val (.long j4), .second, .val (.long j5), .second, .unset, .unset, .unset, .unset, .unset, .unset, .unset, .unset, .unset, .unset, .unset, .unset, .unset, .unset, .unset, .unset] [(.long v3_2)])
    refine Go.of (fun t k => XS.lstore X0.here hx rfl (hb hby at_11) rfl (l' := #[.val (.int i1), .val (.long j1), .second, .val (.long j2), .second, .val (.long j3), .second, .val (.long j4), .second, .val (.long j5), .second, .val (.long v3_2), .second, .unset, .unset, .unset, .unset, .unset, .unset, .unset, .unset, .unset, .unset, .unset, .unset, .unset, .unset]) rfl k) ?_
    show Go p e below Qo s₁ (mkF m 13 #[.val (.int i1), .val (.long j1), .second, .val (.long j2), .second, .val (.long j3), .second, .val (.long j4), .second, .val (.long j5), .second, .val (.long v3_2), .second, .unset, .unset, .unset, .unset, .unset, .unset, .unset, .unset, .unset, .unset, .unset, .unset, .unset, .unset] [])
    refine Go.of (fun t k => XS.iloadN X0.here hx rfl (hb hby at_13) rfl  k) ?_
    show Go p e below Qo s₁ (mkF m 14 #[.val (.int i1), .val (.long j1), .second, .val (.long j2), .second, .val (.long j3), .second, .val (.long j4), .second, .val (.long j5), .second, .val (.long v3_2), .second, .unset, .unset, .unset, .unset, .unset, .unset, .unset, .unset, .unset, .unset, .unset, .unset, .unset, .unset] [(.int i1)])
    refine Go.of (fun t k => XS.iconst X0.here hx rfl (hb hby at_14) k) ?_
    show Go p e below Qo s₁ (mkF m 15 #[.val (.int i1), .val (.long j1), .second, .val (.long j2), .second, .val (.long j3), .second, .val (.long j4), .second, .val (.long j5), .second, .val (.long v3_2), .second, .unset, .unset, .unset, .unset, .unset, .unset, .unset, .unset, .unset, .unset, .unset, .unset, .unset, .unset] [(.int (2 : Int32)), (.int i1)])
    refine Go.of (fun t k => XS.iand X0.here hx rfl (hb hby at_15) rfl k) ?_
    show Go p e below Qo s₁ (mkF m 16 #[.val (.int i1), .val (.long j1), .second, .val (.long j2), .second, .val (.long j3), .second, .val (.long j4), .second, .val (.long j5), .second, .val (.long v3_2), .second, .unset, .unset, .unset, .unset, .unset, .unset, .unset, .unset, .unset, .unset, .unset, .unset, .unset, .unset] [(.int (i1 &&& (2 : Int32)))])
    have J16_6 : ∀ (v16_5 : Int64), v16_5 = (if (i1 &&& (2 : Int32)) = (0 : Int32) then (0 : Int64) else j2) → Go p e below Qo s₁ (mkF m 24 #[.val (.int i1), .val (.long j1), .second, .val (.long j2), .second, .val (.long j3), .second, .val (.long j4), .second, .val (.long j5), .second, .val (.long v3_2), .second, .unset, .unset, .unset, .unset, .unset, .unset, .unset, .unset, .unset, .unset, .unset, .unset, .unset, .unset] [(.long v16_5)]) := by
      intro v16_5 hv16_5
      show Go p e below Qo s₁ (mkF m 24 #[.val (.int i1), .val (.long j1), .second, .val (.long j2), .second, .val (.long j3), .second, .val (.long j4), .second, .val (.long j5), .second, .val (.long v3_2), .second, .unset, .unset, .unset, .unset, .unset, .unset, .unset, .unset, .unset, .unset, .unset, .unset, .unset, .unset] [(.long v16_5)])
      refine Go.of (fun t k => XS.lstore X0.here hx rfl (hb hby at_24) rfl (l' := #[.val (.int i1), .val (.long j1), .second, .val (.long j2), .second, .val (.long j3), .second, .val (.long j4), .second, .val (.long j5), .second, .val (.long v3_2), .second, .val (.long v16_5), .second, .unset, .unset, .unset, .unset, .unset, .unset, .unset, .unset, .unset, .unset, .unset, .unset]) rfl k) ?_
      show Go p e below Qo s₁ (mkF m 26 #[.val (.int i1), .val (.long j1), .second, .val (.long j2), .second, .val (.long j3), .second, .val (.long j4), .second, .val (.long j5), .second, .val (.long v3_2), .second, .val (.long v16_5), .second, .unset, .unset, .unset, .unset, .unset, .unset, .unset, .unset, .unset, .unset, .unset, .unset] [])
      refine Go.of (fun t k => XS.iloadN X0.here hx rfl (hb hby at_26) rfl  k) ?_
      show Go p e below Qo s₁ (mkF m 27 #[.val (.int i1), .val (.long j1), .second, .val (.long j2), .second, .val (.long j3), .second, .val (.long j4), .second, .val (.long j5), .second, .val (.long v3_2), .second, .val (.long v16_5), .second, .unset, .unset, .unset, .unset, .unset, .unset, .unset, .unset, .unset, .unset, .unset, .unset] [(.int i1)])
      refine Go.of (fun t k => XS.iconst X0.here hx rfl (hb hby at_27) k) ?_
      show Go p e below Qo s₁ (mkF m 28 #[.val (.int i1), .val (.long j1), .second, .val (.long j2), .second, .val (.long j3), .second, .val (.long j4), .second, .val (.long j5), .second, .val (.long v3_2), .second, .val (.long v16_5), .second, .unset, .unset, .unset, .unset, .unset, .unset, .unset, .unset, .unset, .unset, .unset, .unset] [(.int (4 : Int32)), (.int i1)])
      refine Go.of (fun t k => XS.iand X0.here hx rfl (hb hby at_28) rfl k) ?_
      show Go p e below Qo s₁ (mkF m 29 #[.val (.int i1), .val (.long j1), .second, .val (.long j2), .second, .val (.long j3), .second, .val (.long j4), .second, .val (.long j5), .second, .val (.long v3_2), .second, .val (.long v16_5), .second, .unset, .unset, .unset, .unset, .unset, .unset, .unset, .unset, .unset, .unset, .unset, .unset] [(.int (i1 &&& (4 : Int32)))])
      have J29_9 : ∀ (v29_8 : Int64), v29_8 = (if (i1 &&& (4 : Int32)) = (0 : Int32) then (0 : Int64) else j3) → Go p e below Qo s₁ (mkF m 38 #[.val (.int i1), .val (.long j1), .second, .val (.long j2), .second, .val (.long j3), .second, .val (.long j4), .second, .val (.long j5), .second, .val (.long v3_2), .second, .val (.long v16_5), .second, .unset, .unset, .unset, .unset, .unset, .unset, .unset, .unset, .unset, .unset, .unset, .unset] [(.long v29_8)]) := by
        intro v29_8 hv29_8
        show Go p e below Qo s₁ (mkF m 38 #[.val (.int i1), .val (.long j1), .second, .val (.long j2), .second, .val (.long j3), .second, .val (.long j4), .second, .val (.long j5), .second, .val (.long v3_2), .second, .val (.long v16_5), .second, .unset, .unset, .unset, .unset, .unset, .unset, .unset, .unset, .unset, .unset, .unset, .unset] [(.long v29_8)])
        refine Go.of (fun t k => XS.lstore X0.here hx rfl (hb hby at_38) rfl (l' := #[.val (.int i1), .val (.long j1), .second, .val (.long j2), .second, .val (.long j3), .second, .val (.long j4), .second, .val (.long j5), .second, .val (.long v3_2), .second, .val (.long v16_5), .second, .val (.long v29_8), .second, .unset, .unset, .unset, .unset, .unset, .unset, .unset, .unset, .unset, .unset]) rfl k) ?_
        show Go p e below Qo s₁ (mkF m 40 #[.val (.int i1), .val (.long j1), .second, .val (.long j2), .second, .val (.long j3), .second, .val (.long j4), .second, .val (.long j5), .second, .val (.long v3_2), .second, .val (.long v16_5), .second, .val (.long v29_8), .second, .unset, .unset, .unset, .unset, .unset, .unset, .unset, .unset, .unset, .unset] [])
        refine Go.of (fun t k => XS.iloadN X0.here hx rfl (hb hby at_40) rfl  k) ?_
        show Go p e below Qo s₁ (mkF m 41 #[.val (.int i1), .val (.long j1), .second, .val (.long j2), .second, .val (.long j3), .second, .val (.long j4), .second, .val (.long j5), .second, .val (.long v3_2), .second, .val (.long v16_5), .second, .val (.long v29_8), .second, .unset, .unset, .unset, .unset, .unset, .unset, .unset, .unset, .unset, .unset] [(.int i1)])
        refine Go.of (fun t k => XS.bipush X0.here hx rfl (hb hby at_41) k) ?_
        show Go p e below Qo s₁ (mkF m 43 #[.val (.int i1), .val (.long j1), .second, .val (.long j2), .second, .val (.long j3), .second, .val (.long j4), .second, .val (.long j5), .second, .val (.long v3_2), .second, .val (.long v16_5), .second, .val (.long v29_8), .second, .unset, .unset, .unset, .unset, .unset, .unset, .unset, .unset, .unset, .unset] [(.int (8 : Int32)), (.int i1)])
        refine Go.of (fun t k => XS.iand X0.here hx rfl (hb hby at_43) rfl k) ?_
        show Go p e below Qo s₁ (mkF m 44 #[.val (.int i1), .val (.long j1), .second, .val (.long j2), .second, .val (.long j3), .second, .val (.long j4), .second, .val (.long j5), .second, .val (.long v3_2), .second, .val (.long v16_5), .second, .val (.long v29_8), .second, .unset, .unset, .unset, .unset, .unset, .unset, .unset, .unset, .unset, .unset] [(.int (i1 &&& (8 : Int32)))])
        have J44_12 : ∀ (v44_11 : Int64), v44_11 = (if (i1 &&& (8 : Int32)) = (0 : Int32) then (0 : Int64) else j1) → Go p e below Qo s₁ (mkF m 52 #[.val (.int i1), .val (.long j1), .second, .val (.long j2), .second, .val (.long j3), .second, .val (.long j4), .second, .val (.long j5), .second, .val (.long v3_2), .second, .val (.long v16_5), .second, .val (.long v29_8), .second, .unset, .unset, .unset, .unset, .unset, .unset, .unset, .unset, .unset, .unset] [(.long v44_11)]) := by
          intro v44_11 hv44_11
          show Go p e below Qo s₁ (mkF m 52 #[.val (.int i1), .val (.long j1), .second, .val (.long j2), .second, .val (.long j3), .second, .val (.long j4), .second, .val (.long j5), .second, .val (.long v3_2), .second, .val (.long v16_5), .second, .val (.long v29_8), .second, .unset, .unset, .unset, .unset, .unset, .unset, .unset, .unset, .unset, .unset] [(.long v44_11)])
          refine Go.of (fun t k => XS.lstore X0.here hx rfl (hb hby at_52) rfl (l' := #[.val (.int i1), .val (.long j1), .second, .val (.long j2), .second, .val (.long j3), .second, .val (.long j4), .second, .val (.long j5), .second, .val (.long v3_2), .second, .val (.long v16_5), .second, .val (.long v29_8), .second, .val (.long v44_11), .second, .unset, .unset, .unset, .unset, .unset, .unset, .unset, .unset]) rfl k) ?_
          show Go p e below Qo s₁ (mkF m 54 #[.val (.int i1), .val (.long j1), .second, .val (.long j2), .second, .val (.long j3), .second, .val (.long j4), .second, .val (.long j5), .second, .val (.long v3_2), .second, .val (.long v16_5), .second, .val (.long v29_8), .second, .val (.long v44_11), .second, .unset, .unset, .unset, .unset, .unset, .unset, .unset, .unset] [])
          refine Go.of (fun t k => XS.iloadN X0.here hx rfl (hb hby at_54) rfl  k) ?_
          show Go p e below Qo s₁ (mkF m 55 #[.val (.int i1), .val (.long j1), .second, .val (.long j2), .second, .val (.long j3), .second, .val (.long j4), .second, .val (.long j5), .second, .val (.long v3_2), .second, .val (.long v16_5), .second, .val (.long v29_8), .second, .val (.long v44_11), .second, .unset, .unset, .unset, .unset, .unset, .unset, .unset, .unset] [(.int i1)])
          refine Go.of (fun t k => XS.bipush X0.here hx rfl (hb hby at_55) k) ?_
          show Go p e below Qo s₁ (mkF m 57 #[.val (.int i1), .val (.long j1), .second, .val (.long j2), .second, .val (.long j3), .second, .val (.long j4), .second, .val (.long j5), .second, .val (.long v3_2), .second, .val (.long v16_5), .second, .val (.long v29_8), .second, .val (.long v44_11), .second, .unset, .unset, .unset, .unset, .unset, .unset, .unset, .unset] [(.int (16 : Int32)), (.int i1)])
          refine Go.of (fun t k => XS.iand X0.here hx rfl (hb hby at_57) rfl k) ?_
          show Go p e below Qo s₁ (mkF m 58 #[.val (.int i1), .val (.long j1), .second, .val (.long j2), .second, .val (.long j3), .second, .val (.long j4), .second, .val (.long j5), .second, .val (.long v3_2), .second, .val (.long v16_5), .second, .val (.long v29_8), .second, .val (.long v44_11), .second, .unset, .unset, .unset, .unset, .unset, .unset, .unset, .unset] [(.int (i1 &&& (16 : Int32)))])
          have J58_15 : ∀ (v58_14 : Int64), v58_14 = (if (i1 &&& (16 : Int32)) = (0 : Int32) then (0 : Int64) else j2) → Go p e below Qo s₁ (mkF m 66 #[.val (.int i1), .val (.long j1), .second, .val (.long j2), .second, .val (.long j3), .second, .val (.long j4), .second, .val (.long j5), .second, .val (.long v3_2), .second, .val (.long v16_5), .second, .val (.long v29_8), .second, .val (.long v44_11), .second, .unset, .unset, .unset, .unset, .unset, .unset, .unset, .unset] [(.long v58_14)]) := by
            intro v58_14 hv58_14
            show Go p e below Qo s₁ (mkF m 66 #[.val (.int i1), .val (.long j1), .second, .val (.long j2), .second, .val (.long j3), .second, .val (.long j4), .second, .val (.long j5), .second, .val (.long v3_2), .second, .val (.long v16_5), .second, .val (.long v29_8), .second, .val (.long v44_11), .second, .unset, .unset, .unset, .unset, .unset, .unset, .unset, .unset] [(.long v58_14)])
            refine Go.of (fun t k => XS.lstore X0.here hx rfl (hb hby at_66) rfl (l' := #[.val (.int i1), .val (.long j1), .second, .val (.long j2), .second, .val (.long j3), .second, .val (.long j4), .second, .val (.long j5), .second, .val (.long v3_2), .second, .val (.long v16_5), .second, .val (.long v29_8), .second, .val (.long v44_11), .second, .val (.long v58_14), .second, .unset, .unset, .unset, .unset, .unset, .unset]) rfl k) ?_
            show Go p e below Qo s₁ (mkF m 68 #[.val (.int i1), .val (.long j1), .second, .val (.long j2), .second, .val (.long j3), .second, .val (.long j4), .second, .val (.long j5), .second, .val (.long v3_2), .second, .val (.long v16_5), .second, .val (.long v29_8), .second, .val (.long v44_11), .second, .val (.long v58_14), .second, .unset, .unset, .unset, .unset, .unset, .unset] [])
            refine Go.of (fun t k => XS.iloadN X0.here hx rfl (hb hby at_68) rfl  k) ?_
            show Go p e below Qo s₁ (mkF m 69 #[.val (.int i1), .val (.long j1), .second, .val (.long j2), .second, .val (.long j3), .second, .val (.long j4), .second, .val (.long j5), .second, .val (.long v3_2), .second, .val (.long v16_5), .second, .val (.long v29_8), .second, .val (.long v44_11), .second, .val (.long v58_14), .second, .unset, .unset, .unset, .unset, .unset, .unset] [(.int i1)])
            refine Go.of (fun t k => XS.bipush X0.here hx rfl (hb hby at_69) k) ?_
            show Go p e below Qo s₁ (mkF m 71 #[.val (.int i1), .val (.long j1), .second, .val (.long j2), .second, .val (.long j3), .second, .val (.long j4), .second, .val (.long j5), .second, .val (.long v3_2), .second, .val (.long v16_5), .second, .val (.long v29_8), .second, .val (.long v44_11), .second, .val (.long v58_14), .second, .unset, .unset, .unset, .unset, .unset, .unset] [(.int (32 : Int32)), (.int i1)])
            refine Go.of (fun t k => XS.iand X0.here hx rfl (hb hby at_71) rfl k) ?_
            show Go p e below Qo s₁ (mkF m 72 #[.val (.int i1), .val (.long j1), .second, .val (.long j2), .second, .val (.long j3), .second, .val (.long j4), .second, .val (.long j5), .second, .val (.long v3_2), .second, .val (.long v16_5), .second, .val (.long v29_8), .second, .val (.long v44_11), .second, .val (.long v58_14), .second, .unset, .unset, .unset, .unset, .unset, .unset] [(.int (i1 &&& (32 : Int32)))])
            have J72_18 : ∀ (v72_17 : Int64), v72_17 = (if (i1 &&& (32 : Int32)) = (0 : Int32) then j5 else j4) → Go p e below Qo s₁ (mkF m 82 #[.val (.int i1), .val (.long j1), .second, .val (.long j2), .second, .val (.long j3), .second, .val (.long j4), .second, .val (.long j5), .second, .val (.long v3_2), .second, .val (.long v16_5), .second, .val (.long v29_8), .second, .val (.long v44_11), .second, .val (.long v58_14), .second, .unset, .unset, .unset, .unset, .unset, .unset] [(.long v72_17)]) := by
              intro v72_17 hv72_17
              show Go p e below Qo s₁ (mkF m 82 #[.val (.int i1), .val (.long j1), .second, .val (.long j2), .second, .val (.long j3), .second, .val (.long j4), .second, .val (.long j5), .second, .val (.long v3_2), .second, .val (.long v16_5), .second, .val (.long v29_8), .second, .val (.long v44_11), .second, .val (.long v58_14), .second, .unset, .unset, .unset, .unset, .unset, .unset] [(.long v72_17)])
              refine Go.of (fun t k => XS.lstore X0.here hx rfl (hb hby at_82) rfl (l' := #[.val (.int i1), .val (.long j1), .second, .val (.long j2), .second, .val (.long j3), .second, .val (.long j4), .second, .val (.long j5), .second, .val (.long v3_2), .second, .val (.long v16_5), .second, .val (.long v29_8), .second, .val (.long v44_11), .second, .val (.long v58_14), .second, .val (.long v72_17), .second, .unset, .unset, .unset, .unset]) rfl k) ?_
              show Go p e below Qo s₁ (mkF m 84 #[.val (.int i1), .val (.long j1), .second, .val (.long j2), .second, .val (.long j3), .second, .val (.long j4), .second, .val (.long j5), .second, .val (.long v3_2), .second, .val (.long v16_5), .second, .val (.long v29_8), .second, .val (.long v44_11), .second, .val (.long v58_14), .second, .val (.long v72_17), .second, .unset, .unset, .unset, .unset] [])
              refine Go.of (fun t k => XS.iloadN X0.here hx rfl (hb hby at_84) rfl  k) ?_
              show Go p e below Qo s₁ (mkF m 85 #[.val (.int i1), .val (.long j1), .second, .val (.long j2), .second, .val (.long j3), .second, .val (.long j4), .second, .val (.long j5), .second, .val (.long v3_2), .second, .val (.long v16_5), .second, .val (.long v29_8), .second, .val (.long v44_11), .second, .val (.long v58_14), .second, .val (.long v72_17), .second, .unset, .unset, .unset, .unset] [(.int i1)])
              refine Go.of (fun t k => XS.bipush X0.here hx rfl (hb hby at_85) k) ?_
              show Go p e below Qo s₁ (mkF m 87 #[.val (.int i1), .val (.long j1), .second, .val (.long j2), .second, .val (.long j3), .second, .val (.long j4), .second, .val (.long j5), .second, .val (.long v3_2), .second, .val (.long v16_5), .second, .val (.long v29_8), .second, .val (.long v44_11), .second, .val (.long v58_14), .second, .val (.long v72_17), .second, .unset, .unset, .unset, .unset] [(.int (64 : Int32)), (.int i1)])
              refine Go.of (fun t k => XS.iand X0.here hx rfl (hb hby at_87) rfl k) ?_
              show Go p e below Qo s₁ (mkF m 88 #[.val (.int i1), .val (.long j1), .second, .val (.long j2), .second, .val (.long j3), .second, .val (.long j4), .second, .val (.long j5), .second, .val (.long v3_2), .second, .val (.long v16_5), .second, .val (.long v29_8), .second, .val (.long v44_11), .second, .val (.long v58_14), .second, .val (.long v72_17), .second, .unset, .unset, .unset, .unset] [(.int (i1 &&& (64 : Int32)))])
              have J88_21 : ∀ (v88_20 : Int64), v88_20 = (if (i1 &&& (64 : Int32)) = (0 : Int32) then j4 else j5) → Go p e below Qo s₁ (mkF m 98 #[.val (.int i1), .val (.long j1), .second, .val (.long j2), .second, .val (.long j3), .second, .val (.long j4), .second, .val (.long j5), .second, .val (.long v3_2), .second, .val (.long v16_5), .second, .val (.long v29_8), .second, .val (.long v44_11), .second, .val (.long v58_14), .second, .val (.long v72_17), .second, .unset, .unset, .unset, .unset] [(.long v88_20)]) := by
                intro v88_20 hv88_20
                show Go p e below Qo s₁ (mkF m 98 #[.val (.int i1), .val (.long j1), .second, .val (.long j2), .second, .val (.long j3), .second, .val (.long j4), .second, .val (.long j5), .second, .val (.long v3_2), .second, .val (.long v16_5), .second, .val (.long v29_8), .second, .val (.long v44_11), .second, .val (.long v58_14), .second, .val (.long v72_17), .second, .unset, .unset, .unset, .unset] [(.long v88_20)])
                refine Go.of (fun t k => XS.lstore X0.here hx rfl (hb hby at_98) rfl (l' := #[.val (.int i1), .val (.long j1), .second, .val (.long j2), .second, .val (.long j3), .second, .val (.long j4), .second, .val (.long j5), .second, .val (.long v3_2), .second, .val (.long v16_5), .second, .val (.long v29_8), .second, .val (.long v44_11), .second, .val (.long v58_14), .second, .val (.long v72_17), .second, .val (.long v88_20), .second, .unset, .unset]) rfl k) ?_
                show Go p e below Qo s₁ (mkF m 100 #[.val (.int i1), .val (.long j1), .second, .val (.long j2), .second, .val (.long j3), .second, .val (.long j4), .second, .val (.long j5), .second, .val (.long v3_2), .second, .val (.long v16_5), .second, .val (.long v29_8), .second, .val (.long v44_11), .second, .val (.long v58_14), .second, .val (.long v72_17), .second, .val (.long v88_20), .second, .unset, .unset] [])
                obtain ⟨T22, h22, X22, e22, E22, A22, D22, -, st22⟩ := newO X0 hx hZ hown (hw _ (List.mem_of_getElem? (i := 0) rfl)) (hw _ (List.mem_of_getElem? (i := 1) rfl)) (hw _ (List.mem_of_getElem? (i := 2) rfl)) e0 (g := (mkF m 100 #[.val (.int i1), .val (.long j1), .second, .val (.long j2), .second, .val (.long j3), .second, .val (.long j4), .second, .val (.long j5), .second, .val (.long v3_2), .second, .val (.long v16_5), .second, .val (.long v29_8), .second, .val (.long v44_11), .second, .val (.long v58_14), .second, .val (.long v72_17), .second, .val (.long v88_20), .second, .unset, .unset] [])) rfl (hb hby at_100) (by decide) (by decide)
                obtain ⟨b22, g22⟩ : ∃ z, z = h0.size := ⟨_, rfl⟩
                rw [← g22] at A22 D22 st22
                have g23 : n0 ≤ b22 := Nat.le_trans Z0 (Nat.le_of_eq g22.symm)
                have Z24 : n0 ≤ h22.size := Nat.le_trans Z0 E22.1
                have q25 : Fld Z h22 b22 "com/example/examwright/examwright/CompetitionScore" "conflicts" "J" (.long (0 : Int64)) := D22 (Or.inr (hw _ (List.mem_of_getElem? (i := 15) rfl))) (ty := .long) (by decide)
                have q26 : Fld Z h22 b22 "com/example/examwright/examwright/CompetitionScore" "roomOccupancy" "J" (.long (0 : Int64)) := D22 (Or.inr (hw _ (List.mem_of_getElem? (i := 17) rfl))) (ty := .long) (by decide)
                have q27 : Fld Z h22 b22 "com/example/examwright/examwright/CompetitionScore" "periodUtilisation" "J" (.long (0 : Int64)) := D22 (Or.inr (hw _ (List.mem_of_getElem? (i := 19) rfl))) (ty := .long) (by decide)
                have q28 : Fld Z h22 b22 "com/example/examwright/examwright/CompetitionScore" "periodRelated" "J" (.long (0 : Int64)) := D22 (Or.inr (hw _ (List.mem_of_getElem? (i := 21) rfl))) (ty := .long) (by decide)
                have q29 : Fld Z h22 b22 "com/example/examwright/examwright/CompetitionScore" "roomRelated" "J" (.long (0 : Int64)) := D22 (Or.inr (hw _ (List.mem_of_getElem? (i := 23) rfl))) (ty := .long) (by decide)
                have q30 : Fld Z h22 b22 "com/example/examwright/examwright/CompetitionScore" "twoInARow" "J" (.long (0 : Int64)) := D22 (Or.inr (hw _ (List.mem_of_getElem? (i := 25) rfl))) (ty := .long) (by decide)
                have q31 : Fld Z h22 b22 "com/example/examwright/examwright/CompetitionScore" "twoInADay" "J" (.long (0 : Int64)) := D22 (Or.inr (hw _ (List.mem_of_getElem? (i := 27) rfl))) (ty := .long) (by decide)
                have q32 : Fld Z h22 b22 "com/example/examwright/examwright/CompetitionScore" "periodSpread" "J" (.long (0 : Int64)) := D22 (Or.inr (hw _ (List.mem_of_getElem? (i := 29) rfl))) (ty := .long) (by decide)
                have q33 : Fld Z h22 b22 "com/example/examwright/examwright/CompetitionScore" "mixedDurations" "J" (.long (0 : Int64)) := D22 (Or.inr (hw _ (List.mem_of_getElem? (i := 31) rfl))) (ty := .long) (by decide)
                have q34 : Fld Z h22 b22 "com/example/examwright/examwright/CompetitionScore" "frontLoad" "J" (.long (0 : Int64)) := D22 (Or.inr (hw _ (List.mem_of_getElem? (i := 33) rfl))) (ty := .long) (by decide)
                have q35 : Fld Z h22 b22 "com/example/examwright/examwright/CompetitionScore" "periodPenalty" "J" (.long (0 : Int64)) := D22 (Or.inr (hw _ (List.mem_of_getElem? (i := 35) rfl))) (ty := .long) (by decide)
                have q36 : Fld Z h22 b22 "com/example/examwright/examwright/CompetitionScore" "roomPenalty" "J" (.long (0 : Int64)) := D22 (Or.inr (hw _ (List.mem_of_getElem? (i := 37) rfl))) (ty := .long) (by decide)
                refine Go.of st22 ?_
                show Go p e below Qo T22 (mkF m 103 #[.val (.int i1), .val (.long j1), .second, .val (.long j2), .second, .val (.long j3), .second, .val (.long j4), .second, .val (.long j5), .second, .val (.long v3_2), .second, .val (.long v16_5), .second, .val (.long v29_8), .second, .val (.long v44_11), .second, .val (.long v58_14), .second, .val (.long v72_17), .second, .val (.long v88_20), .second, .unset, .unset] [(.ref b22)])
                refine Go.of (fun t k => XS.dup X22.here hx rfl (hb hby at_103) rfl rfl k) ?_
                show Go p e below Qo T22 (mkF m 104 #[.val (.int i1), .val (.long j1), .second, .val (.long j2), .second, .val (.long j3), .second, .val (.long j4), .second, .val (.long j5), .second, .val (.long v3_2), .second, .val (.long v16_5), .second, .val (.long v29_8), .second, .val (.long v44_11), .second, .val (.long v58_14), .second, .val (.long v72_17), .second, .val (.long v88_20), .second, .unset, .unset] [(.ref b22), (.ref b22)])
                refine Go.of (fun t k => XS.lload X22.here hx rfl (hb hby at_104) rfl  k) ?_
                show Go p e below Qo T22 (mkF m 106 #[.val (.int i1), .val (.long j1), .second, .val (.long j2), .second, .val (.long j3), .second, .val (.long j4), .second, .val (.long j5), .second, .val (.long v3_2), .second, .val (.long v16_5), .second, .val (.long v29_8), .second, .val (.long v44_11), .second, .val (.long v58_14), .second, .val (.long v72_17), .second, .val (.long v88_20), .second, .unset, .unset] [(.long v3_2), (.ref b22), (.ref b22)])
                refine Go.of (fun t k => XS.lload X22.here hx rfl (hb hby at_106) rfl  k) ?_
                show Go p e below Qo T22 (mkF m 108 #[.val (.int i1), .val (.long j1), .second, .val (.long j2), .second, .val (.long j3), .second, .val (.long j4), .second, .val (.long j5), .second, .val (.long v3_2), .second, .val (.long v16_5), .second, .val (.long v29_8), .second, .val (.long v44_11), .second, .val (.long v58_14), .second, .val (.long v72_17), .second, .val (.long v88_20), .second, .unset, .unset] [(.long v16_5), (.long v3_2), (.ref b22), (.ref b22)])
                refine Go.of (fun t k => XS.lload X22.here hx rfl (hb hby at_108) rfl  k) ?_
                show Go p e below Qo T22 (mkF m 110 #[.val (.int i1), .val (.long j1), .second, .val (.long j2), .second, .val (.long j3), .second, .val (.long j4), .second, .val (.long j5), .second, .val (.long v3_2), .second, .val (.long v16_5), .second, .val (.long v29_8), .second, .val (.long v44_11), .second, .val (.long v58_14), .second, .val (.long v72_17), .second, .val (.long v88_20), .second, .unset, .unset] [(.long v29_8), (.long v16_5), (.long v3_2), (.ref b22), (.ref b22)])
                refine Go.of (fun t k => XS.lload X22.here hx rfl (hb hby at_110) rfl  k) ?_
                show Go p e below Qo T22 (mkF m 112 #[.val (.int i1), .val (.long j1), .second, .val (.long j2), .second, .val (.long j3), .second, .val (.long j4), .second, .val (.long j5), .second, .val (.long v3_2), .second, .val (.long v16_5), .second, .val (.long v29_8), .second, .val (.long v44_11), .second, .val (.long v58_14), .second, .val (.long v72_17), .second, .val (.long v88_20), .second, .unset, .unset] [(.long v44_11), (.long v29_8), (.long v16_5), (.long v3_2), (.ref b22), (.ref b22)])
                refine Go.of (fun t k => XS.lload X22.here hx rfl (hb hby at_112) rfl  k) ?_
                show Go p e below Qo T22 (mkF m 114 #[.val (.int i1), .val (.long j1), .second, .val (.long j2), .second, .val (.long j3), .second, .val (.long j4), .second, .val (.long j5), .second, .val (.long v3_2), .second, .val (.long v16_5), .second, .val (.long v29_8), .second, .val (.long v44_11), .second, .val (.long v58_14), .second, .val (.long v72_17), .second, .val (.long v88_20), .second, .unset, .unset] [(.long v58_14), (.long v44_11), (.long v29_8), (.long v16_5), (.long v3_2), (.ref b22), (.ref b22)])
                refine Go.of (fun t k => XS.lload X22.here hx rfl (hb hby at_114) rfl  k) ?_
                show Go p e below Qo T22 (mkF m 116 #[.val (.int i1), .val (.long j1), .second, .val (.long j2), .second, .val (.long j3), .second, .val (.long j4), .second, .val (.long j5), .second, .val (.long v3_2), .second, .val (.long v16_5), .second, .val (.long v29_8), .second, .val (.long v44_11), .second, .val (.long v58_14), .second, .val (.long v72_17), .second, .val (.long v88_20), .second, .unset, .unset] [(.long v72_17), (.long v58_14), (.long v44_11), (.long v29_8), (.long v16_5), (.long v3_2), (.ref b22), (.ref b22)])
                refine Go.of (fun t k => XS.lload X22.here hx rfl (hb hby at_116) rfl  k) ?_
                show Go p e below Qo T22 (mkF m 118 #[.val (.int i1), .val (.long j1), .second, .val (.long j2), .second, .val (.long j3), .second, .val (.long j4), .second, .val (.long j5), .second, .val (.long v3_2), .second, .val (.long v16_5), .second, .val (.long v29_8), .second, .val (.long v44_11), .second, .val (.long v58_14), .second, .val (.long v72_17), .second, .val (.long v88_20), .second, .unset, .unset] [(.long v88_20), (.long v72_17), (.long v58_14), (.long v44_11), (.long v29_8), (.long v16_5), (.long v3_2), (.ref b22), (.ref b22)])
                refine Go.of (fun t k => XS.lload X22.here hx rfl (hb hby at_118) rfl  k) ?_
                show Go p e below Qo T22 (mkF m 120 #[.val (.int i1), .val (.long j1), .second, .val (.long j2), .second, .val (.long j3), .second, .val (.long j4), .second, .val (.long j5), .second, .val (.long v3_2), .second, .val (.long v16_5), .second, .val (.long v29_8), .second, .val (.long v44_11), .second, .val (.long v58_14), .second, .val (.long v72_17), .second, .val (.long v88_20), .second, .unset, .unset] [(.long j4), (.long v88_20), (.long v72_17), (.long v58_14), (.long v44_11), (.long v29_8), (.long v16_5), (.long v3_2), (.ref b22), (.ref b22)])
                refine Go.of (fun t k => XS.lload X22.here hx rfl (hb hby at_120) rfl  k) ?_
                show Go p e below Qo T22 (mkF m 122 #[.val (.int i1), .val (.long j1), .second, .val (.long j2), .second, .val (.long j3), .second, .val (.long j4), .second, .val (.long j5), .second, .val (.long v3_2), .second, .val (.long v16_5), .second, .val (.long v29_8), .second, .val (.long v44_11), .second, .val (.long v58_14), .second, .val (.long v72_17), .second, .val (.long v88_20), .second, .unset, .unset] [(.long j5), (.long j4), (.long v88_20), (.long v72_17), (.long v58_14), (.long v44_11), (.long v29_8), (.long v16_5), (.long v3_2), (.ref b22), (.ref b22)])
                refine Go.of (fun t k => XS.lload X22.here hx rfl (hb hby at_122) rfl  k) ?_
                show Go p e below Qo T22 (mkF m 124 #[.val (.int i1), .val (.long j1), .second, .val (.long j2), .second, .val (.long j3), .second, .val (.long j4), .second, .val (.long j5), .second, .val (.long v3_2), .second, .val (.long v16_5), .second, .val (.long v29_8), .second, .val (.long v44_11), .second, .val (.long v58_14), .second, .val (.long v72_17), .second, .val (.long v88_20), .second, .unset, .unset] [(.long j4), (.long j5), (.long j4), (.long v88_20), (.long v72_17), (.long v58_14), (.long v44_11), (.long v29_8), (.long v16_5), (.long v3_2), (.ref b22), (.ref b22)])
                refine Go.of (fun t k => XS.lload X22.here hx rfl (hb hby at_124) rfl  k) ?_
                show Go p e below Qo T22 (mkF m 126 #[.val (.int i1), .val (.long j1), .second, .val (.long j2), .second, .val (.long j3), .second, .val (.long j4), .second, .val (.long j5), .second, .val (.long v3_2), .second, .val (.long v16_5), .second, .val (.long v29_8), .second, .val (.long v44_11), .second, .val (.long v58_14), .second, .val (.long v72_17), .second, .val (.long v88_20), .second, .unset, .unset] [(.long j5), (.long j4), (.long j5), (.long j4), (.long v88_20), (.long v72_17), (.long v58_14), (.long v44_11), (.long v29_8), (.long v16_5), (.long v3_2), (.ref b22), (.ref b22)])
                refine Go.of (fun t k => XS.lload X22.here hx rfl (hb hby at_126) rfl  k) ?_
                show Go p e below Qo T22 (mkF m 128 #[.val (.int i1), .val (.long j1), .second, .val (.long j2), .second, .val (.long j3), .second, .val (.long j4), .second, .val (.long j5), .second, .val (.long v3_2), .second, .val (.long v16_5), .second, .val (.long v29_8), .second, .val (.long v44_11), .second, .val (.long v58_14), .second, .val (.long v72_17), .second, .val (.long v88_20), .second, .unset, .unset] [(.long j3), (.long j5), (.long j4), (.long j5), (.long j4), (.long v88_20), (.long v72_17), (.long v58_14), (.long v44_11), (.long v29_8), (.long v16_5), (.long v3_2), (.ref b22), (.ref b22)])
                obtain ⟨_, _, ⟨T37, L37, k37, n37⟩, -, X37, ⟨Lc37, hQ37, l37, y37, z37⟩, st37⟩ := X22.specialBack hx (y := (⟨"com/example/examwright/examwright/CompetitionScore", "<init>", "(JJJJJJJJJJJJ)V"⟩ : MethodName)) rfl hown (mvT hZ (hw _ (List.mem_of_getElem? (i := 3) rfl))) (mvT hZ (hw _ (List.mem_of_getElem? (i := 4) rfl))) (mvT hZ (hw _ (List.mem_of_getElem? (i := 5) rfl))) (by decide) (backOf (W := 1) (rm1 l Z a0 hw [] b22 v3_2 v16_5 v29_8 v44_11 v58_14 v72_17 v88_20 j4 j5 j4 j5 j3 (.long (0 : Int64)) (.long (0 : Int64)) (.long (0 : Int64)) (.long (0 : Int64)) (.long (0 : Int64)) (.long (0 : Int64)) (.long (0 : Int64)) (.long (0 : Int64)) (.long (0 : Int64)) (.long (0 : Int64)) (.long (0 : Int64)) (.long (0 : Int64)) h22 n0 Z24 A22 q25 q26 q27 q28 q29 q30 q31 q32 q33 q34 q35 q36 g23) hZ (hw _ (List.mem_of_getElem? (i := 5) rfl)) (hw _ (List.mem_of_getElem? (i := 2) rfl)) (by decide) (by decide)) (g := (mkF m 128 #[.val (.int i1), .val (.long j1), .second, .val (.long j2), .second, .val (.long j3), .second, .val (.long j4), .second, .val (.long j5), .second, .val (.long v3_2), .second, .val (.long v16_5), .second, .val (.long v29_8), .second, .val (.long v44_11), .second, .val (.long v58_14), .second, .val (.long v72_17), .second, .val (.long v88_20), .second, .unset, .unset] [(.long j3), (.long j5), (.long j4), (.long j5), (.long j4), (.long v88_20), (.long v72_17), (.long v58_14), (.long v44_11), (.long v29_8), (.long v16_5), (.long v3_2), (.ref b22), (.ref b22)])) rfl (by rw [hml]; rfl) (Steps.refl _) (a := b22) (argsL := [(.long v3_2), (.long v16_5), (.long v29_8), (.long v44_11), (.long v58_14), (.long v72_17), (.long v88_20), (.long j4), (.long j5), (.long j4), (.long j5), (.long j3)]) (rest := [(.ref b22)]) (lenOf pd_1 rfl) rfl (by show 2 * 0 + _ ≤ _; exact Nat.le_of_eq rfl) (hb hby at_128) (fun _ _ => ⟨rfl, e22, (by decide : 1 + 0 ≤ _), (by decide : 12 + 0 ≤ _)⟩)
                dsimp only [Pt.U, Pt.locs, Pt.cells, Pt.slots] at X37 l37 y37 z37 st37 hQ37
                subst l37 y37 z37
                obtain ⟨rfl, N38, Kc39, q40, q41, q42, q43, q44, q45, q46, q47, q48, q49, q50, q51, q52⟩ := hQ37
                have N53 := Fr.app N0 N38
                have Z54 : n0 ≤ T37.heap.size := Nat.le_trans Z24 Kc39.1
                refine Go.via st37 ?_
                show Go p e below Qo T37 (mkF m 131 #[.val (.int i1), .val (.long j1), .second, .val (.long j2), .second, .val (.long j3), .second, .val (.long j4), .second, .val (.long j5), .second, .val (.long v3_2), .second, .val (.long v16_5), .second, .val (.long v29_8), .second, .val (.long v44_11), .second, .val (.long v58_14), .second, .val (.long v72_17), .second, .val (.long v88_20), .second, .unset, .unset] [(.ref b22)])
                refine Go.of (fun t k => XS.astore X37.here hx rfl (hb hby at_131) rfl rfl (l' := #[.val (.int i1), .val (.long j1), .second, .val (.long j2), .second, .val (.long j3), .second, .val (.long j4), .second, .val (.long j5), .second, .val (.long v3_2), .second, .val (.long v16_5), .second, .val (.long v29_8), .second, .val (.long v44_11), .second, .val (.long v58_14), .second, .val (.long v72_17), .second, .val (.long v88_20), .second, .val (.ref b22), .unset]) rfl k) ?_
                show Go p e below Qo T37 (mkF m 133 #[.val (.int i1), .val (.long j1), .second, .val (.long j2), .second, .val (.long j3), .second, .val (.long j4), .second, .val (.long j5), .second, .val (.long v3_2), .second, .val (.long v16_5), .second, .val (.long v29_8), .second, .val (.long v44_11), .second, .val (.long v58_14), .second, .val (.long v72_17), .second, .val (.long v88_20), .second, .val (.ref b22), .unset] [])
                refine Go.of (fun t k => XS.lload X37.here hx rfl (hb hby at_133) rfl  k) ?_
                show Go p e below Qo T37 (mkF m 135 #[.val (.int i1), .val (.long j1), .second, .val (.long j2), .second, .val (.long j3), .second, .val (.long j4), .second, .val (.long j5), .second, .val (.long v3_2), .second, .val (.long v16_5), .second, .val (.long v29_8), .second, .val (.long v44_11), .second, .val (.long v58_14), .second, .val (.long v72_17), .second, .val (.long v88_20), .second, .val (.ref b22), .unset] [(.long v3_2)])
                refine Go.of (fun t k => XS.lload X37.here hx rfl (hb hby at_135) rfl  k) ?_
                show Go p e below Qo T37 (mkF m 137 #[.val (.int i1), .val (.long j1), .second, .val (.long j2), .second, .val (.long j3), .second, .val (.long j4), .second, .val (.long j5), .second, .val (.long v3_2), .second, .val (.long v16_5), .second, .val (.long v29_8), .second, .val (.long v44_11), .second, .val (.long v58_14), .second, .val (.long v72_17), .second, .val (.long v88_20), .second, .val (.ref b22), .unset] [(.long v16_5), (.long v3_2)])
                refine Go.of (fun t k => XS.lor X37.here hx rfl (hb hby at_137) rfl k) ?_
                show Go p e below Qo T37 (mkF m 138 #[.val (.int i1), .val (.long j1), .second, .val (.long j2), .second, .val (.long j3), .second, .val (.long j4), .second, .val (.long j5), .second, .val (.long v3_2), .second, .val (.long v16_5), .second, .val (.long v29_8), .second, .val (.long v44_11), .second, .val (.long v58_14), .second, .val (.long v72_17), .second, .val (.long v88_20), .second, .val (.ref b22), .unset] [(.long (v3_2 ||| v16_5))])
                refine Go.of (fun t k => XS.lload X37.here hx rfl (hb hby at_138) rfl  k) ?_
                show Go p e below Qo T37 (mkF m 140 #[.val (.int i1), .val (.long j1), .second, .val (.long j2), .second, .val (.long j3), .second, .val (.long j4), .second, .val (.long j5), .second, .val (.long v3_2), .second, .val (.long v16_5), .second, .val (.long v29_8), .second, .val (.long v44_11), .second, .val (.long v58_14), .second, .val (.long v72_17), .second, .val (.long v88_20), .second, .val (.ref b22), .unset] [(.long v29_8), (.long (v3_2 ||| v16_5))])
                refine Go.of (fun t k => XS.lor X37.here hx rfl (hb hby at_140) rfl k) ?_
                show Go p e below Qo T37 (mkF m 141 #[.val (.int i1), .val (.long j1), .second, .val (.long j2), .second, .val (.long j3), .second, .val (.long j4), .second, .val (.long j5), .second, .val (.long v3_2), .second, .val (.long v16_5), .second, .val (.long v29_8), .second, .val (.long v44_11), .second, .val (.long v58_14), .second, .val (.long v72_17), .second, .val (.long v88_20), .second, .val (.ref b22), .unset] [(.long ((v3_2 ||| v16_5) ||| v29_8))])
                refine Go.of (fun t k => XS.lload X37.here hx rfl (hb hby at_141) rfl  k) ?_
                show Go p e below Qo T37 (mkF m 143 #[.val (.int i1), .val (.long j1), .second, .val (.long j2), .second, .val (.long j3), .second, .val (.long j4), .second, .val (.long j5), .second, .val (.long v3_2), .second, .val (.long v16_5), .second, .val (.long v29_8), .second, .val (.long v44_11), .second, .val (.long v58_14), .second, .val (.long v72_17), .second, .val (.long v88_20), .second, .val (.ref b22), .unset] [(.long v44_11), (.long ((v3_2 ||| v16_5) ||| v29_8))])
                refine Go.of (fun t k => XS.lor X37.here hx rfl (hb hby at_143) rfl k) ?_
                show Go p e below Qo T37 (mkF m 144 #[.val (.int i1), .val (.long j1), .second, .val (.long j2), .second, .val (.long j3), .second, .val (.long j4), .second, .val (.long j5), .second, .val (.long v3_2), .second, .val (.long v16_5), .second, .val (.long v29_8), .second, .val (.long v44_11), .second, .val (.long v58_14), .second, .val (.long v72_17), .second, .val (.long v88_20), .second, .val (.ref b22), .unset] [(.long (((v3_2 ||| v16_5) ||| v29_8) ||| v44_11))])
                refine Go.of (fun t k => XS.lload X37.here hx rfl (hb hby at_144) rfl  k) ?_
                show Go p e below Qo T37 (mkF m 146 #[.val (.int i1), .val (.long j1), .second, .val (.long j2), .second, .val (.long j3), .second, .val (.long j4), .second, .val (.long j5), .second, .val (.long v3_2), .second, .val (.long v16_5), .second, .val (.long v29_8), .second, .val (.long v44_11), .second, .val (.long v58_14), .second, .val (.long v72_17), .second, .val (.long v88_20), .second, .val (.ref b22), .unset] [(.long v58_14), (.long (((v3_2 ||| v16_5) ||| v29_8) ||| v44_11))])
                refine Go.of (fun t k => XS.lor X37.here hx rfl (hb hby at_146) rfl k) ?_
                show Go p e below Qo T37 (mkF m 147 #[.val (.int i1), .val (.long j1), .second, .val (.long j2), .second, .val (.long j3), .second, .val (.long j4), .second, .val (.long j5), .second, .val (.long v3_2), .second, .val (.long v16_5), .second, .val (.long v29_8), .second, .val (.long v44_11), .second, .val (.long v58_14), .second, .val (.long v72_17), .second, .val (.long v88_20), .second, .val (.ref b22), .unset] [(.long ((((v3_2 ||| v16_5) ||| v29_8) ||| v44_11) ||| v58_14))])
                refine Go.of (fun t k => XS.lconst X37.here hx rfl (hb hby at_147) k) ?_
                show Go p e below Qo T37 (mkF m 148 #[.val (.int i1), .val (.long j1), .second, .val (.long j2), .second, .val (.long j3), .second, .val (.long j4), .second, .val (.long j5), .second, .val (.long v3_2), .second, .val (.long v16_5), .second, .val (.long v29_8), .second, .val (.long v44_11), .second, .val (.long v58_14), .second, .val (.long v72_17), .second, .val (.long v88_20), .second, .val (.ref b22), .unset] [(.long (0 : Int64)), (.long ((((v3_2 ||| v16_5) ||| v29_8) ||| v44_11) ||| v58_14))])
                refine Go.of (fun t k => XS.lcmp X37.here hx rfl (hb hby at_148) rfl k) ?_
                show Go p e below Qo T37 (mkF m 149 #[.val (.int i1), .val (.long j1), .second, .val (.long j2), .second, .val (.long j3), .second, .val (.long j4), .second, .val (.long j5), .second, .val (.long v3_2), .second, .val (.long v16_5), .second, .val (.long v29_8), .second, .val (.long v44_11), .second, .val (.long v58_14), .second, .val (.long v72_17), .second, .val (.long v88_20), .second, .val (.ref b22), .unset] [(.int (lcmpW ((((v3_2 ||| v16_5) ||| v29_8) ||| v44_11) ||| v58_14) (0 : Int64)))])
                have J149_57 : ∀ (v149_56 : Int32), v149_56 = (if ((((v3_2 ||| v16_5) ||| v29_8) ||| v44_11) ||| v58_14) = (0 : Int64) then (1 : Int32) else (0 : Int32)) → Go p e below Qo T37 (mkF m 157 #[.val (.int i1), .val (.long j1), .second, .val (.long j2), .second, .val (.long j3), .second, .val (.long j4), .second, .val (.long j5), .second, .val (.long v3_2), .second, .val (.long v16_5), .second, .val (.long v29_8), .second, .val (.long v44_11), .second, .val (.long v58_14), .second, .val (.long v72_17), .second, .val (.long v88_20), .second, .val (.ref b22), .unset] [(.int v149_56)]) := by
                  intro v149_56 hv149_56
                  show Go p e below Qo T37 (mkF m 157 #[.val (.int i1), .val (.long j1), .second, .val (.long j2), .second, .val (.long j3), .second, .val (.long j4), .second, .val (.long j5), .second, .val (.long v3_2), .second, .val (.long v16_5), .second, .val (.long v29_8), .second, .val (.long v44_11), .second, .val (.long v58_14), .second, .val (.long v72_17), .second, .val (.long v88_20), .second, .val (.ref b22), .unset] [(.int v149_56)])
                  refine Go.of (fun t k => XS.istore X37.here hx rfl (hb hby at_157) rfl (l' := #[.val (.int i1), .val (.long j1), .second, .val (.long j2), .second, .val (.long j3), .second, .val (.long j4), .second, .val (.long j5), .second, .val (.long v3_2), .second, .val (.long v16_5), .second, .val (.long v29_8), .second, .val (.long v44_11), .second, .val (.long v58_14), .second, .val (.long v72_17), .second, .val (.long v88_20), .second, .val (.ref b22), .val (.int v149_56)]) rfl k) ?_
                  show Go p e below Qo T37 (mkF m 159 #[.val (.int i1), .val (.long j1), .second, .val (.long j2), .second, .val (.long j3), .second, .val (.long j4), .second, .val (.long j5), .second, .val (.long v3_2), .second, .val (.long v16_5), .second, .val (.long v29_8), .second, .val (.long v44_11), .second, .val (.long v58_14), .second, .val (.long v72_17), .second, .val (.long v88_20), .second, .val (.ref b22), .val (.int v149_56)] [])
                  refine Go.of (fun t k => XS.aload X37.here hx rfl (hb hby at_159) rfl rfl k) ?_
                  show Go p e below Qo T37 (mkF m 161 #[.val (.int i1), .val (.long j1), .second, .val (.long j2), .second, .val (.long j3), .second, .val (.long j4), .second, .val (.long j5), .second, .val (.long v3_2), .second, .val (.long v16_5), .second, .val (.long v29_8), .second, .val (.long v44_11), .second, .val (.long v58_14), .second, .val (.long v72_17), .second, .val (.long v88_20), .second, .val (.ref b22), .val (.int v149_56)] [(.ref b22)])
                  obtain ⟨ciq59, kiq59, iq59a, iq59b, iq59c⟩ := isOf hZ rfl q40
                  obtain ⟨_, _, ⟨T58, L58, k58, n58⟩, -, X58, ⟨Lc58, hQ58, l58, y58, z58⟩, st58⟩ := X37.virtualBack hx (y := (⟨"com/example/examwright/examwright/CompetitionScore", "isFeasible", "()Z"⟩ : MethodName)) (z := (⟨"com/example/examwright/examwright/CompetitionScore", "isFeasible", "()Z"⟩ : MethodName)) hown (mvT hZ (hw _ (List.mem_of_getElem? (i := 38) rfl))) (mvT hZ (hw _ (List.mem_of_getElem? (i := 39) rfl))) (notFace_of_selects (args := #[]) (mvT hZ (hw _ (List.mem_of_getElem? (i := 41) rfl)))) (mvT hZ (hw _ (List.mem_of_getElem? (i := 41) rfl))) (mvT hZ (hw _ (List.mem_of_getElem? (i := 40) rfl))) (by decide) (backOf (W := 0) (rm4 l Z a0 hw [] b22 v3_2 v16_5 v29_8 v44_11 v58_14 T37.heap n0 Z54 q41 q42 q43 q44 q45) hZ (hw _ (List.mem_of_getElem? (i := 42) rfl)) (hw _ (List.mem_of_getElem? (i := 2) rfl)) (by decide) (by decide)) iq59a iq59c (g := (mkF m 161 #[.val (.int i1), .val (.long j1), .second, .val (.long j2), .second, .val (.long j3), .second, .val (.long j4), .second, .val (.long j5), .second, .val (.long v3_2), .second, .val (.long v16_5), .second, .val (.long v29_8), .second, .val (.long v44_11), .second, .val (.long v58_14), .second, .val (.long v72_17), .second, .val (.long v88_20), .second, .val (.ref b22), .val (.int v149_56)] [(.ref b22)])) rfl (by rw [hml]; rfl) (Steps.refl _) (argsL := []) (rest := []) (lenOf pd_2 rfl) rfl (by show 2 * 0 + _ ≤ _; exact Nat.le_of_eq rfl) (hb hby at_161) (fun _ _ => ⟨rfl, rfl, (by decide : 1 + 0 ≤ _), (by decide : 12 + 0 ≤ _)⟩)
                  dsimp only [Pt.U, Pt.locs, Pt.cells, Pt.slots] at X58 l58 y58 z58 st58 hQ58
                  subst l58 y58 z58
                  obtain ⟨rfl, N60, eh61⟩ := hQ58
                  have N62 := Fr.app N53 N60
                  refine Go.via st58 ?_
                  show Go p e below Qo T58 (mkF m 164 #[.val (.int i1), .val (.long j1), .second, .val (.long j2), .second, .val (.long j3), .second, .val (.long j4), .second, .val (.long j5), .second, .val (.long v3_2), .second, .val (.long v16_5), .second, .val (.long v29_8), .second, .val (.long v44_11), .second, .val (.long v58_14), .second, .val (.long v72_17), .second, .val (.long v88_20), .second, .val (.ref b22), .val (.int v149_56)] [(.int (F4 v3_2 v16_5 v29_8 v44_11 v58_14))])
                  refine Go.of (fun t k => XS.iload X58.here hx rfl (hb hby at_164) rfl  k) ?_
                  show Go p e below Qo T58 (mkF m 166 #[.val (.int i1), .val (.long j1), .second, .val (.long j2), .second, .val (.long j3), .second, .val (.long j4), .second, .val (.long j5), .second, .val (.long v3_2), .second, .val (.long v16_5), .second, .val (.long v29_8), .second, .val (.long v44_11), .second, .val (.long v58_14), .second, .val (.long v72_17), .second, .val (.long v88_20), .second, .val (.ref b22), .val (.int v149_56)] [(.int v149_56), (.int (F4 v3_2 v16_5 v29_8 v44_11 v58_14))])
                  have J166_65 : ∀ (v166_64 : Int32), v166_64 = (if (F4 v3_2 v16_5 v29_8 v44_11 v58_14) = v149_56 then (1 : Int32) else (0 : Int32)) → Go p e below Qo T58 (mkF m 174 #[.val (.int i1), .val (.long j1), .second, .val (.long j2), .second, .val (.long j3), .second, .val (.long j4), .second, .val (.long j5), .second, .val (.long v3_2), .second, .val (.long v16_5), .second, .val (.long v29_8), .second, .val (.long v44_11), .second, .val (.long v58_14), .second, .val (.long v72_17), .second, .val (.long v88_20), .second, .val (.ref b22), .val (.int v149_56)] [(.int v166_64)]) := by
                    intro v166_64 hv166_64
                    show Go p e below Qo T58 (mkF m 174 #[.val (.int i1), .val (.long j1), .second, .val (.long j2), .second, .val (.long j3), .second, .val (.long j4), .second, .val (.long j5), .second, .val (.long v3_2), .second, .val (.long v16_5), .second, .val (.long v29_8), .second, .val (.long v44_11), .second, .val (.long v58_14), .second, .val (.long v72_17), .second, .val (.long v88_20), .second, .val (.ref b22), .val (.int v149_56)] [(.int v166_64)])
                    have hfin : v166_64 = 1 := by
                      exact hv166_64.trans (if_pos ((own_law _ _ _ _ _).trans hv149_56.symm))
                    exact own_retN X58 hx Bd.notSynchronized (t := .boolean) Bd.returns (by simp) (hb hby at_174) (fun u hu hF => hQo _ _ _ ⟨by rw [hfin]; rfl, N62⟩ (own_mono hF (by decide) (by decide)))
                  by_cases hc166_66 : (F4 v3_2 v16_5 v29_8 v44_11 v58_14) = v149_56
                  · refine Go.of (fun t k => XS.icmpNo X58.here hx rfl (hb hby at_166) rfl (teq hc166_66).2 k) ?_
                    show Go p e below Qo T58 (mkF m 169 #[.val (.int i1), .val (.long j1), .second, .val (.long j2), .second, .val (.long j3), .second, .val (.long j4), .second, .val (.long j5), .second, .val (.long v3_2), .second, .val (.long v16_5), .second, .val (.long v29_8), .second, .val (.long v44_11), .second, .val (.long v58_14), .second, .val (.long v72_17), .second, .val (.long v88_20), .second, .val (.ref b22), .val (.int v149_56)] [])
                    refine Go.of (fun t k => XS.iconst X58.here hx rfl (hb hby at_169) k) ?_
                    show Go p e below Qo T58 (mkF m 170 #[.val (.int i1), .val (.long j1), .second, .val (.long j2), .second, .val (.long j3), .second, .val (.long j4), .second, .val (.long j5), .second, .val (.long v3_2), .second, .val (.long v16_5), .second, .val (.long v29_8), .second, .val (.long v44_11), .second, .val (.long v58_14), .second, .val (.long v72_17), .second, .val (.long v88_20), .second, .val (.ref b22), .val (.int v149_56)] [(.int (1 : Int32))])
                    refine Go.of (fun t k => XS.goto X58.here hx rfl (pc0 := 170) (pc' := 174) rfl (hb hby at_170) (by decide) (by decide) k) ?_
                    show Go p e below Qo T58 (mkF m 174 #[.val (.int i1), .val (.long j1), .second, .val (.long j2), .second, .val (.long j3), .second, .val (.long j4), .second, .val (.long j5), .second, .val (.long v3_2), .second, .val (.long v16_5), .second, .val (.long v29_8), .second, .val (.long v44_11), .second, .val (.long v58_14), .second, .val (.long v72_17), .second, .val (.long v88_20), .second, .val (.ref b22), .val (.int v149_56)] [(.int (1 : Int32))])
                    exact J166_65 _ (by first | rfl | (rw [if_pos hc166_66]) | (simp only [hc166_66, if_true, if_false]; done) | simp [hc166_66])
                  · refine Go.of (fun t k => XS.icmpYes X58.here hx rfl (pc0 := 166) (pc' := 173) rfl (hb hby at_166) rfl (feq hc166_66).2 (by decide) (by decide) k) ?_
                    show Go p e below Qo T58 (mkF m 173 #[.val (.int i1), .val (.long j1), .second, .val (.long j2), .second, .val (.long j3), .second, .val (.long j4), .second, .val (.long j5), .second, .val (.long v3_2), .second, .val (.long v16_5), .second, .val (.long v29_8), .second, .val (.long v44_11), .second, .val (.long v58_14), .second, .val (.long v72_17), .second, .val (.long v88_20), .second, .val (.ref b22), .val (.int v149_56)] [])
                    refine Go.of (fun t k => XS.iconst X58.here hx rfl (hb hby at_173) k) ?_
                    show Go p e below Qo T58 (mkF m 174 #[.val (.int i1), .val (.long j1), .second, .val (.long j2), .second, .val (.long j3), .second, .val (.long j4), .second, .val (.long j5), .second, .val (.long v3_2), .second, .val (.long v16_5), .second, .val (.long v29_8), .second, .val (.long v44_11), .second, .val (.long v58_14), .second, .val (.long v72_17), .second, .val (.long v88_20), .second, .val (.ref b22), .val (.int v149_56)] [(.int (0 : Int32))])
                    exact J166_65 _ (by first | rfl | (rw [if_neg hc166_66]) | (simp only [hc166_66, if_true, if_false]; done) | simp [hc166_66])
                by_cases hc149_67 : ((((v3_2 ||| v16_5) ||| v29_8) ||| v44_11) ||| v58_14) = (0 : Int64)
                · refine Go.of (fun t k => XS.ifNo X37.here hx rfl (hb hby at_149) rfl ((if0 _ _).trans (teq ((lw_eq ((((v3_2 ||| v16_5) ||| v29_8) ||| v44_11) ||| v58_14) (0 : Int64)).mpr hc149_67)).2) k) ?_
                  show Go p e below Qo T37 (mkF m 152 #[.val (.int i1), .val (.long j1), .second, .val (.long j2), .second, .val (.long j3), .second, .val (.long j4), .second, .val (.long j5), .second, .val (.long v3_2), .second, .val (.long v16_5), .second, .val (.long v29_8), .second, .val (.long v44_11), .second, .val (.long v58_14), .second, .val (.long v72_17), .second, .val (.long v88_20), .second, .val (.ref b22), .unset] [])
                  refine Go.of (fun t k => XS.iconst X37.here hx rfl (hb hby at_152) k) ?_
                  show Go p e below Qo T37 (mkF m 153 #[.val (.int i1), .val (.long j1), .second, .val (.long j2), .second, .val (.long j3), .second, .val (.long j4), .second, .val (.long j5), .second, .val (.long v3_2), .second, .val (.long v16_5), .second, .val (.long v29_8), .second, .val (.long v44_11), .second, .val (.long v58_14), .second, .val (.long v72_17), .second, .val (.long v88_20), .second, .val (.ref b22), .unset] [(.int (1 : Int32))])
                  refine Go.of (fun t k => XS.goto X37.here hx rfl (pc0 := 153) (pc' := 157) rfl (hb hby at_153) (by decide) (by decide) k) ?_
                  show Go p e below Qo T37 (mkF m 157 #[.val (.int i1), .val (.long j1), .second, .val (.long j2), .second, .val (.long j3), .second, .val (.long j4), .second, .val (.long j5), .second, .val (.long v3_2), .second, .val (.long v16_5), .second, .val (.long v29_8), .second, .val (.long v44_11), .second, .val (.long v58_14), .second, .val (.long v72_17), .second, .val (.long v88_20), .second, .val (.ref b22), .unset] [(.int (1 : Int32))])
                  exact J149_57 _ (by first | rfl | (rw [if_pos hc149_67]) | (simp only [hc149_67, if_true, if_false]; done) | simp [hc149_67])
                · refine Go.of (fun t k => XS.ifYes X37.here hx rfl (pc0 := 149) (pc' := 156) rfl (hb hby at_149) rfl ((if0 _ _).trans (feq (fun z => hc149_67 ((lw_eq ((((v3_2 ||| v16_5) ||| v29_8) ||| v44_11) ||| v58_14) (0 : Int64)).mp z))).2) (by decide) (by decide) k) ?_
                  show Go p e below Qo T37 (mkF m 156 #[.val (.int i1), .val (.long j1), .second, .val (.long j2), .second, .val (.long j3), .second, .val (.long j4), .second, .val (.long j5), .second, .val (.long v3_2), .second, .val (.long v16_5), .second, .val (.long v29_8), .second, .val (.long v44_11), .second, .val (.long v58_14), .second, .val (.long v72_17), .second, .val (.long v88_20), .second, .val (.ref b22), .unset] [])
                  refine Go.of (fun t k => XS.iconst X37.here hx rfl (hb hby at_156) k) ?_
                  show Go p e below Qo T37 (mkF m 157 #[.val (.int i1), .val (.long j1), .second, .val (.long j2), .second, .val (.long j3), .second, .val (.long j4), .second, .val (.long j5), .second, .val (.long v3_2), .second, .val (.long v16_5), .second, .val (.long v29_8), .second, .val (.long v44_11), .second, .val (.long v58_14), .second, .val (.long v72_17), .second, .val (.long v88_20), .second, .val (.ref b22), .unset] [(.int (0 : Int32))])
                  exact J149_57 _ (by first | rfl | (rw [if_neg hc149_67]) | (simp only [hc149_67, if_true, if_false]; done) | simp [hc149_67])
              by_cases hc88_68 : (i1 &&& (64 : Int32)) = (0 : Int32)
              · refine Go.of (fun t k => XS.ifYes X0.here hx rfl (pc0 := 88) (pc' := 96) rfl (hb hby at_88) rfl ((if0 _ _).trans (teq hc88_68).1) (by decide) (by decide) k) ?_
                show Go p e below Qo s₁ (mkF m 96 #[.val (.int i1), .val (.long j1), .second, .val (.long j2), .second, .val (.long j3), .second, .val (.long j4), .second, .val (.long j5), .second, .val (.long v3_2), .second, .val (.long v16_5), .second, .val (.long v29_8), .second, .val (.long v44_11), .second, .val (.long v58_14), .second, .val (.long v72_17), .second, .unset, .unset, .unset, .unset] [])
                refine Go.of (fun t k => XS.lload X0.here hx rfl (hb hby at_96) rfl  k) ?_
                show Go p e below Qo s₁ (mkF m 98 #[.val (.int i1), .val (.long j1), .second, .val (.long j2), .second, .val (.long j3), .second, .val (.long j4), .second, .val (.long j5), .second, .val (.long v3_2), .second, .val (.long v16_5), .second, .val (.long v29_8), .second, .val (.long v44_11), .second, .val (.long v58_14), .second, .val (.long v72_17), .second, .unset, .unset, .unset, .unset] [(.long j4)])
                exact J88_21 _ (by first | rfl | (rw [if_pos hc88_68]) | (simp only [hc88_68, if_true, if_false]; done) | simp [hc88_68])
              · refine Go.of (fun t k => XS.ifNo X0.here hx rfl (hb hby at_88) rfl ((if0 _ _).trans (feq hc88_68).1) k) ?_
                show Go p e below Qo s₁ (mkF m 91 #[.val (.int i1), .val (.long j1), .second, .val (.long j2), .second, .val (.long j3), .second, .val (.long j4), .second, .val (.long j5), .second, .val (.long v3_2), .second, .val (.long v16_5), .second, .val (.long v29_8), .second, .val (.long v44_11), .second, .val (.long v58_14), .second, .val (.long v72_17), .second, .unset, .unset, .unset, .unset] [])
                refine Go.of (fun t k => XS.lload X0.here hx rfl (hb hby at_91) rfl  k) ?_
                show Go p e below Qo s₁ (mkF m 93 #[.val (.int i1), .val (.long j1), .second, .val (.long j2), .second, .val (.long j3), .second, .val (.long j4), .second, .val (.long j5), .second, .val (.long v3_2), .second, .val (.long v16_5), .second, .val (.long v29_8), .second, .val (.long v44_11), .second, .val (.long v58_14), .second, .val (.long v72_17), .second, .unset, .unset, .unset, .unset] [(.long j5)])
                refine Go.of (fun t k => XS.goto X0.here hx rfl (pc0 := 93) (pc' := 98) rfl (hb hby at_93) (by decide) (by decide) k) ?_
                show Go p e below Qo s₁ (mkF m 98 #[.val (.int i1), .val (.long j1), .second, .val (.long j2), .second, .val (.long j3), .second, .val (.long j4), .second, .val (.long j5), .second, .val (.long v3_2), .second, .val (.long v16_5), .second, .val (.long v29_8), .second, .val (.long v44_11), .second, .val (.long v58_14), .second, .val (.long v72_17), .second, .unset, .unset, .unset, .unset] [(.long j5)])
                exact J88_21 _ (by first | rfl | (rw [if_neg hc88_68]) | (simp only [hc88_68, if_true, if_false]; done) | simp [hc88_68])
            by_cases hc72_69 : (i1 &&& (32 : Int32)) = (0 : Int32)
            · refine Go.of (fun t k => XS.ifYes X0.here hx rfl (pc0 := 72) (pc' := 80) rfl (hb hby at_72) rfl ((if0 _ _).trans (teq hc72_69).1) (by decide) (by decide) k) ?_
              show Go p e below Qo s₁ (mkF m 80 #[.val (.int i1), .val (.long j1), .second, .val (.long j2), .second, .val (.long j3), .second, .val (.long j4), .second, .val (.long j5), .second, .val (.long v3_2), .second, .val (.long v16_5), .second, .val (.long v29_8), .second, .val (.long v44_11), .second, .val (.long v58_14), .second, .unset, .unset, .unset, .unset, .unset, .unset] [])
              refine Go.of (fun t k => XS.lload X0.here hx rfl (hb hby at_80) rfl  k) ?_
              show Go p e below Qo s₁ (mkF m 82 #[.val (.int i1), .val (.long j1), .second, .val (.long j2), .second, .val (.long j3), .second, .val (.long j4), .second, .val (.long j5), .second, .val (.long v3_2), .second, .val (.long v16_5), .second, .val (.long v29_8), .second, .val (.long v44_11), .second, .val (.long v58_14), .second, .unset, .unset, .unset, .unset, .unset, .unset] [(.long j5)])
              exact J72_18 _ (by first | rfl | (rw [if_pos hc72_69]) | (simp only [hc72_69, if_true, if_false]; done) | simp [hc72_69])
            · refine Go.of (fun t k => XS.ifNo X0.here hx rfl (hb hby at_72) rfl ((if0 _ _).trans (feq hc72_69).1) k) ?_
              show Go p e below Qo s₁ (mkF m 75 #[.val (.int i1), .val (.long j1), .second, .val (.long j2), .second, .val (.long j3), .second, .val (.long j4), .second, .val (.long j5), .second, .val (.long v3_2), .second, .val (.long v16_5), .second, .val (.long v29_8), .second, .val (.long v44_11), .second, .val (.long v58_14), .second, .unset, .unset, .unset, .unset, .unset, .unset] [])
              refine Go.of (fun t k => XS.lload X0.here hx rfl (hb hby at_75) rfl  k) ?_
              show Go p e below Qo s₁ (mkF m 77 #[.val (.int i1), .val (.long j1), .second, .val (.long j2), .second, .val (.long j3), .second, .val (.long j4), .second, .val (.long j5), .second, .val (.long v3_2), .second, .val (.long v16_5), .second, .val (.long v29_8), .second, .val (.long v44_11), .second, .val (.long v58_14), .second, .unset, .unset, .unset, .unset, .unset, .unset] [(.long j4)])
              refine Go.of (fun t k => XS.goto X0.here hx rfl (pc0 := 77) (pc' := 82) rfl (hb hby at_77) (by decide) (by decide) k) ?_
              show Go p e below Qo s₁ (mkF m 82 #[.val (.int i1), .val (.long j1), .second, .val (.long j2), .second, .val (.long j3), .second, .val (.long j4), .second, .val (.long j5), .second, .val (.long v3_2), .second, .val (.long v16_5), .second, .val (.long v29_8), .second, .val (.long v44_11), .second, .val (.long v58_14), .second, .unset, .unset, .unset, .unset, .unset, .unset] [(.long j4)])
              exact J72_18 _ (by first | rfl | (rw [if_neg hc72_69]) | (simp only [hc72_69, if_true, if_false]; done) | simp [hc72_69])
          by_cases hc58_70 : (i1 &&& (16 : Int32)) = (0 : Int32)
          · refine Go.of (fun t k => XS.ifYes X0.here hx rfl (pc0 := 58) (pc' := 65) rfl (hb hby at_58) rfl ((if0 _ _).trans (teq hc58_70).1) (by decide) (by decide) k) ?_
            show Go p e below Qo s₁ (mkF m 65 #[.val (.int i1), .val (.long j1), .second, .val (.long j2), .second, .val (.long j3), .second, .val (.long j4), .second, .val (.long j5), .second, .val (.long v3_2), .second, .val (.long v16_5), .second, .val (.long v29_8), .second, .val (.long v44_11), .second, .unset, .unset, .unset, .unset, .unset, .unset, .unset, .unset] [])
            refine Go.of (fun t k => XS.lconst X0.here hx rfl (hb hby at_65) k) ?_
            show Go p e below Qo s₁ (mkF m 66 #[.val (.int i1), .val (.long j1), .second, .val (.long j2), .second, .val (.long j3), .second, .val (.long j4), .second, .val (.long j5), .second, .val (.long v3_2), .second, .val (.long v16_5), .second, .val (.long v29_8), .second, .val (.long v44_11), .second, .unset, .unset, .unset, .unset, .unset, .unset, .unset, .unset] [(.long (0 : Int64))])
            exact J58_15 _ (by first | rfl | (rw [if_pos hc58_70]) | (simp only [hc58_70, if_true, if_false]; done) | simp [hc58_70])
          · refine Go.of (fun t k => XS.ifNo X0.here hx rfl (hb hby at_58) rfl ((if0 _ _).trans (feq hc58_70).1) k) ?_
            show Go p e below Qo s₁ (mkF m 61 #[.val (.int i1), .val (.long j1), .second, .val (.long j2), .second, .val (.long j3), .second, .val (.long j4), .second, .val (.long j5), .second, .val (.long v3_2), .second, .val (.long v16_5), .second, .val (.long v29_8), .second, .val (.long v44_11), .second, .unset, .unset, .unset, .unset, .unset, .unset, .unset, .unset] [])
            refine Go.of (fun t k => XS.lloadN X0.here hx rfl (hb hby at_61) rfl  k) ?_
            show Go p e below Qo s₁ (mkF m 62 #[.val (.int i1), .val (.long j1), .second, .val (.long j2), .second, .val (.long j3), .second, .val (.long j4), .second, .val (.long j5), .second, .val (.long v3_2), .second, .val (.long v16_5), .second, .val (.long v29_8), .second, .val (.long v44_11), .second, .unset, .unset, .unset, .unset, .unset, .unset, .unset, .unset] [(.long j2)])
            refine Go.of (fun t k => XS.goto X0.here hx rfl (pc0 := 62) (pc' := 66) rfl (hb hby at_62) (by decide) (by decide) k) ?_
            show Go p e below Qo s₁ (mkF m 66 #[.val (.int i1), .val (.long j1), .second, .val (.long j2), .second, .val (.long j3), .second, .val (.long j4), .second, .val (.long j5), .second, .val (.long v3_2), .second, .val (.long v16_5), .second, .val (.long v29_8), .second, .val (.long v44_11), .second, .unset, .unset, .unset, .unset, .unset, .unset, .unset, .unset] [(.long j2)])
            exact J58_15 _ (by first | rfl | (rw [if_neg hc58_70]) | (simp only [hc58_70, if_true, if_false]; done) | simp [hc58_70])
        by_cases hc44_71 : (i1 &&& (8 : Int32)) = (0 : Int32)
        · refine Go.of (fun t k => XS.ifYes X0.here hx rfl (pc0 := 44) (pc' := 51) rfl (hb hby at_44) rfl ((if0 _ _).trans (teq hc44_71).1) (by decide) (by decide) k) ?_
          show Go p e below Qo s₁ (mkF m 51 #[.val (.int i1), .val (.long j1), .second, .val (.long j2), .second, .val (.long j3), .second, .val (.long j4), .second, .val (.long j5), .second, .val (.long v3_2), .second, .val (.long v16_5), .second, .val (.long v29_8), .second, .unset, .unset, .unset, .unset, .unset, .unset, .unset, .unset, .unset, .unset] [])
          refine Go.of (fun t k => XS.lconst X0.here hx rfl (hb hby at_51) k) ?_
          show Go p e below Qo s₁ (mkF m 52 #[.val (.int i1), .val (.long j1), .second, .val (.long j2), .second, .val (.long j3), .second, .val (.long j4), .second, .val (.long j5), .second, .val (.long v3_2), .second, .val (.long v16_5), .second, .val (.long v29_8), .second, .unset, .unset, .unset, .unset, .unset, .unset, .unset, .unset, .unset, .unset] [(.long (0 : Int64))])
          exact J44_12 _ (by first | rfl | (rw [if_pos hc44_71]) | (simp only [hc44_71, if_true, if_false]; done) | simp [hc44_71])
        · refine Go.of (fun t k => XS.ifNo X0.here hx rfl (hb hby at_44) rfl ((if0 _ _).trans (feq hc44_71).1) k) ?_
          show Go p e below Qo s₁ (mkF m 47 #[.val (.int i1), .val (.long j1), .second, .val (.long j2), .second, .val (.long j3), .second, .val (.long j4), .second, .val (.long j5), .second, .val (.long v3_2), .second, .val (.long v16_5), .second, .val (.long v29_8), .second, .unset, .unset, .unset, .unset, .unset, .unset, .unset, .unset, .unset, .unset] [])
          refine Go.of (fun t k => XS.lloadN X0.here hx rfl (hb hby at_47) rfl  k) ?_
          show Go p e below Qo s₁ (mkF m 48 #[.val (.int i1), .val (.long j1), .second, .val (.long j2), .second, .val (.long j3), .second, .val (.long j4), .second, .val (.long j5), .second, .val (.long v3_2), .second, .val (.long v16_5), .second, .val (.long v29_8), .second, .unset, .unset, .unset, .unset, .unset, .unset, .unset, .unset, .unset, .unset] [(.long j1)])
          refine Go.of (fun t k => XS.goto X0.here hx rfl (pc0 := 48) (pc' := 52) rfl (hb hby at_48) (by decide) (by decide) k) ?_
          show Go p e below Qo s₁ (mkF m 52 #[.val (.int i1), .val (.long j1), .second, .val (.long j2), .second, .val (.long j3), .second, .val (.long j4), .second, .val (.long j5), .second, .val (.long v3_2), .second, .val (.long v16_5), .second, .val (.long v29_8), .second, .unset, .unset, .unset, .unset, .unset, .unset, .unset, .unset, .unset, .unset] [(.long j1)])
          exact J44_12 _ (by first | rfl | (rw [if_neg hc44_71]) | (simp only [hc44_71, if_true, if_false]; done) | simp [hc44_71])
      by_cases hc29_72 : (i1 &&& (4 : Int32)) = (0 : Int32)
      · refine Go.of (fun t k => XS.ifYes X0.here hx rfl (pc0 := 29) (pc' := 37) rfl (hb hby at_29) rfl ((if0 _ _).trans (teq hc29_72).1) (by decide) (by decide) k) ?_
        show Go p e below Qo s₁ (mkF m 37 #[.val (.int i1), .val (.long j1), .second, .val (.long j2), .second, .val (.long j3), .second, .val (.long j4), .second, .val (.long j5), .second, .val (.long v3_2), .second, .val (.long v16_5), .second, .unset, .unset, .unset, .unset, .unset, .unset, .unset, .unset, .unset, .unset, .unset, .unset] [])
        refine Go.of (fun t k => XS.lconst X0.here hx rfl (hb hby at_37) k) ?_
        show Go p e below Qo s₁ (mkF m 38 #[.val (.int i1), .val (.long j1), .second, .val (.long j2), .second, .val (.long j3), .second, .val (.long j4), .second, .val (.long j5), .second, .val (.long v3_2), .second, .val (.long v16_5), .second, .unset, .unset, .unset, .unset, .unset, .unset, .unset, .unset, .unset, .unset, .unset, .unset] [(.long (0 : Int64))])
        exact J29_9 _ (by first | rfl | (rw [if_pos hc29_72]) | (simp only [hc29_72, if_true, if_false]; done) | simp [hc29_72])
      · refine Go.of (fun t k => XS.ifNo X0.here hx rfl (hb hby at_29) rfl ((if0 _ _).trans (feq hc29_72).1) k) ?_
        show Go p e below Qo s₁ (mkF m 32 #[.val (.int i1), .val (.long j1), .second, .val (.long j2), .second, .val (.long j3), .second, .val (.long j4), .second, .val (.long j5), .second, .val (.long v3_2), .second, .val (.long v16_5), .second, .unset, .unset, .unset, .unset, .unset, .unset, .unset, .unset, .unset, .unset, .unset, .unset] [])
        refine Go.of (fun t k => XS.lload X0.here hx rfl (hb hby at_32) rfl  k) ?_
        show Go p e below Qo s₁ (mkF m 34 #[.val (.int i1), .val (.long j1), .second, .val (.long j2), .second, .val (.long j3), .second, .val (.long j4), .second, .val (.long j5), .second, .val (.long v3_2), .second, .val (.long v16_5), .second, .unset, .unset, .unset, .unset, .unset, .unset, .unset, .unset, .unset, .unset, .unset, .unset] [(.long j3)])
        refine Go.of (fun t k => XS.goto X0.here hx rfl (pc0 := 34) (pc' := 38) rfl (hb hby at_34) (by decide) (by decide) k) ?_
        show Go p e below Qo s₁ (mkF m 38 #[.val (.int i1), .val (.long j1), .second, .val (.long j2), .second, .val (.long j3), .second, .val (.long j4), .second, .val (.long j5), .second, .val (.long v3_2), .second, .val (.long v16_5), .second, .unset, .unset, .unset, .unset, .unset, .unset, .unset, .unset, .unset, .unset, .unset, .unset] [(.long j3)])
        exact J29_9 _ (by first | rfl | (rw [if_neg hc29_72]) | (simp only [hc29_72, if_true, if_false]; done) | simp [hc29_72])
    by_cases hc16_73 : (i1 &&& (2 : Int32)) = (0 : Int32)
    · refine Go.of (fun t k => XS.ifYes X0.here hx rfl (pc0 := 16) (pc' := 23) rfl (hb hby at_16) rfl ((if0 _ _).trans (teq hc16_73).1) (by decide) (by decide) k) ?_
      show Go p e below Qo s₁ (mkF m 23 #[.val (.int i1), .val (.long j1), .second, .val (.long j2), .second, .val (.long j3), .second, .val (.long j4), .second, .val (.long j5), .second, .val (.long v3_2), .second, .unset, .unset, .unset, .unset, .unset, .unset, .unset, .unset, .unset, .unset, .unset, .unset, .unset, .unset] [])
      refine Go.of (fun t k => XS.lconst X0.here hx rfl (hb hby at_23) k) ?_
      show Go p e below Qo s₁ (mkF m 24 #[.val (.int i1), .val (.long j1), .second, .val (.long j2), .second, .val (.long j3), .second, .val (.long j4), .second, .val (.long j5), .second, .val (.long v3_2), .second, .unset, .unset, .unset, .unset, .unset, .unset, .unset, .unset, .unset, .unset, .unset, .unset, .unset, .unset] [(.long (0 : Int64))])
      exact J16_6 _ (by first | rfl | (rw [if_pos hc16_73]) | (simp only [hc16_73, if_true, if_false]; done) | simp [hc16_73])
    · refine Go.of (fun t k => XS.ifNo X0.here hx rfl (hb hby at_16) rfl ((if0 _ _).trans (feq hc16_73).1) k) ?_
      show Go p e below Qo s₁ (mkF m 19 #[.val (.int i1), .val (.long j1), .second, .val (.long j2), .second, .val (.long j3), .second, .val (.long j4), .second, .val (.long j5), .second, .val (.long v3_2), .second, .unset, .unset, .unset, .unset, .unset, .unset, .unset, .unset, .unset, .unset, .unset, .unset, .unset, .unset] [])
      refine Go.of (fun t k => XS.lloadN X0.here hx rfl (hb hby at_19) rfl  k) ?_
      show Go p e below Qo s₁ (mkF m 20 #[.val (.int i1), .val (.long j1), .second, .val (.long j2), .second, .val (.long j3), .second, .val (.long j4), .second, .val (.long j5), .second, .val (.long v3_2), .second, .unset, .unset, .unset, .unset, .unset, .unset, .unset, .unset, .unset, .unset, .unset, .unset, .unset, .unset] [(.long j2)])
      refine Go.of (fun t k => XS.goto X0.here hx rfl (pc0 := 20) (pc' := 24) rfl (hb hby at_20) (by decide) (by decide) k) ?_
      show Go p e below Qo s₁ (mkF m 24 #[.val (.int i1), .val (.long j1), .second, .val (.long j2), .second, .val (.long j3), .second, .val (.long j4), .second, .val (.long j5), .second, .val (.long v3_2), .second, .unset, .unset, .unset, .unset, .unset, .unset, .unset, .unset, .unset, .unset, .unset, .unset, .unset, .unset] [(.long j2)])
      exact J16_6 _ (by first | rfl | (rw [if_neg hc16_73]) | (simp only [hc16_73, if_true, if_false]; done) | simp [hc16_73])
  by_cases hc3_74 : (i1 &&& (1 : Int32)) = (0 : Int32)
  · refine Go.of (fun t k => XS.ifYes X0.here hx rfl (pc0 := 3) (pc' := 10) rfl (hb hby at_3) rfl ((if0 _ _).trans (teq hc3_74).1) (by decide) (by decide) k) ?_
    show Go p e below Qo s₁ (mkF m 10 #[.val (.int i1), .val (.long j1), .second, .val (.long j2), .second, .val (.long j3), .second, .val (.long j4), .second, .val (.long j5), .second, .unset, .unset, .unset, .unset, .unset, .unset, .unset, .unset, .unset, .unset, .unset, .unset, .unset, .unset, .unset, .unset] [])
    refine Go.of (fun t k => XS.lconst X0.here hx rfl (hb hby at_10) k) ?_
    show Go p e below Qo s₁ (mkF m 11 #[.val (.int i1), .val (.long j1), .second, .val (.long j2), .second, .val (.long j3), .second, .val (.long j4), .second, .val (.long j5), .second, .unset, .unset, .unset, .unset, .unset, .unset, .unset, .unset, .unset, .unset, .unset, .unset, .unset, .unset, .unset, .unset] [(.long (0 : Int64))])
    exact J3_3 _ (by first | rfl | (rw [if_pos hc3_74]) | (simp only [hc3_74, if_true, if_false]; done) | simp [hc3_74])
  · refine Go.of (fun t k => XS.ifNo X0.here hx rfl (hb hby at_3) rfl ((if0 _ _).trans (feq hc3_74).1) k) ?_
    show Go p e below Qo s₁ (mkF m 6 #[.val (.int i1), .val (.long j1), .second, .val (.long j2), .second, .val (.long j3), .second, .val (.long j4), .second, .val (.long j5), .second, .unset, .unset, .unset, .unset, .unset, .unset, .unset, .unset, .unset, .unset, .unset, .unset, .unset, .unset, .unset, .unset] [])
    refine Go.of (fun t k => XS.lloadN X0.here hx rfl (hb hby at_6) rfl  k) ?_
    show Go p e below Qo s₁ (mkF m 7 #[.val (.int i1), .val (.long j1), .second, .val (.long j2), .second, .val (.long j3), .second, .val (.long j4), .second, .val (.long j5), .second, .unset, .unset, .unset, .unset, .unset, .unset, .unset, .unset, .unset, .unset, .unset, .unset, .unset, .unset, .unset, .unset] [(.long j1)])
    refine Go.of (fun t k => XS.goto X0.here hx rfl (pc0 := 7) (pc' := 11) rfl (hb hby at_7) (by decide) (by decide) k) ?_
    show Go p e below Qo s₁ (mkF m 11 #[.val (.int i1), .val (.long j1), .second, .val (.long j2), .second, .val (.long j3), .second, .val (.long j4), .second, .val (.long j5), .second, .unset, .unset, .unset, .unset, .unset, .unset, .unset, .unset, .unset, .unset, .unset, .unset, .unset, .unset, .unset, .unset] [(.long j1)])
    exact J3_3 _ (by first | rfl | (rw [if_neg hc3_74]) | (simp only [hc3_74, if_true, if_false]; done) | simp [hc3_74])
set_option maxRecDepth 65536 in
set_option maxHeartbeats 40000000 in
theorem comes_1 {Post : Tables → Env → Array Value → State → Outcome → State → Prop} (hpost : ∀ tb e args s v u, (limb_1_1.after args s (.returned v) u = true ∧ limb_1_2.after args s (.returned v) u = true ∧ True) → FrameEnd s (.returned v) u (Jvm.fieldLocs frame_1_writes args s ++ Jvm.arrayLocs frame_1_arrays args s ++ Jvm.staticLocs frame_1_statics s) 16 128 → Post tb e args s (.returned v) u) :
    ArmFor flags0 classFile x code maxLocals ret World_1 tables_1 room_1 Calls_1 rest_1 Pre_1 Post := by
  intro l hfl _ _ p e ha hc hk s m args below hf hA hF happ hP
  obtain ⟨hcalls, hrest, hpre⟩ := hP
  obtain ⟨-, -, -, hnamed, -, -, -, hat⟩ := (Spec.applies_iff hf).mp happ
  obtain ⟨hg, hn⟩ := and_e (Cond.before_iff.mp (show (Jvm.Cond.and given_1 narrow_1).before args s = true from hpre))
  obtain ⟨hg0, hgr0⟩ := and_e hg
  obtain ⟨ha0, hgr1⟩ := and_e hgr0
  obtain ⟨ha1, hgr2⟩ := and_e hgr1
  obtain ⟨ha2, hgr3⟩ := and_e hgr2
  obtain ⟨ha3, hgr4⟩ := and_e hgr3
  obtain ⟨ha4, hgr5⟩ := and_e hgr4
  obtain ⟨w0, w1, w2, w3, w4, w5, rfl⟩ : ∃ w0 w1 w2 w3 w4 w5 : Value, args = #[w0, w1, w2, w3, w4, w5] := by
    have hs : args.size = 6 := by simpa [Cond.value, given_1] using hg0
    obtain ⟨L⟩ := args
    match L, hs with
    | [w0, w1, w2, w3, w4, w5], _ => exact ⟨w0, w1, w2, w3, w4, w5, rfl⟩
  have hw := fun d (hd : d ∈ tables_1) => atoms_spec (ws := Jvm.Cond.code x code maxLocals ret :: tables_1) hat d (List.mem_cons_of_mem _ hd)
  have hfit : Fit s := fun {y c} hc i hi => by
    obtain ⟨ha, rfl⟩ := Array.getElem?_eq_some_iff.mp hc
    have q := List.all_eq_true.mp ((Array.all_eq_true_iff_forall_mem.mp hF) _ (Array.getElem_mem ha)) i (List.mem_range.mpr hi)
    simpa [Array.getElem?_eq_getElem hi] using q
  obtain ⟨i0, ei0⟩ := is_v ha0
  obtain rfl : w0 = (.int i0) := Option.some.inj ei0
  obtain ⟨i1, ei1⟩ := isL_v ha1
  obtain rfl : w1 = (.long i1) := Option.some.inj ei1
  obtain ⟨i2, ei2⟩ := isL_v ha2
  obtain rfl : w2 = (.long i2) := Option.some.inj ei2
  obtain ⟨i3, ei3⟩ := isL_v ha3
  obtain rfl : w3 = (.long i3) := Option.some.inj ei3
  obtain ⟨i4, ei4⟩ := isL_v ha4
  obtain rfl : w4 = (.long i4) := Option.some.inj ei4
  obtain ⟨i5, ei5⟩ := isL_v hgr5
  obtain rfl : w5 = (.long i5) := Option.some.inj ei5
  obtain ⟨n, o, h1, h2, h3, _, L, rfl, ⟨rfl, N⟩, hq⟩ := rm0 l s _ hw tables_1 i0 i1 i2 i3 i4 i5  s.heap s.heap.size (Nat.le_refl _)  p e ha hc hk s m _ below hf ((Spec.applies_iff_loose hf).mp happ).1 ⟨rfl, State.Warmed39.refl s, rfl⟩ trivial
  refine ⟨n, _, h1, h2, h3, hpost _ _ _ _ _ _ ⟨Cond.after_iff.mpr rfl, Cond.after_iff.mpr (eq_i res_at (Term.int_eval (1)) rfl), trivial⟩ ⟨hq.1, hq.2.1, (hq.2.2.sift fun y hy => Or.inr (N y hy)).mono (by decide) (by decide)⟩⟩
theorem main_1_1 : Claimed_1_1 := comes_1 fun _ _ _ _ _ _ h hF => ⟨h.1, hF⟩
theorem main_1_2 : Claimed_1_2 := comes_1 fun _ _ _ _ _ _ h hF => ⟨h.2.1, hF⟩
end Jvm.Pilot.@@N@@
namespace Jvm.Pilot.@@N@@
open Jvm Jvm.ClassFile Sem Op Lib Jvm.Free Jvm.Stand Jvm.Pilot.@@N@@.Jvm.D
/-! MADE BY PROGRAM (witnessworld.py) out of the Statement's table words and the real class files: 10 classes; the members and pool entries that the words name. The judged class is class 1, her method 1. -/
namespace start1
open Jvm.ClassFile
def u (s : String) : CpInfo := .utf8 (stringToUtf16 s)
/-- a pool by its gaps: so many unusable entries, then the entry; so many at the end -/
def gap : Nat → List CpInfo → List CpInfo
  | 0, r => r
  | n + 1, r => .unusable :: gap n r
def poolList (es : List (Nat × CpInfo)) (last : Nat) : List CpInfo := es.foldr (fun e r => gap e.1 (e.2 :: r)) (gap last [])
def pool (es : List (Nat × CpInfo)) (last : Nat) : Array CpInfo := ⟨poolList es last⟩
def fileOf (pool : Array CpInfo) (this : Nat) (attrs : Array Attribute := #[]) (ms : Array MethodInfo := #[]) (fl : Nat := 33) (sup : Nat := 0) (ifs : Array Nat := #[]) (fds : Array FieldInfo := #[]) : ClassFile where
  minorVersion := 0
  majorVersion := 65
  constantPool := pool
  accessFlags := fl
  thisClass := this
  superClass := sup
  interfaces := ifs
  fields := fds
  methods := ms
  attributes := attrs
def plain (name : String) (sup : Option ClassId) : Class where
  name := name
  kind := .ordinary
  loader := none
  accessFlags := 33
  super := sup
  interfaces := #[]
  cf := none
  fields := #[]
  methods := #[]
  instanceTypes := #[]
  staticTypes := #[]
  resolved := #[]
  callSites := []
  init := .initialized
  statics := none
  mirror := none

def pool0 : Array CpInfo := pool [(5, u "<init>"), (0, u "()V"), (1, .class_ 10), (1, u "java/lang/Object")] 113

def k0c0 : Code := { maxStack := 0, maxLocals := 1, code := object_method_1_code, exceptionTable := #[], attributes := #[] }
def k0m0 : Method := { name := "<init>", desc := "()V", sig := { parameters := [], returnType := none }, accessFlags := 1, code := some k0c0 }
/-- java/lang/Object -/
def k0 : Class := { plain "java/lang/Object" none with
  accessFlags := 33
  interfaces := #[]
  cf := some (fileOf pool0 8 #[] #[{ accessFlags := 1, nameIndex := 5, descriptorIndex := 6, attributes := #[] }] 33 0 #[] #[])
  fields := #[]
  methods := #[k0m0]
  instanceTypes := #[]
  staticTypes := #[]
  resolved := Array.replicate 124 none
  statics := none }

def pool1 : Array CpInfo := pool [(2, .class_ 4), (1, u "java/lang/Object"), (0, u "<init>"), (0, u "()V"), (0, .class_ 8), (0, u "com/example/examwright/examwright/CompetitionScore"), (0, .methodref 7 10), (0, .nameAndType 5 11), (0, u "(JJJJJJJJJJJJ)V"), (0, .methodref 7 13), (0, .nameAndType 14 15), (0, u "isFeasible"), (0, u "()Z"), (0, .class_ 17), (0, u "com/example/examwright/examwright/CompetitionScoreIsFeasiblePinLaw"), (2, u "law"), (0, u "(IJJJJJ)Z")] 3

def k1m0 : Method := { name := "<init>", desc := "()V", sig := { parameters := [], returnType := none }, accessFlags := 1, code := none }
def k1c1 : Code := { maxStack := 26, maxLocals := 27, code := code, exceptionTable := #[], attributes := #[] }
def k1m1 : Method := { name := "law", desc := "(IJJJJJ)Z", sig := { parameters := [.int, .long, .long, .long, .long, .long], returnType := some .boolean }, accessFlags := 9, code := some k1c1 }
/-- com/example/examwright/examwright/CompetitionScoreIsFeasiblePinLaw -/
def k1 : Class := { plain "com/example/examwright/examwright/CompetitionScoreIsFeasiblePinLaw" (some 0) with
  accessFlags := 49
  interfaces := #[]
  cf := some (fileOf pool1 16 #[] #[{ accessFlags := 1, nameIndex := 5, descriptorIndex := 6, attributes := #[] }, { accessFlags := 9, nameIndex := 20, descriptorIndex := 21, attributes := #[] }] 49 2 #[] #[])
  fields := #[]
  methods := #[k1m0, k1m1]
  instanceTypes := #[]
  staticTypes := #[]
  resolved := Array.replicate 25 none
  statics := none }

def pool2 : Array CpInfo := pool [(1, .methodref 2 3), (0, .class_ 4), (0, .nameAndType 5 6), (0, u "java/lang/Object"), (0, u "<init>"), (0, u "()V"), (0, .class_ 8), (0, u "java/lang/Record")] 13

def k2c0 : Code := { maxStack := 1, maxLocals := 1, code := jdk_30_method_1_code, exceptionTable := #[], attributes := #[] }
def k2m0 : Method := { name := "<init>", desc := "()V", sig := { parameters := [], returnType := none }, accessFlags := 4, code := some k2c0 }
/-- java/lang/Record -/
def k2 : Class := { plain "java/lang/Record" (some 0) with
  accessFlags := 1057
  interfaces := #[]
  cf := some (fileOf pool2 7 #[] #[{ accessFlags := 4, nameIndex := 5, descriptorIndex := 6, attributes := #[] }] 1057 2 #[] #[])
  fields := #[]
  methods := #[k2m0]
  instanceTypes := #[]
  staticTypes := #[]
  resolved := Array.replicate 22 none
  statics := none }

def pool3 : Array CpInfo := pool [(1, .methodref 2 3), (0, .class_ 4), (0, .nameAndType 5 6), (0, u "java/lang/Record"), (0, u "<init>"), (0, u "()V"), (0, .fieldref 8 9), (0, .class_ 10), (0, .nameAndType 11 12), (0, u "com/example/examwright/examwright/CompetitionScore"), (0, u "conflicts"), (0, u "J"), (0, .fieldref 8 14), (0, .nameAndType 15 12), (0, u "roomOccupancy"), (0, .fieldref 8 17), (0, .nameAndType 18 12), (0, u "periodUtilisation"), (0, .fieldref 8 20), (0, .nameAndType 21 12), (0, u "periodRelated"), (0, .fieldref 8 23), (0, .nameAndType 24 12), (0, u "roomRelated"), (0, .fieldref 8 26), (0, .nameAndType 27 12), (0, u "twoInARow"), (0, .fieldref 8 29), (0, .nameAndType 30 12), (0, u "twoInADay"), (0, .fieldref 8 32), (0, .nameAndType 33 12), (0, u "periodSpread"), (0, .fieldref 8 35), (0, .nameAndType 36 12), (0, u "mixedDurations"), (0, .fieldref 8 38), (0, .nameAndType 39 12), (0, u "frontLoad"), (0, .fieldref 8 41), (0, .nameAndType 42 12), (0, u "periodPenalty"), (0, .fieldref 8 44), (0, .nameAndType 45 12), (0, u "roomPenalty"), (0, .class_ 47), (0, u "com/example/examwright/examwright/CompetitionScore$Tally"), (50, u "(JJJJJJJJJJJJ)V"), (67, u "isFeasible"), (0, u "()Z"), (10, .class_ 179), (0, u "com/example/examwright/examwright/CompetitionScore$1")] 39

def k3c0 : Code := { maxStack := 3, maxLocals := 25, code := prog_13_method_1_code, exceptionTable := #[], attributes := #[] }
def k3m0 : Method := { name := "<init>", desc := "(JJJJJJJJJJJJ)V", sig := { parameters := [.long, .long, .long, .long, .long, .long, .long, .long, .long, .long, .long, .long], returnType := none }, accessFlags := 0, code := some k3c0 }
def k3c1 : Code := { maxStack := 4, maxLocals := 1, code := prog_13_method_3_code, exceptionTable := #[], attributes := #[] }
def k3m1 : Method := { name := "isFeasible", desc := "()Z", sig := { parameters := [], returnType := some .boolean }, accessFlags := 0, code := some k3c1 }
/-- com/example/examwright/examwright/CompetitionScore -/
def k3 : Class := { plain "com/example/examwright/examwright/CompetitionScore" (some 2) with
  accessFlags := 48
  interfaces := #[]
  cf := some (fileOf pool3 8 #[.nestMembers #[178, 46]] #[{ accessFlags := 0, nameIndex := 5, descriptorIndex := 98, attributes := #[] }, { accessFlags := 0, nameIndex := 166, descriptorIndex := 167, attributes := #[] }] 48 2 #[] #[{ accessFlags := 18, nameIndex := 11, descriptorIndex := 12, attributes := #[] }, { accessFlags := 18, nameIndex := 15, descriptorIndex := 12, attributes := #[] }, { accessFlags := 18, nameIndex := 18, descriptorIndex := 12, attributes := #[] }, { accessFlags := 18, nameIndex := 21, descriptorIndex := 12, attributes := #[] }, { accessFlags := 18, nameIndex := 24, descriptorIndex := 12, attributes := #[] }, { accessFlags := 18, nameIndex := 27, descriptorIndex := 12, attributes := #[] }, { accessFlags := 18, nameIndex := 30, descriptorIndex := 12, attributes := #[] }, { accessFlags := 18, nameIndex := 33, descriptorIndex := 12, attributes := #[] }, { accessFlags := 18, nameIndex := 36, descriptorIndex := 12, attributes := #[] }, { accessFlags := 18, nameIndex := 39, descriptorIndex := 12, attributes := #[] }, { accessFlags := 18, nameIndex := 42, descriptorIndex := 12, attributes := #[] }, { accessFlags := 18, nameIndex := 45, descriptorIndex := 12, attributes := #[] }])
  fields := #[{ name := "conflicts", type := .long, accessFlags := 18, slot := 0, constantValue := 0 }, { name := "roomOccupancy", type := .long, accessFlags := 18, slot := 1, constantValue := 0 }, { name := "periodUtilisation", type := .long, accessFlags := 18, slot := 2, constantValue := 0 }, { name := "periodRelated", type := .long, accessFlags := 18, slot := 3, constantValue := 0 }, { name := "roomRelated", type := .long, accessFlags := 18, slot := 4, constantValue := 0 }, { name := "twoInARow", type := .long, accessFlags := 18, slot := 5, constantValue := 0 }, { name := "twoInADay", type := .long, accessFlags := 18, slot := 6, constantValue := 0 }, { name := "periodSpread", type := .long, accessFlags := 18, slot := 7, constantValue := 0 }, { name := "mixedDurations", type := .long, accessFlags := 18, slot := 8, constantValue := 0 }, { name := "frontLoad", type := .long, accessFlags := 18, slot := 9, constantValue := 0 }, { name := "periodPenalty", type := .long, accessFlags := 18, slot := 10, constantValue := 0 }, { name := "roomPenalty", type := .long, accessFlags := 18, slot := 11, constantValue := 0 }]
  methods := #[k3m0, k3m1]
  instanceTypes := #[.long, .long, .long, .long, .long, .long, .long, .long, .long, .long, .long, .long]
  staticTypes := #[]
  resolved := Array.replicate 219 none
  statics := none }

def pool4 : Array CpInfo := pool [(1, u "java/lang/Cloneable"), (0, .class_ 1), (0, u "java/lang/Object"), (0, .class_ 3)] 3

/-- java/lang/Cloneable -/
def k4 : Class := { plain "java/lang/Cloneable" (some 0) with
  accessFlags := 1537
  interfaces := #[]
  cf := some (fileOf pool4 2 #[] #[] 1537 4 #[] #[])
  fields := #[]
  methods := #[]
  instanceTypes := #[]
  staticTypes := #[]
  resolved := Array.replicate 8 none
  statics := none }

def pool5 : Array CpInfo := pool [(1, u "java/io/Serializable"), (0, .class_ 1), (0, u "java/lang/Object"), (0, .class_ 3)] 3

/-- java/io/Serializable -/
def k5 : Class := { plain "java/io/Serializable" (some 0) with
  accessFlags := 1537
  interfaces := #[]
  cf := some (fileOf pool5 2 #[] #[] 1537 4 #[] #[])
  fields := #[]
  methods := #[]
  instanceTypes := #[]
  staticTypes := #[]
  resolved := Array.replicate 8 none
  statics := none }

/-- the primitive byte -/
def k6 : Class := { plain "byte" none with kind := .primitive 'B', accessFlags := 0x411 }
/-- [B -/
def k7 : Class := { plain "[B" (some 0) with kind := .array 6 .byte, interfaces := #[4, 5], accessFlags := 1041 }

/-- the primitive int -/
def k8 : Class := { plain "int" none with kind := .primitive 'I', accessFlags := 0x411 }
/-- [I -/
def k9 : Class := { plain "[I" (some 0) with kind := .array 8 .int, interfaces := #[4, 5], accessFlags := 1041 }

def heap : Heap := #[]
def classes : Array Class := #[k0, k1, k2, k3, k4, k5, k6, k7, k8, k9]
def interned : List (Array UInt16 × Addr) := []
def slotsUsed : Nat := 0
def theMethod : MethodId := ⟨1, 1⟩
def args0 : Array Value := #[.int 5, .long 7, .long 1, .long 2, .long 3, .long 4]
def aboutOver (below : List Frame) : State where
  vm := { classes := classes, interned := interned.toArray }
  heap := heap
  slotsUsed := slotsUsed
  threads := #[{ frames := .invoking theMethod args0 :: below }]
def below0 : List Frame := [.native { method := ⟨0, 0⟩, args := #[] }]
def about1 : State := aboutOver below0
def p0 : Program := .bare "" "" ""
def e0 : Env := launch0.env 0 0 0
theorem w_frames : about1.frames = Frame.invoking theMethod args0 :: below0 := rfl
set_option maxRecDepth 65536 in
theorem w_args : argsFit about1.vm theMethod args0 = true := by decide +kernel
set_option maxRecDepth 65536 in
theorem w_heap : heapFits about1 = true := by decide +kernel
set_option maxRecDepth 65536 in
theorem w_runnable : about1.curStatus? = some .runnable := by decide +kernel
set_option maxRecDepth 65536 in
theorem w_alone : about1.alone = true := by decide +kernel
set_option maxRecDepth 65536 in
theorem w_named : about1.methodNamed? x = some theMethod := by decide +kernel
set_option maxRecDepth 65536 in
theorem w_hears : about1.hears theMethod below0 = true := by decide +kernel
set_option maxRecDepth 65536 in
theorem w_ripe : about1.ripe theMethod args0 below0 = true := by decide +kernel
theorem w_running : about1.status = .running := rfl
set_option maxRecDepth 65536 in
theorem w_room : about1.hasRoom e0.platform room_1 = true :=
  launch0.hasRoom_least _ room_1 (by decide +kernel) (by decide +kernel) (by decide +kernel) (by decide +kernel) (by decide +kernel) (by decide +kernel)
theorem allAtoms_all (ts : List Jvm.Cond) (a : Array Jvm.Value) (st : Jvm.State) : (allAtoms ts).before a st = ts.all (fun c => c.before a st) := by
  induction ts with
  | nil => rfl
  | cons c t ih =>
    show (Jvm.Cond.and c (allAtoms t)).before a st = _
    rw [Jvm.Cond.before_and, ih, List.all_cons]
def words1 : List Jvm.Cond := Jvm.Cond.code x code maxLocals ret :: tables_1
/-- a 'code' word, met by the world's own term for the bytes: nothing is compared byte by byte -/
theorem code_word {y : MethodName} {bytes : ByteArray} {mx : Nat} {rt : Option FieldType} {a : Array Value} {s : State} {m : MethodId} {meth : Method} {c : Code} (h1 : s.methodNamed? y = some m) (h2 : s.vm.method? m = some meth) (h3 : meth.code = some c) (h4 : c.code = bytes)
    (h5 : (c.maxLocals == mx && c.exceptionTable.isEmpty && decide (c.maxStack ≤ mostOperands) && decide (meth.sig.returnType = rt) && !meth.locks && decide (parseMethodDescriptor y.desc = some meth.sig)) = true) : (Jvm.Cond.code y bytes mx rt).before a s = true := by
  simp only [Bool.and_eq_true, beq_iff_eq, Bool.not_eq_true', decide_eq_true_eq] at h5
  obtain ⟨⟨⟨⟨⟨g1, g2⟩, g3⟩, g4⟩, g5⟩, g6⟩ := h5
  simp [Cond.before, Cond.holds, Cond.value, h1, h2, h3, h4, g1, g2, g3, g4, g5, g6]
def isCode : Jvm.Cond → Bool
  | .code _ _ _ _ => true
  | _ => false
theorem all_split {L : List Jvm.Cond} {P : Jvm.Cond → Bool} (h1 : L.all (fun c => isCode c || P c) = true) (h2 : ∀ c ∈ L.filter isCode, P c = true) : L.all P = true := by
  refine List.all_eq_true.mpr fun c hc => ?_
  have h := List.all_eq_true.mp h1 c hc
  rcases Bool.eq_false_or_eq_true (isCode c) with hi | hi
  · exact h2 c (List.mem_filter.mpr ⟨hc, hi⟩)
  · simpa [hi] using h
set_option maxRecDepth 65536 in
theorem w_c0 : (Jvm.Cond.code x code maxLocals ret).before args0 about1 = true := code_word (m := ⟨1, 1⟩) (meth := k1m1) (c := k1c1) (by decide +kernel) rfl rfl rfl (by decide +kernel)
set_option maxRecDepth 65536 in
theorem w_c1 : (Jvm.Cond.code ({ cls := "com/example/examwright/examwright/CompetitionScore", name := "<init>", desc := "(JJJJJJJJJJJJ)V" } : Jvm.MethodName) prog_13_method_1_code (25 : Nat) (Option.none : Option Jvm.ClassFile.FieldType)).before args0 about1 = true := code_word (m := ⟨3, 0⟩) (meth := k3m0) (c := k3c0) (by decide +kernel) rfl rfl rfl (by decide +kernel)
set_option maxRecDepth 65536 in
theorem w_c2 : (Jvm.Cond.code ({ cls := "java/lang/Record", name := "<init>", desc := "()V" } : Jvm.MethodName) jdk_30_method_1_code (1 : Nat) (Option.none : Option Jvm.ClassFile.FieldType)).before args0 about1 = true := code_word (m := ⟨2, 0⟩) (meth := k2m0) (c := k2c0) (by decide +kernel) rfl rfl rfl (by decide +kernel)
set_option maxRecDepth 65536 in
theorem w_c3 : (Jvm.Cond.code ({ cls := "java/lang/Object", name := "<init>", desc := "()V" } : Jvm.MethodName) object_method_1_code (1 : Nat) (Option.none : Option Jvm.ClassFile.FieldType)).before args0 about1 = true := code_word (m := ⟨0, 0⟩) (meth := k0m0) (c := k0c0) (by decide +kernel) rfl rfl rfl (by decide +kernel)
set_option maxRecDepth 65536 in
theorem w_c4 : (Jvm.Cond.code ({ cls := "com/example/examwright/examwright/CompetitionScore", name := "isFeasible", desc := "()Z" } : Jvm.MethodName) prog_13_method_3_code (1 : Nat) (Option.some Jvm.ClassFile.FieldType.boolean)).before args0 about1 = true := code_word (m := ⟨3, 1⟩) (meth := k3m1) (c := k3c1) (by decide +kernel) rfl rfl rfl (by decide +kernel)
def codes1 : List Jvm.Cond := [Jvm.Cond.code x code maxLocals ret, Jvm.Cond.code ({ cls := "com/example/examwright/examwright/CompetitionScore", name := "<init>", desc := "(JJJJJJJJJJJJ)V" } : Jvm.MethodName) prog_13_method_1_code (25 : Nat) (Option.none : Option Jvm.ClassFile.FieldType), Jvm.Cond.code ({ cls := "java/lang/Record", name := "<init>", desc := "()V" } : Jvm.MethodName) jdk_30_method_1_code (1 : Nat) (Option.none : Option Jvm.ClassFile.FieldType), Jvm.Cond.code ({ cls := "java/lang/Object", name := "<init>", desc := "()V" } : Jvm.MethodName) object_method_1_code (1 : Nat) (Option.none : Option Jvm.ClassFile.FieldType), Jvm.Cond.code ({ cls := "com/example/examwright/examwright/CompetitionScore", name := "isFeasible", desc := "()Z" } : Jvm.MethodName) prog_13_method_3_code (1 : Nat) (Option.some Jvm.ClassFile.FieldType.boolean)]
set_option maxRecDepth 65536 in
theorem codes_eq : words1.filter isCode = codes1 := rfl
theorem w_codes : ∀ c ∈ words1.filter isCode, c.before args0 about1 = true := by
  rw [codes_eq]
  intro c hc
  simp only [codes1, List.mem_cons, List.not_mem_nil, or_false] at hc
  rcases hc with rfl | rfl | rfl | rfl | rfl
  · exact w_c0
  · exact w_c1
  · exact w_c2
  · exact w_c3
  · exact w_c4
set_option maxRecDepth 65536 in
theorem w_t1 : (words1.take 24).all (fun c => isCode c || c.before args0 about1) = true := by decide +kernel
set_option maxRecDepth 65536 in
theorem w_t2 : (words1.drop 24).all (fun c => isCode c || c.before args0 about1) = true := by decide +kernel
theorem w_tables : (allAtoms (Jvm.Cond.code x code maxLocals ret :: tables_1)).before args0 about1 = true := by
  rw [allAtoms_all]
  show words1.all (fun c => c.before args0 about1) = true
  refine all_split ?_ w_codes
  rw [← List.take_append_drop 24 words1, List.all_append, w_t1, w_t2]
  rfl
set_option maxRecDepth 65536 in
theorem w_case : (Jvm.Cond.and given_1 narrow_1).before args0 about1 = true := by decide +kernel
theorem w_applies : (headSpec (Jvm.Cond.code x code maxLocals ret :: tables_1) room_1).applies x e0.platform about1 = true :=
  (Spec.applies_iff w_frames).mpr ⟨w_running, w_runnable, w_alone, w_named, w_hears, w_ripe, w_room, w_tables⟩
theorem atStart : AtStart classFile x code maxLocals ret World_1 tables_1 room_1 Calls_1 rest_1 Pre_1 launch0 p0 e0 about1 theMethod args0 below0 :=
  ⟨lists_1, trivial, launch0.admits_env _ _ _, launch0.least_env, fairChoices_fair.cas, fairChoices_fair.clock, w_frames, w_args, w_heap, w_applies, trivial, trivial, w_case⟩
end start1
theorem witness_1 : WitnessClaimed_1 := ⟨start1.p0, start1.e0, start1.about1, start1.theMethod, start1.args0, start1.below0, start1.atStart⟩
end Jvm.Pilot.@@N@@
