import JvmDerived
import JvmDerived.Pilot.@@N@@Statement
import JvmDerived.Pilot.@@N@@Code
set_option linter.unusedVariables false
set_option linter.unusedSimpArgs false
namespace Jvm.Pilot.@@N@@
open Jvm Jvm.ClassFile Sem Op Lib Jvm.Free Jvm.Stand Jvm.LawKit Jvm.RoadKit Bundle Jvm.Pilot.@@N@@.Jvm.D
/-! the run comes to an end that answers Q -/
def Go (p : Program) (e : Env) (below : List Frame) (Q : Outcome → State → Prop) (T : State) (g : JFrame) : Prop :=
  ∃ s₂ o, Steps p.tables e below (T.setTop g) s₂ ∧ s₂.status = .running ∧ Ended s₂ below o ∧ Q o s₂
section Own
variable {p : Program} {l : Launch} {e : Env} {R : Room} {s : State} {m : MethodId} {args : Array Value} {below : List Frame} {meth : Method} {c : Code} {T T' : State} {locs : List Loc} {cells slots : Nat} {Q : Outcome → State → Prop} {g g' : JFrame}
theorem Go.of (k : ∀ t, Steps p.tables e below (T'.setTop g') t → Steps p.tables e below (T.setTop g) t) (h : Go p e below Q T' g') : Go p e below Q T g := by
  obtain ⟨u, o, h1, h2⟩ := h
  exact ⟨u, o, k _ h1, h2⟩
theorem Go.via (k : Steps p.tables e below (T.setTop g) (T'.setTop g')) (h : Go p e below Q T' g') : Go p e below Q T g := by
  obtain ⟨u, o, h1, h2⟩ := h
  exact ⟨u, o, k.trans h1, h2⟩
theorem Go.cast (q : g = g') (h : Go p e below Q T g') : Go p e below Q T g := q ▸ h
theorem own_out (X : Stand p l e R s m args below meth c T locs cells slots) {v : Option Value} (hv : meth.sig.returnType = none → v = none) (hlocks : meth.locks = false)
    (k : ∀ fs : List Frame, (∀ (f : JFrame) (acts : List Action), f.method = m → f.locked = none → f.entered = [] → (doReturn e (T.setTop f) acts v).1 = T.setFrames fs) → Steps p.tables e below (T.setTop g) (T.setFrames fs))
    (hQ : ∀ u : State, u.heap = T.heap → FrameEnd s (.returned v) u locs cells slots → Q (.returned v) u) : Go p e below Q T g := by
  obtain ⟨fs, hr, hrun, hended, hW, hsame⟩ := X.leave hv hlocks
  exact ⟨_, _, k fs hr, hrun, hended, hQ _ rfl ⟨⟨_, rfl⟩, hW, hsame⟩⟩
theorem own_retN (X : Stand p l e R s m args below meth c T locs cells slots) (hx : p.tables.exec = Jvm.exec) (hlocks : meth.locks = false) {pc : Nat} {Ls : Array Slot} {z : Int32} {t : FieldType} {rest : List Value} (hret : meth.sig.returnType = some t) (ht : t = .boolean ∨ t = .byte ∨ t = .char ∨ t = .short)
    (hd : decode c.code pc = .ok (.ireturn, 1)) (hQ : ∀ u : State, u.heap = T.heap → FrameEnd s (.returned (some (.int (nar t z)))) u locs cells slots → Q (.returned (some (.int (nar t z)))) u) : Go p e below Q T (mkF m pc Ls (.int z :: rest)) :=
  own_out X (fun h => by rw [hret] at h; cases h) hlocks (fun fs hr => retN X hx hret ht hd hr) hQ
theorem own_retW (X : Stand p l e R s m args below meth c T locs cells slots) (hx : p.tables.exec = Jvm.exec) (hlocks : meth.locks = false) {pc : Nat} {Ls : Array Slot} {w : Value} {t : FieldType} {i : Instr} {rest : List Value} (hret : meth.sig.returnType = some t) (hn : narrow t w = w)
    (hi : (i = .ireturn ∧ (t = .int ∨ t = .boolean ∨ t = .byte ∨ t = .char ∨ t = .short) ∧ ∃ z, w = .int z) ∨ (i = .lreturn ∧ t = .long ∧ ∃ z, w = .long z) ∨ (i = .dreturn ∧ t = .double ∧ ∃ z, w = .double z) ∨ (i = .freturn ∧ t = .float ∧ ∃ z, w = .float z) ∨ (i = .areturn ∧ t.isReference = true ∧ w.isRef = true))
    (hd : decode c.code pc = .ok (i, 1)) (hQ : ∀ u : State, u.heap = T.heap → FrameEnd s (.returned (some w)) u locs cells slots → Q (.returned (some w)) u) : Go p e below Q T (mkF m pc Ls (w :: rest)) :=
  own_out X (fun h => by rw [hret] at h; cases h) hlocks (fun fs hr => retOut X hx hret hn hi hd hr) hQ
theorem own_ret0 (X : Stand p l e R s m args below meth c T locs cells slots) (hx : p.tables.exec = Jvm.exec) (hlocks : meth.locks = false) {pc : Nat} {Ls : Array Slot} (hret : meth.sig.returnType = none)
    (hd : decode c.code pc = .ok (.return_, 1)) (hQ : ∀ u : State, u.heap = T.heap → FrameEnd s (.returned none) u locs cells slots → Q (.returned none) u) : Go p e below Q T (mkF m pc Ls []) :=
  own_out X (fun _ => rfl) hlocks (fun fs hr => X.returnOut hx hret hd hr) hQ
theorem own_cs {c' s' : Nat} (X : Stand p l e R s m args below meth c T locs cells slots) (hc : cells = c') (hs : slots = s') : Stand p l e R s m args below meth c T locs c' s' := by subst hc hs; exact X
theorem own_locs {n0 : Nat} (X : Stand p l e R s m args below meth c T locs cells slots) (N : Fr n0 locs) : ∃ L, Stand p l e R s m args below meth c T L cells slots ∧ Fr n0 L := ⟨_, X, N⟩
theorem own_mono {o : Outcome} {u : State} {k n k' n' : Nat} (h : FrameEnd s o u locs k n) (hk : k ≤ k') (hn : n ≤ n') : FrameEnd s o u locs k' n' := ⟨h.1, h.2.1, h.2.2.mono hk hn⟩
end Own
theorem d3_0 : decode jdk_30_method_1_code 0 = .ok (.aload_n 0, 1) := by decide +kernel
theorem d3_1 : decode jdk_30_method_1_code 1 = .ok (.invokespecial 1, 3) := by decide +kernel
theorem d3_4 : decode jdk_30_method_1_code 4 = .ok (.return_, 1) := by decide +kernel
theorem pn_0 : plainName "java/lang/Record" = true := by first | (simp [plainName, overriddenIn]; done) | decide +kernel
theorem ef_3 (m : MethodId) (r1 : Addr)  : entryFrame m #[(.ref r1)] 1 = mkF m 0 #[.val (.ref r1)] [] := by
  first | (simp [entryFrame, mkF, argsToLocals, Value.category]; done) | rfl
def Q3 (Z : State) (r1 : Addr) (h0 : Heap) (n0 : Nat) (v : Option Value) (h : Heap) (L : List Loc) : Prop := v = none ∧ Fr n0 L ∧ h = h0
set_option maxRecDepth 65536 in
set_option maxHeartbeats 40000000 in
theorem rm3 (l : Launch) (Z : State) (a0 : Array Value) (hw : ∀ d ∈ tables_1, d.before a0 Z = true) (ws : List Jvm.Cond) (r1 : Addr) (h0 : Heap) (n0 : Nat) (Z0 : n0 ≤ h0.size)  :
    MetFree l (⟨"java/lang/Record", "<init>", "()V"⟩ : MethodName) (head1 (Jvm.Cond.code (⟨"java/lang/Record", "<init>", "()V"⟩ : MethodName) jdk_30_method_1_code 1 none :: ws) ({ frames := 1, cells := 0, slots := 0, locals := 12 } : Room)) (fun a U => a = #[(.ref r1)] ∧ Z.Warmed39 U.vm ∧ U.heap = h0) (fun _ _ _ _ _ => True) (fun _ U o U' => ∃ v L, o = .returned v ∧ Q3 Z r1 h0 n0 v U'.heap L ∧ FrameEnd U o U' L ({ frames := 1, cells := 0, slots := 0, locals := 12 } : Room).cells ({ frames := 1, cells := 0, slots := 0, locals := 12 } : Room).slots) := by
  refine MetFree.of_bodySF (plainFor_of_name pn_0) hisR ?_
  intro p e s m args below meth c s₁ Bd hml0 hP hK
  obtain ⟨rfl, hZ, hh⟩ := hP
  have hx := Bd.exec
  have hby := Bd.bytes
  have hml : c.maxLocals = 1 := hml0
  have hown : s.vm.findClass "java/lang/Record" = some m.cls := findClass_of_methodNamed Bd.named
  have hnm := (name_of_methodNamed Bd.named Bd.method).1
  have X0 : Stand p l e ({ frames := 1, cells := 0, slots := 0, locals := 12 } : Room) s m #[(.ref r1)] below meth c s₁ [] 0 0 := Stand.of_body Bd
  have e0 : s₁.heap = h0 := by rw [← hh, Bd.state]; rfl
  have N0 := Fr.nil n0
  suffices H : ∀ Qo : Outcome → State → Prop, (∀ (v : Option Value) (u : State) (L : List Loc), Q3 Z r1 h0 n0 v u.heap L → FrameEnd s (.returned v) u L ({ frames := 1, cells := 0, slots := 0, locals := 12 } : Room).cells ({ frames := 1, cells := 0, slots := 0, locals := 12 } : Room).slots → Qo (.returned v) u) → Go p e below Qo s₁ (mkF m 0 #[.val (.ref r1)] []) from
    Go.cast (ef_3 m r1) (H _ fun v u L h1 h2 => ⟨v, L, rfl, h1, h2⟩)
  intro Qo hQo
  show Go p e below Qo s₁ (mkF m 0 #[.val (.ref r1)] [])
  refine Go.of (fun t k => XS.aloadN X0.here hx rfl (hb hby d3_0) rfl rfl k) ?_
  show Go p e below Qo s₁ (mkF m 1 #[.val (.ref r1)] [(.ref r1)])
  obtain ⟨T1, X1, e1, st1⟩ := initO X0 hx hZ hown (hw _ (List.mem_of_getElem? (i := 17) rfl)) (hw _ (List.mem_of_getElem? (i := 18) rfl)) (hw _ (List.mem_of_getElem? (i := 19) rfl)) e0 (g := (mkF m 1 #[.val (.ref r1)] [(.ref r1)])) rfl (by rw [hml]; rfl) rfl (hb hby d3_1) (by decide) (W := 0) (by show 2 * 0 + _ ≤ _; exact Nat.le_of_eq rfl) (by decide)
  refine Go.of st1 ?_
  show Go p e below Qo T1 (mkF m 4 #[.val (.ref r1)] [])
  exact own_ret0 X1 hx Bd.notSynchronized Bd.returns (hb hby d3_4) (fun u hu hF => hQo _ _ _ ⟨rfl, N0, by rw [hu, e1]⟩ (own_mono hF (by decide) (by decide)))
theorem pd_0 : parseMethodDescriptor "()V" = some ⟨[], none⟩ := by decide +kernel
theorem d2_0 : decode prog_13_method_1_code 0 = .ok (.aload_n 0, 1) := by decide +kernel
theorem d2_1 : decode prog_13_method_1_code 1 = .ok (.invokespecial 1, 3) := by decide +kernel
theorem d2_4 : decode prog_13_method_1_code 4 = .ok (.aload_n 0, 1) := by decide +kernel
theorem d2_5 : decode prog_13_method_1_code 5 = .ok (.lload_n 1, 1) := by decide +kernel
theorem d2_6 : decode prog_13_method_1_code 6 = .ok (.putfield 7, 3) := by decide +kernel
theorem d2_9 : decode prog_13_method_1_code 9 = .ok (.aload_n 0, 1) := by decide +kernel
theorem d2_10 : decode prog_13_method_1_code 10 = .ok (.lload_n 3, 1) := by decide +kernel
theorem d2_11 : decode prog_13_method_1_code 11 = .ok (.putfield 13, 3) := by decide +kernel
theorem d2_14 : decode prog_13_method_1_code 14 = .ok (.aload_n 0, 1) := by decide +kernel
theorem d2_15 : decode prog_13_method_1_code 15 = .ok (.lload 5, 2) := by decide +kernel
theorem d2_17 : decode prog_13_method_1_code 17 = .ok (.putfield 16, 3) := by decide +kernel
theorem d2_20 : decode prog_13_method_1_code 20 = .ok (.aload_n 0, 1) := by decide +kernel
theorem d2_21 : decode prog_13_method_1_code 21 = .ok (.lload 7, 2) := by decide +kernel
theorem d2_23 : decode prog_13_method_1_code 23 = .ok (.putfield 19, 3) := by decide +kernel
theorem d2_26 : decode prog_13_method_1_code 26 = .ok (.aload_n 0, 1) := by decide +kernel
theorem d2_27 : decode prog_13_method_1_code 27 = .ok (.lload 9, 2) := by decide +kernel
theorem d2_29 : decode prog_13_method_1_code 29 = .ok (.putfield 22, 3) := by decide +kernel
theorem d2_32 : decode prog_13_method_1_code 32 = .ok (.aload_n 0, 1) := by decide +kernel
theorem d2_33 : decode prog_13_method_1_code 33 = .ok (.lload 11, 2) := by decide +kernel
theorem d2_35 : decode prog_13_method_1_code 35 = .ok (.putfield 25, 3) := by decide +kernel
theorem d2_38 : decode prog_13_method_1_code 38 = .ok (.aload_n 0, 1) := by decide +kernel
theorem d2_39 : decode prog_13_method_1_code 39 = .ok (.lload 13, 2) := by decide +kernel
theorem d2_41 : decode prog_13_method_1_code 41 = .ok (.putfield 28, 3) := by decide +kernel
theorem d2_44 : decode prog_13_method_1_code 44 = .ok (.aload_n 0, 1) := by decide +kernel
theorem d2_45 : decode prog_13_method_1_code 45 = .ok (.lload 15, 2) := by decide +kernel
theorem d2_47 : decode prog_13_method_1_code 47 = .ok (.putfield 31, 3) := by decide +kernel
theorem d2_50 : decode prog_13_method_1_code 50 = .ok (.aload_n 0, 1) := by decide +kernel
theorem d2_51 : decode prog_13_method_1_code 51 = .ok (.lload 17, 2) := by decide +kernel
theorem d2_53 : decode prog_13_method_1_code 53 = .ok (.putfield 34, 3) := by decide +kernel
theorem d2_56 : decode prog_13_method_1_code 56 = .ok (.aload_n 0, 1) := by decide +kernel
theorem d2_57 : decode prog_13_method_1_code 57 = .ok (.lload 19, 2) := by decide +kernel
theorem d2_59 : decode prog_13_method_1_code 59 = .ok (.putfield 37, 3) := by decide +kernel
theorem d2_62 : decode prog_13_method_1_code 62 = .ok (.aload_n 0, 1) := by decide +kernel
theorem d2_63 : decode prog_13_method_1_code 63 = .ok (.lload 21, 2) := by decide +kernel
theorem d2_65 : decode prog_13_method_1_code 65 = .ok (.putfield 40, 3) := by decide +kernel
theorem d2_68 : decode prog_13_method_1_code 68 = .ok (.aload_n 0, 1) := by decide +kernel
theorem d2_69 : decode prog_13_method_1_code 69 = .ok (.lload 23, 2) := by decide +kernel
theorem d2_71 : decode prog_13_method_1_code 71 = .ok (.putfield 43, 3) := by decide +kernel
theorem d2_74 : decode prog_13_method_1_code 74 = .ok (.return_, 1) := by decide +kernel
theorem pn_1 : plainName "com/example/examwright/examwright/CompetitionScore" = true := by first | (simp [plainName, overriddenIn]; done) | decide +kernel
theorem ef_2 (m : MethodId) (r1 : Addr) (j1 : Int64) (j2 : Int64) (j3 : Int64) (j4 : Int64) (j5 : Int64) (j6 : Int64) (j7 : Int64) (j8 : Int64) (j9 : Int64) (j10 : Int64) (j11 : Int64) (j12 : Int64)  : entryFrame m #[(.ref r1), (.long j1), (.long j2), (.long j3), (.long j4), (.long j5), (.long j6), (.long j7), (.long j8), (.long j9), (.long j10), (.long j11), (.long j12)] 25 = mkF m 0 #[.val (.ref r1), .val (.long j1), .second, .val (.long j2), .second, .val (.long j3), .second, .val (.long j4), .second, .val (.long j5), .second, .val (.long j6), .second, .val (.long j7), .second, .val (.long j8), .second, .val (.long j9), .second, .val (.long j10), .second, .val (.long j11), .second, .val (.long j12), .second] [] := by
  first | (simp [entryFrame, mkF, argsToLocals, Value.category]; done) | rfl
def Q2 (Z : State) (r1 : Addr) (j1 : Int64) (j2 : Int64) (j3 : Int64) (j4 : Int64) (j5 : Int64) (j6 : Int64) (j7 : Int64) (j8 : Int64) (j9 : Int64) (j10 : Int64) (j11 : Int64) (j12 : Int64) (u_0 : Value) (u_1 : Value) (u_2 : Value) (u_3 : Value) (u_4 : Value) (u_5 : Value) (u_6 : Value) (u_7 : Value) (u_8 : Value) (u_9 : Value) (u_10 : Value) (u_11 : Value) (h0 : Heap) (n0 : Nat) (v : Option Value) (h : Heap) (L : List Loc) : Prop := v = none ∧ Fr n0 L ∧ Keep h0 h [r1] ∧ Exa Z h r1 "com/example/examwright/examwright/CompetitionScore" ∧ Fld Z h r1 "com/example/examwright/examwright/CompetitionScore" "conflicts" "J" (.long j1) ∧ Fld Z h r1 "com/example/examwright/examwright/CompetitionScore" "roomOccupancy" "J" (.long j2) ∧ Fld Z h r1 "com/example/examwright/examwright/CompetitionScore" "periodUtilisation" "J" (.long j3) ∧ Fld Z h r1 "com/example/examwright/examwright/CompetitionScore" "periodRelated" "J" (.long j4) ∧ Fld Z h r1 "com/example/examwright/examwright/CompetitionScore" "roomRelated" "J" (.long j5) ∧ Fld Z h r1 "com/example/examwright/examwright/CompetitionScore" "twoInARow" "J" (.long j6) ∧ Fld Z h r1 "com/example/examwright/examwright/CompetitionScore" "twoInADay" "J" (.long j7) ∧ Fld Z h r1 "com/example/examwright/examwright/CompetitionScore" "periodSpread" "J" (.long j8) ∧ Fld Z h r1 "com/example/examwright/examwright/CompetitionScore" "mixedDurations" "J" (.long j9) ∧ Fld Z h r1 "com/example/examwright/examwright/CompetitionScore" "frontLoad" "J" (.long j10) ∧ Fld Z h r1 "com/example/examwright/examwright/CompetitionScore" "periodPenalty" "J" (.long j11) ∧ Fld Z h r1 "com/example/examwright/examwright/CompetitionScore" "roomPenalty" "J" (.long j12)
set_option maxRecDepth 65536 in
set_option maxHeartbeats 40000000 in
theorem rm2 (l : Launch) (Z : State) (a0 : Array Value) (hw : ∀ d ∈ tables_1, d.before a0 Z = true) (ws : List Jvm.Cond) (r1 : Addr) (j1 : Int64) (j2 : Int64) (j3 : Int64) (j4 : Int64) (j5 : Int64) (j6 : Int64) (j7 : Int64) (j8 : Int64) (j9 : Int64) (j10 : Int64) (j11 : Int64) (j12 : Int64) (u_0 : Value) (u_1 : Value) (u_2 : Value) (u_3 : Value) (u_4 : Value) (u_5 : Value) (u_6 : Value) (u_7 : Value) (u_8 : Value) (u_9 : Value) (u_10 : Value) (u_11 : Value) (h0 : Heap) (n0 : Nat) (Z0 : n0 ≤ h0.size) (f0 : Exa Z h0 r1 "com/example/examwright/examwright/CompetitionScore") (f1 : Fld Z h0 r1 "com/example/examwright/examwright/CompetitionScore" "conflicts" "J" u_0) (f2 : Fld Z h0 r1 "com/example/examwright/examwright/CompetitionScore" "roomOccupancy" "J" u_1) (f3 : Fld Z h0 r1 "com/example/examwright/examwright/CompetitionScore" "periodUtilisation" "J" u_2) (f4 : Fld Z h0 r1 "com/example/examwright/examwright/CompetitionScore" "periodRelated" "J" u_3) (f5 : Fld Z h0 r1 "com/example/examwright/examwright/CompetitionScore" "roomRelated" "J" u_4) (f6 : Fld Z h0 r1 "com/example/examwright/examwright/CompetitionScore" "twoInARow" "J" u_5) (f7 : Fld Z h0 r1 "com/example/examwright/examwright/CompetitionScore" "twoInADay" "J" u_6) (f8 : Fld Z h0 r1 "com/example/examwright/examwright/CompetitionScore" "periodSpread" "J" u_7) (f9 : Fld Z h0 r1 "com/example/examwright/examwright/CompetitionScore" "mixedDurations" "J" u_8) (f10 : Fld Z h0 r1 "com/example/examwright/examwright/CompetitionScore" "frontLoad" "J" u_9) (f11 : Fld Z h0 r1 "com/example/examwright/examwright/CompetitionScore" "periodPenalty" "J" u_10) (f12 : Fld Z h0 r1 "com/example/examwright/examwright/CompetitionScore" "roomPenalty" "J" u_11) (g_r1 : n0 ≤ r1) :
    MetFree l (⟨"com/example/examwright/examwright/CompetitionScore", "<init>", "(JJJJJJJJJJJJ)V"⟩ : MethodName) (head1 (Jvm.Cond.code (⟨"com/example/examwright/examwright/CompetitionScore", "<init>", "(JJJJJJJJJJJJ)V"⟩ : MethodName) prog_13_method_1_code 25 none :: ws) ({ frames := 2, cells := 0, slots := 0, locals := 24 } : Room)) (fun a U => a = #[(.ref r1), (.long j1), (.long j2), (.long j3), (.long j4), (.long j5), (.long j6), (.long j7), (.long j8), (.long j9), (.long j10), (.long j11), (.long j12)] ∧ Z.Warmed39 U.vm ∧ U.heap = h0) (fun _ _ _ _ _ => True) (fun _ U o U' => ∃ v L, o = .returned v ∧ Q2 Z r1 j1 j2 j3 j4 j5 j6 j7 j8 j9 j10 j11 j12 u_0 u_1 u_2 u_3 u_4 u_5 u_6 u_7 u_8 u_9 u_10 u_11 h0 n0 v U'.heap L ∧ FrameEnd U o U' L ({ frames := 2, cells := 0, slots := 0, locals := 24 } : Room).cells ({ frames := 2, cells := 0, slots := 0, locals := 24 } : Room).slots) := by
  refine MetFree.of_bodySF (plainFor_of_name pn_1) hisR ?_
  intro p e s m args below meth c s₁ Bd hml0 hP hK
  obtain ⟨rfl, hZ, hh⟩ := hP
  have hx := Bd.exec
  have hby := Bd.bytes
  have hml : c.maxLocals = 25 := hml0
  have hown : s.vm.findClass "com/example/examwright/examwright/CompetitionScore" = some m.cls := findClass_of_methodNamed Bd.named
  have hnm := (name_of_methodNamed Bd.named Bd.method).1
  have X0 : Stand p l e ({ frames := 2, cells := 0, slots := 0, locals := 24 } : Room) s m #[(.ref r1), (.long j1), (.long j2), (.long j3), (.long j4), (.long j5), (.long j6), (.long j7), (.long j8), (.long j9), (.long j10), (.long j11), (.long j12)] below meth c s₁ [] 0 0 := Stand.of_body Bd
  have e0 : s₁.heap = h0 := by rw [← hh, Bd.state]; rfl
  have N0 := Fr.nil n0
  suffices H : ∀ Qo : Outcome → State → Prop, (∀ (v : Option Value) (u : State) (L : List Loc), Q2 Z r1 j1 j2 j3 j4 j5 j6 j7 j8 j9 j10 j11 j12 u_0 u_1 u_2 u_3 u_4 u_5 u_6 u_7 u_8 u_9 u_10 u_11 h0 n0 v u.heap L → FrameEnd s (.returned v) u L ({ frames := 2, cells := 0, slots := 0, locals := 24 } : Room).cells ({ frames := 2, cells := 0, slots := 0, locals := 24 } : Room).slots → Qo (.returned v) u) → Go p e below Qo s₁ (mkF m 0 #[.val (.ref r1), .val (.long j1), .second, .val (.long j2), .second, .val (.long j3), .second, .val (.long j4), .second, .val (.long j5), .second, .val (.long j6), .second, .val (.long j7), .second, .val (.long j8), .second, .val (.long j9), .second, .val (.long j10), .second, .val (.long j11), .second, .val (.long j12), .second] []) from
    Go.cast (ef_2 m r1 j1 j2 j3 j4 j5 j6 j7 j8 j9 j10 j11 j12) (H _ fun v u L h1 h2 => ⟨v, L, rfl, h1, h2⟩)
  intro Qo hQo
  show Go p e below Qo s₁ (mkF m 0 #[.val (.ref r1), .val (.long j1), .second, .val (.long j2), .second, .val (.long j3), .second, .val (.long j4), .second, .val (.long j5), .second, .val (.long j6), .second, .val (.long j7), .second, .val (.long j8), .second, .val (.long j9), .second, .val (.long j10), .second, .val (.long j11), .second, .val (.long j12), .second] [])
  refine Go.of (fun t k => XS.aloadN X0.here hx rfl (hb hby d2_0) rfl rfl k) ?_
  show Go p e below Qo s₁ (mkF m 1 #[.val (.ref r1), .val (.long j1), .second, .val (.long j2), .second, .val (.long j3), .second, .val (.long j4), .second, .val (.long j5), .second, .val (.long j6), .second, .val (.long j7), .second, .val (.long j8), .second, .val (.long j9), .second, .val (.long j10), .second, .val (.long j11), .second, .val (.long j12), .second] [(.ref r1)])
  obtain ⟨_, _, ⟨T1, L1, k1, n1⟩, -, X1, ⟨Lc1, hQ1, l1, y1, z1⟩, st1⟩ := X0.specialBack hx (y := (⟨"java/lang/Record", "<init>", "()V"⟩ : MethodName)) rfl hown (mvT hZ (hw _ (List.mem_of_getElem? (i := 12) rfl))) (mvT hZ (hw _ (List.mem_of_getElem? (i := 13) rfl))) (mvT hZ (hw _ (List.mem_of_getElem? (i := 16) rfl))) (by decide) (backOf (W := 0) (rm3 l Z a0 hw [] r1 h0 n0 Z0 ) hZ (hw _ (List.mem_of_getElem? (i := 16) rfl)) (hw _ (List.mem_of_getElem? (i := 15) rfl)) (by decide) (by decide)) (g := (mkF m 1 #[.val (.ref r1), .val (.long j1), .second, .val (.long j2), .second, .val (.long j3), .second, .val (.long j4), .second, .val (.long j5), .second, .val (.long j6), .second, .val (.long j7), .second, .val (.long j8), .second, .val (.long j9), .second, .val (.long j10), .second, .val (.long j11), .second, .val (.long j12), .second] [(.ref r1)])) rfl (by rw [hml]; rfl) (Steps.refl _) (a := r1) (argsL := []) (rest := []) (lenOf pd_0 rfl) rfl (by show 2 * 0 + _ ≤ _; exact Nat.le_of_eq rfl) (hb hby d2_1) (fun _ _ => ⟨rfl, e0, (by decide : 0 + 0 ≤ _), (by decide : 0 + 0 ≤ _)⟩)
  dsimp only [Pt.U, Pt.locs, Pt.cells, Pt.slots] at X1 l1 y1 z1 st1 hQ1
  subst l1 y1 z1
  replace X1 := own_cs X1 (c' := 0) (s' := 0) (by decide) (by decide)
  obtain ⟨rfl, N2, eh3⟩ := hQ1
  have N4 := Fr.app N0 N2
  refine Go.via st1 ?_
  obtain ⟨Lx5, Xx5, Nx5⟩ := own_locs X1 N4
  show Go p e below Qo T1 (mkF m 4 #[.val (.ref r1), .val (.long j1), .second, .val (.long j2), .second, .val (.long j3), .second, .val (.long j4), .second, .val (.long j5), .second, .val (.long j6), .second, .val (.long j7), .second, .val (.long j8), .second, .val (.long j9), .second, .val (.long j10), .second, .val (.long j11), .second, .val (.long j12), .second] [])
  refine Go.of (fun t k => XS.aloadN Xx5.here hx rfl (hb hby d2_4) rfl rfl k) ?_
  show Go p e below Qo T1 (mkF m 5 #[.val (.ref r1), .val (.long j1), .second, .val (.long j2), .second, .val (.long j3), .second, .val (.long j4), .second, .val (.long j5), .second, .val (.long j6), .second, .val (.long j7), .second, .val (.long j8), .second, .val (.long j9), .second, .val (.long j10), .second, .val (.long j11), .second, .val (.long j12), .second] [(.ref r1)])
  refine Go.of (fun t k => XS.lloadN Xx5.here hx rfl (hb hby d2_5) rfl  k) ?_
  show Go p e below Qo T1 (mkF m 6 #[.val (.ref r1), .val (.long j1), .second, .val (.long j2), .second, .val (.long j3), .second, .val (.long j4), .second, .val (.long j5), .second, .val (.long j6), .second, .val (.long j7), .second, .val (.long j8), .second, .val (.long j9), .second, .val (.long j10), .second, .val (.long j11), .second, .val (.long j12), .second] [(.long j1), (.ref r1)])
  obtain ⟨T6, h6, X6, e6, W6, st6⟩ := putF Xx5 hx hZ hown (host := "") (Or.inl (hw _ (List.mem_of_getElem? (i := 20) rfl))) Via.refl eh3 f1 f0 (Or.inr ⟨(hw _ (List.mem_of_getElem? (i := 21) rfl)), rfl, hnm⟩) (hw _ (List.mem_of_getElem? (i := 7) rfl)) (ty := .long) (by decide) rfl rfl (g := (mkF m 6 #[.val (.ref r1), .val (.long j1), .second, .val (.long j2), .second, .val (.long j3), .second, .val (.long j4), .second, .val (.long j5), .second, .val (.long j6), .second, .val (.long j7), .second, .val (.long j8), .second, .val (.long j9), .second, .val (.long j10), .second, .val (.long j11), .second, .val (.long j12), .second] [(.long j1), (.ref r1)])) rfl rfl (hb hby d2_6)
  have q7 : Exa Z h6 r1 "com/example/examwright/examwright/CompetitionScore" := f0.wr W6
  have q8 : Fld Z h6 r1 "com/example/examwright/examwright/CompetitionScore" "conflicts" "J" (.long j1) := f1.same W6
  have q9 : Fld Z h6 r1 "com/example/examwright/examwright/CompetitionScore" "roomOccupancy" "J" u_1 := f2.other W6 (Or.inr (slot_ne (Or.inr (hw _ (List.mem_of_getElem? (i := 23) rfl))) (Or.inr (hw _ (List.mem_of_getElem? (i := 21) rfl))) (by decide) (t := .long) (t' := .long) (by decide) (by decide)))
  have q10 : Fld Z h6 r1 "com/example/examwright/examwright/CompetitionScore" "periodUtilisation" "J" u_2 := f3.other W6 (Or.inr (slot_ne (Or.inr (hw _ (List.mem_of_getElem? (i := 25) rfl))) (Or.inr (hw _ (List.mem_of_getElem? (i := 21) rfl))) (by decide) (t := .long) (t' := .long) (by decide) (by decide)))
  have q11 : Fld Z h6 r1 "com/example/examwright/examwright/CompetitionScore" "periodRelated" "J" u_3 := f4.other W6 (Or.inr (slot_ne (Or.inr (hw _ (List.mem_of_getElem? (i := 27) rfl))) (Or.inr (hw _ (List.mem_of_getElem? (i := 21) rfl))) (by decide) (t := .long) (t' := .long) (by decide) (by decide)))
  have q12 : Fld Z h6 r1 "com/example/examwright/examwright/CompetitionScore" "roomRelated" "J" u_4 := f5.other W6 (Or.inr (slot_ne (Or.inr (hw _ (List.mem_of_getElem? (i := 29) rfl))) (Or.inr (hw _ (List.mem_of_getElem? (i := 21) rfl))) (by decide) (t := .long) (t' := .long) (by decide) (by decide)))
  have q13 : Fld Z h6 r1 "com/example/examwright/examwright/CompetitionScore" "twoInARow" "J" u_5 := f6.other W6 (Or.inr (slot_ne (Or.inr (hw _ (List.mem_of_getElem? (i := 31) rfl))) (Or.inr (hw _ (List.mem_of_getElem? (i := 21) rfl))) (by decide) (t := .long) (t' := .long) (by decide) (by decide)))
  have q14 : Fld Z h6 r1 "com/example/examwright/examwright/CompetitionScore" "twoInADay" "J" u_6 := f7.other W6 (Or.inr (slot_ne (Or.inr (hw _ (List.mem_of_getElem? (i := 33) rfl))) (Or.inr (hw _ (List.mem_of_getElem? (i := 21) rfl))) (by decide) (t := .long) (t' := .long) (by decide) (by decide)))
  have q15 : Fld Z h6 r1 "com/example/examwright/examwright/CompetitionScore" "periodSpread" "J" u_7 := f8.other W6 (Or.inr (slot_ne (Or.inr (hw _ (List.mem_of_getElem? (i := 35) rfl))) (Or.inr (hw _ (List.mem_of_getElem? (i := 21) rfl))) (by decide) (t := .long) (t' := .long) (by decide) (by decide)))
  have q16 : Fld Z h6 r1 "com/example/examwright/examwright/CompetitionScore" "mixedDurations" "J" u_8 := f9.other W6 (Or.inr (slot_ne (Or.inr (hw _ (List.mem_of_getElem? (i := 37) rfl))) (Or.inr (hw _ (List.mem_of_getElem? (i := 21) rfl))) (by decide) (t := .long) (t' := .long) (by decide) (by decide)))
  have q17 : Fld Z h6 r1 "com/example/examwright/examwright/CompetitionScore" "frontLoad" "J" u_9 := f10.other W6 (Or.inr (slot_ne (Or.inr (hw _ (List.mem_of_getElem? (i := 39) rfl))) (Or.inr (hw _ (List.mem_of_getElem? (i := 21) rfl))) (by decide) (t := .long) (t' := .long) (by decide) (by decide)))
  have q18 : Fld Z h6 r1 "com/example/examwright/examwright/CompetitionScore" "periodPenalty" "J" u_10 := f11.other W6 (Or.inr (slot_ne (Or.inr (hw _ (List.mem_of_getElem? (i := 41) rfl))) (Or.inr (hw _ (List.mem_of_getElem? (i := 21) rfl))) (by decide) (t := .long) (t' := .long) (by decide) (by decide)))
  have q19 : Fld Z h6 r1 "com/example/examwright/examwright/CompetitionScore" "roomPenalty" "J" u_11 := f12.other W6 (Or.inr (slot_ne (Or.inr (hw _ (List.mem_of_getElem? (i := 43) rfl))) (Or.inr (hw _ (List.mem_of_getElem? (i := 21) rfl))) (by decide) (t := .long) (t' := .long) (by decide) (by decide)))
  have Z20 : n0 ≤ h6.size := Nat.le_trans Z0 (Keep.of_wr W6).1
  have K21 : Keep h0 h6 [r1] := (Keep.refl h0 [r1]).wr W6 (Or.inl (List.mem_of_getElem? (i := 0) rfl))
  have N22 := Fr.snoc X6 Nx5 g_r1
  obtain ⟨Lx23, Xx23, Nx23⟩ := own_locs X6 N22
  refine Go.of st6 ?_
  show Go p e below Qo T6 (mkF m 9 #[.val (.ref r1), .val (.long j1), .second, .val (.long j2), .second, .val (.long j3), .second, .val (.long j4), .second, .val (.long j5), .second, .val (.long j6), .second, .val (.long j7), .second, .val (.long j8), .second, .val (.long j9), .second, .val (.long j10), .second, .val (.long j11), .second, .val (.long j12), .second] [])
  refine Go.of (fun t k => XS.aloadN Xx23.here hx rfl (hb hby d2_9) rfl rfl k) ?_
  show Go p e below Qo T6 (mkF m 10 #[.val (.ref r1), .val (.long j1), .second, .val (.long j2), .second, .val (.long j3), .second, .val (.long j4), .second, .val (.long j5), .second, .val (.long j6), .second, .val (.long j7), .second, .val (.long j8), .second, .val (.long j9), .second, .val (.long j10), .second, .val (.long j11), .second, .val (.long j12), .second] [(.ref r1)])
  refine Go.of (fun t k => XS.lloadN Xx23.here hx rfl (hb hby d2_10) rfl  k) ?_
  show Go p e below Qo T6 (mkF m 11 #[.val (.ref r1), .val (.long j1), .second, .val (.long j2), .second, .val (.long j3), .second, .val (.long j4), .second, .val (.long j5), .second, .val (.long j6), .second, .val (.long j7), .second, .val (.long j8), .second, .val (.long j9), .second, .val (.long j10), .second, .val (.long j11), .second, .val (.long j12), .second] [(.long j2), (.ref r1)])
  obtain ⟨T24, h24, X24, e24, W24, st24⟩ := putF Xx23 hx hZ hown (host := "") (Or.inl (hw _ (List.mem_of_getElem? (i := 22) rfl))) Via.refl e6 q9 q7 (Or.inr ⟨(hw _ (List.mem_of_getElem? (i := 23) rfl)), rfl, hnm⟩) (hw _ (List.mem_of_getElem? (i := 7) rfl)) (ty := .long) (by decide) rfl rfl (g := (mkF m 11 #[.val (.ref r1), .val (.long j1), .second, .val (.long j2), .second, .val (.long j3), .second, .val (.long j4), .second, .val (.long j5), .second, .val (.long j6), .second, .val (.long j7), .second, .val (.long j8), .second, .val (.long j9), .second, .val (.long j10), .second, .val (.long j11), .second, .val (.long j12), .second] [(.long j2), (.ref r1)])) rfl rfl (hb hby d2_11)
  have q25 : Exa Z h24 r1 "com/example/examwright/examwright/CompetitionScore" := q7.wr W24
  have q26 : Fld Z h24 r1 "com/example/examwright/examwright/CompetitionScore" "conflicts" "J" (.long j1) := q8.other W24 (Or.inr (slot_ne (Or.inr (hw _ (List.mem_of_getElem? (i := 21) rfl))) (Or.inr (hw _ (List.mem_of_getElem? (i := 23) rfl))) (by decide) (t := .long) (t' := .long) (by decide) (by decide)))
  have q27 : Fld Z h24 r1 "com/example/examwright/examwright/CompetitionScore" "roomOccupancy" "J" (.long j2) := q9.same W24
  have q28 : Fld Z h24 r1 "com/example/examwright/examwright/CompetitionScore" "periodUtilisation" "J" u_2 := q10.other W24 (Or.inr (slot_ne (Or.inr (hw _ (List.mem_of_getElem? (i := 25) rfl))) (Or.inr (hw _ (List.mem_of_getElem? (i := 23) rfl))) (by decide) (t := .long) (t' := .long) (by decide) (by decide)))
  have q29 : Fld Z h24 r1 "com/example/examwright/examwright/CompetitionScore" "periodRelated" "J" u_3 := q11.other W24 (Or.inr (slot_ne (Or.inr (hw _ (List.mem_of_getElem? (i := 27) rfl))) (Or.inr (hw _ (List.mem_of_getElem? (i := 23) rfl))) (by decide) (t := .long) (t' := .long) (by decide) (by decide)))
  have q30 : Fld Z h24 r1 "com/example/examwright/examwright/CompetitionScore" "roomRelated" "J" u_4 := q12.other W24 (Or.inr (slot_ne (Or.inr (hw _ (List.mem_of_getElem? (i := 29) rfl))) (Or.inr (hw _ (List.mem_of_getElem? (i := 23) rfl))) (by decide) (t := .long) (t' := .long) (by decide) (by decide)))
  have q31 : Fld Z h24 r1 "com/example/examwright/examwright/CompetitionScore" "twoInARow" "J" u_5 := q13.other W24 (Or.inr (slot_ne (Or.inr (hw _ (List.mem_of_getElem? (i := 31) rfl))) (Or.inr (hw _ (List.mem_of_getElem? (i := 23) rfl))) (by decide) (t := .long) (t' := .long) (by decide) (by decide)))
  have q32 : Fld Z h24 r1 "com/example/examwright/examwright/CompetitionScore" "twoInADay" "J" u_6 := q14.other W24 (Or.inr (slot_ne (Or.inr (hw _ (List.mem_of_getElem? (i := 33) rfl))) (Or.inr (hw _ (List.mem_of_getElem? (i := 23) rfl))) (by decide) (t := .long) (t' := .long) (by decide) (by decide)))
  have q33 : Fld Z h24 r1 "com/example/examwright/examwright/CompetitionScore" "periodSpread" "J" u_7 := q15.other W24 (Or.inr (slot_ne (Or.inr (hw _ (List.mem_of_getElem? (i := 35) rfl))) (Or.inr (hw _ (List.mem_of_getElem? (i := 23) rfl))) (by decide) (t := .long) (t' := .long) (by decide) (by decide)))
  have q34 : Fld Z h24 r1 "com/example/examwright/examwright/CompetitionScore" "mixedDurations" "J" u_8 := q16.other W24 (Or.inr (slot_ne (Or.inr (hw _ (List.mem_of_getElem? (i := 37) rfl))) (Or.inr (hw _ (List.mem_of_getElem? (i := 23) rfl))) (by decide) (t := .long) (t' := .long) (by decide) (by decide)))
  have q35 : Fld Z h24 r1 "com/example/examwright/examwright/CompetitionScore" "frontLoad" "J" u_9 := q17.other W24 (Or.inr (slot_ne (Or.inr (hw _ (List.mem_of_getElem? (i := 39) rfl))) (Or.inr (hw _ (List.mem_of_getElem? (i := 23) rfl))) (by decide) (t := .long) (t' := .long) (by decide) (by decide)))
  have q36 : Fld Z h24 r1 "com/example/examwright/examwright/CompetitionScore" "periodPenalty" "J" u_10 := q18.other W24 (Or.inr (slot_ne (Or.inr (hw _ (List.mem_of_getElem? (i := 41) rfl))) (Or.inr (hw _ (List.mem_of_getElem? (i := 23) rfl))) (by decide) (t := .long) (t' := .long) (by decide) (by decide)))
  have q37 : Fld Z h24 r1 "com/example/examwright/examwright/CompetitionScore" "roomPenalty" "J" u_11 := q19.other W24 (Or.inr (slot_ne (Or.inr (hw _ (List.mem_of_getElem? (i := 43) rfl))) (Or.inr (hw _ (List.mem_of_getElem? (i := 23) rfl))) (by decide) (t := .long) (t' := .long) (by decide) (by decide)))
  have Z38 : n0 ≤ h24.size := Nat.le_trans Z20 (Keep.of_wr W24).1
  have K39 : Keep h0 h24 [r1] := K21.wr W24 (Or.inl (List.mem_of_getElem? (i := 0) rfl))
  have N40 := Fr.snoc X24 Nx23 g_r1
  obtain ⟨Lx41, Xx41, Nx41⟩ := own_locs X24 N40
  refine Go.of st24 ?_
  show Go p e below Qo T24 (mkF m 14 #[.val (.ref r1), .val (.long j1), .second, .val (.long j2), .second, .val (.long j3), .second, .val (.long j4), .second, .val (.long j5), .second, .val (.long j6), .second, .val (.long j7), .second, .val (.long j8), .second, .val (.long j9), .second, .val (.long j10), .second, .val (.long j11), .second, .val (.long j12), .second] [])
  refine Go.of (fun t k => XS.aloadN Xx41.here hx rfl (hb hby d2_14) rfl rfl k) ?_
  show Go p e below Qo T24 (mkF m 15 #[.val (.ref r1), .val (.long j1), .second, .val (.long j2), .second, .val (.long j3), .second, .val (.long j4), .second, .val (.long j5), .second, .val (.long j6), .second, .val (.long j7), .second, .val (.long j8), .second, .val (.long j9), .second, .val (.long j10), .second, .val (.long j11), .second, .val (.long j12), .second] [(.ref r1)])
  refine Go.of (fun t k => XS.lload Xx41.here hx rfl (hb hby d2_15) rfl  k) ?_
  show Go p e below Qo T24 (mkF m 17 #[.val (.ref r1), .val (.long j1), .second, .val (.long j2), .second, .val (.long j3), .second, .val (.long j4), .second, .val (.long j5), .second, .val (.long j6), .second, .val (.long j7), .second, .val (.long j8), .second, .val (.long j9), .second, .val (.long j10), .second, .val (.long j11), .second, .val (.long j12), .second] [(.long j3), (.ref r1)])
  obtain ⟨T42, h42, X42, e42, W42, st42⟩ := putF Xx41 hx hZ hown (host := "") (Or.inl (hw _ (List.mem_of_getElem? (i := 24) rfl))) Via.refl e24 q28 q25 (Or.inr ⟨(hw _ (List.mem_of_getElem? (i := 25) rfl)), rfl, hnm⟩) (hw _ (List.mem_of_getElem? (i := 7) rfl)) (ty := .long) (by decide) rfl rfl (g := (mkF m 17 #[.val (.ref r1), .val (.long j1), .second, .val (.long j2), .second, .val (.long j3), .second, .val (.long j4), .second, .val (.long j5), .second, .val (.long j6), .second, .val (.long j7), .second, .val (.long j8), .second, .val (.long j9), .second, .val (.long j10), .second, .val (.long j11), .second, .val (.long j12), .second] [(.long j3), (.ref r1)])) rfl rfl (hb hby d2_17)
  have q43 : Exa Z h42 r1 "com/example/examwright/examwright/CompetitionScore" := q25.wr W42
  have q44 : Fld Z h42 r1 "com/example/examwright/examwright/CompetitionScore" "conflicts" "J" (.long j1) := q26.other W42 (Or.inr (slot_ne (Or.inr (hw _ (List.mem_of_getElem? (i := 21) rfl))) (Or.inr (hw _ (List.mem_of_getElem? (i := 25) rfl))) (by decide) (t := .long) (t' := .long) (by decide) (by decide)))
  have q45 : Fld Z h42 r1 "com/example/examwright/examwright/CompetitionScore" "roomOccupancy" "J" (.long j2) := q27.other W42 (Or.inr (slot_ne (Or.inr (hw _ (List.mem_of_getElem? (i := 23) rfl))) (Or.inr (hw _ (List.mem_of_getElem? (i := 25) rfl))) (by decide) (t := .long) (t' := .long) (by decide) (by decide)))
  have q46 : Fld Z h42 r1 "com/example/examwright/examwright/CompetitionScore" "periodUtilisation" "J" (.long j3) := q28.same W42
  have q47 : Fld Z h42 r1 "com/example/examwright/examwright/CompetitionScore" "periodRelated" "J" u_3 := q29.other W42 (Or.inr (slot_ne (Or.inr (hw _ (List.mem_of_getElem? (i := 27) rfl))) (Or.inr (hw _ (List.mem_of_getElem? (i := 25) rfl))) (by decide) (t := .long) (t' := .long) (by decide) (by decide)))
  have q48 : Fld Z h42 r1 "com/example/examwright/examwright/CompetitionScore" "roomRelated" "J" u_4 := q30.other W42 (Or.inr (slot_ne (Or.inr (hw _ (List.mem_of_getElem? (i := 29) rfl))) (Or.inr (hw _ (List.mem_of_getElem? (i := 25) rfl))) (by decide) (t := .long) (t' := .long) (by decide) (by decide)))
  have q49 : Fld Z h42 r1 "com/example/examwright/examwright/CompetitionScore" "twoInARow" "J" u_5 := q31.other W42 (Or.inr (slot_ne (Or.inr (hw _ (List.mem_of_getElem? (i := 31) rfl))) (Or.inr (hw _ (List.mem_of_getElem? (i := 25) rfl))) (by decide) (t := .long) (t' := .long) (by decide) (by decide)))
  have q50 : Fld Z h42 r1 "com/example/examwright/examwright/CompetitionScore" "twoInADay" "J" u_6 := q32.other W42 (Or.inr (slot_ne (Or.inr (hw _ (List.mem_of_getElem? (i := 33) rfl))) (Or.inr (hw _ (List.mem_of_getElem? (i := 25) rfl))) (by decide) (t := .long) (t' := .long) (by decide) (by decide)))
  have q51 : Fld Z h42 r1 "com/example/examwright/examwright/CompetitionScore" "periodSpread" "J" u_7 := q33.other W42 (Or.inr (slot_ne (Or.inr (hw _ (List.mem_of_getElem? (i := 35) rfl))) (Or.inr (hw _ (List.mem_of_getElem? (i := 25) rfl))) (by decide) (t := .long) (t' := .long) (by decide) (by decide)))
  have q52 : Fld Z h42 r1 "com/example/examwright/examwright/CompetitionScore" "mixedDurations" "J" u_8 := q34.other W42 (Or.inr (slot_ne (Or.inr (hw _ (List.mem_of_getElem? (i := 37) rfl))) (Or.inr (hw _ (List.mem_of_getElem? (i := 25) rfl))) (by decide) (t := .long) (t' := .long) (by decide) (by decide)))
  have q53 : Fld Z h42 r1 "com/example/examwright/examwright/CompetitionScore" "frontLoad" "J" u_9 := q35.other W42 (Or.inr (slot_ne (Or.inr (hw _ (List.mem_of_getElem? (i := 39) rfl))) (Or.inr (hw _ (List.mem_of_getElem? (i := 25) rfl))) (by decide) (t := .long) (t' := .long) (by decide) (by decide)))
  have q54 : Fld Z h42 r1 "com/example/examwright/examwright/CompetitionScore" "periodPenalty" "J" u_10 := q36.other W42 (Or.inr (slot_ne (Or.inr (hw _ (List.mem_of_getElem? (i := 41) rfl))) (Or.inr (hw _ (List.mem_of_getElem? (i := 25) rfl))) (by decide) (t := .long) (t' := .long) (by decide) (by decide)))
  have q55 : Fld Z h42 r1 "com/example/examwright/examwright/CompetitionScore" "roomPenalty" "J" u_11 := q37.other W42 (Or.inr (slot_ne (Or.inr (hw _ (List.mem_of_getElem? (i := 43) rfl))) (Or.inr (hw _ (List.mem_of_getElem? (i := 25) rfl))) (by decide) (t := .long) (t' := .long) (by decide) (by decide)))
  have Z56 : n0 ≤ h42.size := Nat.le_trans Z38 (Keep.of_wr W42).1
  have K57 : Keep h0 h42 [r1] := K39.wr W42 (Or.inl (List.mem_of_getElem? (i := 0) rfl))
  have N58 := Fr.snoc X42 Nx41 g_r1
  obtain ⟨Lx59, Xx59, Nx59⟩ := own_locs X42 N58
  refine Go.of st42 ?_
  show Go p e below Qo T42 (mkF m 20 #[.val (.ref r1), .val (.long j1), .second, .val (.long j2), .second, .val (.long j3), .second, .val (.long j4), .second, .val (.long j5), .second, .val (.long j6), .second, .val (.long j7), .second, .val (.long j8), .second, .val (.long j9), .second, .val (.long j10), .second, .val (.long j11), .second, .val (.long j12), .second] [])
  refine Go.of (fun t k => XS.aloadN Xx59.here hx rfl (hb hby d2_20) rfl rfl k) ?_
  show Go p e below Qo T42 (mkF m 21 #[.val (.ref r1), .val (.long j1), .second, .val (.long j2), .second, .val (.long j3), .second, .val (.long j4), .second, .val (.long j5), .second, .val (.long j6), .second, .val (.long j7), .second, .val (.long j8), .second, .val (.long j9), .second, .val (.long j10), .second, .val (.long j11), .second, .val (.long j12), .second] [(.ref r1)])
  refine Go.of (fun t k => XS.lload Xx59.here hx rfl (hb hby d2_21) rfl  k) ?_
  show Go p e below Qo T42 (mkF m 23 #[.val (.ref r1), .val (.long j1), .second, .val (.long j2), .second, .val (.long j3), .second, .val (.long j4), .second, .val (.long j5), .second, .val (.long j6), .second, .val (.long j7), .second, .val (.long j8), .second, .val (.long j9), .second, .val (.long j10), .second, .val (.long j11), .second, .val (.long j12), .second] [(.long j4), (.ref r1)])
  obtain ⟨T60, h60, X60, e60, W60, st60⟩ := putF Xx59 hx hZ hown (host := "") (Or.inl (hw _ (List.mem_of_getElem? (i := 26) rfl))) Via.refl e42 q47 q43 (Or.inr ⟨(hw _ (List.mem_of_getElem? (i := 27) rfl)), rfl, hnm⟩) (hw _ (List.mem_of_getElem? (i := 7) rfl)) (ty := .long) (by decide) rfl rfl (g := (mkF m 23 #[.val (.ref r1), .val (.long j1), .second, .val (.long j2), .second, .val (.long j3), .second, .val (.long j4), .second, .val (.long j5), .second, .val (.long j6), .second, .val (.long j7), .second, .val (.long j8), .second, .val (.long j9), .second, .val (.long j10), .second, .val (.long j11), .second, .val (.long j12), .second] [(.long j4), (.ref r1)])) rfl rfl (hb hby d2_23)
  have q61 : Exa Z h60 r1 "com/example/examwright/examwright/CompetitionScore" := q43.wr W60
  have q62 : Fld Z h60 r1 "com/example/examwright/examwright/CompetitionScore" "conflicts" "J" (.long j1) := q44.other W60 (Or.inr (slot_ne (Or.inr (hw _ (List.mem_of_getElem? (i := 21) rfl))) (Or.inr (hw _ (List.mem_of_getElem? (i := 27) rfl))) (by decide) (t := .long) (t' := .long) (by decide) (by decide)))
  have q63 : Fld Z h60 r1 "com/example/examwright/examwright/CompetitionScore" "roomOccupancy" "J" (.long j2) := q45.other W60 (Or.inr (slot_ne (Or.inr (hw _ (List.mem_of_getElem? (i := 23) rfl))) (Or.inr (hw _ (List.mem_of_getElem? (i := 27) rfl))) (by decide) (t := .long) (t' := .long) (by decide) (by decide)))
  have q64 : Fld Z h60 r1 "com/example/examwright/examwright/CompetitionScore" "periodUtilisation" "J" (.long j3) := q46.other W60 (Or.inr (slot_ne (Or.inr (hw _ (List.mem_of_getElem? (i := 25) rfl))) (Or.inr (hw _ (List.mem_of_getElem? (i := 27) rfl))) (by decide) (t := .long) (t' := .long) (by decide) (by decide)))
  have q65 : Fld Z h60 r1 "com/example/examwright/examwright/CompetitionScore" "periodRelated" "J" (.long j4) := q47.same W60
  have q66 : Fld Z h60 r1 "com/example/examwright/examwright/CompetitionScore" "roomRelated" "J" u_4 := q48.other W60 (Or.inr (slot_ne (Or.inr (hw _ (List.mem_of_getElem? (i := 29) rfl))) (Or.inr (hw _ (List.mem_of_getElem? (i := 27) rfl))) (by decide) (t := .long) (t' := .long) (by decide) (by decide)))
  have q67 : Fld Z h60 r1 "com/example/examwright/examwright/CompetitionScore" "twoInARow" "J" u_5 := q49.other W60 (Or.inr (slot_ne (Or.inr (hw _ (List.mem_of_getElem? (i := 31) rfl))) (Or.inr (hw _ (List.mem_of_getElem? (i := 27) rfl))) (by decide) (t := .long) (t' := .long) (by decide) (by decide)))
  have q68 : Fld Z h60 r1 "com/example/examwright/examwright/CompetitionScore" "twoInADay" "J" u_6 := q50.other W60 (Or.inr (slot_ne (Or.inr (hw _ (List.mem_of_getElem? (i := 33) rfl))) (Or.inr (hw _ (List.mem_of_getElem? (i := 27) rfl))) (by decide) (t := .long) (t' := .long) (by decide) (by decide)))
  have q69 : Fld Z h60 r1 "com/example/examwright/examwright/CompetitionScore" "periodSpread" "J" u_7 := q51.other W60 (Or.inr (slot_ne (Or.inr (hw _ (List.mem_of_getElem? (i := 35) rfl))) (Or.inr (hw _ (List.mem_of_getElem? (i := 27) rfl))) (by decide) (t := .long) (t' := .long) (by decide) (by decide)))
  have q70 : Fld Z h60 r1 "com/example/examwright/examwright/CompetitionScore" "mixedDurations" "J" u_8 := q52.other W60 (Or.inr (slot_ne (Or.inr (hw _ (List.mem_of_getElem? (i := 37) rfl))) (Or.inr (hw _ (List.mem_of_getElem? (i := 27) rfl))) (by decide) (t := .long) (t' := .long) (by decide) (by decide)))
  have q71 : Fld Z h60 r1 "com/example/examwright/examwright/CompetitionScore" "frontLoad" "J" u_9 := q53.other W60 (Or.inr (slot_ne (Or.inr (hw _ (List.mem_of_getElem? (i := 39) rfl))) (Or.inr (hw _ (List.mem_of_getElem? (i := 27) rfl))) (by decide) (t := .long) (t' := .long) (by decide) (by decide)))
  have q72 : Fld Z h60 r1 "com/example/examwright/examwright/CompetitionScore" "periodPenalty" "J" u_10 := q54.other W60 (Or.inr (slot_ne (Or.inr (hw _ (List.mem_of_getElem? (i := 41) rfl))) (Or.inr (hw _ (List.mem_of_getElem? (i := 27) rfl))) (by decide) (t := .long) (t' := .long) (by decide) (by decide)))
  have q73 : Fld Z h60 r1 "com/example/examwright/examwright/CompetitionScore" "roomPenalty" "J" u_11 := q55.other W60 (Or.inr (slot_ne (Or.inr (hw _ (List.mem_of_getElem? (i := 43) rfl))) (Or.inr (hw _ (List.mem_of_getElem? (i := 27) rfl))) (by decide) (t := .long) (t' := .long) (by decide) (by decide)))
  have Z74 : n0 ≤ h60.size := Nat.le_trans Z56 (Keep.of_wr W60).1
  have K75 : Keep h0 h60 [r1] := K57.wr W60 (Or.inl (List.mem_of_getElem? (i := 0) rfl))
  have N76 := Fr.snoc X60 Nx59 g_r1
  obtain ⟨Lx77, Xx77, Nx77⟩ := own_locs X60 N76
  refine Go.of st60 ?_
  show Go p e below Qo T60 (mkF m 26 #[.val (.ref r1), .val (.long j1), .second, .val (.long j2), .second, .val (.long j3), .second, .val (.long j4), .second, .val (.long j5), .second, .val (.long j6), .second, .val (.long j7), .second, .val (.long j8), .second, .val (.long j9), .second, .val (.long j10), .second, .val (.long j11), .second, .val (.long j12), .second] [])
  refine Go.of (fun t k => XS.aloadN Xx77.here hx rfl (hb hby d2_26) rfl rfl k) ?_
  show Go p e below Qo T60 (mkF m 27 #[.val (.ref r1), .val (.long j1), .second, .val (.long j2), .second, .val (.long j3), .second, .val (.long j4), .second, .val (.long j5), .second, .val (.long j6), .second, .val (.long j7), .second, .val (.long j8), .second, .val (.long j9), .second, .val (.long j10), .second, .val (.long j11), .second, .val (.long j12), .second] [(.ref r1)])
  refine Go.of (fun t k => XS.lload Xx77.here hx rfl (hb hby d2_27) rfl  k) ?_
  show Go p e below Qo T60 (mkF m 29 #[.val (.ref r1), .val (.long j1), .second, .val (.long j2), .second, .val (.long j3), .second, .val (.long j4), .second, .val (.long j5), .second, .val (.long j6), .second, .val (.long j7), .second, .val (.long j8), .second, .val (.long j9), .second, .val (.long j10), .second, .val (.long j11), .second, .val (.long j12), .second] [(.long j5), (.ref r1)])
  obtain ⟨T78, h78, X78, e78, W78, st78⟩ := putF Xx77 hx hZ hown (host := "") (Or.inl (hw _ (List.mem_of_getElem? (i := 28) rfl))) Via.refl e60 q66 q61 (Or.inr ⟨(hw _ (List.mem_of_getElem? (i := 29) rfl)), rfl, hnm⟩) (hw _ (List.mem_of_getElem? (i := 7) rfl)) (ty := .long) (by decide) rfl rfl (g := (mkF m 29 #[.val (.ref r1), .val (.long j1), .second, .val (.long j2), .second, .val (.long j3), .second, .val (.long j4), .second, .val (.long j5), .second, .val (.long j6), .second, .val (.long j7), .second, .val (.long j8), .second, .val (.long j9), .second, .val (.long j10), .second, .val (.long j11), .second, .val (.long j12), .second] [(.long j5), (.ref r1)])) rfl rfl (hb hby d2_29)
  have q79 : Exa Z h78 r1 "com/example/examwright/examwright/CompetitionScore" := q61.wr W78
  have q80 : Fld Z h78 r1 "com/example/examwright/examwright/CompetitionScore" "conflicts" "J" (.long j1) := q62.other W78 (Or.inr (slot_ne (Or.inr (hw _ (List.mem_of_getElem? (i := 21) rfl))) (Or.inr (hw _ (List.mem_of_getElem? (i := 29) rfl))) (by decide) (t := .long) (t' := .long) (by decide) (by decide)))
  have q81 : Fld Z h78 r1 "com/example/examwright/examwright/CompetitionScore" "roomOccupancy" "J" (.long j2) := q63.other W78 (Or.inr (slot_ne (Or.inr (hw _ (List.mem_of_getElem? (i := 23) rfl))) (Or.inr (hw _ (List.mem_of_getElem? (i := 29) rfl))) (by decide) (t := .long) (t' := .long) (by decide) (by decide)))
  have q82 : Fld Z h78 r1 "com/example/examwright/examwright/CompetitionScore" "periodUtilisation" "J" (.long j3) := q64.other W78 (Or.inr (slot_ne (Or.inr (hw _ (List.mem_of_getElem? (i := 25) rfl))) (Or.inr (hw _ (List.mem_of_getElem? (i := 29) rfl))) (by decide) (t := .long) (t' := .long) (by decide) (by decide)))
  have q83 : Fld Z h78 r1 "com/example/examwright/examwright/CompetitionScore" "periodRelated" "J" (.long j4) := q65.other W78 (Or.inr (slot_ne (Or.inr (hw _ (List.mem_of_getElem? (i := 27) rfl))) (Or.inr (hw _ (List.mem_of_getElem? (i := 29) rfl))) (by decide) (t := .long) (t' := .long) (by decide) (by decide)))
  have q84 : Fld Z h78 r1 "com/example/examwright/examwright/CompetitionScore" "roomRelated" "J" (.long j5) := q66.same W78
  have q85 : Fld Z h78 r1 "com/example/examwright/examwright/CompetitionScore" "twoInARow" "J" u_5 := q67.other W78 (Or.inr (slot_ne (Or.inr (hw _ (List.mem_of_getElem? (i := 31) rfl))) (Or.inr (hw _ (List.mem_of_getElem? (i := 29) rfl))) (by decide) (t := .long) (t' := .long) (by decide) (by decide)))
  have q86 : Fld Z h78 r1 "com/example/examwright/examwright/CompetitionScore" "twoInADay" "J" u_6 := q68.other W78 (Or.inr (slot_ne (Or.inr (hw _ (List.mem_of_getElem? (i := 33) rfl))) (Or.inr (hw _ (List.mem_of_getElem? (i := 29) rfl))) (by decide) (t := .long) (t' := .long) (by decide) (by decide)))
  have q87 : Fld Z h78 r1 "com/example/examwright/examwright/CompetitionScore" "periodSpread" "J" u_7 := q69.other W78 (Or.inr (slot_ne (Or.inr (hw _ (List.mem_of_getElem? (i := 35) rfl))) (Or.inr (hw _ (List.mem_of_getElem? (i := 29) rfl))) (by decide) (t := .long) (t' := .long) (by decide) (by decide)))
  have q88 : Fld Z h78 r1 "com/example/examwright/examwright/CompetitionScore" "mixedDurations" "J" u_8 := q70.other W78 (Or.inr (slot_ne (Or.inr (hw _ (List.mem_of_getElem? (i := 37) rfl))) (Or.inr (hw _ (List.mem_of_getElem? (i := 29) rfl))) (by decide) (t := .long) (t' := .long) (by decide) (by decide)))
  have q89 : Fld Z h78 r1 "com/example/examwright/examwright/CompetitionScore" "frontLoad" "J" u_9 := q71.other W78 (Or.inr (slot_ne (Or.inr (hw _ (List.mem_of_getElem? (i := 39) rfl))) (Or.inr (hw _ (List.mem_of_getElem? (i := 29) rfl))) (by decide) (t := .long) (t' := .long) (by decide) (by decide)))
  have q90 : Fld Z h78 r1 "com/example/examwright/examwright/CompetitionScore" "periodPenalty" "J" u_10 := q72.other W78 (Or.inr (slot_ne (Or.inr (hw _ (List.mem_of_getElem? (i := 41) rfl))) (Or.inr (hw _ (List.mem_of_getElem? (i := 29) rfl))) (by decide) (t := .long) (t' := .long) (by decide) (by decide)))
  have q91 : Fld Z h78 r1 "com/example/examwright/examwright/CompetitionScore" "roomPenalty" "J" u_11 := q73.other W78 (Or.inr (slot_ne (Or.inr (hw _ (List.mem_of_getElem? (i := 43) rfl))) (Or.inr (hw _ (List.mem_of_getElem? (i := 29) rfl))) (by decide) (t := .long) (t' := .long) (by decide) (by decide)))
  have Z92 : n0 ≤ h78.size := Nat.le_trans Z74 (Keep.of_wr W78).1
  have K93 : Keep h0 h78 [r1] := K75.wr W78 (Or.inl (List.mem_of_getElem? (i := 0) rfl))
  have N94 := Fr.snoc X78 Nx77 g_r1
  obtain ⟨Lx95, Xx95, Nx95⟩ := own_locs X78 N94
  refine Go.of st78 ?_
  show Go p e below Qo T78 (mkF m 32 #[.val (.ref r1), .val (.long j1), .second, .val (.long j2), .second, .val (.long j3), .second, .val (.long j4), .second, .val (.long j5), .second, .val (.long j6), .second, .val (.long j7), .second, .val (.long j8), .second, .val (.long j9), .second, .val (.long j10), .second, .val (.long j11), .second, .val (.long j12), .second] [])
  refine Go.of (fun t k => XS.aloadN Xx95.here hx rfl (hb hby d2_32) rfl rfl k) ?_
  show Go p e below Qo T78 (mkF m 33 #[.val (.ref r1), .val (.long j1), .second, .val (.long j2), .second, .val (.long j3), .second, .val (.long j4), .second, .val (.long j5), .second, .val (.long j6), .second, .val (.long j7), .second, .val (.long j8), .second, .val (.long j9), .second, .val (.long j10), .second, .val (.long j11), .second, .val (.long j12), .second] [(.ref r1)])
  refine Go.of (fun t k => XS.lload Xx95.here hx rfl (hb hby d2_33) rfl  k) ?_
  show Go p e below Qo T78 (mkF m 35 #[.val (.ref r1), .val (.long j1), .second, .val (.long j2), .second, .val (.long j3), .second, .val (.long j4), .second, .val (.long j5), .second, .val (.long j6), .second, .val (.long j7), .second, .val (.long j8), .second, .val (.long j9), .second, .val (.long j10), .second, .val (.long j11), .second, .val (.long j12), .second] [(.long j6), (.ref r1)])
  obtain ⟨T96, h96, X96, e96, W96, st96⟩ := putF Xx95 hx hZ hown (host := "") (Or.inl (hw _ (List.mem_of_getElem? (i := 30) rfl))) Via.refl e78 q85 q79 (Or.inr ⟨(hw _ (List.mem_of_getElem? (i := 31) rfl)), rfl, hnm⟩) (hw _ (List.mem_of_getElem? (i := 7) rfl)) (ty := .long) (by decide) rfl rfl (g := (mkF m 35 #[.val (.ref r1), .val (.long j1), .second, .val (.long j2), .second, .val (.long j3), .second, .val (.long j4), .second, .val (.long j5), .second, .val (.long j6), .second, .val (.long j7), .second, .val (.long j8), .second, .val (.long j9), .second, .val (.long j10), .second, .val (.long j11), .second, .val (.long j12), .second] [(.long j6), (.ref r1)])) rfl rfl (hb hby d2_35)
  have q97 : Exa Z h96 r1 "com/example/examwright/examwright/CompetitionScore" := q79.wr W96
  have q98 : Fld Z h96 r1 "com/example/examwright/examwright/CompetitionScore" "conflicts" "J" (.long j1) := q80.other W96 (Or.inr (slot_ne (Or.inr (hw _ (List.mem_of_getElem? (i := 21) rfl))) (Or.inr (hw _ (List.mem_of_getElem? (i := 31) rfl))) (by decide) (t := .long) (t' := .long) (by decide) (by decide)))
  have q99 : Fld Z h96 r1 "com/example/examwright/examwright/CompetitionScore" "roomOccupancy" "J" (.long j2) := q81.other W96 (Or.inr (slot_ne (Or.inr (hw _ (List.mem_of_getElem? (i := 23) rfl))) (Or.inr (hw _ (List.mem_of_getElem? (i := 31) rfl))) (by decide) (t := .long) (t' := .long) (by decide) (by decide)))
  have q100 : Fld Z h96 r1 "com/example/examwright/examwright/CompetitionScore" "periodUtilisation" "J" (.long j3) := q82.other W96 (Or.inr (slot_ne (Or.inr (hw _ (List.mem_of_getElem? (i := 25) rfl))) (Or.inr (hw _ (List.mem_of_getElem? (i := 31) rfl))) (by decide) (t := .long) (t' := .long) (by decide) (by decide)))
  have q101 : Fld Z h96 r1 "com/example/examwright/examwright/CompetitionScore" "periodRelated" "J" (.long j4) := q83.other W96 (Or.inr (slot_ne (Or.inr (hw _ (List.mem_of_getElem? (i := 27) rfl))) (Or.inr (hw _ (List.mem_of_getElem? (i := 31) rfl))) (by decide) (t := .long) (t' := .long) (by decide) (by decide)))
  have q102 : Fld Z h96 r1 "com/example/examwright/examwright/CompetitionScore" "roomRelated" "J" (.long j5) := q84.other W96 (Or.inr (slot_ne (Or.inr (hw _ (List.mem_of_getElem? (i := 29) rfl))) (Or.inr (hw _ (List.mem_of_getElem? (i := 31) rfl))) (by decide) (t := .long) (t' := .long) (by decide) (by decide)))
  have q103 : Fld Z h96 r1 "com/example/examwright/examwright/CompetitionScore" "twoInARow" "J" (.long j6) := q85.same W96
  have q104 : Fld Z h96 r1 "com/example/examwright/examwright/CompetitionScore" "twoInADay" "J" u_6 := q86.other W96 (Or.inr (slot_ne (Or.inr (hw _ (List.mem_of_getElem? (i := 33) rfl))) (Or.inr (hw _ (List.mem_of_getElem? (i := 31) rfl))) (by decide) (t := .long) (t' := .long) (by decide) (by decide)))
  have q105 : Fld Z h96 r1 "com/example/examwright/examwright/CompetitionScore" "periodSpread" "J" u_7 := q87.other W96 (Or.inr (slot_ne (Or.inr (hw _ (List.mem_of_getElem? (i := 35) rfl))) (Or.inr (hw _ (List.mem_of_getElem? (i := 31) rfl))) (by decide) (t := .long) (t' := .long) (by decide) (by decide)))
  have q106 : Fld Z h96 r1 "com/example/examwright/examwright/CompetitionScore" "mixedDurations" "J" u_8 := q88.other W96 (Or.inr (slot_ne (Or.inr (hw _ (List.mem_of_getElem? (i := 37) rfl))) (Or.inr (hw _ (List.mem_of_getElem? (i := 31) rfl))) (by decide) (t := .long) (t' := .long) (by decide) (by decide)))
  have q107 : Fld Z h96 r1 "com/example/examwright/examwright/CompetitionScore" "frontLoad" "J" u_9 := q89.other W96 (Or.inr (slot_ne (Or.inr (hw _ (List.mem_of_getElem? (i := 39) rfl))) (Or.inr (hw _ (List.mem_of_getElem? (i := 31) rfl))) (by decide) (t := .long) (t' := .long) (by decide) (by decide)))
  have q108 : Fld Z h96 r1 "com/example/examwright/examwright/CompetitionScore" "periodPenalty" "J" u_10 := q90.other W96 (Or.inr (slot_ne (Or.inr (hw _ (List.mem_of_getElem? (i := 41) rfl))) (Or.inr (hw _ (List.mem_of_getElem? (i := 31) rfl))) (by decide) (t := .long) (t' := .long) (by decide) (by decide)))
  have q109 : Fld Z h96 r1 "com/example/examwright/examwright/CompetitionScore" "roomPenalty" "J" u_11 := q91.other W96 (Or.inr (slot_ne (Or.inr (hw _ (List.mem_of_getElem? (i := 43) rfl))) (Or.inr (hw _ (List.mem_of_getElem? (i := 31) rfl))) (by decide) (t := .long) (t' := .long) (by decide) (by decide)))
  have Z110 : n0 ≤ h96.size := Nat.le_trans Z92 (Keep.of_wr W96).1
  have K111 : Keep h0 h96 [r1] := K93.wr W96 (Or.inl (List.mem_of_getElem? (i := 0) rfl))
  have N112 := Fr.snoc X96 Nx95 g_r1
  obtain ⟨Lx113, Xx113, Nx113⟩ := own_locs X96 N112
  refine Go.of st96 ?_
  show Go p e below Qo T96 (mkF m 38 #[.val (.ref r1), .val (.long j1), .second, .val (.long j2), .second, .val (.long j3), .second, .val (.long j4), .second, .val (.long j5), .second, .val (.long j6), .second, .val (.long j7), .second, .val (.long j8), .second, .val (.long j9), .second, .val (.long j10), .second, .val (.long j11), .second, .val (.long j12), .second] [])
  refine Go.of (fun t k => XS.aloadN Xx113.here hx rfl (hb hby d2_38) rfl rfl k) ?_
  show Go p e below Qo T96 (mkF m 39 #[.val (.ref r1), .val (.long j1), .second, .val (.long j2), .second, .val (.long j3), .second, .val (.long j4), .second, .val (.long j5), .second, .val (.long j6), .second, .val (.long j7), .second, .val (.long j8), .second, .val (.long j9), .second, .val (.long j10), .second, .val (.long j11), .second, .val (.long j12), .second] [(.ref r1)])
  refine Go.of (fun t k => XS.lload Xx113.here hx rfl (hb hby d2_39) rfl  k) ?_
  show Go p e below Qo T96 (mkF m 41 #[.val (.ref r1), .val (.long j1), .second, .val (.long j2), .second, .val (.long j3), .second, .val (.long j4), .second, .val (.long j5), .second, .val (.long j6), .second, .val (.long j7), .second, .val (.long j8), .second, .val (.long j9), .second, .val (.long j10), .second, .val (.long j11), .second, .val (.long j12), .second] [(.long j7), (.ref r1)])
  obtain ⟨T114, h114, X114, e114, W114, st114⟩ := putF Xx113 hx hZ hown (host := "") (Or.inl (hw _ (List.mem_of_getElem? (i := 32) rfl))) Via.refl e96 q104 q97 (Or.inr ⟨(hw _ (List.mem_of_getElem? (i := 33) rfl)), rfl, hnm⟩) (hw _ (List.mem_of_getElem? (i := 7) rfl)) (ty := .long) (by decide) rfl rfl (g := (mkF m 41 #[.val (.ref r1), .val (.long j1), .second, .val (.long j2), .second, .val (.long j3), .second, .val (.long j4), .second, .val (.long j5), .second, .val (.long j6), .second, .val (.long j7), .second, .val (.long j8), .second, .val (.long j9), .second, .val (.long j10), .second, .val (.long j11), .second, .val (.long j12), .second] [(.long j7), (.ref r1)])) rfl rfl (hb hby d2_41)
  have q115 : Exa Z h114 r1 "com/example/examwright/examwright/CompetitionScore" := q97.wr W114
  have q116 : Fld Z h114 r1 "com/example/examwright/examwright/CompetitionScore" "conflicts" "J" (.long j1) := q98.other W114 (Or.inr (slot_ne (Or.inr (hw _ (List.mem_of_getElem? (i := 21) rfl))) (Or.inr (hw _ (List.mem_of_getElem? (i := 33) rfl))) (by decide) (t := .long) (t' := .long) (by decide) (by decide)))
  have q117 : Fld Z h114 r1 "com/example/examwright/examwright/CompetitionScore" "roomOccupancy" "J" (.long j2) := q99.other W114 (Or.inr (slot_ne (Or.inr (hw _ (List.mem_of_getElem? (i := 23) rfl))) (Or.inr (hw _ (List.mem_of_getElem? (i := 33) rfl))) (by decide) (t := .long) (t' := .long) (by decide) (by decide)))
  have q118 : Fld Z h114 r1 "com/example/examwright/examwright/CompetitionScore" "periodUtilisation" "J" (.long j3) := q100.other W114 (Or.inr (slot_ne (Or.inr (hw _ (List.mem_of_getElem? (i := 25) rfl))) (Or.inr (hw _ (List.mem_of_getElem? (i := 33) rfl))) (by decide) (t := .long) (t' := .long) (by decide) (by decide)))
  have q119 : Fld Z h114 r1 "com/example/examwright/examwright/CompetitionScore" "periodRelated" "J" (.long j4) := q101.other W114 (Or.inr (slot_ne (Or.inr (hw _ (List.mem_of_getElem? (i := 27) rfl))) (Or.inr (hw _ (List.mem_of_getElem? (i := 33) rfl))) (by decide) (t := .long) (t' := .long) (by decide) (by decide)))
  have q120 : Fld Z h114 r1 "com/example/examwright/examwright/CompetitionScore" "roomRelated" "J" (.long j5) := q102.other W114 (Or.inr (slot_ne (Or.inr (hw _ (List.mem_of_getElem? (i := 29) rfl))) (Or.inr (hw _ (List.mem_of_getElem? (i := 33) rfl))) (by decide) (t := .long) (t' := .long) (by decide) (by decide)))
  have q121 : Fld Z h114 r1 "com/example/examwright/examwright/CompetitionScore" "twoInARow" "J" (.long j6) := q103.other W114 (Or.inr (slot_ne (Or.inr (hw _ (List.mem_of_getElem? (i := 31) rfl))) (Or.inr (hw _ (List.mem_of_getElem? (i := 33) rfl))) (by decide) (t := .long) (t' := .long) (by decide) (by decide)))
  have q122 : Fld Z h114 r1 "com/example/examwright/examwright/CompetitionScore" "twoInADay" "J" (.long j7) := q104.same W114
  have q123 : Fld Z h114 r1 "com/example/examwright/examwright/CompetitionScore" "periodSpread" "J" u_7 := q105.other W114 (Or.inr (slot_ne (Or.inr (hw _ (List.mem_of_getElem? (i := 35) rfl))) (Or.inr (hw _ (List.mem_of_getElem? (i := 33) rfl))) (by decide) (t := .long) (t' := .long) (by decide) (by decide)))
  have q124 : Fld Z h114 r1 "com/example/examwright/examwright/CompetitionScore" "mixedDurations" "J" u_8 := q106.other W114 (Or.inr (slot_ne (Or.inr (hw _ (List.mem_of_getElem? (i := 37) rfl))) (Or.inr (hw _ (List.mem_of_getElem? (i := 33) rfl))) (by decide) (t := .long) (t' := .long) (by decide) (by decide)))
  have q125 : Fld Z h114 r1 "com/example/examwright/examwright/CompetitionScore" "frontLoad" "J" u_9 := q107.other W114 (Or.inr (slot_ne (Or.inr (hw _ (List.mem_of_getElem? (i := 39) rfl))) (Or.inr (hw _ (List.mem_of_getElem? (i := 33) rfl))) (by decide) (t := .long) (t' := .long) (by decide) (by decide)))
  have q126 : Fld Z h114 r1 "com/example/examwright/examwright/CompetitionScore" "periodPenalty" "J" u_10 := q108.other W114 (Or.inr (slot_ne (Or.inr (hw _ (List.mem_of_getElem? (i := 41) rfl))) (Or.inr (hw _ (List.mem_of_getElem? (i := 33) rfl))) (by decide) (t := .long) (t' := .long) (by decide) (by decide)))
  have q127 : Fld Z h114 r1 "com/example/examwright/examwright/CompetitionScore" "roomPenalty" "J" u_11 := q109.other W114 (Or.inr (slot_ne (Or.inr (hw _ (List.mem_of_getElem? (i := 43) rfl))) (Or.inr (hw _ (List.mem_of_getElem? (i := 33) rfl))) (by decide) (t := .long) (t' := .long) (by decide) (by decide)))
  have Z128 : n0 ≤ h114.size := Nat.le_trans Z110 (Keep.of_wr W114).1
  have K129 : Keep h0 h114 [r1] := K111.wr W114 (Or.inl (List.mem_of_getElem? (i := 0) rfl))
  have N130 := Fr.snoc X114 Nx113 g_r1
  obtain ⟨Lx131, Xx131, Nx131⟩ := own_locs X114 N130
  refine Go.of st114 ?_
  show Go p e below Qo T114 (mkF m 44 #[.val (.ref r1), .val (.long j1), .second, .val (.long j2), .second, .val (.long j3), .second, .val (.long j4), .second, .val (.long j5), .second, .val (.long j6), .second, .val (.long j7), .second, .val (.long j8), .second, .val (.long j9), .second, .val (.long j10), .second, .val (.long j11), .second, .val (.long j12), .second] [])
  refine Go.of (fun t k => XS.aloadN Xx131.here hx rfl (hb hby d2_44) rfl rfl k) ?_
  show Go p e below Qo T114 (mkF m 45 #[.val (.ref r1), .val (.long j1), .second, .val (.long j2), .second, .val (.long j3), .second, .val (.long j4), .second, .val (.long j5), .second, .val (.long j6), .second, .val (.long j7), .second, .val (.long j8), .second, .val (.long j9), .second, .val (.long j10), .second, .val (.long j11), .second, .val (.long j12), .second] [(.ref r1)])
  refine Go.of (fun t k => XS.lload Xx131.here hx rfl (hb hby d2_45) rfl  k) ?_
  show Go p e below Qo T114 (mkF m 47 #[.val (.ref r1), .val (.long j1), .second, .val (.long j2), .second, .val (.long j3), .second, .val (.long j4), .second, .val (.long j5), .second, .val (.long j6), .second, .val (.long j7), .second, .val (.long j8), .second, .val (.long j9), .second, .val (.long j10), .second, .val (.long j11), .second, .val (.long j12), .second] [(.long j8), (.ref r1)])
  obtain ⟨T132, h132, X132, e132, W132, st132⟩ := putF Xx131 hx hZ hown (host := "") (Or.inl (hw _ (List.mem_of_getElem? (i := 34) rfl))) Via.refl e114 q123 q115 (Or.inr ⟨(hw _ (List.mem_of_getElem? (i := 35) rfl)), rfl, hnm⟩) (hw _ (List.mem_of_getElem? (i := 7) rfl)) (ty := .long) (by decide) rfl rfl (g := (mkF m 47 #[.val (.ref r1), .val (.long j1), .second, .val (.long j2), .second, .val (.long j3), .second, .val (.long j4), .second, .val (.long j5), .second, .val (.long j6), .second, .val (.long j7), .second, .val (.long j8), .second, .val (.long j9), .second, .val (.long j10), .second, .val (.long j11), .second, .val (.long j12), .second] [(.long j8), (.ref r1)])) rfl rfl (hb hby d2_47)
  have q133 : Exa Z h132 r1 "com/example/examwright/examwright/CompetitionScore" := q115.wr W132
  have q134 : Fld Z h132 r1 "com/example/examwright/examwright/CompetitionScore" "conflicts" "J" (.long j1) := q116.other W132 (Or.inr (slot_ne (Or.inr (hw _ (List.mem_of_getElem? (i := 21) rfl))) (Or.inr (hw _ (List.mem_of_getElem? (i := 35) rfl))) (by decide) (t := .long) (t' := .long) (by decide) (by decide)))
  have q135 : Fld Z h132 r1 "com/example/examwright/examwright/CompetitionScore" "roomOccupancy" "J" (.long j2) := q117.other W132 (Or.inr (slot_ne (Or.inr (hw _ (List.mem_of_getElem? (i := 23) rfl))) (Or.inr (hw _ (List.mem_of_getElem? (i := 35) rfl))) (by decide) (t := .long) (t' := .long) (by decide) (by decide)))
  have q136 : Fld Z h132 r1 "com/example/examwright/examwright/CompetitionScore" "periodUtilisation" "J" (.long j3) := q118.other W132 (Or.inr (slot_ne (Or.inr (hw _ (List.mem_of_getElem? (i := 25) rfl))) (Or.inr (hw _ (List.mem_of_getElem? (i := 35) rfl))) (by decide) (t := .long) (t' := .long) (by decide) (by decide)))
  have q137 : Fld Z h132 r1 "com/example/examwright/examwright/CompetitionScore" "periodRelated" "J" (.long j4) := q119.other W132 (Or.inr (slot_ne (Or.inr (hw _ (List.mem_of_getElem? (i := 27) rfl))) (Or.inr (hw _ (List.mem_of_getElem? (i := 35) rfl))) (by decide) (t := .long) (t' := .long) (by decide) (by decide)))
  have q138 : Fld Z h132 r1 "com/example/examwright/examwright/CompetitionScore" "roomRelated" "J" (.long j5) := q120.other W132 (Or.inr (slot_ne (Or.inr (hw _ (List.mem_of_getElem? (i := 29) rfl))) (Or.inr (hw _ (List.mem_of_getElem? (i := 35) rfl))) (by decide) (t := .long) (t' := .long) (by decide) (by decide)))
  have q139 : Fld Z h132 r1 "com/example/examwright/examwright/CompetitionScore" "twoInARow" "J" (.long j6) := q121.other W132 (Or.inr (slot_ne (Or.inr (hw _ (List.mem_of_getElem? (i := 31) rfl))) (Or.inr (hw _ (List.mem_of_getElem? (i := 35) rfl))) (by decide) (t := .long) (t' := .long) (by decide) (by decide)))
  have q140 : Fld Z h132 r1 "com/example/examwright/examwright/CompetitionScore" "twoInADay" "J" (.long j7) := q122.other W132 (Or.inr (slot_ne (Or.inr (hw _ (List.mem_of_getElem? (i := 33) rfl))) (Or.inr (hw _ (List.mem_of_getElem? (i := 35) rfl))) (by decide) (t := .long) (t' := .long) (by decide) (by decide)))
  have q141 : Fld Z h132 r1 "com/example/examwright/examwright/CompetitionScore" "periodSpread" "J" (.long j8) := q123.same W132
  have q142 : Fld Z h132 r1 "com/example/examwright/examwright/CompetitionScore" "mixedDurations" "J" u_8 := q124.other W132 (Or.inr (slot_ne (Or.inr (hw _ (List.mem_of_getElem? (i := 37) rfl))) (Or.inr (hw _ (List.mem_of_getElem? (i := 35) rfl))) (by decide) (t := .long) (t' := .long) (by decide) (by decide)))
  have q143 : Fld Z h132 r1 "com/example/examwright/examwright/CompetitionScore" "frontLoad" "J" u_9 := q125.other W132 (Or.inr (slot_ne (Or.inr (hw _ (List.mem_of_getElem? (i := 39) rfl))) (Or.inr (hw _ (List.mem_of_getElem? (i := 35) rfl))) (by decide) (t := .long) (t' := .long) (by decide) (by decide)))
  have q144 : Fld Z h132 r1 "com/example/examwright/examwright/CompetitionScore" "periodPenalty" "J" u_10 := q126.other W132 (Or.inr (slot_ne (Or.inr (hw _ (List.mem_of_getElem? (i := 41) rfl))) (Or.inr (hw _ (List.mem_of_getElem? (i := 35) rfl))) (by decide) (t := .long) (t' := .long) (by decide) (by decide)))
  have q145 : Fld Z h132 r1 "com/example/examwright/examwright/CompetitionScore" "roomPenalty" "J" u_11 := q127.other W132 (Or.inr (slot_ne (Or.inr (hw _ (List.mem_of_getElem? (i := 43) rfl))) (Or.inr (hw _ (List.mem_of_getElem? (i := 35) rfl))) (by decide) (t := .long) (t' := .long) (by decide) (by decide)))
  have Z146 : n0 ≤ h132.size := Nat.le_trans Z128 (Keep.of_wr W132).1
  have K147 : Keep h0 h132 [r1] := K129.wr W132 (Or.inl (List.mem_of_getElem? (i := 0) rfl))
  have N148 := Fr.snoc X132 Nx131 g_r1
  obtain ⟨Lx149, Xx149, Nx149⟩ := own_locs X132 N148
  refine Go.of st132 ?_
  show Go p e below Qo T132 (mkF m 50 #[.val (.ref r1), .val (.long j1), .second, .val (.long j2), .second, .val (.long j3), .second, .val (.long j4), .second, .val (.long j5), .second, .val (.long j6), .second, .val (.long j7), .second, .val (.long j8), .second, .val (.long j9), .second, .val (.long j10), .second, .val (.long j11), .second, .val (.long j12), .second] [])
  refine Go.of (fun t k => XS.aloadN Xx149.here hx rfl (hb hby d2_50) rfl rfl k) ?_
  show Go p e below Qo T132 (mkF m 51 #[.val (.ref r1), .val (.long j1), .second, .val (.long j2), .second, .val (.long j3), .second, .val (.long j4), .second, .val (.long j5), .second, .val (.long j6), .second, .val (.long j7), .second, .val (.long j8), .second, .val (.long j9), .second, .val (.long j10), .second, .val (.long j11), .second, .val (.long j12), .second] [(.ref r1)])
  refine Go.of (fun t k => XS.lload Xx149.here hx rfl (hb hby d2_51) rfl  k) ?_
  show Go p e below Qo T132 (mkF m 53 #[.val (.ref r1), .val (.long j1), .second, .val (.long j2), .second, .val (.long j3), .second, .val (.long j4), .second, .val (.long j5), .second, .val (.long j6), .second, .val (.long j7), .second, .val (.long j8), .second, .val (.long j9), .second, .val (.long j10), .second, .val (.long j11), .second, .val (.long j12), .second] [(.long j9), (.ref r1)])
  obtain ⟨T150, h150, X150, e150, W150, st150⟩ := putF Xx149 hx hZ hown (host := "") (Or.inl (hw _ (List.mem_of_getElem? (i := 36) rfl))) Via.refl e132 q142 q133 (Or.inr ⟨(hw _ (List.mem_of_getElem? (i := 37) rfl)), rfl, hnm⟩) (hw _ (List.mem_of_getElem? (i := 7) rfl)) (ty := .long) (by decide) rfl rfl (g := (mkF m 53 #[.val (.ref r1), .val (.long j1), .second, .val (.long j2), .second, .val (.long j3), .second, .val (.long j4), .second, .val (.long j5), .second, .val (.long j6), .second, .val (.long j7), .second, .val (.long j8), .second, .val (.long j9), .second, .val (.long j10), .second, .val (.long j11), .second, .val (.long j12), .second] [(.long j9), (.ref r1)])) rfl rfl (hb hby d2_53)
  have q151 : Exa Z h150 r1 "com/example/examwright/examwright/CompetitionScore" := q133.wr W150
  have q152 : Fld Z h150 r1 "com/example/examwright/examwright/CompetitionScore" "conflicts" "J" (.long j1) := q134.other W150 (Or.inr (slot_ne (Or.inr (hw _ (List.mem_of_getElem? (i := 21) rfl))) (Or.inr (hw _ (List.mem_of_getElem? (i := 37) rfl))) (by decide) (t := .long) (t' := .long) (by decide) (by decide)))
  have q153 : Fld Z h150 r1 "com/example/examwright/examwright/CompetitionScore" "roomOccupancy" "J" (.long j2) := q135.other W150 (Or.inr (slot_ne (Or.inr (hw _ (List.mem_of_getElem? (i := 23) rfl))) (Or.inr (hw _ (List.mem_of_getElem? (i := 37) rfl))) (by decide) (t := .long) (t' := .long) (by decide) (by decide)))
  have q154 : Fld Z h150 r1 "com/example/examwright/examwright/CompetitionScore" "periodUtilisation" "J" (.long j3) := q136.other W150 (Or.inr (slot_ne (Or.inr (hw _ (List.mem_of_getElem? (i := 25) rfl))) (Or.inr (hw _ (List.mem_of_getElem? (i := 37) rfl))) (by decide) (t := .long) (t' := .long) (by decide) (by decide)))
  have q155 : Fld Z h150 r1 "com/example/examwright/examwright/CompetitionScore" "periodRelated" "J" (.long j4) := q137.other W150 (Or.inr (slot_ne (Or.inr (hw _ (List.mem_of_getElem? (i := 27) rfl))) (Or.inr (hw _ (List.mem_of_getElem? (i := 37) rfl))) (by decide) (t := .long) (t' := .long) (by decide) (by decide)))
  have q156 : Fld Z h150 r1 "com/example/examwright/examwright/CompetitionScore" "roomRelated" "J" (.long j5) := q138.other W150 (Or.inr (slot_ne (Or.inr (hw _ (List.mem_of_getElem? (i := 29) rfl))) (Or.inr (hw _ (List.mem_of_getElem? (i := 37) rfl))) (by decide) (t := .long) (t' := .long) (by decide) (by decide)))
  have q157 : Fld Z h150 r1 "com/example/examwright/examwright/CompetitionScore" "twoInARow" "J" (.long j6) := q139.other W150 (Or.inr (slot_ne (Or.inr (hw _ (List.mem_of_getElem? (i := 31) rfl))) (Or.inr (hw _ (List.mem_of_getElem? (i := 37) rfl))) (by decide) (t := .long) (t' := .long) (by decide) (by decide)))
  have q158 : Fld Z h150 r1 "com/example/examwright/examwright/CompetitionScore" "twoInADay" "J" (.long j7) := q140.other W150 (Or.inr (slot_ne (Or.inr (hw _ (List.mem_of_getElem? (i := 33) rfl))) (Or.inr (hw _ (List.mem_of_getElem? (i := 37) rfl))) (by decide) (t := .long) (t' := .long) (by decide) (by decide)))
  have q159 : Fld Z h150 r1 "com/example/examwright/examwright/CompetitionScore" "periodSpread" "J" (.long j8) := q141.other W150 (Or.inr (slot_ne (Or.inr (hw _ (List.mem_of_getElem? (i := 35) rfl))) (Or.inr (hw _ (List.mem_of_getElem? (i := 37) rfl))) (by decide) (t := .long) (t' := .long) (by decide) (by decide)))
  have q160 : Fld Z h150 r1 "com/example/examwright/examwright/CompetitionScore" "mixedDurations" "J" (.long j9) := q142.same W150
  have q161 : Fld Z h150 r1 "com/example/examwright/examwright/CompetitionScore" "frontLoad" "J" u_9 := q143.other W150 (Or.inr (slot_ne (Or.inr (hw _ (List.mem_of_getElem? (i := 39) rfl))) (Or.inr (hw _ (List.mem_of_getElem? (i := 37) rfl))) (by decide) (t := .long) (t' := .long) (by decide) (by decide)))
  have q162 : Fld Z h150 r1 "com/example/examwright/examwright/CompetitionScore" "periodPenalty" "J" u_10 := q144.other W150 (Or.inr (slot_ne (Or.inr (hw _ (List.mem_of_getElem? (i := 41) rfl))) (Or.inr (hw _ (List.mem_of_getElem? (i := 37) rfl))) (by decide) (t := .long) (t' := .long) (by decide) (by decide)))
  have q163 : Fld Z h150 r1 "com/example/examwright/examwright/CompetitionScore" "roomPenalty" "J" u_11 := q145.other W150 (Or.inr (slot_ne (Or.inr (hw _ (List.mem_of_getElem? (i := 43) rfl))) (Or.inr (hw _ (List.mem_of_getElem? (i := 37) rfl))) (by decide) (t := .long) (t' := .long) (by decide) (by decide)))
  have Z164 : n0 ≤ h150.size := Nat.le_trans Z146 (Keep.of_wr W150).1
  have K165 : Keep h0 h150 [r1] := K147.wr W150 (Or.inl (List.mem_of_getElem? (i := 0) rfl))
  have N166 := Fr.snoc X150 Nx149 g_r1
  obtain ⟨Lx167, Xx167, Nx167⟩ := own_locs X150 N166
  refine Go.of st150 ?_
  show Go p e below Qo T150 (mkF m 56 #[.val (.ref r1), .val (.long j1), .second, .val (.long j2), .second, .val (.long j3), .second, .val (.long j4), .second, .val (.long j5), .second, .val (.long j6), .second, .val (.long j7), .second, .val (.long j8), .second, .val (.long j9), .second, .val (.long j10), .second, .val (.long j11), .second, .val (.long j12), .second] [])
  refine Go.of (fun t k => XS.aloadN Xx167.here hx rfl (hb hby d2_56) rfl rfl k) ?_
  show Go p e below Qo T150 (mkF m 57 #[.val (.ref r1), .val (.long j1), .second, .val (.long j2), .second, .val (.long j3), .second, .val (.long j4), .second, .val (.long j5), .second, .val (.long j6), .second, .val (.long j7), .second, .val (.long j8), .second, .val (.long j9), .second, .val (.long j10), .second, .val (.long j11), .second, .val (.long j12), .second] [(.ref r1)])
  refine Go.of (fun t k => XS.lload Xx167.here hx rfl (hb hby d2_57) rfl  k) ?_
  show Go p e below Qo T150 (mkF m 59 #[.val (.ref r1), .val (.long j1), .second, .val (.long j2), .second, .val (.long j3), .second, .val (.long j4), .second, .val (.long j5), .second, .val (.long j6), .second, .val (.long j7), .second, .val (.long j8), .second, .val (.long j9), .second, .val (.long j10), .second, .val (.long j11), .second, .val (.long j12), .second] [(.long j10), (.ref r1)])
  obtain ⟨T168, h168, X168, e168, W168, st168⟩ := putF Xx167 hx hZ hown (host := "") (Or.inl (hw _ (List.mem_of_getElem? (i := 38) rfl))) Via.refl e150 q161 q151 (Or.inr ⟨(hw _ (List.mem_of_getElem? (i := 39) rfl)), rfl, hnm⟩) (hw _ (List.mem_of_getElem? (i := 7) rfl)) (ty := .long) (by decide) rfl rfl (g := (mkF m 59 #[.val (.ref r1), .val (.long j1), .second, .val (.long j2), .second, .val (.long j3), .second, .val (.long j4), .second, .val (.long j5), .second, .val (.long j6), .second, .val (.long j7), .second, .val (.long j8), .second, .val (.long j9), .second, .val (.long j10), .second, .val (.long j11), .second, .val (.long j12), .second] [(.long j10), (.ref r1)])) rfl rfl (hb hby d2_59)
  have q169 : Exa Z h168 r1 "com/example/examwright/examwright/CompetitionScore" := q151.wr W168
  have q170 : Fld Z h168 r1 "com/example/examwright/examwright/CompetitionScore" "conflicts" "J" (.long j1) := q152.other W168 (Or.inr (slot_ne (Or.inr (hw _ (List.mem_of_getElem? (i := 21) rfl))) (Or.inr (hw _ (List.mem_of_getElem? (i := 39) rfl))) (by decide) (t := .long) (t' := .long) (by decide) (by decide)))
  have q171 : Fld Z h168 r1 "com/example/examwright/examwright/CompetitionScore" "roomOccupancy" "J" (.long j2) := q153.other W168 (Or.inr (slot_ne (Or.inr (hw _ (List.mem_of_getElem? (i := 23) rfl))) (Or.inr (hw _ (List.mem_of_getElem? (i := 39) rfl))) (by decide) (t := .long) (t' := .long) (by decide) (by decide)))
  have q172 : Fld Z h168 r1 "com/example/examwright/examwright/CompetitionScore" "periodUtilisation" "J" (.long j3) := q154.other W168 (Or.inr (slot_ne (Or.inr (hw _ (List.mem_of_getElem? (i := 25) rfl))) (Or.inr (hw _ (List.mem_of_getElem? (i := 39) rfl))) (by decide) (t := .long) (t' := .long) (by decide) (by decide)))
  have q173 : Fld Z h168 r1 "com/example/examwright/examwright/CompetitionScore" "periodRelated" "J" (.long j4) := q155.other W168 (Or.inr (slot_ne (Or.inr (hw _ (List.mem_of_getElem? (i := 27) rfl))) (Or.inr (hw _ (List.mem_of_getElem? (i := 39) rfl))) (by decide) (t := .long) (t' := .long) (by decide) (by decide)))
  have q174 : Fld Z h168 r1 "com/example/examwright/examwright/CompetitionScore" "roomRelated" "J" (.long j5) := q156.other W168 (Or.inr (slot_ne (Or.inr (hw _ (List.mem_of_getElem? (i := 29) rfl))) (Or.inr (hw _ (List.mem_of_getElem? (i := 39) rfl))) (by decide) (t := .long) (t' := .long) (by decide) (by decide)))
  have q175 : Fld Z h168 r1 "com/example/examwright/examwright/CompetitionScore" "twoInARow" "J" (.long j6) := q157.other W168 (Or.inr (slot_ne (Or.inr (hw _ (List.mem_of_getElem? (i := 31) rfl))) (Or.inr (hw _ (List.mem_of_getElem? (i := 39) rfl))) (by decide) (t := .long) (t' := .long) (by decide) (by decide)))
  have q176 : Fld Z h168 r1 "com/example/examwright/examwright/CompetitionScore" "twoInADay" "J" (.long j7) := q158.other W168 (Or.inr (slot_ne (Or.inr (hw _ (List.mem_of_getElem? (i := 33) rfl))) (Or.inr (hw _ (List.mem_of_getElem? (i := 39) rfl))) (by decide) (t := .long) (t' := .long) (by decide) (by decide)))
  have q177 : Fld Z h168 r1 "com/example/examwright/examwright/CompetitionScore" "periodSpread" "J" (.long j8) := q159.other W168 (Or.inr (slot_ne (Or.inr (hw _ (List.mem_of_getElem? (i := 35) rfl))) (Or.inr (hw _ (List.mem_of_getElem? (i := 39) rfl))) (by decide) (t := .long) (t' := .long) (by decide) (by decide)))
  have q178 : Fld Z h168 r1 "com/example/examwright/examwright/CompetitionScore" "mixedDurations" "J" (.long j9) := q160.other W168 (Or.inr (slot_ne (Or.inr (hw _ (List.mem_of_getElem? (i := 37) rfl))) (Or.inr (hw _ (List.mem_of_getElem? (i := 39) rfl))) (by decide) (t := .long) (t' := .long) (by decide) (by decide)))
  have q179 : Fld Z h168 r1 "com/example/examwright/examwright/CompetitionScore" "frontLoad" "J" (.long j10) := q161.same W168
  have q180 : Fld Z h168 r1 "com/example/examwright/examwright/CompetitionScore" "periodPenalty" "J" u_10 := q162.other W168 (Or.inr (slot_ne (Or.inr (hw _ (List.mem_of_getElem? (i := 41) rfl))) (Or.inr (hw _ (List.mem_of_getElem? (i := 39) rfl))) (by decide) (t := .long) (t' := .long) (by decide) (by decide)))
  have q181 : Fld Z h168 r1 "com/example/examwright/examwright/CompetitionScore" "roomPenalty" "J" u_11 := q163.other W168 (Or.inr (slot_ne (Or.inr (hw _ (List.mem_of_getElem? (i := 43) rfl))) (Or.inr (hw _ (List.mem_of_getElem? (i := 39) rfl))) (by decide) (t := .long) (t' := .long) (by decide) (by decide)))
  have Z182 : n0 ≤ h168.size := Nat.le_trans Z164 (Keep.of_wr W168).1
  have K183 : Keep h0 h168 [r1] := K165.wr W168 (Or.inl (List.mem_of_getElem? (i := 0) rfl))
  have N184 := Fr.snoc X168 Nx167 g_r1
  obtain ⟨Lx185, Xx185, Nx185⟩ := own_locs X168 N184
  refine Go.of st168 ?_
  show Go p e below Qo T168 (mkF m 62 #[.val (.ref r1), .val (.long j1), .second, .val (.long j2), .second, .val (.long j3), .second, .val (.long j4), .second, .val (.long j5), .second, .val (.long j6), .second, .val (.long j7), .second, .val (.long j8), .second, .val (.long j9), .second, .val (.long j10), .second, .val (.long j11), .second, .val (.long j12), .second] [])
  refine Go.of (fun t k => XS.aloadN Xx185.here hx rfl (hb hby d2_62) rfl rfl k) ?_
  show Go p e below Qo T168 (mkF m 63 #[.val (.ref r1), .val (.long j1), .second, .val (.long j2), .second, .val (.long j3), .second, .val (.long j4), .second, .val (.long j5), .second, .val (.long j6), .second, .val (.long j7), .second, .val (.long j8), .second, .val (.long j9), .second, .val (.long j10), .second, .val (.long j11), .second, .val (.long j12), .second] [(.ref r1)])
  refine Go.of (fun t k => XS.lload Xx185.here hx rfl (hb hby d2_63) rfl  k) ?_
  show Go p e below Qo T168 (mkF m 65 #[.val (.ref r1), .val (.long j1), .second, .val (.long j2), .second, .val (.long j3), .second, .val (.long j4), .second, .val (.long j5), .second, .val (.long j6), .second, .val (.long j7), .second, .val (.long j8), .second, .val (.long j9), .second, .val (.long j10), .second, .val (.long j11), .second, .val (.long j12), .second] [(.long j11), (.ref r1)])
  obtain ⟨T186, h186, X186, e186, W186, st186⟩ := putF Xx185 hx hZ hown (host := "") (Or.inl (hw _ (List.mem_of_getElem? (i := 40) rfl))) Via.refl e168 q180 q169 (Or.inr ⟨(hw _ (List.mem_of_getElem? (i := 41) rfl)), rfl, hnm⟩) (hw _ (List.mem_of_getElem? (i := 7) rfl)) (ty := .long) (by decide) rfl rfl (g := (mkF m 65 #[.val (.ref r1), .val (.long j1), .second, .val (.long j2), .second, .val (.long j3), .second, .val (.long j4), .second, .val (.long j5), .second, .val (.long j6), .second, .val (.long j7), .second, .val (.long j8), .second, .val (.long j9), .second, .val (.long j10), .second, .val (.long j11), .second, .val (.long j12), .second] [(.long j11), (.ref r1)])) rfl rfl (hb hby d2_65)
  have q187 : Exa Z h186 r1 "com/example/examwright/examwright/CompetitionScore" := q169.wr W186
  have q188 : Fld Z h186 r1 "com/example/examwright/examwright/CompetitionScore" "conflicts" "J" (.long j1) := q170.other W186 (Or.inr (slot_ne (Or.inr (hw _ (List.mem_of_getElem? (i := 21) rfl))) (Or.inr (hw _ (List.mem_of_getElem? (i := 41) rfl))) (by decide) (t := .long) (t' := .long) (by decide) (by decide)))
  have q189 : Fld Z h186 r1 "com/example/examwright/examwright/CompetitionScore" "roomOccupancy" "J" (.long j2) := q171.other W186 (Or.inr (slot_ne (Or.inr (hw _ (List.mem_of_getElem? (i := 23) rfl))) (Or.inr (hw _ (List.mem_of_getElem? (i := 41) rfl))) (by decide) (t := .long) (t' := .long) (by decide) (by decide)))
  have q190 : Fld Z h186 r1 "com/example/examwright/examwright/CompetitionScore" "periodUtilisation" "J" (.long j3) := q172.other W186 (Or.inr (slot_ne (Or.inr (hw _ (List.mem_of_getElem? (i := 25) rfl))) (Or.inr (hw _ (List.mem_of_getElem? (i := 41) rfl))) (by decide) (t := .long) (t' := .long) (by decide) (by decide)))
  have q191 : Fld Z h186 r1 "com/example/examwright/examwright/CompetitionScore" "periodRelated" "J" (.long j4) := q173.other W186 (Or.inr (slot_ne (Or.inr (hw _ (List.mem_of_getElem? (i := 27) rfl))) (Or.inr (hw _ (List.mem_of_getElem? (i := 41) rfl))) (by decide) (t := .long) (t' := .long) (by decide) (by decide)))
  have q192 : Fld Z h186 r1 "com/example/examwright/examwright/CompetitionScore" "roomRelated" "J" (.long j5) := q174.other W186 (Or.inr (slot_ne (Or.inr (hw _ (List.mem_of_getElem? (i := 29) rfl))) (Or.inr (hw _ (List.mem_of_getElem? (i := 41) rfl))) (by decide) (t := .long) (t' := .long) (by decide) (by decide)))
  have q193 : Fld Z h186 r1 "com/example/examwright/examwright/CompetitionScore" "twoInARow" "J" (.long j6) := q175.other W186 (Or.inr (slot_ne (Or.inr (hw _ (List.mem_of_getElem? (i := 31) rfl))) (Or.inr (hw _ (List.mem_of_getElem? (i := 41) rfl))) (by decide) (t := .long) (t' := .long) (by decide) (by decide)))
  have q194 : Fld Z h186 r1 "com/example/examwright/examwright/CompetitionScore" "twoInADay" "J" (.long j7) := q176.other W186 (Or.inr (slot_ne (Or.inr (hw _ (List.mem_of_getElem? (i := 33) rfl))) (Or.inr (hw _ (List.mem_of_getElem? (i := 41) rfl))) (by decide) (t := .long) (t' := .long) (by decide) (by decide)))
  have q195 : Fld Z h186 r1 "com/example/examwright/examwright/CompetitionScore" "periodSpread" "J" (.long j8) := q177.other W186 (Or.inr (slot_ne (Or.inr (hw _ (List.mem_of_getElem? (i := 35) rfl))) (Or.inr (hw _ (List.mem_of_getElem? (i := 41) rfl))) (by decide) (t := .long) (t' := .long) (by decide) (by decide)))
  have q196 : Fld Z h186 r1 "com/example/examwright/examwright/CompetitionScore" "mixedDurations" "J" (.long j9) := q178.other W186 (Or.inr (slot_ne (Or.inr (hw _ (List.mem_of_getElem? (i := 37) rfl))) (Or.inr (hw _ (List.mem_of_getElem? (i := 41) rfl))) (by decide) (t := .long) (t' := .long) (by decide) (by decide)))
  have q197 : Fld Z h186 r1 "com/example/examwright/examwright/CompetitionScore" "frontLoad" "J" (.long j10) := q179.other W186 (Or.inr (slot_ne (Or.inr (hw _ (List.mem_of_getElem? (i := 39) rfl))) (Or.inr (hw _ (List.mem_of_getElem? (i := 41) rfl))) (by decide) (t := .long) (t' := .long) (by decide) (by decide)))
  have q198 : Fld Z h186 r1 "com/example/examwright/examwright/CompetitionScore" "periodPenalty" "J" (.long j11) := q180.same W186
  have q199 : Fld Z h186 r1 "com/example/examwright/examwright/CompetitionScore" "roomPenalty" "J" u_11 := q181.other W186 (Or.inr (slot_ne (Or.inr (hw _ (List.mem_of_getElem? (i := 43) rfl))) (Or.inr (hw _ (List.mem_of_getElem? (i := 41) rfl))) (by decide) (t := .long) (t' := .long) (by decide) (by decide)))
  have Z200 : n0 ≤ h186.size := Nat.le_trans Z182 (Keep.of_wr W186).1
  have K201 : Keep h0 h186 [r1] := K183.wr W186 (Or.inl (List.mem_of_getElem? (i := 0) rfl))
  have N202 := Fr.snoc X186 Nx185 g_r1
  obtain ⟨Lx203, Xx203, Nx203⟩ := own_locs X186 N202
  refine Go.of st186 ?_
  show Go p e below Qo T186 (mkF m 68 #[.val (.ref r1), .val (.long j1), .second, .val (.long j2), .second, .val (.long j3), .second, .val (.long j4), .second, .val (.long j5), .second, .val (.long j6), .second, .val (.long j7), .second, .val (.long j8), .second, .val (.long j9), .second, .val (.long j10), .second, .val (.long j11), .second, .val (.long j12), .second] [])
  refine Go.of (fun t k => XS.aloadN Xx203.here hx rfl (hb hby d2_68) rfl rfl k) ?_
  show Go p e below Qo T186 (mkF m 69 #[.val (.ref r1), .val (.long j1), .second, .val (.long j2), .second, .val (.long j3), .second, .val (.long j4), .second, .val (.long j5), .second, .val (.long j6), .second, .val (.long j7), .second, .val (.long j8), .second, .val (.long j9), .second, .val (.long j10), .second, .val (.long j11), .second, .val (.long j12), .second] [(.ref r1)])
  refine Go.of (fun t k => XS.lload Xx203.here hx rfl (hb hby d2_69) rfl  k) ?_
  show Go p e below Qo T186 (mkF m 71 #[.val (.ref r1), .val (.long j1), .second, .val (.long j2), .second, .val (.long j3), .second, .val (.long j4), .second, .val (.long j5), .second, .val (.long j6), .second, .val (.long j7), .second, .val (.long j8), .second, .val (.long j9), .second, .val (.long j10), .second, .val (.long j11), .second, .val (.long j12), .second] [(.long j12), (.ref r1)])
  obtain ⟨T204, h204, X204, e204, W204, st204⟩ := putF Xx203 hx hZ hown (host := "") (Or.inl (hw _ (List.mem_of_getElem? (i := 42) rfl))) Via.refl e186 q199 q187 (Or.inr ⟨(hw _ (List.mem_of_getElem? (i := 43) rfl)), rfl, hnm⟩) (hw _ (List.mem_of_getElem? (i := 7) rfl)) (ty := .long) (by decide) rfl rfl (g := (mkF m 71 #[.val (.ref r1), .val (.long j1), .second, .val (.long j2), .second, .val (.long j3), .second, .val (.long j4), .second, .val (.long j5), .second, .val (.long j6), .second, .val (.long j7), .second, .val (.long j8), .second, .val (.long j9), .second, .val (.long j10), .second, .val (.long j11), .second, .val (.long j12), .second] [(.long j12), (.ref r1)])) rfl rfl (hb hby d2_71)
  have q205 : Exa Z h204 r1 "com/example/examwright/examwright/CompetitionScore" := q187.wr W204
  have q206 : Fld Z h204 r1 "com/example/examwright/examwright/CompetitionScore" "conflicts" "J" (.long j1) := q188.other W204 (Or.inr (slot_ne (Or.inr (hw _ (List.mem_of_getElem? (i := 21) rfl))) (Or.inr (hw _ (List.mem_of_getElem? (i := 43) rfl))) (by decide) (t := .long) (t' := .long) (by decide) (by decide)))
  have q207 : Fld Z h204 r1 "com/example/examwright/examwright/CompetitionScore" "roomOccupancy" "J" (.long j2) := q189.other W204 (Or.inr (slot_ne (Or.inr (hw _ (List.mem_of_getElem? (i := 23) rfl))) (Or.inr (hw _ (List.mem_of_getElem? (i := 43) rfl))) (by decide) (t := .long) (t' := .long) (by decide) (by decide)))
  have q208 : Fld Z h204 r1 "com/example/examwright/examwright/CompetitionScore" "periodUtilisation" "J" (.long j3) := q190.other W204 (Or.inr (slot_ne (Or.inr (hw _ (List.mem_of_getElem? (i := 25) rfl))) (Or.inr (hw _ (List.mem_of_getElem? (i := 43) rfl))) (by decide) (t := .long) (t' := .long) (by decide) (by decide)))
  have q209 : Fld Z h204 r1 "com/example/examwright/examwright/CompetitionScore" "periodRelated" "J" (.long j4) := q191.other W204 (Or.inr (slot_ne (Or.inr (hw _ (List.mem_of_getElem? (i := 27) rfl))) (Or.inr (hw _ (List.mem_of_getElem? (i := 43) rfl))) (by decide) (t := .long) (t' := .long) (by decide) (by decide)))
  have q210 : Fld Z h204 r1 "com/example/examwright/examwright/CompetitionScore" "roomRelated" "J" (.long j5) := q192.other W204 (Or.inr (slot_ne (Or.inr (hw _ (List.mem_of_getElem? (i := 29) rfl))) (Or.inr (hw _ (List.mem_of_getElem? (i := 43) rfl))) (by decide) (t := .long) (t' := .long) (by decide) (by decide)))
  have q211 : Fld Z h204 r1 "com/example/examwright/examwright/CompetitionScore" "twoInARow" "J" (.long j6) := q193.other W204 (Or.inr (slot_ne (Or.inr (hw _ (List.mem_of_getElem? (i := 31) rfl))) (Or.inr (hw _ (List.mem_of_getElem? (i := 43) rfl))) (by decide) (t := .long) (t' := .long) (by decide) (by decide)))
  have q212 : Fld Z h204 r1 "com/example/examwright/examwright/CompetitionScore" "twoInADay" "J" (.long j7) := q194.other W204 (Or.inr (slot_ne (Or.inr (hw _ (List.mem_of_getElem? (i := 33) rfl))) (Or.inr (hw _ (List.mem_of_getElem? (i := 43) rfl))) (by decide) (t := .long) (t' := .long) (by decide) (by decide)))
  have q213 : Fld Z h204 r1 "com/example/examwright/examwright/CompetitionScore" "periodSpread" "J" (.long j8) := q195.other W204 (Or.inr (slot_ne (Or.inr (hw _ (List.mem_of_getElem? (i := 35) rfl))) (Or.inr (hw _ (List.mem_of_getElem? (i := 43) rfl))) (by decide) (t := .long) (t' := .long) (by decide) (by decide)))
  have q214 : Fld Z h204 r1 "com/example/examwright/examwright/CompetitionScore" "mixedDurations" "J" (.long j9) := q196.other W204 (Or.inr (slot_ne (Or.inr (hw _ (List.mem_of_getElem? (i := 37) rfl))) (Or.inr (hw _ (List.mem_of_getElem? (i := 43) rfl))) (by decide) (t := .long) (t' := .long) (by decide) (by decide)))
  have q215 : Fld Z h204 r1 "com/example/examwright/examwright/CompetitionScore" "frontLoad" "J" (.long j10) := q197.other W204 (Or.inr (slot_ne (Or.inr (hw _ (List.mem_of_getElem? (i := 39) rfl))) (Or.inr (hw _ (List.mem_of_getElem? (i := 43) rfl))) (by decide) (t := .long) (t' := .long) (by decide) (by decide)))
  have q216 : Fld Z h204 r1 "com/example/examwright/examwright/CompetitionScore" "periodPenalty" "J" (.long j11) := q198.other W204 (Or.inr (slot_ne (Or.inr (hw _ (List.mem_of_getElem? (i := 41) rfl))) (Or.inr (hw _ (List.mem_of_getElem? (i := 43) rfl))) (by decide) (t := .long) (t' := .long) (by decide) (by decide)))
  have q217 : Fld Z h204 r1 "com/example/examwright/examwright/CompetitionScore" "roomPenalty" "J" (.long j12) := q199.same W204
  have Z218 : n0 ≤ h204.size := Nat.le_trans Z200 (Keep.of_wr W204).1
  have K219 : Keep h0 h204 [r1] := K201.wr W204 (Or.inl (List.mem_of_getElem? (i := 0) rfl))
  have N220 := Fr.snoc X204 Nx203 g_r1
  obtain ⟨Lx221, Xx221, Nx221⟩ := own_locs X204 N220
  refine Go.of st204 ?_
  show Go p e below Qo T204 (mkF m 74 #[.val (.ref r1), .val (.long j1), .second, .val (.long j2), .second, .val (.long j3), .second, .val (.long j4), .second, .val (.long j5), .second, .val (.long j6), .second, .val (.long j7), .second, .val (.long j8), .second, .val (.long j9), .second, .val (.long j10), .second, .val (.long j11), .second, .val (.long j12), .second] [])
  exact own_ret0 Xx221 hx Bd.notSynchronized Bd.returns (hb hby d2_74) (fun u hu hF => hQo _ _ _ ⟨rfl, Nx221, by rw [hu, e204]; exact K219, by rw [hu, e204]; exact q205, by rw [hu, e204]; exact q206, by rw [hu, e204]; exact q207, by rw [hu, e204]; exact q208, by rw [hu, e204]; exact q209, by rw [hu, e204]; exact q210, by rw [hu, e204]; exact q211, by rw [hu, e204]; exact q212, by rw [hu, e204]; exact q213, by rw [hu, e204]; exact q214, by rw [hu, e204]; exact q215, by rw [hu, e204]; exact q216, by rw [hu, e204]; exact q217⟩ (own_mono hF (by decide) (by decide)))
theorem pd_1 : parseMethodDescriptor "(JJJJJJJJJJJJ)V" = some ⟨[.long, .long, .long, .long, .long, .long, .long, .long, .long, .long, .long, .long], none⟩ := by decide +kernel
theorem d1_0 : decode method_3_code 0 = .ok (.new 15, 3) := by decide +kernel
theorem d1_3 : decode method_3_code 3 = .ok (.dup, 1) := by decide +kernel
theorem d1_4 : decode method_3_code 4 = .ok (.aload_n 0, 1) := by decide +kernel
theorem d1_5 : decode method_3_code 5 = .ok (.iconst 0, 1) := by decide +kernel
theorem d1_6 : decode method_3_code 6 = .ok (.laload, 1) := by decide +kernel
theorem d1_7 : decode method_3_code 7 = .ok (.aload_n 0, 1) := by decide +kernel
theorem d1_8 : decode method_3_code 8 = .ok (.iconst 1, 1) := by decide +kernel
theorem d1_9 : decode method_3_code 9 = .ok (.laload, 1) := by decide +kernel
theorem d1_10 : decode method_3_code 10 = .ok (.aload_n 0, 1) := by decide +kernel
theorem d1_11 : decode method_3_code 11 = .ok (.iconst 2, 1) := by decide +kernel
theorem d1_12 : decode method_3_code 12 = .ok (.laload, 1) := by decide +kernel
theorem d1_13 : decode method_3_code 13 = .ok (.aload_n 0, 1) := by decide +kernel
theorem d1_14 : decode method_3_code 14 = .ok (.iconst 3, 1) := by decide +kernel
theorem d1_15 : decode method_3_code 15 = .ok (.laload, 1) := by decide +kernel
theorem d1_16 : decode method_3_code 16 = .ok (.aload_n 0, 1) := by decide +kernel
theorem d1_17 : decode method_3_code 17 = .ok (.iconst 4, 1) := by decide +kernel
theorem d1_18 : decode method_3_code 18 = .ok (.laload, 1) := by decide +kernel
theorem d1_19 : decode method_3_code 19 = .ok (.aload_n 0, 1) := by decide +kernel
theorem d1_20 : decode method_3_code 20 = .ok (.iconst 5, 1) := by decide +kernel
theorem d1_21 : decode method_3_code 21 = .ok (.laload, 1) := by decide +kernel
theorem d1_22 : decode method_3_code 22 = .ok (.aload_n 0, 1) := by decide +kernel
theorem d1_23 : decode method_3_code 23 = .ok (.bipush 6, 2) := by decide +kernel
theorem d1_25 : decode method_3_code 25 = .ok (.laload, 1) := by decide +kernel
theorem d1_26 : decode method_3_code 26 = .ok (.aload_n 0, 1) := by decide +kernel
theorem d1_27 : decode method_3_code 27 = .ok (.bipush 7, 2) := by decide +kernel
theorem d1_29 : decode method_3_code 29 = .ok (.laload, 1) := by decide +kernel
theorem d1_30 : decode method_3_code 30 = .ok (.aload_n 0, 1) := by decide +kernel
theorem d1_31 : decode method_3_code 31 = .ok (.bipush 8, 2) := by decide +kernel
theorem d1_33 : decode method_3_code 33 = .ok (.laload, 1) := by decide +kernel
theorem d1_34 : decode method_3_code 34 = .ok (.aload_n 0, 1) := by decide +kernel
theorem d1_35 : decode method_3_code 35 = .ok (.bipush 9, 2) := by decide +kernel
theorem d1_37 : decode method_3_code 37 = .ok (.laload, 1) := by decide +kernel
theorem d1_38 : decode method_3_code 38 = .ok (.aload_n 0, 1) := by decide +kernel
theorem d1_39 : decode method_3_code 39 = .ok (.bipush 10, 2) := by decide +kernel
theorem d1_41 : decode method_3_code 41 = .ok (.laload, 1) := by decide +kernel
theorem d1_42 : decode method_3_code 42 = .ok (.aload_n 0, 1) := by decide +kernel
theorem d1_43 : decode method_3_code 43 = .ok (.bipush 11, 2) := by decide +kernel
theorem d1_45 : decode method_3_code 45 = .ok (.laload, 1) := by decide +kernel
theorem d1_46 : decode method_3_code 46 = .ok (.invokespecial 20, 3) := by decide +kernel
theorem d1_49 : decode method_3_code 49 = .ok (.areturn, 1) := by decide +kernel
theorem pn_2 : plainName "com/example/examwright/examwright/CompetitionScoreSoftPenaltyPinLaw" = true := by first | (simp [plainName, overriddenIn]; done) | decide +kernel
theorem ef_1 (m : MethodId) (r1 : Addr)  : entryFrame m #[(.ref r1)] 1 = mkF m 0 #[.val (.ref r1)] [] := by
  first | (simp [entryFrame, mkF, argsToLocals, Value.category]; done) | rfl
def Q1 (Z : State) (r1 : Addr) (k_1 : ClassId) (x0 : Int64) (x1 : Int64) (x2 : Int64) (x3 : Int64) (x4 : Int64) (x5 : Int64) (x6 : Int64) (x7 : Int64) (x8 : Int64) (x9 : Int64) (x10 : Int64) (x11 : Int64) (h0 : Heap) (n0 : Nat) (v : Option Value) (h : Heap) (L : List Loc) : Prop := ∃ rb : Addr, v = some (.ref rb) ∧ Fr n0 L ∧ Keep h0 h [] ∧ h0.size ≤ rb ∧ Exa Z h rb "com/example/examwright/examwright/CompetitionScore" ∧ Fld Z h rb "com/example/examwright/examwright/CompetitionScore" "conflicts" "J" (.long x0) ∧ Fld Z h rb "com/example/examwright/examwright/CompetitionScore" "roomOccupancy" "J" (.long x1) ∧ Fld Z h rb "com/example/examwright/examwright/CompetitionScore" "periodUtilisation" "J" (.long x2) ∧ Fld Z h rb "com/example/examwright/examwright/CompetitionScore" "periodRelated" "J" (.long x3) ∧ Fld Z h rb "com/example/examwright/examwright/CompetitionScore" "roomRelated" "J" (.long x4) ∧ Fld Z h rb "com/example/examwright/examwright/CompetitionScore" "twoInARow" "J" (.long x5) ∧ Fld Z h rb "com/example/examwright/examwright/CompetitionScore" "twoInADay" "J" (.long x6) ∧ Fld Z h rb "com/example/examwright/examwright/CompetitionScore" "periodSpread" "J" (.long x7) ∧ Fld Z h rb "com/example/examwright/examwright/CompetitionScore" "mixedDurations" "J" (.long x8) ∧ Fld Z h rb "com/example/examwright/examwright/CompetitionScore" "frontLoad" "J" (.long x9) ∧ Fld Z h rb "com/example/examwright/examwright/CompetitionScore" "periodPenalty" "J" (.long x10) ∧ Fld Z h rb "com/example/examwright/examwright/CompetitionScore" "roomPenalty" "J" (.long x11)
set_option maxRecDepth 65536 in
set_option maxHeartbeats 40000000 in
theorem rm1 (l : Launch) (Z : State) (a0 : Array Value) (hw : ∀ d ∈ tables_1, d.before a0 Z = true) (ws : List Jvm.Cond) (r1 : Addr) (k_1 : ClassId) (x0 : Int64) (x1 : Int64) (x2 : Int64) (x3 : Int64) (x4 : Int64) (x5 : Int64) (x6 : Int64) (x7 : Int64) (x8 : Int64) (x9 : Int64) (x10 : Int64) (x11 : Int64) (h0 : Heap) (n0 : Nat) (Z0 : n0 ≤ h0.size) (f0 : Arv Z h0 r1 k_1 .long (12 : Int32) [(.long x0), (.long x1), (.long x2), (.long x3), (.long x4), (.long x5), (.long x6), (.long x7), (.long x8), (.long x9), (.long x10), (.long x11)] (.long (0 : Int64))) :
    MetFree l (⟨"com/example/examwright/examwright/CompetitionScoreSoftPenaltyPinLaw", "make", "([J)Lcom/example/examwright/examwright/CompetitionScore;"⟩ : MethodName) (head1 (Jvm.Cond.code (⟨"com/example/examwright/examwright/CompetitionScoreSoftPenaltyPinLaw", "make", "([J)Lcom/example/examwright/examwright/CompetitionScore;"⟩ : MethodName) method_3_code 1 (some (.object "com/example/examwright/examwright/CompetitionScore")) :: ws) ({ frames := 3, cells := 1, slots := 12, locals := 61 } : Room)) (fun a U => a = #[(.ref r1)] ∧ Z.Warmed39 U.vm ∧ U.heap = h0) (fun _ _ _ _ _ => True) (fun _ U o U' => ∃ v L, o = .returned v ∧ Q1 Z r1 k_1 x0 x1 x2 x3 x4 x5 x6 x7 x8 x9 x10 x11 h0 n0 v U'.heap L ∧ FrameEnd U o U' L ({ frames := 3, cells := 1, slots := 12, locals := 61 } : Room).cells ({ frames := 3, cells := 1, slots := 12, locals := 61 } : Room).slots) := by
  refine MetFree.of_bodySF (plainFor_of_name pn_2) hisR ?_
  intro p e s m args below meth c s₁ Bd hml0 hP hK
  obtain ⟨rfl, hZ, hh⟩ := hP
  have hx := Bd.exec
  have hby := Bd.bytes
  have hml : c.maxLocals = 1 := hml0
  have hown : s.vm.findClass "com/example/examwright/examwright/CompetitionScoreSoftPenaltyPinLaw" = some m.cls := findClass_of_methodNamed Bd.named
  have hnm := (name_of_methodNamed Bd.named Bd.method).1
  have X0 : Stand p l e ({ frames := 3, cells := 1, slots := 12, locals := 61 } : Room) s m #[(.ref r1)] below meth c s₁ [] 0 0 := Stand.of_body Bd
  have e0 : s₁.heap = h0 := by rw [← hh, Bd.state]; rfl
  have N0 := Fr.nil n0
  suffices H : ∀ Qo : Outcome → State → Prop, (∀ (v : Option Value) (u : State) (L : List Loc), Q1 Z r1 k_1 x0 x1 x2 x3 x4 x5 x6 x7 x8 x9 x10 x11 h0 n0 v u.heap L → FrameEnd s (.returned v) u L ({ frames := 3, cells := 1, slots := 12, locals := 61 } : Room).cells ({ frames := 3, cells := 1, slots := 12, locals := 61 } : Room).slots → Qo (.returned v) u) → Go p e below Qo s₁ (mkF m 0 #[.val (.ref r1)] []) from
    Go.cast (ef_1 m r1) (H _ fun v u L h1 h2 => ⟨v, L, rfl, h1, h2⟩)
  intro Qo hQo
  show Go p e below Qo s₁ (mkF m 0 #[.val (.ref r1)] [])
  obtain ⟨T1, h1, X1, e1, E1, A1, D1, -, st1⟩ := newO X0 hx hZ hown (hw _ (List.mem_of_getElem? (i := 6) rfl)) (hw _ (List.mem_of_getElem? (i := 7) rfl)) (hw _ (List.mem_of_getElem? (i := 8) rfl)) e0 (g := (mkF m 0 #[.val (.ref r1)] [])) rfl (hb hby d1_0) (by decide) (by decide)
  obtain ⟨b1, g1⟩ : ∃ z, z = h0.size := ⟨_, rfl⟩
  rw [← g1] at A1 D1 st1
  have ne2 : r1 ≠ b1 := Nat.ne_of_lt (Nat.lt_of_lt_of_le f0.lt (Nat.le_of_eq g1.symm))
  have g3 : n0 ≤ b1 := Nat.le_trans Z0 (Nat.le_of_eq g1.symm)
  have sz4 : h0.size ≤ b1 := Nat.le_trans (Keep.refl h0 []).1 (Nat.le_of_eq g1.symm)
  have q5 : Arv Z h1 r1 k_1 .long (12 : Int32) [(.long x0), (.long x1), (.long x2), (.long x3), (.long x4), (.long x5), (.long x6), (.long x7), (.long x8), (.long x9), (.long x10), (.long x11)] (.long (0 : Int64)) := f0.ext E1
  have Z6 : n0 ≤ h1.size := Nat.le_trans Z0 E1.1
  have K7 : Keep h0 h1 [] := (Keep.refl h0 []).ext E1
  replace X1 := own_cs X1 (c' := 1) (s' := 12) (by decide) (by decide)
  have q8 : Fld Z h1 b1 "com/example/examwright/examwright/CompetitionScore" "conflicts" "J" (.long (0 : Int64)) := D1 (Or.inr (hw _ (List.mem_of_getElem? (i := 21) rfl))) (ty := .long) (by decide)
  have q9 : Fld Z h1 b1 "com/example/examwright/examwright/CompetitionScore" "roomOccupancy" "J" (.long (0 : Int64)) := D1 (Or.inr (hw _ (List.mem_of_getElem? (i := 23) rfl))) (ty := .long) (by decide)
  have q10 : Fld Z h1 b1 "com/example/examwright/examwright/CompetitionScore" "periodUtilisation" "J" (.long (0 : Int64)) := D1 (Or.inr (hw _ (List.mem_of_getElem? (i := 25) rfl))) (ty := .long) (by decide)
  have q11 : Fld Z h1 b1 "com/example/examwright/examwright/CompetitionScore" "periodRelated" "J" (.long (0 : Int64)) := D1 (Or.inr (hw _ (List.mem_of_getElem? (i := 27) rfl))) (ty := .long) (by decide)
  have q12 : Fld Z h1 b1 "com/example/examwright/examwright/CompetitionScore" "roomRelated" "J" (.long (0 : Int64)) := D1 (Or.inr (hw _ (List.mem_of_getElem? (i := 29) rfl))) (ty := .long) (by decide)
  have q13 : Fld Z h1 b1 "com/example/examwright/examwright/CompetitionScore" "twoInARow" "J" (.long (0 : Int64)) := D1 (Or.inr (hw _ (List.mem_of_getElem? (i := 31) rfl))) (ty := .long) (by decide)
  have q14 : Fld Z h1 b1 "com/example/examwright/examwright/CompetitionScore" "twoInADay" "J" (.long (0 : Int64)) := D1 (Or.inr (hw _ (List.mem_of_getElem? (i := 33) rfl))) (ty := .long) (by decide)
  have q15 : Fld Z h1 b1 "com/example/examwright/examwright/CompetitionScore" "periodSpread" "J" (.long (0 : Int64)) := D1 (Or.inr (hw _ (List.mem_of_getElem? (i := 35) rfl))) (ty := .long) (by decide)
  have q16 : Fld Z h1 b1 "com/example/examwright/examwright/CompetitionScore" "mixedDurations" "J" (.long (0 : Int64)) := D1 (Or.inr (hw _ (List.mem_of_getElem? (i := 37) rfl))) (ty := .long) (by decide)
  have q17 : Fld Z h1 b1 "com/example/examwright/examwright/CompetitionScore" "frontLoad" "J" (.long (0 : Int64)) := D1 (Or.inr (hw _ (List.mem_of_getElem? (i := 39) rfl))) (ty := .long) (by decide)
  have q18 : Fld Z h1 b1 "com/example/examwright/examwright/CompetitionScore" "periodPenalty" "J" (.long (0 : Int64)) := D1 (Or.inr (hw _ (List.mem_of_getElem? (i := 41) rfl))) (ty := .long) (by decide)
  have q19 : Fld Z h1 b1 "com/example/examwright/examwright/CompetitionScore" "roomPenalty" "J" (.long (0 : Int64)) := D1 (Or.inr (hw _ (List.mem_of_getElem? (i := 43) rfl))) (ty := .long) (by decide)
  refine Go.of st1 ?_
  show Go p e below Qo T1 (mkF m 3 #[.val (.ref r1)] [(.ref b1)])
  refine Go.of (fun t k => XS.dup X1.here hx rfl (hb hby d1_3) rfl rfl k) ?_
  show Go p e below Qo T1 (mkF m 4 #[.val (.ref r1)] [(.ref b1), (.ref b1)])
  refine Go.of (fun t k => XS.aloadN X1.here hx rfl (hb hby d1_4) rfl rfl k) ?_
  show Go p e below Qo T1 (mkF m 5 #[.val (.ref r1)] [(.ref r1), (.ref b1), (.ref b1)])
  refine Go.of (fun t k => XS.iconst X1.here hx rfl (hb hby d1_5) k) ?_
  show Go p e below Qo T1 (mkF m 6 #[.val (.ref r1)] [(.int (0 : Int32)), (.ref r1), (.ref b1), (.ref b1)])
  have cpo20 := q5
  obtain ⟨clo20, Aro20, qco20, So20, Mo20, Ho20, Go20⟩ := cpo20
  have hin21 : ¬ ((0 : Int32) < 0 ∨ clo20.slots.size ≤ (0 : Int32).toNatClampNeg) := (inb_of So20 ⟨by decide, by decide⟩)
  refine Go.of (fun t k => X1.laload hx (j := (0 : Int32)) (v := (.long x0)) (by rw [e1]; exact Aro20.1) (State.isArrayOf_alike hZ.alike Aro20.2.1) Aro20.2.2 hin21 (Ho20.at hin21 rfl) (g := (mkF m 6 #[.val (.ref r1)] [(.int (0 : Int32)), (.ref r1), (.ref b1), (.ref b1)])) rfl rfl (hb hby d1_6) t k) ?_
  show Go p e below Qo T1 (mkF m 7 #[.val (.ref r1)] [(.long x0), (.ref b1), (.ref b1)])
  refine Go.of (fun t k => XS.aloadN X1.here hx rfl (hb hby d1_7) rfl rfl k) ?_
  show Go p e below Qo T1 (mkF m 8 #[.val (.ref r1)] [(.ref r1), (.long x0), (.ref b1), (.ref b1)])
  refine Go.of (fun t k => XS.iconst X1.here hx rfl (hb hby d1_8) k) ?_
  show Go p e below Qo T1 (mkF m 9 #[.val (.ref r1)] [(.int (1 : Int32)), (.ref r1), (.long x0), (.ref b1), (.ref b1)])
  have cpo22 := q5
  obtain ⟨clo22, Aro22, qco22, So22, Mo22, Ho22, Go22⟩ := cpo22
  have hin23 : ¬ ((1 : Int32) < 0 ∨ clo22.slots.size ≤ (1 : Int32).toNatClampNeg) := (inb_of So22 ⟨by decide, by decide⟩)
  refine Go.of (fun t k => X1.laload hx (j := (1 : Int32)) (v := (.long x1)) (by rw [e1]; exact Aro22.1) (State.isArrayOf_alike hZ.alike Aro22.2.1) Aro22.2.2 hin23 (Ho22.at hin23 rfl) (g := (mkF m 9 #[.val (.ref r1)] [(.int (1 : Int32)), (.ref r1), (.long x0), (.ref b1), (.ref b1)])) rfl rfl (hb hby d1_9) t k) ?_
  show Go p e below Qo T1 (mkF m 10 #[.val (.ref r1)] [(.long x1), (.long x0), (.ref b1), (.ref b1)])
  refine Go.of (fun t k => XS.aloadN X1.here hx rfl (hb hby d1_10) rfl rfl k) ?_
  show Go p e below Qo T1 (mkF m 11 #[.val (.ref r1)] [(.ref r1), (.long x1), (.long x0), (.ref b1), (.ref b1)])
  refine Go.of (fun t k => XS.iconst X1.here hx rfl (hb hby d1_11) k) ?_
  show Go p e below Qo T1 (mkF m 12 #[.val (.ref r1)] [(.int (2 : Int32)), (.ref r1), (.long x1), (.long x0), (.ref b1), (.ref b1)])
  have cpo24 := q5
  obtain ⟨clo24, Aro24, qco24, So24, Mo24, Ho24, Go24⟩ := cpo24
  have hin25 : ¬ ((2 : Int32) < 0 ∨ clo24.slots.size ≤ (2 : Int32).toNatClampNeg) := (inb_of So24 ⟨by decide, by decide⟩)
  refine Go.of (fun t k => X1.laload hx (j := (2 : Int32)) (v := (.long x2)) (by rw [e1]; exact Aro24.1) (State.isArrayOf_alike hZ.alike Aro24.2.1) Aro24.2.2 hin25 (Ho24.at hin25 rfl) (g := (mkF m 12 #[.val (.ref r1)] [(.int (2 : Int32)), (.ref r1), (.long x1), (.long x0), (.ref b1), (.ref b1)])) rfl rfl (hb hby d1_12) t k) ?_
  show Go p e below Qo T1 (mkF m 13 #[.val (.ref r1)] [(.long x2), (.long x1), (.long x0), (.ref b1), (.ref b1)])
  refine Go.of (fun t k => XS.aloadN X1.here hx rfl (hb hby d1_13) rfl rfl k) ?_
  show Go p e below Qo T1 (mkF m 14 #[.val (.ref r1)] [(.ref r1), (.long x2), (.long x1), (.long x0), (.ref b1), (.ref b1)])
  refine Go.of (fun t k => XS.iconst X1.here hx rfl (hb hby d1_14) k) ?_
  show Go p e below Qo T1 (mkF m 15 #[.val (.ref r1)] [(.int (3 : Int32)), (.ref r1), (.long x2), (.long x1), (.long x0), (.ref b1), (.ref b1)])
  have cpo26 := q5
  obtain ⟨clo26, Aro26, qco26, So26, Mo26, Ho26, Go26⟩ := cpo26
  have hin27 : ¬ ((3 : Int32) < 0 ∨ clo26.slots.size ≤ (3 : Int32).toNatClampNeg) := (inb_of So26 ⟨by decide, by decide⟩)
  refine Go.of (fun t k => X1.laload hx (j := (3 : Int32)) (v := (.long x3)) (by rw [e1]; exact Aro26.1) (State.isArrayOf_alike hZ.alike Aro26.2.1) Aro26.2.2 hin27 (Ho26.at hin27 rfl) (g := (mkF m 15 #[.val (.ref r1)] [(.int (3 : Int32)), (.ref r1), (.long x2), (.long x1), (.long x0), (.ref b1), (.ref b1)])) rfl rfl (hb hby d1_15) t k) ?_
  show Go p e below Qo T1 (mkF m 16 #[.val (.ref r1)] [(.long x3), (.long x2), (.long x1), (.long x0), (.ref b1), (.ref b1)])
  refine Go.of (fun t k => XS.aloadN X1.here hx rfl (hb hby d1_16) rfl rfl k) ?_
  show Go p e below Qo T1 (mkF m 17 #[.val (.ref r1)] [(.ref r1), (.long x3), (.long x2), (.long x1), (.long x0), (.ref b1), (.ref b1)])
  refine Go.of (fun t k => XS.iconst X1.here hx rfl (hb hby d1_17) k) ?_
  show Go p e below Qo T1 (mkF m 18 #[.val (.ref r1)] [(.int (4 : Int32)), (.ref r1), (.long x3), (.long x2), (.long x1), (.long x0), (.ref b1), (.ref b1)])
  have cpo28 := q5
  obtain ⟨clo28, Aro28, qco28, So28, Mo28, Ho28, Go28⟩ := cpo28
  have hin29 : ¬ ((4 : Int32) < 0 ∨ clo28.slots.size ≤ (4 : Int32).toNatClampNeg) := (inb_of So28 ⟨by decide, by decide⟩)
  refine Go.of (fun t k => X1.laload hx (j := (4 : Int32)) (v := (.long x4)) (by rw [e1]; exact Aro28.1) (State.isArrayOf_alike hZ.alike Aro28.2.1) Aro28.2.2 hin29 (Ho28.at hin29 rfl) (g := (mkF m 18 #[.val (.ref r1)] [(.int (4 : Int32)), (.ref r1), (.long x3), (.long x2), (.long x1), (.long x0), (.ref b1), (.ref b1)])) rfl rfl (hb hby d1_18) t k) ?_
  show Go p e below Qo T1 (mkF m 19 #[.val (.ref r1)] [(.long x4), (.long x3), (.long x2), (.long x1), (.long x0), (.ref b1), (.ref b1)])
  refine Go.of (fun t k => XS.aloadN X1.here hx rfl (hb hby d1_19) rfl rfl k) ?_
  show Go p e below Qo T1 (mkF m 20 #[.val (.ref r1)] [(.ref r1), (.long x4), (.long x3), (.long x2), (.long x1), (.long x0), (.ref b1), (.ref b1)])
  refine Go.of (fun t k => XS.iconst X1.here hx rfl (hb hby d1_20) k) ?_
  show Go p e below Qo T1 (mkF m 21 #[.val (.ref r1)] [(.int (5 : Int32)), (.ref r1), (.long x4), (.long x3), (.long x2), (.long x1), (.long x0), (.ref b1), (.ref b1)])
  have cpo30 := q5
  obtain ⟨clo30, Aro30, qco30, So30, Mo30, Ho30, Go30⟩ := cpo30
  have hin31 : ¬ ((5 : Int32) < 0 ∨ clo30.slots.size ≤ (5 : Int32).toNatClampNeg) := (inb_of So30 ⟨by decide, by decide⟩)
  refine Go.of (fun t k => X1.laload hx (j := (5 : Int32)) (v := (.long x5)) (by rw [e1]; exact Aro30.1) (State.isArrayOf_alike hZ.alike Aro30.2.1) Aro30.2.2 hin31 (Ho30.at hin31 rfl) (g := (mkF m 21 #[.val (.ref r1)] [(.int (5 : Int32)), (.ref r1), (.long x4), (.long x3), (.long x2), (.long x1), (.long x0), (.ref b1), (.ref b1)])) rfl rfl (hb hby d1_21) t k) ?_
  show Go p e below Qo T1 (mkF m 22 #[.val (.ref r1)] [(.long x5), (.long x4), (.long x3), (.long x2), (.long x1), (.long x0), (.ref b1), (.ref b1)])
  refine Go.of (fun t k => XS.aloadN X1.here hx rfl (hb hby d1_22) rfl rfl k) ?_
  show Go p e below Qo T1 (mkF m 23 #[.val (.ref r1)] [(.ref r1), (.long x5), (.long x4), (.long x3), (.long x2), (.long x1), (.long x0), (.ref b1), (.ref b1)])
  refine Go.of (fun t k => XS.bipush X1.here hx rfl (hb hby d1_23) k) ?_
  show Go p e below Qo T1 (mkF m 25 #[.val (.ref r1)] [(.int (6 : Int32)), (.ref r1), (.long x5), (.long x4), (.long x3), (.long x2), (.long x1), (.long x0), (.ref b1), (.ref b1)])
  have cpo32 := q5
  obtain ⟨clo32, Aro32, qco32, So32, Mo32, Ho32, Go32⟩ := cpo32
  have hin33 : ¬ ((6 : Int32) < 0 ∨ clo32.slots.size ≤ (6 : Int32).toNatClampNeg) := (inb_of So32 ⟨by decide, by decide⟩)
  refine Go.of (fun t k => X1.laload hx (j := (6 : Int32)) (v := (.long x6)) (by rw [e1]; exact Aro32.1) (State.isArrayOf_alike hZ.alike Aro32.2.1) Aro32.2.2 hin33 (Ho32.at hin33 rfl) (g := (mkF m 25 #[.val (.ref r1)] [(.int (6 : Int32)), (.ref r1), (.long x5), (.long x4), (.long x3), (.long x2), (.long x1), (.long x0), (.ref b1), (.ref b1)])) rfl rfl (hb hby d1_25) t k) ?_
  show Go p e below Qo T1 (mkF m 26 #[.val (.ref r1)] [(.long x6), (.long x5), (.long x4), (.long x3), (.long x2), (.long x1), (.long x0), (.ref b1), (.ref b1)])
  refine Go.of (fun t k => XS.aloadN X1.here hx rfl (hb hby d1_26) rfl rfl k) ?_
  show Go p e below Qo T1 (mkF m 27 #[.val (.ref r1)] [(.ref r1), (.long x6), (.long x5), (.long x4), (.long x3), (.long x2), (.long x1), (.long x0), (.ref b1), (.ref b1)])
  refine Go.of (fun t k => XS.bipush X1.here hx rfl (hb hby d1_27) k) ?_
  show Go p e below Qo T1 (mkF m 29 #[.val (.ref r1)] [(.int (7 : Int32)), (.ref r1), (.long x6), (.long x5), (.long x4), (.long x3), (.long x2), (.long x1), (.long x0), (.ref b1), (.ref b1)])
  have cpo34 := q5
  obtain ⟨clo34, Aro34, qco34, So34, Mo34, Ho34, Go34⟩ := cpo34
  have hin35 : ¬ ((7 : Int32) < 0 ∨ clo34.slots.size ≤ (7 : Int32).toNatClampNeg) := (inb_of So34 ⟨by decide, by decide⟩)
  refine Go.of (fun t k => X1.laload hx (j := (7 : Int32)) (v := (.long x7)) (by rw [e1]; exact Aro34.1) (State.isArrayOf_alike hZ.alike Aro34.2.1) Aro34.2.2 hin35 (Ho34.at hin35 rfl) (g := (mkF m 29 #[.val (.ref r1)] [(.int (7 : Int32)), (.ref r1), (.long x6), (.long x5), (.long x4), (.long x3), (.long x2), (.long x1), (.long x0), (.ref b1), (.ref b1)])) rfl rfl (hb hby d1_29) t k) ?_
  show Go p e below Qo T1 (mkF m 30 #[.val (.ref r1)] [(.long x7), (.long x6), (.long x5), (.long x4), (.long x3), (.long x2), (.long x1), (.long x0), (.ref b1), (.ref b1)])
  refine Go.of (fun t k => XS.aloadN X1.here hx rfl (hb hby d1_30) rfl rfl k) ?_
  show Go p e below Qo T1 (mkF m 31 #[.val (.ref r1)] [(.ref r1), (.long x7), (.long x6), (.long x5), (.long x4), (.long x3), (.long x2), (.long x1), (.long x0), (.ref b1), (.ref b1)])
  refine Go.of (fun t k => XS.bipush X1.here hx rfl (hb hby d1_31) k) ?_
  show Go p e below Qo T1 (mkF m 33 #[.val (.ref r1)] [(.int (8 : Int32)), (.ref r1), (.long x7), (.long x6), (.long x5), (.long x4), (.long x3), (.long x2), (.long x1), (.long x0), (.ref b1), (.ref b1)])
  have cpo36 := q5
  obtain ⟨clo36, Aro36, qco36, So36, Mo36, Ho36, Go36⟩ := cpo36
  have hin37 : ¬ ((8 : Int32) < 0 ∨ clo36.slots.size ≤ (8 : Int32).toNatClampNeg) := (inb_of So36 ⟨by decide, by decide⟩)
  refine Go.of (fun t k => X1.laload hx (j := (8 : Int32)) (v := (.long x8)) (by rw [e1]; exact Aro36.1) (State.isArrayOf_alike hZ.alike Aro36.2.1) Aro36.2.2 hin37 (Ho36.at hin37 rfl) (g := (mkF m 33 #[.val (.ref r1)] [(.int (8 : Int32)), (.ref r1), (.long x7), (.long x6), (.long x5), (.long x4), (.long x3), (.long x2), (.long x1), (.long x0), (.ref b1), (.ref b1)])) rfl rfl (hb hby d1_33) t k) ?_
  show Go p e below Qo T1 (mkF m 34 #[.val (.ref r1)] [(.long x8), (.long x7), (.long x6), (.long x5), (.long x4), (.long x3), (.long x2), (.long x1), (.long x0), (.ref b1), (.ref b1)])
  refine Go.of (fun t k => XS.aloadN X1.here hx rfl (hb hby d1_34) rfl rfl k) ?_
  show Go p e below Qo T1 (mkF m 35 #[.val (.ref r1)] [(.ref r1), (.long x8), (.long x7), (.long x6), (.long x5), (.long x4), (.long x3), (.long x2), (.long x1), (.long x0), (.ref b1), (.ref b1)])
  refine Go.of (fun t k => XS.bipush X1.here hx rfl (hb hby d1_35) k) ?_
  show Go p e below Qo T1 (mkF m 37 #[.val (.ref r1)] [(.int (9 : Int32)), (.ref r1), (.long x8), (.long x7), (.long x6), (.long x5), (.long x4), (.long x3), (.long x2), (.long x1), (.long x0), (.ref b1), (.ref b1)])
  have cpo38 := q5
  obtain ⟨clo38, Aro38, qco38, So38, Mo38, Ho38, Go38⟩ := cpo38
  have hin39 : ¬ ((9 : Int32) < 0 ∨ clo38.slots.size ≤ (9 : Int32).toNatClampNeg) := (inb_of So38 ⟨by decide, by decide⟩)
  refine Go.of (fun t k => X1.laload hx (j := (9 : Int32)) (v := (.long x9)) (by rw [e1]; exact Aro38.1) (State.isArrayOf_alike hZ.alike Aro38.2.1) Aro38.2.2 hin39 (Ho38.at hin39 rfl) (g := (mkF m 37 #[.val (.ref r1)] [(.int (9 : Int32)), (.ref r1), (.long x8), (.long x7), (.long x6), (.long x5), (.long x4), (.long x3), (.long x2), (.long x1), (.long x0), (.ref b1), (.ref b1)])) rfl rfl (hb hby d1_37) t k) ?_
  show Go p e below Qo T1 (mkF m 38 #[.val (.ref r1)] [(.long x9), (.long x8), (.long x7), (.long x6), (.long x5), (.long x4), (.long x3), (.long x2), (.long x1), (.long x0), (.ref b1), (.ref b1)])
  refine Go.of (fun t k => XS.aloadN X1.here hx rfl (hb hby d1_38) rfl rfl k) ?_
  show Go p e below Qo T1 (mkF m 39 #[.val (.ref r1)] [(.ref r1), (.long x9), (.long x8), (.long x7), (.long x6), (.long x5), (.long x4), (.long x3), (.long x2), (.long x1), (.long x0), (.ref b1), (.ref b1)])
  refine Go.of (fun t k => XS.bipush X1.here hx rfl (hb hby d1_39) k) ?_
  show Go p e below Qo T1 (mkF m 41 #[.val (.ref r1)] [(.int (10 : Int32)), (.ref r1), (.long x9), (.long x8), (.long x7), (.long x6), (.long x5), (.long x4), (.long x3), (.long x2), (.long x1), (.long x0), (.ref b1), (.ref b1)])
  have cpo40 := q5
  obtain ⟨clo40, Aro40, qco40, So40, Mo40, Ho40, Go40⟩ := cpo40
  have hin41 : ¬ ((10 : Int32) < 0 ∨ clo40.slots.size ≤ (10 : Int32).toNatClampNeg) := (inb_of So40 ⟨by decide, by decide⟩)
  refine Go.of (fun t k => X1.laload hx (j := (10 : Int32)) (v := (.long x10)) (by rw [e1]; exact Aro40.1) (State.isArrayOf_alike hZ.alike Aro40.2.1) Aro40.2.2 hin41 (Ho40.at hin41 rfl) (g := (mkF m 41 #[.val (.ref r1)] [(.int (10 : Int32)), (.ref r1), (.long x9), (.long x8), (.long x7), (.long x6), (.long x5), (.long x4), (.long x3), (.long x2), (.long x1), (.long x0), (.ref b1), (.ref b1)])) rfl rfl (hb hby d1_41) t k) ?_
  show Go p e below Qo T1 (mkF m 42 #[.val (.ref r1)] [(.long x10), (.long x9), (.long x8), (.long x7), (.long x6), (.long x5), (.long x4), (.long x3), (.long x2), (.long x1), (.long x0), (.ref b1), (.ref b1)])
  refine Go.of (fun t k => XS.aloadN X1.here hx rfl (hb hby d1_42) rfl rfl k) ?_
  show Go p e below Qo T1 (mkF m 43 #[.val (.ref r1)] [(.ref r1), (.long x10), (.long x9), (.long x8), (.long x7), (.long x6), (.long x5), (.long x4), (.long x3), (.long x2), (.long x1), (.long x0), (.ref b1), (.ref b1)])
  refine Go.of (fun t k => XS.bipush X1.here hx rfl (hb hby d1_43) k) ?_
  show Go p e below Qo T1 (mkF m 45 #[.val (.ref r1)] [(.int (11 : Int32)), (.ref r1), (.long x10), (.long x9), (.long x8), (.long x7), (.long x6), (.long x5), (.long x4), (.long x3), (.long x2), (.long x1), (.long x0), (.ref b1), (.ref b1)])
  have cpo42 := q5
  obtain ⟨clo42, Aro42, qco42, So42, Mo42, Ho42, Go42⟩ := cpo42
  have hin43 : ¬ ((11 : Int32) < 0 ∨ clo42.slots.size ≤ (11 : Int32).toNatClampNeg) := (inb_of So42 ⟨by decide, by decide⟩)
  refine Go.of (fun t k => X1.laload hx (j := (11 : Int32)) (v := (.long x11)) (by rw [e1]; exact Aro42.1) (State.isArrayOf_alike hZ.alike Aro42.2.1) Aro42.2.2 hin43 (Ho42.at hin43 rfl) (g := (mkF m 45 #[.val (.ref r1)] [(.int (11 : Int32)), (.ref r1), (.long x10), (.long x9), (.long x8), (.long x7), (.long x6), (.long x5), (.long x4), (.long x3), (.long x2), (.long x1), (.long x0), (.ref b1), (.ref b1)])) rfl rfl (hb hby d1_45) t k) ?_
  show Go p e below Qo T1 (mkF m 46 #[.val (.ref r1)] [(.long x11), (.long x10), (.long x9), (.long x8), (.long x7), (.long x6), (.long x5), (.long x4), (.long x3), (.long x2), (.long x1), (.long x0), (.ref b1), (.ref b1)])
  obtain ⟨_, _, ⟨T44, L44, k44, n44⟩, -, X44, ⟨Lc44, hQ44, l44, y44, z44⟩, st44⟩ := X1.specialBack hx (y := (⟨"com/example/examwright/examwright/CompetitionScore", "<init>", "(JJJJJJJJJJJJ)V"⟩ : MethodName)) rfl hown (mvT hZ (hw _ (List.mem_of_getElem? (i := 9) rfl))) (mvT hZ (hw _ (List.mem_of_getElem? (i := 10) rfl))) (mvT hZ (hw _ (List.mem_of_getElem? (i := 11) rfl))) (by decide) (backOf (W := 1) (rm2 l Z a0 hw [] b1 x0 x1 x2 x3 x4 x5 x6 x7 x8 x9 x10 x11 (.long (0 : Int64)) (.long (0 : Int64)) (.long (0 : Int64)) (.long (0 : Int64)) (.long (0 : Int64)) (.long (0 : Int64)) (.long (0 : Int64)) (.long (0 : Int64)) (.long (0 : Int64)) (.long (0 : Int64)) (.long (0 : Int64)) (.long (0 : Int64)) h1 n0 Z6 A1 q8 q9 q10 q11 q12 q13 q14 q15 q16 q17 q18 q19 g3) hZ (hw _ (List.mem_of_getElem? (i := 11) rfl)) (hw _ (List.mem_of_getElem? (i := 8) rfl)) (by decide) (by decide)) (g := (mkF m 46 #[.val (.ref r1)] [(.long x11), (.long x10), (.long x9), (.long x8), (.long x7), (.long x6), (.long x5), (.long x4), (.long x3), (.long x2), (.long x1), (.long x0), (.ref b1), (.ref b1)])) rfl (by rw [hml]; rfl) (Steps.refl _) (a := b1) (argsL := [(.long x0), (.long x1), (.long x2), (.long x3), (.long x4), (.long x5), (.long x6), (.long x7), (.long x8), (.long x9), (.long x10), (.long x11)]) (rest := [(.ref b1)]) (lenOf pd_1 rfl) rfl (by show 2 * 0 + _ ≤ _; exact Nat.le_of_eq rfl) (hb hby d1_46) (fun _ _ => ⟨rfl, e1, (by decide : 1 + 0 ≤ _), (by decide : 12 + 0 ≤ _)⟩)
  dsimp only [Pt.U, Pt.locs, Pt.cells, Pt.slots] at X44 l44 y44 z44 st44 hQ44
  subst l44 y44 z44
  replace X44 := own_cs X44 (c' := 1) (s' := 12) (by decide) (by decide)
  obtain ⟨rfl, N45, Kc46, q47, q48, q49, q50, q51, q52, q53, q54, q55, q56, q57, q58, q59⟩ := hQ44
  have N60 := Fr.app N0 N45
  have q61 : Arv Z T44.heap r1 k_1 .long (12 : Int32) [(.long x0), (.long x1), (.long x2), (.long x3), (.long x4), (.long x5), (.long x6), (.long x7), (.long x8), (.long x9), (.long x10), (.long x11)] (.long (0 : Int64)) := q5.keep Kc46 (ninS ne2 nin0)
  have Z62 : n0 ≤ T44.heap.size := Nat.le_trans Z6 Kc46.1
  have K63 : Keep h0 T44.heap [] := K7.trans Kc46 (allS (Or.inr sz4) all0)
  refine Go.via st44 ?_
  obtain ⟨Lx64, Xx64, Nx64⟩ := own_locs X44 N60
  show Go p e below Qo T44 (mkF m 49 #[.val (.ref r1)] [(.ref b1)])
  exact own_retW Xx64 hx Bd.notSynchronized Bd.returns rfl (Or.inr (Or.inr (Or.inr (Or.inr ⟨rfl, rfl, rfl⟩)))) (hb hby d1_49) (fun u hu hF => hQo _ _ _ ⟨b1, rfl, Nx64, by rw [hu]; exact K63, sz4, by rw [hu]; exact q47, by rw [hu]; exact q48, by rw [hu]; exact q49, by rw [hu]; exact q50, by rw [hu]; exact q51, by rw [hu]; exact q52, by rw [hu]; exact q53, by rw [hu]; exact q54, by rw [hu]; exact q55, by rw [hu]; exact q56, by rw [hu]; exact q57, by rw [hu]; exact q58, by rw [hu]; exact q59⟩ (own_mono hF (by decide) (by decide)))
theorem d5_0 : decode prog_13_method_4_code 0 = .ok (.aload_n 0, 1) := by decide +kernel
theorem d5_1 : decode prog_13_method_4_code 1 = .ok (.getfield 25, 3) := by decide +kernel
theorem d5_4 : decode prog_13_method_4_code 4 = .ok (.aload_n 0, 1) := by decide +kernel
theorem d5_5 : decode prog_13_method_4_code 5 = .ok (.getfield 28, 3) := by decide +kernel
theorem d5_8 : decode prog_13_method_4_code 8 = .ok (.ladd, 1) := by decide +kernel
theorem d5_9 : decode prog_13_method_4_code 9 = .ok (.aload_n 0, 1) := by decide +kernel
theorem d5_10 : decode prog_13_method_4_code 10 = .ok (.getfield 31, 3) := by decide +kernel
theorem d5_13 : decode prog_13_method_4_code 13 = .ok (.ladd, 1) := by decide +kernel
theorem d5_14 : decode prog_13_method_4_code 14 = .ok (.aload_n 0, 1) := by decide +kernel
theorem d5_15 : decode prog_13_method_4_code 15 = .ok (.getfield 34, 3) := by decide +kernel
theorem d5_18 : decode prog_13_method_4_code 18 = .ok (.ladd, 1) := by decide +kernel
theorem d5_19 : decode prog_13_method_4_code 19 = .ok (.aload_n 0, 1) := by decide +kernel
theorem d5_20 : decode prog_13_method_4_code 20 = .ok (.getfield 37, 3) := by decide +kernel
theorem d5_23 : decode prog_13_method_4_code 23 = .ok (.ladd, 1) := by decide +kernel
theorem d5_24 : decode prog_13_method_4_code 24 = .ok (.aload_n 0, 1) := by decide +kernel
theorem d5_25 : decode prog_13_method_4_code 25 = .ok (.getfield 40, 3) := by decide +kernel
theorem d5_28 : decode prog_13_method_4_code 28 = .ok (.ladd, 1) := by decide +kernel
theorem d5_29 : decode prog_13_method_4_code 29 = .ok (.aload_n 0, 1) := by decide +kernel
theorem d5_30 : decode prog_13_method_4_code 30 = .ok (.getfield 43, 3) := by decide +kernel
theorem d5_33 : decode prog_13_method_4_code 33 = .ok (.ladd, 1) := by decide +kernel
theorem d5_34 : decode prog_13_method_4_code 34 = .ok (.lreturn, 1) := by decide +kernel
theorem ef_5 (m : MethodId) (r1 : Addr)  : entryFrame m #[(.ref r1)] 1 = mkF m 0 #[.val (.ref r1)] [] := by
  first | (simp [entryFrame, mkF, argsToLocals, Value.category]; done) | rfl
def F5 (w5 : Int64) (w6 : Int64) (w7 : Int64) (w8 : Int64) (w9 : Int64) (w10 : Int64) (w11 : Int64) : Int64 := ((((((w5 + w6) + w7) + w8) + w9) + w10) + w11)
def Q5 (Z : State) (r1 : Addr) (w5 : Int64) (w6 : Int64) (w7 : Int64) (w8 : Int64) (w9 : Int64) (w10 : Int64) (w11 : Int64) (h0 : Heap) (n0 : Nat) (v : Option Value) (h : Heap) (L : List Loc) : Prop := v = some (.long (F5 w5 w6 w7 w8 w9 w10 w11)) ∧ Fr n0 L ∧ h = h0
set_option maxRecDepth 65536 in
set_option maxHeartbeats 40000000 in
theorem rm5 (l : Launch) (Z : State) (a0 : Array Value) (hw : ∀ d ∈ tables_1, d.before a0 Z = true) (ws : List Jvm.Cond) (r1 : Addr) (w5 : Int64) (w6 : Int64) (w7 : Int64) (w8 : Int64) (w9 : Int64) (w10 : Int64) (w11 : Int64) (h0 : Heap) (n0 : Nat) (Z0 : n0 ≤ h0.size) (f0 : Fld Z h0 r1 "com/example/examwright/examwright/CompetitionScore" "twoInARow" "J" (.long w5)) (f1 : Fld Z h0 r1 "com/example/examwright/examwright/CompetitionScore" "twoInADay" "J" (.long w6)) (f2 : Fld Z h0 r1 "com/example/examwright/examwright/CompetitionScore" "periodSpread" "J" (.long w7)) (f3 : Fld Z h0 r1 "com/example/examwright/examwright/CompetitionScore" "mixedDurations" "J" (.long w8)) (f4 : Fld Z h0 r1 "com/example/examwright/examwright/CompetitionScore" "frontLoad" "J" (.long w9)) (f5 : Fld Z h0 r1 "com/example/examwright/examwright/CompetitionScore" "periodPenalty" "J" (.long w10)) (f6 : Fld Z h0 r1 "com/example/examwright/examwright/CompetitionScore" "roomPenalty" "J" (.long w11)) :
    MetFree l (⟨"com/example/examwright/examwright/CompetitionScore", "softPenalty", "()J"⟩ : MethodName) (head1 (Jvm.Cond.code (⟨"com/example/examwright/examwright/CompetitionScore", "softPenalty", "()J"⟩ : MethodName) prog_13_method_4_code 1 (some .long) :: ws) ({ frames := 0, cells := 0, slots := 0, locals := 0 } : Room)) (fun a U => a = #[(.ref r1)] ∧ Z.Warmed39 U.vm ∧ U.heap = h0) (fun _ _ _ _ _ => True) (fun _ U o U' => ∃ v L, o = .returned v ∧ Q5 Z r1 w5 w6 w7 w8 w9 w10 w11 h0 n0 v U'.heap L ∧ FrameEnd U o U' L ({ frames := 0, cells := 0, slots := 0, locals := 0 } : Room).cells ({ frames := 0, cells := 0, slots := 0, locals := 0 } : Room).slots) := by
  refine MetFree.of_bodySF (plainFor_of_name pn_1) hisR ?_
  intro p e s m args below meth c s₁ Bd hml0 hP hK
  obtain ⟨rfl, hZ, hh⟩ := hP
  have hx := Bd.exec
  have hby := Bd.bytes
  have hml : c.maxLocals = 1 := hml0
  have hown : s.vm.findClass "com/example/examwright/examwright/CompetitionScore" = some m.cls := findClass_of_methodNamed Bd.named
  have hnm := (name_of_methodNamed Bd.named Bd.method).1
  have X0 : Stand p l e ({ frames := 0, cells := 0, slots := 0, locals := 0 } : Room) s m #[(.ref r1)] below meth c s₁ [] 0 0 := Stand.of_body Bd
  have e0 : s₁.heap = h0 := by rw [← hh, Bd.state]; rfl
  have N0 := Fr.nil n0
  suffices H : ∀ Qo : Outcome → State → Prop, (∀ (v : Option Value) (u : State) (L : List Loc), Q5 Z r1 w5 w6 w7 w8 w9 w10 w11 h0 n0 v u.heap L → FrameEnd s (.returned v) u L ({ frames := 0, cells := 0, slots := 0, locals := 0 } : Room).cells ({ frames := 0, cells := 0, slots := 0, locals := 0 } : Room).slots → Qo (.returned v) u) → Go p e below Qo s₁ (mkF m 0 #[.val (.ref r1)] []) from
    Go.cast (ef_5 m r1) (H _ fun v u L h1 h2 => ⟨v, L, rfl, h1, h2⟩)
  intro Qo hQo
  show Go p e below Qo s₁ (mkF m 0 #[.val (.ref r1)] [])
  refine Go.of (fun t k => XS.aloadN X0.here hx rfl (hb hby d5_0) rfl rfl k) ?_
  show Go p e below Qo s₁ (mkF m 1 #[.val (.ref r1)] [(.ref r1)])
  obtain ⟨T1, X1, e1, st1⟩ := getF X0 hx hZ hown (host := "") (Or.inl (hw _ (List.mem_of_getElem? (i := 30) rfl))) Via.refl e0 f0 (g := (mkF m 1 #[.val (.ref r1)] [(.ref r1)])) rfl rfl (hb hby d5_1)
  refine Go.of st1 ?_
  show Go p e below Qo T1 (mkF m 4 #[.val (.ref r1)] [(.long w5)])
  refine Go.of (fun t k => XS.aloadN X1.here hx rfl (hb hby d5_4) rfl rfl k) ?_
  show Go p e below Qo T1 (mkF m 5 #[.val (.ref r1)] [(.ref r1), (.long w5)])
  obtain ⟨T2, X2, e2, st2⟩ := getF X1 hx hZ hown (host := "") (Or.inl (hw _ (List.mem_of_getElem? (i := 32) rfl))) Via.refl e1 f1 (g := (mkF m 5 #[.val (.ref r1)] [(.ref r1), (.long w5)])) rfl rfl (hb hby d5_5)
  refine Go.of st2 ?_
  show Go p e below Qo T2 (mkF m 8 #[.val (.ref r1)] [(.long w6), (.long w5)])
  refine Go.of (fun t k => XS.ladd X2.here hx rfl (hb hby d5_8) rfl k) ?_
  show Go p e below Qo T2 (mkF m 9 #[.val (.ref r1)] [(.long (w5 + w6))])
  refine Go.of (fun t k => XS.aloadN X2.here hx rfl (hb hby d5_9) rfl rfl k) ?_
  show Go p e below Qo T2 (mkF m 10 #[.val (.ref r1)] [(.ref r1), (.long (w5 + w6))])
  obtain ⟨T3, X3, e3, st3⟩ := getF X2 hx hZ hown (host := "") (Or.inl (hw _ (List.mem_of_getElem? (i := 34) rfl))) Via.refl e2 f2 (g := (mkF m 10 #[.val (.ref r1)] [(.ref r1), (.long (w5 + w6))])) rfl rfl (hb hby d5_10)
  refine Go.of st3 ?_
  show Go p e below Qo T3 (mkF m 13 #[.val (.ref r1)] [(.long w7), (.long (w5 + w6))])
  refine Go.of (fun t k => XS.ladd X3.here hx rfl (hb hby d5_13) rfl k) ?_
  show Go p e below Qo T3 (mkF m 14 #[.val (.ref r1)] [(.long ((w5 + w6) + w7))])
  refine Go.of (fun t k => XS.aloadN X3.here hx rfl (hb hby d5_14) rfl rfl k) ?_
  show Go p e below Qo T3 (mkF m 15 #[.val (.ref r1)] [(.ref r1), (.long ((w5 + w6) + w7))])
  obtain ⟨T4, X4, e4, st4⟩ := getF X3 hx hZ hown (host := "") (Or.inl (hw _ (List.mem_of_getElem? (i := 36) rfl))) Via.refl e3 f3 (g := (mkF m 15 #[.val (.ref r1)] [(.ref r1), (.long ((w5 + w6) + w7))])) rfl rfl (hb hby d5_15)
  refine Go.of st4 ?_
  show Go p e below Qo T4 (mkF m 18 #[.val (.ref r1)] [(.long w8), (.long ((w5 + w6) + w7))])
  refine Go.of (fun t k => XS.ladd X4.here hx rfl (hb hby d5_18) rfl k) ?_
  show Go p e below Qo T4 (mkF m 19 #[.val (.ref r1)] [(.long (((w5 + w6) + w7) + w8))])
  refine Go.of (fun t k => XS.aloadN X4.here hx rfl (hb hby d5_19) rfl rfl k) ?_
  show Go p e below Qo T4 (mkF m 20 #[.val (.ref r1)] [(.ref r1), (.long (((w5 + w6) + w7) + w8))])
  obtain ⟨T5, X5, e5, st5⟩ := getF X4 hx hZ hown (host := "") (Or.inl (hw _ (List.mem_of_getElem? (i := 38) rfl))) Via.refl e4 f4 (g := (mkF m 20 #[.val (.ref r1)] [(.ref r1), (.long (((w5 + w6) + w7) + w8))])) rfl rfl (hb hby d5_20)
  refine Go.of st5 ?_
  show Go p e below Qo T5 (mkF m 23 #[.val (.ref r1)] [(.long w9), (.long (((w5 + w6) + w7) + w8))])
  refine Go.of (fun t k => XS.ladd X5.here hx rfl (hb hby d5_23) rfl k) ?_
  show Go p e below Qo T5 (mkF m 24 #[.val (.ref r1)] [(.long ((((w5 + w6) + w7) + w8) + w9))])
  refine Go.of (fun t k => XS.aloadN X5.here hx rfl (hb hby d5_24) rfl rfl k) ?_
  show Go p e below Qo T5 (mkF m 25 #[.val (.ref r1)] [(.ref r1), (.long ((((w5 + w6) + w7) + w8) + w9))])
  obtain ⟨T6, X6, e6, st6⟩ := getF X5 hx hZ hown (host := "") (Or.inl (hw _ (List.mem_of_getElem? (i := 40) rfl))) Via.refl e5 f5 (g := (mkF m 25 #[.val (.ref r1)] [(.ref r1), (.long ((((w5 + w6) + w7) + w8) + w9))])) rfl rfl (hb hby d5_25)
  refine Go.of st6 ?_
  show Go p e below Qo T6 (mkF m 28 #[.val (.ref r1)] [(.long w10), (.long ((((w5 + w6) + w7) + w8) + w9))])
  refine Go.of (fun t k => XS.ladd X6.here hx rfl (hb hby d5_28) rfl k) ?_
  show Go p e below Qo T6 (mkF m 29 #[.val (.ref r1)] [(.long (((((w5 + w6) + w7) + w8) + w9) + w10))])
  refine Go.of (fun t k => XS.aloadN X6.here hx rfl (hb hby d5_29) rfl rfl k) ?_
  show Go p e below Qo T6 (mkF m 30 #[.val (.ref r1)] [(.ref r1), (.long (((((w5 + w6) + w7) + w8) + w9) + w10))])
  obtain ⟨T7, X7, e7, st7⟩ := getF X6 hx hZ hown (host := "") (Or.inl (hw _ (List.mem_of_getElem? (i := 42) rfl))) Via.refl e6 f6 (g := (mkF m 30 #[.val (.ref r1)] [(.ref r1), (.long (((((w5 + w6) + w7) + w8) + w9) + w10))])) rfl rfl (hb hby d5_30)
  refine Go.of st7 ?_
  show Go p e below Qo T7 (mkF m 33 #[.val (.ref r1)] [(.long w11), (.long (((((w5 + w6) + w7) + w8) + w9) + w10))])
  refine Go.of (fun t k => XS.ladd X7.here hx rfl (hb hby d5_33) rfl k) ?_
  show Go p e below Qo T7 (mkF m 34 #[.val (.ref r1)] [(.long ((((((w5 + w6) + w7) + w8) + w9) + w10) + w11))])
  exact own_retW X7 hx Bd.notSynchronized Bd.returns rfl (Or.inr (Or.inl ⟨rfl, rfl, _, rfl⟩)) (hb hby d5_34) (fun u hu hF => hQo _ _ _ ⟨by rw [show (F5 w5 w6 w7 w8 w9 w10 w11) = ((((((w5 + w6) + w7) + w8) + w9) + w10) + w11) from by rfl], N0, by rw [hu, e7]⟩ (own_mono hF (by decide) (by decide)))
theorem own_seven (x : Int32) : (x &&& (2147483647 : Int32)) % (7 : Int32) = 0 ∨ (x &&& (2147483647 : Int32)) % (7 : Int32) = 1 ∨ (x &&& (2147483647 : Int32)) % (7 : Int32) = 2 ∨ (x &&& (2147483647 : Int32)) % (7 : Int32) = 3 ∨ (x &&& (2147483647 : Int32)) % (7 : Int32) = 4 ∨ (x &&& (2147483647 : Int32)) % (7 : Int32) = 5 ∨ (x &&& (2147483647 : Int32)) % (7 : Int32) = 6 := by
  have h := c_and x 2147483647 (by decide)
  have e7 : (7 : Int32).toInt = 7 := by decide
  have k := (c_irem (x &&& 2147483647) 7 7 e7).1 h.1
  simp only [← Int32.toInt_inj]
  have e10 : (0 : Int32).toInt = 0 := by decide
  have e11 : (1 : Int32).toInt = 1 := by decide
  have e12 : (2 : Int32).toInt = 2 := by decide
  have e13 : (3 : Int32).toInt = 3 := by decide
  have e14 : (4 : Int32).toInt = 4 := by decide
  have e15 : (5 : Int32).toInt = 5 := by decide
  have e16 : (6 : Int32).toInt = 6 := by decide
  rw [e10, e11, e12, e13, e14, e15, e16, k]
  omega
theorem own_rng (i1 : Int32) : ¬ ((5 : Int32) + ((i1 &&& (2147483647 : Int32)) % (7 : Int32))) < 0 ∧ ((5 : Int32) + ((i1 &&& (2147483647 : Int32)) % (7 : Int32))) < 12 := by
  rcases own_seven i1 with h | h | h | h | h | h | h <;> rw [h] <;> decide
theorem own_len (i1 : Int32) : ((5 : Int32) + ((i1 &&& (2147483647 : Int32)) % (7 : Int32))).toNatClampNeg < 12 := by
  rcases own_seven i1 with h | h | h | h | h | h | h <;> rw [h] <;> decide
theorem own_set (j4 j1 : Int64) (i1 : Int32) : ∃ y5 y6 y7 y8 y9 y10 y11 : Int64, ([(.long j4), (.long j4), (.long j4), (.long j4), (.long j4), (.long (0 : Int64)), (.long (0 : Int64)), (.long (0 : Int64)), (.long (0 : Int64)), (.long (0 : Int64)), (.long (0 : Int64)), (.long (0 : Int64))] : List Value).set ((5 : Int32) + ((i1 &&& (2147483647 : Int32)) % (7 : Int32))).toNatClampNeg (.long j1) = [(.long j4), (.long j4), (.long j4), (.long j4), (.long j4), Value.long y5, Value.long y6, Value.long y7, Value.long y8, Value.long y9, Value.long y10, Value.long y11] ∧ ((((((y5 + y6) + y7) + y8) + y9) + y10) + y11) = j1 := by
  rcases own_seven i1 with h | h | h | h | h | h | h <;> rw [h]
  · exact ⟨j1, 0, 0, 0, 0, 0, 0, rfl, by simp⟩
  · exact ⟨0, j1, 0, 0, 0, 0, 0, rfl, by simp⟩
  · exact ⟨0, 0, j1, 0, 0, 0, 0, rfl, by simp⟩
  · exact ⟨0, 0, 0, j1, 0, 0, 0, rfl, by simp⟩
  · exact ⟨0, 0, 0, 0, j1, 0, 0, rfl, by simp⟩
  · exact ⟨0, 0, 0, 0, 0, j1, 0, rfl, by simp⟩
  · exact ⟨0, 0, 0, 0, 0, 0, j1, rfl, by simp⟩
theorem own_add (a0 b0 a1 b1 a2 b2 a3 b3 a4 b4 a5 b5 a6 b6 : Int64) : F5 (a0 + b0) (a1 + b1) (a2 + b2) (a3 + b3) (a4 + b4) (a5 + b5) (a6 + b6) = F5 a0 a1 a2 a3 a4 a5 a6 + F5 b0 b1 b2 b3 b4 b5 b6 := by
  unfold F5
  grind
theorem own_fin {P Q : Prop} [Decidable P] [Decidable Q] (a b f : Int32) (ha : a = if P then 1 else 0) (hb : b = if Q then 1 else 0) (hf : f = if a = 0 then 0 else if b = 0 then 0 else 1) (hp : P) (hq : Q) : f = 1 := by
  rw [if_pos hp] at ha
  rw [if_pos hq] at hb
  rw [hf, ha, hb]; rfl
theorem pd_2 : parseMethodDescriptor "([J)Lcom/example/examwright/examwright/CompetitionScore;" = some ⟨[(.array .long)], some (.object "com/example/examwright/examwright/CompetitionScore")⟩ := by decide +kernel
theorem pd_3 : parseMethodDescriptor "()J" = some ⟨[], some .long⟩ := by decide +kernel
theorem ef_0 (m : MethodId) (j1 : Int64) (j2 : Int64) (j3 : Int64) (j4 : Int64) (i1 : Int32)  : entryFrame m #[(.long j1), (.long j2), (.long j3), (.long j4), (.int i1)] maxLocals = mkF m 0 #[.val (.long j1), .second, .val (.long j2), .second, .val (.long j3), .second, .val (.long j4), .second, .val (.int i1), .unset, .unset, .unset, .unset, .unset, .unset, .unset, .unset, .unset, .unset, .unset, .unset, .unset] [] := by
  first | (simp [entryFrame, mkF, argsToLocals, Value.category, maxLocals]; done) | rfl
def Q0 (Z : State) (j1 : Int64) (j2 : Int64) (j3 : Int64) (j4 : Int64) (i1 : Int32) (h0 : Heap) (n0 : Nat) (v : Option Value) (h : Heap) (L : List Loc) : Prop := v = some (.int 1) ∧ Fr n0 L
set_option maxRecDepth 65536 in
set_option maxHeartbeats 40000000 in
theorem rm0 (l : Launch) (Z : State) (a0 : Array Value) (hw : ∀ d ∈ tables_1, d.before a0 Z = true) (ws : List Jvm.Cond) (j1 : Int64) (j2 : Int64) (j3 : Int64) (j4 : Int64) (i1 : Int32) (h0 : Heap) (n0 : Nat) (Z0 : n0 ≤ h0.size)  :
    MetFree l x (head1 (Jvm.Cond.code x code maxLocals ret :: ws) room_1) (fun a U => a = #[(.long j1), (.long j2), (.long j3), (.long j4), (.int i1)] ∧ Z.Warmed39 U.vm ∧ U.heap = h0) (fun _ _ _ _ _ => True) (fun _ U o U' => ∃ v L, o = .returned v ∧ Q0 Z j1 j2 j3 j4 i1 h0 n0 v U'.heap L ∧ FrameEnd U o U' L 8 96) := by
  refine MetFree.of_bodySF (plainFor_of_name pn_2) hisR ?_
  intro p e s m args below meth c s₁ Bd hml0 hP hK
  obtain ⟨rfl, hZ, hh⟩ := hP
  have hx := Bd.exec
  have hby := Bd.bytes
  have hml : c.maxLocals = 22 := hml0
  have hown : s.vm.findClass "com/example/examwright/examwright/CompetitionScoreSoftPenaltyPinLaw" = some m.cls := findClass_of_methodNamed Bd.named
  have hnm := (name_of_methodNamed Bd.named Bd.method).1
  have X0 : Stand p l e room_1 s m #[(.long j1), (.long j2), (.long j3), (.long j4), (.int i1)] below meth c s₁ [] 0 0 := Stand.of_body Bd
  have e0 : s₁.heap = h0 := by rw [← hh, Bd.state]; rfl
  have N0 := Fr.nil n0
  suffices H : ∀ Qo : Outcome → State → Prop, (∀ (v : Option Value) (u : State) (L : List Loc), Q0 Z j1 j2 j3 j4 i1 h0 n0 v u.heap L → FrameEnd s (.returned v) u L 8 96 → Qo (.returned v) u) → Go p e below Qo s₁ (mkF m 0 #[.val (.long j1), .second, .val (.long j2), .second, .val (.long j3), .second, .val (.long j4), .second, .val (.int i1), .unset, .unset, .unset, .unset, .unset, .unset, .unset, .unset, .unset, .unset, .unset, .unset, .unset] []) from
    Go.cast (ef_0 m j1 j2 j3 j4 i1) (H _ fun v u L h1 h2 => ⟨v, L, rfl, h1, h2⟩)
  intro Qo hQo
  show Go p e below Qo s₁ (mkF m 0 #[.val (.long j1), .second, .val (.long j2), .second, .val (.long j3), .second, .val (.long j4), .second, .val (.int i1), .unset, .unset, .unset, .unset, .unset, .unset, .unset, .unset, .unset, .unset, .unset, .unset, .unset] [])
  refine Go.of (fun t k => XS.iload X0.here hx rfl (hb hby at_0) rfl  k) ?_
  show Go p e below Qo s₁ (mkF m 2 #[.val (.long j1), .second, .val (.long j2), .second, .val (.long j3), .second, .val (.long j4), .second, .val (.int i1), .unset, .unset, .unset, .unset, .unset, .unset, .unset, .unset, .unset, .unset, .unset, .unset, .unset] [(.int i1)])
  refine Go.of (fun t k => X0.ldcInt hx hown (mvT hZ (hw _ (List.mem_of_getElem? (i := 0) rfl))) (g := (mkF m 2 #[.val (.long j1), .second, .val (.long j2), .second, .val (.long j3), .second, .val (.long j4), .second, .val (.int i1), .unset, .unset, .unset, .unset, .unset, .unset, .unset, .unset, .unset, .unset, .unset, .unset, .unset] [(.int i1)])) rfl (hb hby at_2) t k) ?_
  show Go p e below Qo s₁ (mkF m 4 #[.val (.long j1), .second, .val (.long j2), .second, .val (.long j3), .second, .val (.long j4), .second, .val (.int i1), .unset, .unset, .unset, .unset, .unset, .unset, .unset, .unset, .unset, .unset, .unset, .unset, .unset] [(.int (2147483647 : Int32)), (.int i1)])
  refine Go.of (fun t k => XS.iand X0.here hx rfl (hb hby at_4) rfl k) ?_
  show Go p e below Qo s₁ (mkF m 5 #[.val (.long j1), .second, .val (.long j2), .second, .val (.long j3), .second, .val (.long j4), .second, .val (.int i1), .unset, .unset, .unset, .unset, .unset, .unset, .unset, .unset, .unset, .unset, .unset, .unset, .unset] [(.int (i1 &&& (2147483647 : Int32)))])
  refine Go.of (fun t k => XS.bipush X0.here hx rfl (hb hby at_5) k) ?_
  show Go p e below Qo s₁ (mkF m 7 #[.val (.long j1), .second, .val (.long j2), .second, .val (.long j3), .second, .val (.long j4), .second, .val (.int i1), .unset, .unset, .unset, .unset, .unset, .unset, .unset, .unset, .unset, .unset, .unset, .unset, .unset] [(.int (7 : Int32)), (.int (i1 &&& (2147483647 : Int32)))])
  refine Go.of (fun t k => iremM X0 hx rfl (hb hby at_7) rfl (by decide) k) ?_
  show Go p e below Qo s₁ (mkF m 8 #[.val (.long j1), .second, .val (.long j2), .second, .val (.long j3), .second, .val (.long j4), .second, .val (.int i1), .unset, .unset, .unset, .unset, .unset, .unset, .unset, .unset, .unset, .unset, .unset, .unset, .unset] [(.int ((i1 &&& (2147483647 : Int32)) % (7 : Int32)))])
  refine Go.of (fun t k => XS.istore X0.here hx rfl (hb hby at_8) rfl (l' := #[.val (.long j1), .second, .val (.long j2), .second, .val (.long j3), .second, .val (.long j4), .second, .val (.int i1), .val (.int ((i1 &&& (2147483647 : Int32)) % (7 : Int32))), .unset, .unset, .unset, .unset, .unset, .unset, .unset, .unset, .unset, .unset, .unset, .unset]) rfl k) ?_
  show Go p e below Qo s₁ (mkF m 10 #[.val (.long j1), .second, .val (.long j2), .second, .val (.long j3), .second, .val (.long j4), .second, .val (.int i1), .val (.int ((i1 &&& (2147483647 : Int32)) % (7 : Int32))), .unset, .unset, .unset, .unset, .unset, .unset, .unset, .unset, .unset, .unset, .unset, .unset] [])
  refine Go.of (fun t k => XS.bipush X0.here hx rfl (hb hby at_10) k) ?_
  show Go p e below Qo s₁ (mkF m 12 #[.val (.long j1), .second, .val (.long j2), .second, .val (.long j3), .second, .val (.long j4), .second, .val (.int i1), .val (.int ((i1 &&& (2147483647 : Int32)) % (7 : Int32))), .unset, .unset, .unset, .unset, .unset, .unset, .unset, .unset, .unset, .unset, .unset, .unset] [(.int (12 : Int32))])
  obtain ⟨T1, h1, k1, X1, e1, E1, A1, st1⟩ := newP X0 hx hZ (hw _ (List.mem_of_getElem? (i := 1) rfl)) e0 (g := (mkF m 12 #[.val (.long j1), .second, .val (.long j2), .second, .val (.long j3), .second, .val (.long j4), .second, .val (.int i1), .val (.int ((i1 &&& (2147483647 : Int32)) % (7 : Int32))), .unset, .unset, .unset, .unset, .unset, .unset, .unset, .unset, .unset, .unset, .unset, .unset] [(.int (12 : Int32))])) rfl (hb hby at_12) rfl (by decide) (cap := 12) (by decide) (by decide) (by decide) (by decide)
  obtain ⟨b1, g1⟩ : ∃ z, z = h0.size := ⟨_, rfl⟩
  rw [← g1] at A1 st1
  have g2 : n0 ≤ b1 := Nat.le_trans Z0 (Nat.le_of_eq g1.symm)
  have Z3 : n0 ≤ h1.size := Nat.le_trans Z0 E1.1
  replace X1 := own_cs X1 (c' := 1) (s' := 12) (by decide) (by decide)
  have q4 : Arv Z h1 b1 k1 .long (12 : Int32) [(.long (0 : Int64)), (.long (0 : Int64)), (.long (0 : Int64)), (.long (0 : Int64)), (.long (0 : Int64)), (.long (0 : Int64)), (.long (0 : Int64)), (.long (0 : Int64)), (.long (0 : Int64)), (.long (0 : Int64)), (.long (0 : Int64)), (.long (0 : Int64))] (.long (0 : Int64)) := (Arv.new A1 (by decide)).pad (pad_rep [] (.long (0 : Int64)) 12)
  refine Go.of st1 ?_
  show Go p e below Qo T1 (mkF m 14 #[.val (.long j1), .second, .val (.long j2), .second, .val (.long j3), .second, .val (.long j4), .second, .val (.int i1), .val (.int ((i1 &&& (2147483647 : Int32)) % (7 : Int32))), .unset, .unset, .unset, .unset, .unset, .unset, .unset, .unset, .unset, .unset, .unset, .unset] [(.ref b1)])
  refine Go.of (fun t k => XS.astore X1.here hx rfl (hb hby at_14) rfl rfl (l' := #[.val (.long j1), .second, .val (.long j2), .second, .val (.long j3), .second, .val (.long j4), .second, .val (.int i1), .val (.int ((i1 &&& (2147483647 : Int32)) % (7 : Int32))), .val (.ref b1), .unset, .unset, .unset, .unset, .unset, .unset, .unset, .unset, .unset, .unset, .unset]) rfl k) ?_
  show Go p e below Qo T1 (mkF m 16 #[.val (.long j1), .second, .val (.long j2), .second, .val (.long j3), .second, .val (.long j4), .second, .val (.int i1), .val (.int ((i1 &&& (2147483647 : Int32)) % (7 : Int32))), .val (.ref b1), .unset, .unset, .unset, .unset, .unset, .unset, .unset, .unset, .unset, .unset, .unset] [])
  refine Go.of (fun t k => XS.aload X1.here hx rfl (hb hby at_16) rfl rfl k) ?_
  show Go p e below Qo T1 (mkF m 18 #[.val (.long j1), .second, .val (.long j2), .second, .val (.long j3), .second, .val (.long j4), .second, .val (.int i1), .val (.int ((i1 &&& (2147483647 : Int32)) % (7 : Int32))), .val (.ref b1), .unset, .unset, .unset, .unset, .unset, .unset, .unset, .unset, .unset, .unset, .unset] [(.ref b1)])
  refine Go.of (fun t k => XS.iconst X1.here hx rfl (hb hby at_18) k) ?_
  show Go p e below Qo T1 (mkF m 19 #[.val (.long j1), .second, .val (.long j2), .second, .val (.long j3), .second, .val (.long j4), .second, .val (.int i1), .val (.int ((i1 &&& (2147483647 : Int32)) % (7 : Int32))), .val (.ref b1), .unset, .unset, .unset, .unset, .unset, .unset, .unset, .unset, .unset, .unset, .unset] [(.int (0 : Int32)), (.ref b1)])
  refine Go.of (fun t k => XS.lload X1.here hx rfl (hb hby at_19) rfl  k) ?_
  show Go p e below Qo T1 (mkF m 21 #[.val (.long j1), .second, .val (.long j2), .second, .val (.long j3), .second, .val (.long j4), .second, .val (.int i1), .val (.int ((i1 &&& (2147483647 : Int32)) % (7 : Int32))), .val (.ref b1), .unset, .unset, .unset, .unset, .unset, .unset, .unset, .unset, .unset, .unset, .unset] [(.long j4), (.int (0 : Int32)), (.ref b1)])
  have cpo5 := q4
  obtain ⟨clo5, Aro5, qco5, So5, Mo5, Ho5, Go5⟩ := cpo5
  have hin6 : ¬ ((0 : Int32) < 0 ∨ clo5.slots.size ≤ (0 : Int32).toNatClampNeg) := (inb_of So5 ⟨by decide, by decide⟩)
  obtain ⟨T7, h7, X7, e7, W7, st7⟩ := stJ X1 hx hZ e1 Aro5 (j := (0 : Int32)) hin6 (g := (mkF m 21 #[.val (.long j1), .second, .val (.long j2), .second, .val (.long j3), .second, .val (.long j4), .second, .val (.int i1), .val (.int ((i1 &&& (2147483647 : Int32)) % (7 : Int32))), .val (.ref b1), .unset, .unset, .unset, .unset, .unset, .unset, .unset, .unset, .unset, .unset, .unset] [(.long j4), (.int (0 : Int32)), (.ref b1)])) rfl rfl (hb hby at_21)
  have q8 : Arv Z h7 b1 k1 .long (12 : Int32) [(.long j4), (.long (0 : Int64)), (.long (0 : Int64)), (.long (0 : Int64)), (.long (0 : Int64)), (.long (0 : Int64)), (.long (0 : Int64)), (.long (0 : Int64)), (.long (0 : Int64)), (.long (0 : Int64)), (.long (0 : Int64)), (.long (0 : Int64))] (.long (0 : Int64)) := Arv.set Aro5 qco5 So5 Mo5 Ho5 Go5 rfl W7 0 rfl (Nat.le_of_ble_eq_true rfl)
  have Z9 : n0 ≤ h7.size := Nat.le_trans Z3 (Keep.of_wr W7).1
  have N10 := Fr.snoc X7 N0 g2
  obtain ⟨Lx11, Xx11, Nx11⟩ := own_locs X7 N10
  refine Go.of st7 ?_
  show Go p e below Qo T7 (mkF m 22 #[.val (.long j1), .second, .val (.long j2), .second, .val (.long j3), .second, .val (.long j4), .second, .val (.int i1), .val (.int ((i1 &&& (2147483647 : Int32)) % (7 : Int32))), .val (.ref b1), .unset, .unset, .unset, .unset, .unset, .unset, .unset, .unset, .unset, .unset, .unset] [])
  refine Go.of (fun t k => XS.aload Xx11.here hx rfl (hb hby at_22) rfl rfl k) ?_
  show Go p e below Qo T7 (mkF m 24 #[.val (.long j1), .second, .val (.long j2), .second, .val (.long j3), .second, .val (.long j4), .second, .val (.int i1), .val (.int ((i1 &&& (2147483647 : Int32)) % (7 : Int32))), .val (.ref b1), .unset, .unset, .unset, .unset, .unset, .unset, .unset, .unset, .unset, .unset, .unset] [(.ref b1)])
  refine Go.of (fun t k => XS.iconst Xx11.here hx rfl (hb hby at_24) k) ?_
  show Go p e below Qo T7 (mkF m 25 #[.val (.long j1), .second, .val (.long j2), .second, .val (.long j3), .second, .val (.long j4), .second, .val (.int i1), .val (.int ((i1 &&& (2147483647 : Int32)) % (7 : Int32))), .val (.ref b1), .unset, .unset, .unset, .unset, .unset, .unset, .unset, .unset, .unset, .unset, .unset] [(.int (1 : Int32)), (.ref b1)])
  refine Go.of (fun t k => XS.lload Xx11.here hx rfl (hb hby at_25) rfl  k) ?_
  show Go p e below Qo T7 (mkF m 27 #[.val (.long j1), .second, .val (.long j2), .second, .val (.long j3), .second, .val (.long j4), .second, .val (.int i1), .val (.int ((i1 &&& (2147483647 : Int32)) % (7 : Int32))), .val (.ref b1), .unset, .unset, .unset, .unset, .unset, .unset, .unset, .unset, .unset, .unset, .unset] [(.long j4), (.int (1 : Int32)), (.ref b1)])
  have cpo12 := q8
  obtain ⟨clo12, Aro12, qco12, So12, Mo12, Ho12, Go12⟩ := cpo12
  have hin13 : ¬ ((1 : Int32) < 0 ∨ clo12.slots.size ≤ (1 : Int32).toNatClampNeg) := (inb_of So12 ⟨by decide, by decide⟩)
  obtain ⟨T14, h14, X14, e14, W14, st14⟩ := stJ Xx11 hx hZ e7 Aro12 (j := (1 : Int32)) hin13 (g := (mkF m 27 #[.val (.long j1), .second, .val (.long j2), .second, .val (.long j3), .second, .val (.long j4), .second, .val (.int i1), .val (.int ((i1 &&& (2147483647 : Int32)) % (7 : Int32))), .val (.ref b1), .unset, .unset, .unset, .unset, .unset, .unset, .unset, .unset, .unset, .unset, .unset] [(.long j4), (.int (1 : Int32)), (.ref b1)])) rfl rfl (hb hby at_27)
  have q15 : Arv Z h14 b1 k1 .long (12 : Int32) [(.long j4), (.long j4), (.long (0 : Int64)), (.long (0 : Int64)), (.long (0 : Int64)), (.long (0 : Int64)), (.long (0 : Int64)), (.long (0 : Int64)), (.long (0 : Int64)), (.long (0 : Int64)), (.long (0 : Int64)), (.long (0 : Int64))] (.long (0 : Int64)) := Arv.set Aro12 qco12 So12 Mo12 Ho12 Go12 rfl W14 1 rfl (Nat.le_of_ble_eq_true rfl)
  have Z16 : n0 ≤ h14.size := Nat.le_trans Z9 (Keep.of_wr W14).1
  have N17 := Fr.snoc X14 Nx11 g2
  obtain ⟨Lx18, Xx18, Nx18⟩ := own_locs X14 N17
  refine Go.of st14 ?_
  show Go p e below Qo T14 (mkF m 28 #[.val (.long j1), .second, .val (.long j2), .second, .val (.long j3), .second, .val (.long j4), .second, .val (.int i1), .val (.int ((i1 &&& (2147483647 : Int32)) % (7 : Int32))), .val (.ref b1), .unset, .unset, .unset, .unset, .unset, .unset, .unset, .unset, .unset, .unset, .unset] [])
  refine Go.of (fun t k => XS.aload Xx18.here hx rfl (hb hby at_28) rfl rfl k) ?_
  show Go p e below Qo T14 (mkF m 30 #[.val (.long j1), .second, .val (.long j2), .second, .val (.long j3), .second, .val (.long j4), .second, .val (.int i1), .val (.int ((i1 &&& (2147483647 : Int32)) % (7 : Int32))), .val (.ref b1), .unset, .unset, .unset, .unset, .unset, .unset, .unset, .unset, .unset, .unset, .unset] [(.ref b1)])
  refine Go.of (fun t k => XS.iconst Xx18.here hx rfl (hb hby at_30) k) ?_
  show Go p e below Qo T14 (mkF m 31 #[.val (.long j1), .second, .val (.long j2), .second, .val (.long j3), .second, .val (.long j4), .second, .val (.int i1), .val (.int ((i1 &&& (2147483647 : Int32)) % (7 : Int32))), .val (.ref b1), .unset, .unset, .unset, .unset, .unset, .unset, .unset, .unset, .unset, .unset, .unset] [(.int (2 : Int32)), (.ref b1)])
  refine Go.of (fun t k => XS.lload Xx18.here hx rfl (hb hby at_31) rfl  k) ?_
  show Go p e below Qo T14 (mkF m 33 #[.val (.long j1), .second, .val (.long j2), .second, .val (.long j3), .second, .val (.long j4), .second, .val (.int i1), .val (.int ((i1 &&& (2147483647 : Int32)) % (7 : Int32))), .val (.ref b1), .unset, .unset, .unset, .unset, .unset, .unset, .unset, .unset, .unset, .unset, .unset] [(.long j4), (.int (2 : Int32)), (.ref b1)])
  have cpo19 := q15
  obtain ⟨clo19, Aro19, qco19, So19, Mo19, Ho19, Go19⟩ := cpo19
  have hin20 : ¬ ((2 : Int32) < 0 ∨ clo19.slots.size ≤ (2 : Int32).toNatClampNeg) := (inb_of So19 ⟨by decide, by decide⟩)
  obtain ⟨T21, h21, X21, e21, W21, st21⟩ := stJ Xx18 hx hZ e14 Aro19 (j := (2 : Int32)) hin20 (g := (mkF m 33 #[.val (.long j1), .second, .val (.long j2), .second, .val (.long j3), .second, .val (.long j4), .second, .val (.int i1), .val (.int ((i1 &&& (2147483647 : Int32)) % (7 : Int32))), .val (.ref b1), .unset, .unset, .unset, .unset, .unset, .unset, .unset, .unset, .unset, .unset, .unset] [(.long j4), (.int (2 : Int32)), (.ref b1)])) rfl rfl (hb hby at_33)
  have q22 : Arv Z h21 b1 k1 .long (12 : Int32) [(.long j4), (.long j4), (.long j4), (.long (0 : Int64)), (.long (0 : Int64)), (.long (0 : Int64)), (.long (0 : Int64)), (.long (0 : Int64)), (.long (0 : Int64)), (.long (0 : Int64)), (.long (0 : Int64)), (.long (0 : Int64))] (.long (0 : Int64)) := Arv.set Aro19 qco19 So19 Mo19 Ho19 Go19 rfl W21 2 rfl (Nat.le_of_ble_eq_true rfl)
  have Z23 : n0 ≤ h21.size := Nat.le_trans Z16 (Keep.of_wr W21).1
  have N24 := Fr.snoc X21 Nx18 g2
  obtain ⟨Lx25, Xx25, Nx25⟩ := own_locs X21 N24
  refine Go.of st21 ?_
  show Go p e below Qo T21 (mkF m 34 #[.val (.long j1), .second, .val (.long j2), .second, .val (.long j3), .second, .val (.long j4), .second, .val (.int i1), .val (.int ((i1 &&& (2147483647 : Int32)) % (7 : Int32))), .val (.ref b1), .unset, .unset, .unset, .unset, .unset, .unset, .unset, .unset, .unset, .unset, .unset] [])
  refine Go.of (fun t k => XS.aload Xx25.here hx rfl (hb hby at_34) rfl rfl k) ?_
  show Go p e below Qo T21 (mkF m 36 #[.val (.long j1), .second, .val (.long j2), .second, .val (.long j3), .second, .val (.long j4), .second, .val (.int i1), .val (.int ((i1 &&& (2147483647 : Int32)) % (7 : Int32))), .val (.ref b1), .unset, .unset, .unset, .unset, .unset, .unset, .unset, .unset, .unset, .unset, .unset] [(.ref b1)])
  refine Go.of (fun t k => XS.iconst Xx25.here hx rfl (hb hby at_36) k) ?_
  show Go p e below Qo T21 (mkF m 37 #[.val (.long j1), .second, .val (.long j2), .second, .val (.long j3), .second, .val (.long j4), .second, .val (.int i1), .val (.int ((i1 &&& (2147483647 : Int32)) % (7 : Int32))), .val (.ref b1), .unset, .unset, .unset, .unset, .unset, .unset, .unset, .unset, .unset, .unset, .unset] [(.int (3 : Int32)), (.ref b1)])
  refine Go.of (fun t k => XS.lload Xx25.here hx rfl (hb hby at_37) rfl  k) ?_
  show Go p e below Qo T21 (mkF m 39 #[.val (.long j1), .second, .val (.long j2), .second, .val (.long j3), .second, .val (.long j4), .second, .val (.int i1), .val (.int ((i1 &&& (2147483647 : Int32)) % (7 : Int32))), .val (.ref b1), .unset, .unset, .unset, .unset, .unset, .unset, .unset, .unset, .unset, .unset, .unset] [(.long j4), (.int (3 : Int32)), (.ref b1)])
  have cpo26 := q22
  obtain ⟨clo26, Aro26, qco26, So26, Mo26, Ho26, Go26⟩ := cpo26
  have hin27 : ¬ ((3 : Int32) < 0 ∨ clo26.slots.size ≤ (3 : Int32).toNatClampNeg) := (inb_of So26 ⟨by decide, by decide⟩)
  obtain ⟨T28, h28, X28, e28, W28, st28⟩ := stJ Xx25 hx hZ e21 Aro26 (j := (3 : Int32)) hin27 (g := (mkF m 39 #[.val (.long j1), .second, .val (.long j2), .second, .val (.long j3), .second, .val (.long j4), .second, .val (.int i1), .val (.int ((i1 &&& (2147483647 : Int32)) % (7 : Int32))), .val (.ref b1), .unset, .unset, .unset, .unset, .unset, .unset, .unset, .unset, .unset, .unset, .unset] [(.long j4), (.int (3 : Int32)), (.ref b1)])) rfl rfl (hb hby at_39)
  have q29 : Arv Z h28 b1 k1 .long (12 : Int32) [(.long j4), (.long j4), (.long j4), (.long j4), (.long (0 : Int64)), (.long (0 : Int64)), (.long (0 : Int64)), (.long (0 : Int64)), (.long (0 : Int64)), (.long (0 : Int64)), (.long (0 : Int64)), (.long (0 : Int64))] (.long (0 : Int64)) := Arv.set Aro26 qco26 So26 Mo26 Ho26 Go26 rfl W28 3 rfl (Nat.le_of_ble_eq_true rfl)
  have Z30 : n0 ≤ h28.size := Nat.le_trans Z23 (Keep.of_wr W28).1
  have N31 := Fr.snoc X28 Nx25 g2
  obtain ⟨Lx32, Xx32, Nx32⟩ := own_locs X28 N31
  refine Go.of st28 ?_
  show Go p e below Qo T28 (mkF m 40 #[.val (.long j1), .second, .val (.long j2), .second, .val (.long j3), .second, .val (.long j4), .second, .val (.int i1), .val (.int ((i1 &&& (2147483647 : Int32)) % (7 : Int32))), .val (.ref b1), .unset, .unset, .unset, .unset, .unset, .unset, .unset, .unset, .unset, .unset, .unset] [])
  refine Go.of (fun t k => XS.aload Xx32.here hx rfl (hb hby at_40) rfl rfl k) ?_
  show Go p e below Qo T28 (mkF m 42 #[.val (.long j1), .second, .val (.long j2), .second, .val (.long j3), .second, .val (.long j4), .second, .val (.int i1), .val (.int ((i1 &&& (2147483647 : Int32)) % (7 : Int32))), .val (.ref b1), .unset, .unset, .unset, .unset, .unset, .unset, .unset, .unset, .unset, .unset, .unset] [(.ref b1)])
  refine Go.of (fun t k => XS.iconst Xx32.here hx rfl (hb hby at_42) k) ?_
  show Go p e below Qo T28 (mkF m 43 #[.val (.long j1), .second, .val (.long j2), .second, .val (.long j3), .second, .val (.long j4), .second, .val (.int i1), .val (.int ((i1 &&& (2147483647 : Int32)) % (7 : Int32))), .val (.ref b1), .unset, .unset, .unset, .unset, .unset, .unset, .unset, .unset, .unset, .unset, .unset] [(.int (4 : Int32)), (.ref b1)])
  refine Go.of (fun t k => XS.lload Xx32.here hx rfl (hb hby at_43) rfl  k) ?_
  show Go p e below Qo T28 (mkF m 45 #[.val (.long j1), .second, .val (.long j2), .second, .val (.long j3), .second, .val (.long j4), .second, .val (.int i1), .val (.int ((i1 &&& (2147483647 : Int32)) % (7 : Int32))), .val (.ref b1), .unset, .unset, .unset, .unset, .unset, .unset, .unset, .unset, .unset, .unset, .unset] [(.long j4), (.int (4 : Int32)), (.ref b1)])
  have cpo33 := q29
  obtain ⟨clo33, Aro33, qco33, So33, Mo33, Ho33, Go33⟩ := cpo33
  have hin34 : ¬ ((4 : Int32) < 0 ∨ clo33.slots.size ≤ (4 : Int32).toNatClampNeg) := (inb_of So33 ⟨by decide, by decide⟩)
  obtain ⟨T35, h35, X35, e35, W35, st35⟩ := stJ Xx32 hx hZ e28 Aro33 (j := (4 : Int32)) hin34 (g := (mkF m 45 #[.val (.long j1), .second, .val (.long j2), .second, .val (.long j3), .second, .val (.long j4), .second, .val (.int i1), .val (.int ((i1 &&& (2147483647 : Int32)) % (7 : Int32))), .val (.ref b1), .unset, .unset, .unset, .unset, .unset, .unset, .unset, .unset, .unset, .unset, .unset] [(.long j4), (.int (4 : Int32)), (.ref b1)])) rfl rfl (hb hby at_45)
  have q36 : Arv Z h35 b1 k1 .long (12 : Int32) [(.long j4), (.long j4), (.long j4), (.long j4), (.long j4), (.long (0 : Int64)), (.long (0 : Int64)), (.long (0 : Int64)), (.long (0 : Int64)), (.long (0 : Int64)), (.long (0 : Int64)), (.long (0 : Int64))] (.long (0 : Int64)) := Arv.set Aro33 qco33 So33 Mo33 Ho33 Go33 rfl W35 4 rfl (Nat.le_of_ble_eq_true rfl)
  have Z37 : n0 ≤ h35.size := Nat.le_trans Z30 (Keep.of_wr W35).1
  have N38 := Fr.snoc X35 Nx32 g2
  obtain ⟨Lx39, Xx39, Nx39⟩ := own_locs X35 N38
  refine Go.of st35 ?_
  show Go p e below Qo T35 (mkF m 46 #[.val (.long j1), .second, .val (.long j2), .second, .val (.long j3), .second, .val (.long j4), .second, .val (.int i1), .val (.int ((i1 &&& (2147483647 : Int32)) % (7 : Int32))), .val (.ref b1), .unset, .unset, .unset, .unset, .unset, .unset, .unset, .unset, .unset, .unset, .unset] [])
  refine Go.of (fun t k => XS.aload Xx39.here hx rfl (hb hby at_46) rfl rfl k) ?_
  show Go p e below Qo T35 (mkF m 48 #[.val (.long j1), .second, .val (.long j2), .second, .val (.long j3), .second, .val (.long j4), .second, .val (.int i1), .val (.int ((i1 &&& (2147483647 : Int32)) % (7 : Int32))), .val (.ref b1), .unset, .unset, .unset, .unset, .unset, .unset, .unset, .unset, .unset, .unset, .unset] [(.ref b1)])
  refine Go.of (fun t k => XS.iconst Xx39.here hx rfl (hb hby at_48) k) ?_
  show Go p e below Qo T35 (mkF m 49 #[.val (.long j1), .second, .val (.long j2), .second, .val (.long j3), .second, .val (.long j4), .second, .val (.int i1), .val (.int ((i1 &&& (2147483647 : Int32)) % (7 : Int32))), .val (.ref b1), .unset, .unset, .unset, .unset, .unset, .unset, .unset, .unset, .unset, .unset, .unset] [(.int (5 : Int32)), (.ref b1)])
  refine Go.of (fun t k => XS.iload Xx39.here hx rfl (hb hby at_49) rfl  k) ?_
  show Go p e below Qo T35 (mkF m 51 #[.val (.long j1), .second, .val (.long j2), .second, .val (.long j3), .second, .val (.long j4), .second, .val (.int i1), .val (.int ((i1 &&& (2147483647 : Int32)) % (7 : Int32))), .val (.ref b1), .unset, .unset, .unset, .unset, .unset, .unset, .unset, .unset, .unset, .unset, .unset] [(.int ((i1 &&& (2147483647 : Int32)) % (7 : Int32))), (.int (5 : Int32)), (.ref b1)])
  refine Go.of (fun t k => XS.iadd Xx39.here hx rfl (hb hby at_51) rfl k) ?_
  show Go p e below Qo T35 (mkF m 52 #[.val (.long j1), .second, .val (.long j2), .second, .val (.long j3), .second, .val (.long j4), .second, .val (.int i1), .val (.int ((i1 &&& (2147483647 : Int32)) % (7 : Int32))), .val (.ref b1), .unset, .unset, .unset, .unset, .unset, .unset, .unset, .unset, .unset, .unset, .unset] [(.int ((5 : Int32) + ((i1 &&& (2147483647 : Int32)) % (7 : Int32)))), (.ref b1)])
  refine Go.of (fun t k => XS.lloadN Xx39.here hx rfl (hb hby at_52) rfl  k) ?_
  show Go p e below Qo T35 (mkF m 53 #[.val (.long j1), .second, .val (.long j2), .second, .val (.long j3), .second, .val (.long j4), .second, .val (.int i1), .val (.int ((i1 &&& (2147483647 : Int32)) % (7 : Int32))), .val (.ref b1), .unset, .unset, .unset, .unset, .unset, .unset, .unset, .unset, .unset, .unset, .unset] [(.long j1), (.int ((5 : Int32) + ((i1 &&& (2147483647 : Int32)) % (7 : Int32)))), (.ref b1)])
  have cpo40 := q36
  obtain ⟨clo40, Aro40, qco40, So40, Mo40, Ho40, Go40⟩ := cpo40
  have hin41 : ¬ (((5 : Int32) + ((i1 &&& (2147483647 : Int32)) % (7 : Int32))) < 0 ∨ clo40.slots.size ≤ ((5 : Int32) + ((i1 &&& (2147483647 : Int32)) % (7 : Int32))).toNatClampNeg) := (inb_of So40 (own_rng _))
  obtain ⟨T42, h42, X42, e42, W42, st42⟩ := stJ Xx39 hx hZ e35 Aro40 (j := ((5 : Int32) + ((i1 &&& (2147483647 : Int32)) % (7 : Int32)))) hin41 (g := (mkF m 53 #[.val (.long j1), .second, .val (.long j2), .second, .val (.long j3), .second, .val (.long j4), .second, .val (.int i1), .val (.int ((i1 &&& (2147483647 : Int32)) % (7 : Int32))), .val (.ref b1), .unset, .unset, .unset, .unset, .unset, .unset, .unset, .unset, .unset, .unset, .unset] [(.long j1), (.int ((5 : Int32) + ((i1 &&& (2147483647 : Int32)) % (7 : Int32)))), (.ref b1)])) rfl rfl (hb hby at_53)
  have q43 : Arv Z h42 b1 k1 .long (12 : Int32) ([(.long j4), (.long j4), (.long j4), (.long j4), (.long j4), (.long (0 : Int64)), (.long (0 : Int64)), (.long (0 : Int64)), (.long (0 : Int64)), (.long (0 : Int64)), (.long (0 : Int64)), (.long (0 : Int64))].set ((5 : Int32) + ((i1 &&& (2147483647 : Int32)) % (7 : Int32))).toNatClampNeg (.long j1)) (.long (0 : Int64)) := Arv.set Aro40 qco40 So40 Mo40 Ho40 Go40 rfl W42 ((5 : Int32) + ((i1 &&& (2147483647 : Int32)) % (7 : Int32))).toNatClampNeg rfl (own_len _)
  have Z44 : n0 ≤ h42.size := Nat.le_trans Z37 (Keep.of_wr W42).1
  have N45 := Fr.snoc X42 Nx39 g2
  obtain ⟨Lx46, Xx46, Nx46⟩ := own_locs X42 N45
  refine Go.of st42 ?_
  show Go p e below Qo T42 (mkF m 54 #[.val (.long j1), .second, .val (.long j2), .second, .val (.long j3), .second, .val (.long j4), .second, .val (.int i1), .val (.int ((i1 &&& (2147483647 : Int32)) % (7 : Int32))), .val (.ref b1), .unset, .unset, .unset, .unset, .unset, .unset, .unset, .unset, .unset, .unset, .unset] [])
  obtain ⟨y5, y6, y7, y8, y9, y10, y11, hls, hsum⟩ := own_set j4 j1 i1
  rw [hls] at q43
  refine Go.of (fun t k => XS.aload Xx46.here hx rfl (hb hby at_54) rfl rfl k) ?_
  show Go p e below Qo T42 (mkF m 56 #[.val (.long j1), .second, .val (.long j2), .second, .val (.long j3), .second, .val (.long j4), .second, .val (.int i1), .val (.int ((i1 &&& (2147483647 : Int32)) % (7 : Int32))), .val (.ref b1), .unset, .unset, .unset, .unset, .unset, .unset, .unset, .unset, .unset, .unset, .unset] [(.ref b1)])
  obtain ⟨_, _, ⟨T47, L47, k47, n47⟩, -, X47, ⟨Lc47, hQ47, l47, y47, z47⟩, st47⟩ := Jvm.LawKit.callS Xx46 hx (y := (⟨"com/example/examwright/examwright/CompetitionScoreSoftPenaltyPinLaw", "make", "([J)Lcom/example/examwright/examwright/CompetitionScore;"⟩ : MethodName)) hown (mvT hZ (hw _ (List.mem_of_getElem? (i := 2) rfl))) (mvT hZ (hw _ (List.mem_of_getElem? (i := 3) rfl))) (mvT hZ (hw _ (List.mem_of_getElem? (i := 4) rfl))) (mvT hZ (hw _ (List.mem_of_getElem? (i := 5) rfl))) (by decide) (backOf (W := 0) (rm1 l Z a0 hw [] b1 k1 j4 j4 j4 j4 j4 y5 y6 y7 y8 y9 y10 y11 h42 n0 Z44 q43) hZ (hw _ (List.mem_of_getElem? (i := 5) rfl)) (hw _ (List.mem_of_getElem? (i := 4) rfl)) (by decide) (by decide)) (g := (mkF m 56 #[.val (.long j1), .second, .val (.long j2), .second, .val (.long j3), .second, .val (.long j4), .second, .val (.int i1), .val (.int ((i1 &&& (2147483647 : Int32)) % (7 : Int32))), .val (.ref b1), .unset, .unset, .unset, .unset, .unset, .unset, .unset, .unset, .unset, .unset, .unset] [(.ref b1)])) rfl (by rw [hml]; rfl) (argsL := [(.ref b1)]) (rest := []) (lenOf pd_2 rfl) rfl (by show 2 * 0 + _ ≤ _; exact Nat.le_of_eq rfl) (hb hby at_56) (fun _ _ => ⟨rfl, e42, (by decide : 1 + 1 ≤ _), (by decide : 12 + 12 ≤ _)⟩)
  dsimp only [Pt.U, Pt.locs, Pt.cells, Pt.slots] at X47 l47 y47 z47 st47 hQ47
  subst l47 y47 z47
  replace X47 := own_cs X47 (c' := 2) (s' := 24) (by decide) (by decide)
  obtain ⟨x49, rfl, N48, Kc50, g64, q51, q52, q53, q54, q55, q56, q57, q58, q59, q60, q61, q62, q63⟩ := hQ47
  have N65 := Fr.app Nx46 N48
  have ne66 : b1 ≠ x49 := Nat.ne_of_lt (Nat.lt_of_lt_of_le q43.lt g64)
  have g67 : n0 ≤ x49 := Nat.le_trans Z44 g64
  have q68 : Arv Z T47.heap b1 k1 .long (12 : Int32) [(.long j4), (.long j4), (.long j4), (.long j4), (.long j4), (.long y5), (.long y6), (.long y7), (.long y8), (.long y9), (.long y10), (.long y11)] (.long (0 : Int64)) := q43.keep Kc50 nin0
  have Z69 : n0 ≤ T47.heap.size := Nat.le_trans Z44 Kc50.1
  refine Go.of st47 ?_
  obtain ⟨Lx70, Xx70, Nx70⟩ := own_locs X47 N65
  show Go p e below Qo T47 (mkF m 59 #[.val (.long j1), .second, .val (.long j2), .second, .val (.long j3), .second, .val (.long j4), .second, .val (.int i1), .val (.int ((i1 &&& (2147483647 : Int32)) % (7 : Int32))), .val (.ref b1), .unset, .unset, .unset, .unset, .unset, .unset, .unset, .unset, .unset, .unset, .unset] [(.ref x49)])
  obtain ⟨ciq72, kiq72, iq72a, iq72b, iq72c⟩ := isOf hZ rfl q51
  obtain ⟨_, _, ⟨T71, L71, k71, n71⟩, -, X71, ⟨Lc71, hQ71, l71, y71, z71⟩, st71⟩ := Xx70.virtualBack hx (y := (⟨"com/example/examwright/examwright/CompetitionScore", "softPenalty", "()J"⟩ : MethodName)) (z := (⟨"com/example/examwright/examwright/CompetitionScore", "softPenalty", "()J"⟩ : MethodName)) hown (mvT hZ (hw _ (List.mem_of_getElem? (i := 44) rfl))) (mvT hZ (hw _ (List.mem_of_getElem? (i := 45) rfl))) (notFace_of_selects (args := #[]) (mvT hZ (hw _ (List.mem_of_getElem? (i := 47) rfl)))) (mvT hZ (hw _ (List.mem_of_getElem? (i := 47) rfl))) (mvT hZ (hw _ (List.mem_of_getElem? (i := 46) rfl))) (by decide) (backOf (W := 0) (rm5 l Z a0 hw [] x49 y5 y6 y7 y8 y9 y10 y11 T47.heap n0 Z69 q57 q58 q59 q60 q61 q62 q63) hZ (hw _ (List.mem_of_getElem? (i := 48) rfl)) (hw _ (List.mem_of_getElem? (i := 8) rfl)) (by decide) (by decide)) iq72a iq72c (g := (mkF m 59 #[.val (.long j1), .second, .val (.long j2), .second, .val (.long j3), .second, .val (.long j4), .second, .val (.int i1), .val (.int ((i1 &&& (2147483647 : Int32)) % (7 : Int32))), .val (.ref b1), .unset, .unset, .unset, .unset, .unset, .unset, .unset, .unset, .unset, .unset, .unset] [(.ref x49)])) rfl (by rw [hml]; rfl) (Steps.refl _) (argsL := []) (rest := []) (lenOf pd_3 rfl) rfl (by show 2 * 0 + _ ≤ _; exact Nat.le_of_eq rfl) (hb hby at_59) (fun _ _ => ⟨rfl, rfl, (by decide : 2 + 0 ≤ _), (by decide : 24 + 0 ≤ _)⟩)
  dsimp only [Pt.U, Pt.locs, Pt.cells, Pt.slots] at X71 l71 y71 z71 st71 hQ71
  subst l71 y71 z71
  replace X71 := own_cs X71 (c' := 2) (s' := 24) (by decide) (by decide)
  obtain ⟨rfl, N73, eh74⟩ := hQ71
  have N75 := Fr.app Nx70 N73
  refine Go.via st71 ?_
  obtain ⟨Lx76, Xx76, Nx76⟩ := own_locs X71 N75
  show Go p e below Qo T71 (mkF m 62 #[.val (.long j1), .second, .val (.long j2), .second, .val (.long j3), .second, .val (.long j4), .second, .val (.int i1), .val (.int ((i1 &&& (2147483647 : Int32)) % (7 : Int32))), .val (.ref b1), .unset, .unset, .unset, .unset, .unset, .unset, .unset, .unset, .unset, .unset, .unset] [(.long (F5 y5 y6 y7 y8 y9 y10 y11))])
  refine Go.of (fun t k => XS.lloadN Xx76.here hx rfl (hb hby at_62) rfl  k) ?_
  show Go p e below Qo T71 (mkF m 63 #[.val (.long j1), .second, .val (.long j2), .second, .val (.long j3), .second, .val (.long j4), .second, .val (.int i1), .val (.int ((i1 &&& (2147483647 : Int32)) % (7 : Int32))), .val (.ref b1), .unset, .unset, .unset, .unset, .unset, .unset, .unset, .unset, .unset, .unset, .unset] [(.long j1), (.long (F5 y5 y6 y7 y8 y9 y10 y11))])
  refine Go.of (fun t k => XS.lcmp Xx76.here hx rfl (hb hby at_63) rfl k) ?_
  show Go p e below Qo T71 (mkF m 64 #[.val (.long j1), .second, .val (.long j2), .second, .val (.long j3), .second, .val (.long j4), .second, .val (.int i1), .val (.int ((i1 &&& (2147483647 : Int32)) % (7 : Int32))), .val (.ref b1), .unset, .unset, .unset, .unset, .unset, .unset, .unset, .unset, .unset, .unset, .unset] [(.int (lcmpW (F5 y5 y6 y7 y8 y9 y10 y11) j1))])
  have J64_79 : ∀ (v64_78 : Int32), v64_78 = (if (F5 y5 y6 y7 y8 y9 y10 y11) = j1 then (1 : Int32) else (0 : Int32)) → Go p e below Qo T71 (mkF m 72 #[.val (.long j1), .second, .val (.long j2), .second, .val (.long j3), .second, .val (.long j4), .second, .val (.int i1), .val (.int ((i1 &&& (2147483647 : Int32)) % (7 : Int32))), .val (.ref b1), .unset, .unset, .unset, .unset, .unset, .unset, .unset, .unset, .unset, .unset, .unset] [(.int v64_78)]) := by
    intro v64_78 hv64_78
    show Go p e below Qo T71 (mkF m 72 #[.val (.long j1), .second, .val (.long j2), .second, .val (.long j3), .second, .val (.long j4), .second, .val (.int i1), .val (.int ((i1 &&& (2147483647 : Int32)) % (7 : Int32))), .val (.ref b1), .unset, .unset, .unset, .unset, .unset, .unset, .unset, .unset, .unset, .unset, .unset] [(.int v64_78)])
    refine Go.of (fun t k => XS.istore Xx76.here hx rfl (hb hby at_72) rfl (l' := #[.val (.long j1), .second, .val (.long j2), .second, .val (.long j3), .second, .val (.long j4), .second, .val (.int i1), .val (.int ((i1 &&& (2147483647 : Int32)) % (7 : Int32))), .val (.ref b1), .val (.int v64_78), .unset, .unset, .unset, .unset, .unset, .unset, .unset, .unset, .unset, .unset]) rfl k) ?_
    show Go p e below Qo T71 (mkF m 74 #[.val (.long j1), .second, .val (.long j2), .second, .val (.long j3), .second, .val (.long j4), .second, .val (.int i1), .val (.int ((i1 &&& (2147483647 : Int32)) % (7 : Int32))), .val (.ref b1), .val (.int v64_78), .unset, .unset, .unset, .unset, .unset, .unset, .unset, .unset, .unset, .unset] [])
    refine Go.of (fun t k => XS.bipush Xx76.here hx rfl (hb hby at_74) k) ?_
    show Go p e below Qo T71 (mkF m 76 #[.val (.long j1), .second, .val (.long j2), .second, .val (.long j3), .second, .val (.long j4), .second, .val (.int i1), .val (.int ((i1 &&& (2147483647 : Int32)) % (7 : Int32))), .val (.ref b1), .val (.int v64_78), .unset, .unset, .unset, .unset, .unset, .unset, .unset, .unset, .unset, .unset] [(.int (12 : Int32))])
    obtain ⟨T80, h80, k80, X80, e80, E80, A80, st80⟩ := newP Xx76 hx hZ (hw _ (List.mem_of_getElem? (i := 1) rfl)) eh74 (g := (mkF m 76 #[.val (.long j1), .second, .val (.long j2), .second, .val (.long j3), .second, .val (.long j4), .second, .val (.int i1), .val (.int ((i1 &&& (2147483647 : Int32)) % (7 : Int32))), .val (.ref b1), .val (.int v64_78), .unset, .unset, .unset, .unset, .unset, .unset, .unset, .unset, .unset, .unset] [(.int (12 : Int32))])) rfl (hb hby at_76) rfl (by decide) (cap := 12) (by decide) (by decide) (by decide) (by decide)
    obtain ⟨b80, g80⟩ : ∃ z, z = T47.heap.size := ⟨_, rfl⟩
    rw [← g80] at A80 st80
    have ne81 : b1 ≠ b80 := Nat.ne_of_lt (Nat.lt_of_lt_of_le q68.lt (Nat.le_of_eq g80.symm))
    have ne82 : x49 ≠ b80 := Nat.ne_of_lt (Nat.lt_of_lt_of_le q51.lt (Nat.le_of_eq g80.symm))
    have g83 : n0 ≤ b80 := Nat.le_trans Z69 (Nat.le_of_eq g80.symm)
    have q84 : Arv Z h80 b1 k1 .long (12 : Int32) [(.long j4), (.long j4), (.long j4), (.long j4), (.long j4), (.long y5), (.long y6), (.long y7), (.long y8), (.long y9), (.long y10), (.long y11)] (.long (0 : Int64)) := q68.ext E80
    have Z85 : n0 ≤ h80.size := Nat.le_trans Z69 E80.1
    replace X80 := own_cs X80 (c' := 3) (s' := 36) (by decide) (by decide)
    have q86 : Arv Z h80 b80 k80 .long (12 : Int32) [(.long (0 : Int64)), (.long (0 : Int64)), (.long (0 : Int64)), (.long (0 : Int64)), (.long (0 : Int64)), (.long (0 : Int64)), (.long (0 : Int64)), (.long (0 : Int64)), (.long (0 : Int64)), (.long (0 : Int64)), (.long (0 : Int64)), (.long (0 : Int64))] (.long (0 : Int64)) := (Arv.new A80 (by decide)).pad (pad_rep [] (.long (0 : Int64)) 12)
    refine Go.of st80 ?_
    show Go p e below Qo T80 (mkF m 78 #[.val (.long j1), .second, .val (.long j2), .second, .val (.long j3), .second, .val (.long j4), .second, .val (.int i1), .val (.int ((i1 &&& (2147483647 : Int32)) % (7 : Int32))), .val (.ref b1), .val (.int v64_78), .unset, .unset, .unset, .unset, .unset, .unset, .unset, .unset, .unset, .unset] [(.ref b80)])
    refine Go.of (fun t k => XS.dup X80.here hx rfl (hb hby at_78) rfl rfl k) ?_
    show Go p e below Qo T80 (mkF m 79 #[.val (.long j1), .second, .val (.long j2), .second, .val (.long j3), .second, .val (.long j4), .second, .val (.int i1), .val (.int ((i1 &&& (2147483647 : Int32)) % (7 : Int32))), .val (.ref b1), .val (.int v64_78), .unset, .unset, .unset, .unset, .unset, .unset, .unset, .unset, .unset, .unset] [(.ref b80), (.ref b80)])
    refine Go.of (fun t k => XS.iconst X80.here hx rfl (hb hby at_79) k) ?_
    show Go p e below Qo T80 (mkF m 80 #[.val (.long j1), .second, .val (.long j2), .second, .val (.long j3), .second, .val (.long j4), .second, .val (.int i1), .val (.int ((i1 &&& (2147483647 : Int32)) % (7 : Int32))), .val (.ref b1), .val (.int v64_78), .unset, .unset, .unset, .unset, .unset, .unset, .unset, .unset, .unset, .unset] [(.int (0 : Int32)), (.ref b80), (.ref b80)])
    refine Go.of (fun t k => XS.lload X80.here hx rfl (hb hby at_80) rfl  k) ?_
    show Go p e below Qo T80 (mkF m 82 #[.val (.long j1), .second, .val (.long j2), .second, .val (.long j3), .second, .val (.long j4), .second, .val (.int i1), .val (.int ((i1 &&& (2147483647 : Int32)) % (7 : Int32))), .val (.ref b1), .val (.int v64_78), .unset, .unset, .unset, .unset, .unset, .unset, .unset, .unset, .unset, .unset] [(.long j4), (.int (0 : Int32)), (.ref b80), (.ref b80)])
    have cpo87 := q86
    obtain ⟨clo87, Aro87, qco87, So87, Mo87, Ho87, Go87⟩ := cpo87
    have hin88 : ¬ ((0 : Int32) < 0 ∨ clo87.slots.size ≤ (0 : Int32).toNatClampNeg) := (inb_of So87 ⟨by decide, by decide⟩)
    obtain ⟨T89, h89, X89, e89, W89, st89⟩ := stJ X80 hx hZ e80 Aro87 (j := (0 : Int32)) hin88 (g := (mkF m 82 #[.val (.long j1), .second, .val (.long j2), .second, .val (.long j3), .second, .val (.long j4), .second, .val (.int i1), .val (.int ((i1 &&& (2147483647 : Int32)) % (7 : Int32))), .val (.ref b1), .val (.int v64_78), .unset, .unset, .unset, .unset, .unset, .unset, .unset, .unset, .unset, .unset] [(.long j4), (.int (0 : Int32)), (.ref b80), (.ref b80)])) rfl rfl (hb hby at_82)
    have q90 : Arv Z h89 b1 k1 .long (12 : Int32) [(.long j4), (.long j4), (.long j4), (.long j4), (.long j4), (.long y5), (.long y6), (.long y7), (.long y8), (.long y9), (.long y10), (.long y11)] (.long (0 : Int64)) := q84.other W89 ne81
    have q91 : Arv Z h89 b80 k80 .long (12 : Int32) [(.long j4), (.long (0 : Int64)), (.long (0 : Int64)), (.long (0 : Int64)), (.long (0 : Int64)), (.long (0 : Int64)), (.long (0 : Int64)), (.long (0 : Int64)), (.long (0 : Int64)), (.long (0 : Int64)), (.long (0 : Int64)), (.long (0 : Int64))] (.long (0 : Int64)) := Arv.set Aro87 qco87 So87 Mo87 Ho87 Go87 rfl W89 0 rfl (Nat.le_of_ble_eq_true rfl)
    have Z92 : n0 ≤ h89.size := Nat.le_trans Z85 (Keep.of_wr W89).1
    have N93 := Fr.snoc X89 Nx76 g83
    obtain ⟨Lx94, Xx94, Nx94⟩ := own_locs X89 N93
    refine Go.of st89 ?_
    show Go p e below Qo T89 (mkF m 83 #[.val (.long j1), .second, .val (.long j2), .second, .val (.long j3), .second, .val (.long j4), .second, .val (.int i1), .val (.int ((i1 &&& (2147483647 : Int32)) % (7 : Int32))), .val (.ref b1), .val (.int v64_78), .unset, .unset, .unset, .unset, .unset, .unset, .unset, .unset, .unset, .unset] [(.ref b80)])
    refine Go.of (fun t k => XS.dup Xx94.here hx rfl (hb hby at_83) rfl rfl k) ?_
    show Go p e below Qo T89 (mkF m 84 #[.val (.long j1), .second, .val (.long j2), .second, .val (.long j3), .second, .val (.long j4), .second, .val (.int i1), .val (.int ((i1 &&& (2147483647 : Int32)) % (7 : Int32))), .val (.ref b1), .val (.int v64_78), .unset, .unset, .unset, .unset, .unset, .unset, .unset, .unset, .unset, .unset] [(.ref b80), (.ref b80)])
    refine Go.of (fun t k => XS.iconst Xx94.here hx rfl (hb hby at_84) k) ?_
    show Go p e below Qo T89 (mkF m 85 #[.val (.long j1), .second, .val (.long j2), .second, .val (.long j3), .second, .val (.long j4), .second, .val (.int i1), .val (.int ((i1 &&& (2147483647 : Int32)) % (7 : Int32))), .val (.ref b1), .val (.int v64_78), .unset, .unset, .unset, .unset, .unset, .unset, .unset, .unset, .unset, .unset] [(.int (1 : Int32)), (.ref b80), (.ref b80)])
    refine Go.of (fun t k => XS.lloadN Xx94.here hx rfl (hb hby at_85) rfl  k) ?_
    show Go p e below Qo T89 (mkF m 86 #[.val (.long j1), .second, .val (.long j2), .second, .val (.long j3), .second, .val (.long j4), .second, .val (.int i1), .val (.int ((i1 &&& (2147483647 : Int32)) % (7 : Int32))), .val (.ref b1), .val (.int v64_78), .unset, .unset, .unset, .unset, .unset, .unset, .unset, .unset, .unset, .unset] [(.long j1), (.int (1 : Int32)), (.ref b80), (.ref b80)])
    have cpo95 := q91
    obtain ⟨clo95, Aro95, qco95, So95, Mo95, Ho95, Go95⟩ := cpo95
    have hin96 : ¬ ((1 : Int32) < 0 ∨ clo95.slots.size ≤ (1 : Int32).toNatClampNeg) := (inb_of So95 ⟨by decide, by decide⟩)
    obtain ⟨T97, h97, X97, e97, W97, st97⟩ := stJ Xx94 hx hZ e89 Aro95 (j := (1 : Int32)) hin96 (g := (mkF m 86 #[.val (.long j1), .second, .val (.long j2), .second, .val (.long j3), .second, .val (.long j4), .second, .val (.int i1), .val (.int ((i1 &&& (2147483647 : Int32)) % (7 : Int32))), .val (.ref b1), .val (.int v64_78), .unset, .unset, .unset, .unset, .unset, .unset, .unset, .unset, .unset, .unset] [(.long j1), (.int (1 : Int32)), (.ref b80), (.ref b80)])) rfl rfl (hb hby at_86)
    have q98 : Arv Z h97 b1 k1 .long (12 : Int32) [(.long j4), (.long j4), (.long j4), (.long j4), (.long j4), (.long y5), (.long y6), (.long y7), (.long y8), (.long y9), (.long y10), (.long y11)] (.long (0 : Int64)) := q90.other W97 ne81
    have q99 : Arv Z h97 b80 k80 .long (12 : Int32) [(.long j4), (.long j1), (.long (0 : Int64)), (.long (0 : Int64)), (.long (0 : Int64)), (.long (0 : Int64)), (.long (0 : Int64)), (.long (0 : Int64)), (.long (0 : Int64)), (.long (0 : Int64)), (.long (0 : Int64)), (.long (0 : Int64))] (.long (0 : Int64)) := Arv.set Aro95 qco95 So95 Mo95 Ho95 Go95 rfl W97 1 rfl (Nat.le_of_ble_eq_true rfl)
    have Z100 : n0 ≤ h97.size := Nat.le_trans Z92 (Keep.of_wr W97).1
    have N101 := Fr.snoc X97 Nx94 g83
    obtain ⟨Lx102, Xx102, Nx102⟩ := own_locs X97 N101
    refine Go.of st97 ?_
    show Go p e below Qo T97 (mkF m 87 #[.val (.long j1), .second, .val (.long j2), .second, .val (.long j3), .second, .val (.long j4), .second, .val (.int i1), .val (.int ((i1 &&& (2147483647 : Int32)) % (7 : Int32))), .val (.ref b1), .val (.int v64_78), .unset, .unset, .unset, .unset, .unset, .unset, .unset, .unset, .unset, .unset] [(.ref b80)])
    refine Go.of (fun t k => XS.dup Xx102.here hx rfl (hb hby at_87) rfl rfl k) ?_
    show Go p e below Qo T97 (mkF m 88 #[.val (.long j1), .second, .val (.long j2), .second, .val (.long j3), .second, .val (.long j4), .second, .val (.int i1), .val (.int ((i1 &&& (2147483647 : Int32)) % (7 : Int32))), .val (.ref b1), .val (.int v64_78), .unset, .unset, .unset, .unset, .unset, .unset, .unset, .unset, .unset, .unset] [(.ref b80), (.ref b80)])
    refine Go.of (fun t k => XS.iconst Xx102.here hx rfl (hb hby at_88) k) ?_
    show Go p e below Qo T97 (mkF m 89 #[.val (.long j1), .second, .val (.long j2), .second, .val (.long j3), .second, .val (.long j4), .second, .val (.int i1), .val (.int ((i1 &&& (2147483647 : Int32)) % (7 : Int32))), .val (.ref b1), .val (.int v64_78), .unset, .unset, .unset, .unset, .unset, .unset, .unset, .unset, .unset, .unset] [(.int (2 : Int32)), (.ref b80), (.ref b80)])
    refine Go.of (fun t k => XS.lloadN Xx102.here hx rfl (hb hby at_89) rfl  k) ?_
    show Go p e below Qo T97 (mkF m 90 #[.val (.long j1), .second, .val (.long j2), .second, .val (.long j3), .second, .val (.long j4), .second, .val (.int i1), .val (.int ((i1 &&& (2147483647 : Int32)) % (7 : Int32))), .val (.ref b1), .val (.int v64_78), .unset, .unset, .unset, .unset, .unset, .unset, .unset, .unset, .unset, .unset] [(.long j2), (.int (2 : Int32)), (.ref b80), (.ref b80)])
    have cpo103 := q99
    obtain ⟨clo103, Aro103, qco103, So103, Mo103, Ho103, Go103⟩ := cpo103
    have hin104 : ¬ ((2 : Int32) < 0 ∨ clo103.slots.size ≤ (2 : Int32).toNatClampNeg) := (inb_of So103 ⟨by decide, by decide⟩)
    obtain ⟨T105, h105, X105, e105, W105, st105⟩ := stJ Xx102 hx hZ e97 Aro103 (j := (2 : Int32)) hin104 (g := (mkF m 90 #[.val (.long j1), .second, .val (.long j2), .second, .val (.long j3), .second, .val (.long j4), .second, .val (.int i1), .val (.int ((i1 &&& (2147483647 : Int32)) % (7 : Int32))), .val (.ref b1), .val (.int v64_78), .unset, .unset, .unset, .unset, .unset, .unset, .unset, .unset, .unset, .unset] [(.long j2), (.int (2 : Int32)), (.ref b80), (.ref b80)])) rfl rfl (hb hby at_90)
    have q106 : Arv Z h105 b1 k1 .long (12 : Int32) [(.long j4), (.long j4), (.long j4), (.long j4), (.long j4), (.long y5), (.long y6), (.long y7), (.long y8), (.long y9), (.long y10), (.long y11)] (.long (0 : Int64)) := q98.other W105 ne81
    have q107 : Arv Z h105 b80 k80 .long (12 : Int32) [(.long j4), (.long j1), (.long j2), (.long (0 : Int64)), (.long (0 : Int64)), (.long (0 : Int64)), (.long (0 : Int64)), (.long (0 : Int64)), (.long (0 : Int64)), (.long (0 : Int64)), (.long (0 : Int64)), (.long (0 : Int64))] (.long (0 : Int64)) := Arv.set Aro103 qco103 So103 Mo103 Ho103 Go103 rfl W105 2 rfl (Nat.le_of_ble_eq_true rfl)
    have Z108 : n0 ≤ h105.size := Nat.le_trans Z100 (Keep.of_wr W105).1
    have N109 := Fr.snoc X105 Nx102 g83
    obtain ⟨Lx110, Xx110, Nx110⟩ := own_locs X105 N109
    refine Go.of st105 ?_
    show Go p e below Qo T105 (mkF m 91 #[.val (.long j1), .second, .val (.long j2), .second, .val (.long j3), .second, .val (.long j4), .second, .val (.int i1), .val (.int ((i1 &&& (2147483647 : Int32)) % (7 : Int32))), .val (.ref b1), .val (.int v64_78), .unset, .unset, .unset, .unset, .unset, .unset, .unset, .unset, .unset, .unset] [(.ref b80)])
    refine Go.of (fun t k => XS.dup Xx110.here hx rfl (hb hby at_91) rfl rfl k) ?_
    show Go p e below Qo T105 (mkF m 92 #[.val (.long j1), .second, .val (.long j2), .second, .val (.long j3), .second, .val (.long j4), .second, .val (.int i1), .val (.int ((i1 &&& (2147483647 : Int32)) % (7 : Int32))), .val (.ref b1), .val (.int v64_78), .unset, .unset, .unset, .unset, .unset, .unset, .unset, .unset, .unset, .unset] [(.ref b80), (.ref b80)])
    refine Go.of (fun t k => XS.iconst Xx110.here hx rfl (hb hby at_92) k) ?_
    show Go p e below Qo T105 (mkF m 93 #[.val (.long j1), .second, .val (.long j2), .second, .val (.long j3), .second, .val (.long j4), .second, .val (.int i1), .val (.int ((i1 &&& (2147483647 : Int32)) % (7 : Int32))), .val (.ref b1), .val (.int v64_78), .unset, .unset, .unset, .unset, .unset, .unset, .unset, .unset, .unset, .unset] [(.int (3 : Int32)), (.ref b80), (.ref b80)])
    refine Go.of (fun t k => XS.lload Xx110.here hx rfl (hb hby at_93) rfl  k) ?_
    show Go p e below Qo T105 (mkF m 95 #[.val (.long j1), .second, .val (.long j2), .second, .val (.long j3), .second, .val (.long j4), .second, .val (.int i1), .val (.int ((i1 &&& (2147483647 : Int32)) % (7 : Int32))), .val (.ref b1), .val (.int v64_78), .unset, .unset, .unset, .unset, .unset, .unset, .unset, .unset, .unset, .unset] [(.long j3), (.int (3 : Int32)), (.ref b80), (.ref b80)])
    have cpo111 := q107
    obtain ⟨clo111, Aro111, qco111, So111, Mo111, Ho111, Go111⟩ := cpo111
    have hin112 : ¬ ((3 : Int32) < 0 ∨ clo111.slots.size ≤ (3 : Int32).toNatClampNeg) := (inb_of So111 ⟨by decide, by decide⟩)
    obtain ⟨T113, h113, X113, e113, W113, st113⟩ := stJ Xx110 hx hZ e105 Aro111 (j := (3 : Int32)) hin112 (g := (mkF m 95 #[.val (.long j1), .second, .val (.long j2), .second, .val (.long j3), .second, .val (.long j4), .second, .val (.int i1), .val (.int ((i1 &&& (2147483647 : Int32)) % (7 : Int32))), .val (.ref b1), .val (.int v64_78), .unset, .unset, .unset, .unset, .unset, .unset, .unset, .unset, .unset, .unset] [(.long j3), (.int (3 : Int32)), (.ref b80), (.ref b80)])) rfl rfl (hb hby at_95)
    have q114 : Arv Z h113 b1 k1 .long (12 : Int32) [(.long j4), (.long j4), (.long j4), (.long j4), (.long j4), (.long y5), (.long y6), (.long y7), (.long y8), (.long y9), (.long y10), (.long y11)] (.long (0 : Int64)) := q106.other W113 ne81
    have q115 : Arv Z h113 b80 k80 .long (12 : Int32) [(.long j4), (.long j1), (.long j2), (.long j3), (.long (0 : Int64)), (.long (0 : Int64)), (.long (0 : Int64)), (.long (0 : Int64)), (.long (0 : Int64)), (.long (0 : Int64)), (.long (0 : Int64)), (.long (0 : Int64))] (.long (0 : Int64)) := Arv.set Aro111 qco111 So111 Mo111 Ho111 Go111 rfl W113 3 rfl (Nat.le_of_ble_eq_true rfl)
    have Z116 : n0 ≤ h113.size := Nat.le_trans Z108 (Keep.of_wr W113).1
    have N117 := Fr.snoc X113 Nx110 g83
    obtain ⟨Lx118, Xx118, Nx118⟩ := own_locs X113 N117
    refine Go.of st113 ?_
    show Go p e below Qo T113 (mkF m 96 #[.val (.long j1), .second, .val (.long j2), .second, .val (.long j3), .second, .val (.long j4), .second, .val (.int i1), .val (.int ((i1 &&& (2147483647 : Int32)) % (7 : Int32))), .val (.ref b1), .val (.int v64_78), .unset, .unset, .unset, .unset, .unset, .unset, .unset, .unset, .unset, .unset] [(.ref b80)])
    refine Go.of (fun t k => XS.dup Xx118.here hx rfl (hb hby at_96) rfl rfl k) ?_
    show Go p e below Qo T113 (mkF m 97 #[.val (.long j1), .second, .val (.long j2), .second, .val (.long j3), .second, .val (.long j4), .second, .val (.int i1), .val (.int ((i1 &&& (2147483647 : Int32)) % (7 : Int32))), .val (.ref b1), .val (.int v64_78), .unset, .unset, .unset, .unset, .unset, .unset, .unset, .unset, .unset, .unset] [(.ref b80), (.ref b80)])
    refine Go.of (fun t k => XS.iconst Xx118.here hx rfl (hb hby at_97) k) ?_
    show Go p e below Qo T113 (mkF m 98 #[.val (.long j1), .second, .val (.long j2), .second, .val (.long j3), .second, .val (.long j4), .second, .val (.int i1), .val (.int ((i1 &&& (2147483647 : Int32)) % (7 : Int32))), .val (.ref b1), .val (.int v64_78), .unset, .unset, .unset, .unset, .unset, .unset, .unset, .unset, .unset, .unset] [(.int (4 : Int32)), (.ref b80), (.ref b80)])
    refine Go.of (fun t k => XS.lload Xx118.here hx rfl (hb hby at_98) rfl  k) ?_
    show Go p e below Qo T113 (mkF m 100 #[.val (.long j1), .second, .val (.long j2), .second, .val (.long j3), .second, .val (.long j4), .second, .val (.int i1), .val (.int ((i1 &&& (2147483647 : Int32)) % (7 : Int32))), .val (.ref b1), .val (.int v64_78), .unset, .unset, .unset, .unset, .unset, .unset, .unset, .unset, .unset, .unset] [(.long j4), (.int (4 : Int32)), (.ref b80), (.ref b80)])
    refine Go.of (fun t k => XS.lloadN Xx118.here hx rfl (hb hby at_100) rfl  k) ?_
    show Go p e below Qo T113 (mkF m 101 #[.val (.long j1), .second, .val (.long j2), .second, .val (.long j3), .second, .val (.long j4), .second, .val (.int i1), .val (.int ((i1 &&& (2147483647 : Int32)) % (7 : Int32))), .val (.ref b1), .val (.int v64_78), .unset, .unset, .unset, .unset, .unset, .unset, .unset, .unset, .unset, .unset] [(.long j1), (.long j4), (.int (4 : Int32)), (.ref b80), (.ref b80)])
    refine Go.of (fun t k => XS.lxor Xx118.here hx rfl (hb hby at_101) rfl k) ?_
    show Go p e below Qo T113 (mkF m 102 #[.val (.long j1), .second, .val (.long j2), .second, .val (.long j3), .second, .val (.long j4), .second, .val (.int i1), .val (.int ((i1 &&& (2147483647 : Int32)) % (7 : Int32))), .val (.ref b1), .val (.int v64_78), .unset, .unset, .unset, .unset, .unset, .unset, .unset, .unset, .unset, .unset] [(.long (j4 ^^^ j1)), (.int (4 : Int32)), (.ref b80), (.ref b80)])
    have cpo119 := q115
    obtain ⟨clo119, Aro119, qco119, So119, Mo119, Ho119, Go119⟩ := cpo119
    have hin120 : ¬ ((4 : Int32) < 0 ∨ clo119.slots.size ≤ (4 : Int32).toNatClampNeg) := (inb_of So119 ⟨by decide, by decide⟩)
    obtain ⟨T121, h121, X121, e121, W121, st121⟩ := stJ Xx118 hx hZ e113 Aro119 (j := (4 : Int32)) hin120 (g := (mkF m 102 #[.val (.long j1), .second, .val (.long j2), .second, .val (.long j3), .second, .val (.long j4), .second, .val (.int i1), .val (.int ((i1 &&& (2147483647 : Int32)) % (7 : Int32))), .val (.ref b1), .val (.int v64_78), .unset, .unset, .unset, .unset, .unset, .unset, .unset, .unset, .unset, .unset] [(.long (j4 ^^^ j1)), (.int (4 : Int32)), (.ref b80), (.ref b80)])) rfl rfl (hb hby at_102)
    have q122 : Arv Z h121 b1 k1 .long (12 : Int32) [(.long j4), (.long j4), (.long j4), (.long j4), (.long j4), (.long y5), (.long y6), (.long y7), (.long y8), (.long y9), (.long y10), (.long y11)] (.long (0 : Int64)) := q114.other W121 ne81
    have q123 : Arv Z h121 b80 k80 .long (12 : Int32) [(.long j4), (.long j1), (.long j2), (.long j3), (.long (j4 ^^^ j1)), (.long (0 : Int64)), (.long (0 : Int64)), (.long (0 : Int64)), (.long (0 : Int64)), (.long (0 : Int64)), (.long (0 : Int64)), (.long (0 : Int64))] (.long (0 : Int64)) := Arv.set Aro119 qco119 So119 Mo119 Ho119 Go119 rfl W121 4 rfl (Nat.le_of_ble_eq_true rfl)
    have Z124 : n0 ≤ h121.size := Nat.le_trans Z116 (Keep.of_wr W121).1
    have N125 := Fr.snoc X121 Nx118 g83
    obtain ⟨Lx126, Xx126, Nx126⟩ := own_locs X121 N125
    refine Go.of st121 ?_
    show Go p e below Qo T121 (mkF m 103 #[.val (.long j1), .second, .val (.long j2), .second, .val (.long j3), .second, .val (.long j4), .second, .val (.int i1), .val (.int ((i1 &&& (2147483647 : Int32)) % (7 : Int32))), .val (.ref b1), .val (.int v64_78), .unset, .unset, .unset, .unset, .unset, .unset, .unset, .unset, .unset, .unset] [(.ref b80)])
    refine Go.of (fun t k => XS.dup Xx126.here hx rfl (hb hby at_103) rfl rfl k) ?_
    show Go p e below Qo T121 (mkF m 104 #[.val (.long j1), .second, .val (.long j2), .second, .val (.long j3), .second, .val (.long j4), .second, .val (.int i1), .val (.int ((i1 &&& (2147483647 : Int32)) % (7 : Int32))), .val (.ref b1), .val (.int v64_78), .unset, .unset, .unset, .unset, .unset, .unset, .unset, .unset, .unset, .unset] [(.ref b80), (.ref b80)])
    refine Go.of (fun t k => XS.iconst Xx126.here hx rfl (hb hby at_104) k) ?_
    show Go p e below Qo T121 (mkF m 105 #[.val (.long j1), .second, .val (.long j2), .second, .val (.long j3), .second, .val (.long j4), .second, .val (.int i1), .val (.int ((i1 &&& (2147483647 : Int32)) % (7 : Int32))), .val (.ref b1), .val (.int v64_78), .unset, .unset, .unset, .unset, .unset, .unset, .unset, .unset, .unset, .unset] [(.int (5 : Int32)), (.ref b80), (.ref b80)])
    refine Go.of (fun t k => XS.lloadN Xx126.here hx rfl (hb hby at_105) rfl  k) ?_
    show Go p e below Qo T121 (mkF m 106 #[.val (.long j1), .second, .val (.long j2), .second, .val (.long j3), .second, .val (.long j4), .second, .val (.int i1), .val (.int ((i1 &&& (2147483647 : Int32)) % (7 : Int32))), .val (.ref b1), .val (.int v64_78), .unset, .unset, .unset, .unset, .unset, .unset, .unset, .unset, .unset, .unset] [(.long j1), (.int (5 : Int32)), (.ref b80), (.ref b80)])
    have cpo127 := q123
    obtain ⟨clo127, Aro127, qco127, So127, Mo127, Ho127, Go127⟩ := cpo127
    have hin128 : ¬ ((5 : Int32) < 0 ∨ clo127.slots.size ≤ (5 : Int32).toNatClampNeg) := (inb_of So127 ⟨by decide, by decide⟩)
    obtain ⟨T129, h129, X129, e129, W129, st129⟩ := stJ Xx126 hx hZ e121 Aro127 (j := (5 : Int32)) hin128 (g := (mkF m 106 #[.val (.long j1), .second, .val (.long j2), .second, .val (.long j3), .second, .val (.long j4), .second, .val (.int i1), .val (.int ((i1 &&& (2147483647 : Int32)) % (7 : Int32))), .val (.ref b1), .val (.int v64_78), .unset, .unset, .unset, .unset, .unset, .unset, .unset, .unset, .unset, .unset] [(.long j1), (.int (5 : Int32)), (.ref b80), (.ref b80)])) rfl rfl (hb hby at_106)
    have q130 : Arv Z h129 b1 k1 .long (12 : Int32) [(.long j4), (.long j4), (.long j4), (.long j4), (.long j4), (.long y5), (.long y6), (.long y7), (.long y8), (.long y9), (.long y10), (.long y11)] (.long (0 : Int64)) := q122.other W129 ne81
    have q131 : Arv Z h129 b80 k80 .long (12 : Int32) [(.long j4), (.long j1), (.long j2), (.long j3), (.long (j4 ^^^ j1)), (.long j1), (.long (0 : Int64)), (.long (0 : Int64)), (.long (0 : Int64)), (.long (0 : Int64)), (.long (0 : Int64)), (.long (0 : Int64))] (.long (0 : Int64)) := Arv.set Aro127 qco127 So127 Mo127 Ho127 Go127 rfl W129 5 rfl (Nat.le_of_ble_eq_true rfl)
    have Z132 : n0 ≤ h129.size := Nat.le_trans Z124 (Keep.of_wr W129).1
    have N133 := Fr.snoc X129 Nx126 g83
    obtain ⟨Lx134, Xx134, Nx134⟩ := own_locs X129 N133
    refine Go.of st129 ?_
    show Go p e below Qo T129 (mkF m 107 #[.val (.long j1), .second, .val (.long j2), .second, .val (.long j3), .second, .val (.long j4), .second, .val (.int i1), .val (.int ((i1 &&& (2147483647 : Int32)) % (7 : Int32))), .val (.ref b1), .val (.int v64_78), .unset, .unset, .unset, .unset, .unset, .unset, .unset, .unset, .unset, .unset] [(.ref b80)])
    refine Go.of (fun t k => XS.dup Xx134.here hx rfl (hb hby at_107) rfl rfl k) ?_
    show Go p e below Qo T129 (mkF m 108 #[.val (.long j1), .second, .val (.long j2), .second, .val (.long j3), .second, .val (.long j4), .second, .val (.int i1), .val (.int ((i1 &&& (2147483647 : Int32)) % (7 : Int32))), .val (.ref b1), .val (.int v64_78), .unset, .unset, .unset, .unset, .unset, .unset, .unset, .unset, .unset, .unset] [(.ref b80), (.ref b80)])
    refine Go.of (fun t k => XS.bipush Xx134.here hx rfl (hb hby at_108) k) ?_
    show Go p e below Qo T129 (mkF m 110 #[.val (.long j1), .second, .val (.long j2), .second, .val (.long j3), .second, .val (.long j4), .second, .val (.int i1), .val (.int ((i1 &&& (2147483647 : Int32)) % (7 : Int32))), .val (.ref b1), .val (.int v64_78), .unset, .unset, .unset, .unset, .unset, .unset, .unset, .unset, .unset, .unset] [(.int (6 : Int32)), (.ref b80), (.ref b80)])
    refine Go.of (fun t k => XS.lloadN Xx134.here hx rfl (hb hby at_110) rfl  k) ?_
    show Go p e below Qo T129 (mkF m 111 #[.val (.long j1), .second, .val (.long j2), .second, .val (.long j3), .second, .val (.long j4), .second, .val (.int i1), .val (.int ((i1 &&& (2147483647 : Int32)) % (7 : Int32))), .val (.ref b1), .val (.int v64_78), .unset, .unset, .unset, .unset, .unset, .unset, .unset, .unset, .unset, .unset] [(.long j2), (.int (6 : Int32)), (.ref b80), (.ref b80)])
    have cpo135 := q131
    obtain ⟨clo135, Aro135, qco135, So135, Mo135, Ho135, Go135⟩ := cpo135
    have hin136 : ¬ ((6 : Int32) < 0 ∨ clo135.slots.size ≤ (6 : Int32).toNatClampNeg) := (inb_of So135 ⟨by decide, by decide⟩)
    obtain ⟨T137, h137, X137, e137, W137, st137⟩ := stJ Xx134 hx hZ e129 Aro135 (j := (6 : Int32)) hin136 (g := (mkF m 111 #[.val (.long j1), .second, .val (.long j2), .second, .val (.long j3), .second, .val (.long j4), .second, .val (.int i1), .val (.int ((i1 &&& (2147483647 : Int32)) % (7 : Int32))), .val (.ref b1), .val (.int v64_78), .unset, .unset, .unset, .unset, .unset, .unset, .unset, .unset, .unset, .unset] [(.long j2), (.int (6 : Int32)), (.ref b80), (.ref b80)])) rfl rfl (hb hby at_111)
    have q138 : Arv Z h137 b1 k1 .long (12 : Int32) [(.long j4), (.long j4), (.long j4), (.long j4), (.long j4), (.long y5), (.long y6), (.long y7), (.long y8), (.long y9), (.long y10), (.long y11)] (.long (0 : Int64)) := q130.other W137 ne81
    have q139 : Arv Z h137 b80 k80 .long (12 : Int32) [(.long j4), (.long j1), (.long j2), (.long j3), (.long (j4 ^^^ j1)), (.long j1), (.long j2), (.long (0 : Int64)), (.long (0 : Int64)), (.long (0 : Int64)), (.long (0 : Int64)), (.long (0 : Int64))] (.long (0 : Int64)) := Arv.set Aro135 qco135 So135 Mo135 Ho135 Go135 rfl W137 6 rfl (Nat.le_of_ble_eq_true rfl)
    have Z140 : n0 ≤ h137.size := Nat.le_trans Z132 (Keep.of_wr W137).1
    have N141 := Fr.snoc X137 Nx134 g83
    obtain ⟨Lx142, Xx142, Nx142⟩ := own_locs X137 N141
    refine Go.of st137 ?_
    show Go p e below Qo T137 (mkF m 112 #[.val (.long j1), .second, .val (.long j2), .second, .val (.long j3), .second, .val (.long j4), .second, .val (.int i1), .val (.int ((i1 &&& (2147483647 : Int32)) % (7 : Int32))), .val (.ref b1), .val (.int v64_78), .unset, .unset, .unset, .unset, .unset, .unset, .unset, .unset, .unset, .unset] [(.ref b80)])
    refine Go.of (fun t k => XS.dup Xx142.here hx rfl (hb hby at_112) rfl rfl k) ?_
    show Go p e below Qo T137 (mkF m 113 #[.val (.long j1), .second, .val (.long j2), .second, .val (.long j3), .second, .val (.long j4), .second, .val (.int i1), .val (.int ((i1 &&& (2147483647 : Int32)) % (7 : Int32))), .val (.ref b1), .val (.int v64_78), .unset, .unset, .unset, .unset, .unset, .unset, .unset, .unset, .unset, .unset] [(.ref b80), (.ref b80)])
    refine Go.of (fun t k => XS.bipush Xx142.here hx rfl (hb hby at_113) k) ?_
    show Go p e below Qo T137 (mkF m 115 #[.val (.long j1), .second, .val (.long j2), .second, .val (.long j3), .second, .val (.long j4), .second, .val (.int i1), .val (.int ((i1 &&& (2147483647 : Int32)) % (7 : Int32))), .val (.ref b1), .val (.int v64_78), .unset, .unset, .unset, .unset, .unset, .unset, .unset, .unset, .unset, .unset] [(.int (7 : Int32)), (.ref b80), (.ref b80)])
    refine Go.of (fun t k => XS.lload Xx142.here hx rfl (hb hby at_115) rfl  k) ?_
    show Go p e below Qo T137 (mkF m 117 #[.val (.long j1), .second, .val (.long j2), .second, .val (.long j3), .second, .val (.long j4), .second, .val (.int i1), .val (.int ((i1 &&& (2147483647 : Int32)) % (7 : Int32))), .val (.ref b1), .val (.int v64_78), .unset, .unset, .unset, .unset, .unset, .unset, .unset, .unset, .unset, .unset] [(.long j3), (.int (7 : Int32)), (.ref b80), (.ref b80)])
    have cpo143 := q139
    obtain ⟨clo143, Aro143, qco143, So143, Mo143, Ho143, Go143⟩ := cpo143
    have hin144 : ¬ ((7 : Int32) < 0 ∨ clo143.slots.size ≤ (7 : Int32).toNatClampNeg) := (inb_of So143 ⟨by decide, by decide⟩)
    obtain ⟨T145, h145, X145, e145, W145, st145⟩ := stJ Xx142 hx hZ e137 Aro143 (j := (7 : Int32)) hin144 (g := (mkF m 117 #[.val (.long j1), .second, .val (.long j2), .second, .val (.long j3), .second, .val (.long j4), .second, .val (.int i1), .val (.int ((i1 &&& (2147483647 : Int32)) % (7 : Int32))), .val (.ref b1), .val (.int v64_78), .unset, .unset, .unset, .unset, .unset, .unset, .unset, .unset, .unset, .unset] [(.long j3), (.int (7 : Int32)), (.ref b80), (.ref b80)])) rfl rfl (hb hby at_117)
    have q146 : Arv Z h145 b1 k1 .long (12 : Int32) [(.long j4), (.long j4), (.long j4), (.long j4), (.long j4), (.long y5), (.long y6), (.long y7), (.long y8), (.long y9), (.long y10), (.long y11)] (.long (0 : Int64)) := q138.other W145 ne81
    have q147 : Arv Z h145 b80 k80 .long (12 : Int32) [(.long j4), (.long j1), (.long j2), (.long j3), (.long (j4 ^^^ j1)), (.long j1), (.long j2), (.long j3), (.long (0 : Int64)), (.long (0 : Int64)), (.long (0 : Int64)), (.long (0 : Int64))] (.long (0 : Int64)) := Arv.set Aro143 qco143 So143 Mo143 Ho143 Go143 rfl W145 7 rfl (Nat.le_of_ble_eq_true rfl)
    have Z148 : n0 ≤ h145.size := Nat.le_trans Z140 (Keep.of_wr W145).1
    have N149 := Fr.snoc X145 Nx142 g83
    obtain ⟨Lx150, Xx150, Nx150⟩ := own_locs X145 N149
    refine Go.of st145 ?_
    show Go p e below Qo T145 (mkF m 118 #[.val (.long j1), .second, .val (.long j2), .second, .val (.long j3), .second, .val (.long j4), .second, .val (.int i1), .val (.int ((i1 &&& (2147483647 : Int32)) % (7 : Int32))), .val (.ref b1), .val (.int v64_78), .unset, .unset, .unset, .unset, .unset, .unset, .unset, .unset, .unset, .unset] [(.ref b80)])
    refine Go.of (fun t k => XS.dup Xx150.here hx rfl (hb hby at_118) rfl rfl k) ?_
    show Go p e below Qo T145 (mkF m 119 #[.val (.long j1), .second, .val (.long j2), .second, .val (.long j3), .second, .val (.long j4), .second, .val (.int i1), .val (.int ((i1 &&& (2147483647 : Int32)) % (7 : Int32))), .val (.ref b1), .val (.int v64_78), .unset, .unset, .unset, .unset, .unset, .unset, .unset, .unset, .unset, .unset] [(.ref b80), (.ref b80)])
    refine Go.of (fun t k => XS.bipush Xx150.here hx rfl (hb hby at_119) k) ?_
    show Go p e below Qo T145 (mkF m 121 #[.val (.long j1), .second, .val (.long j2), .second, .val (.long j3), .second, .val (.long j4), .second, .val (.int i1), .val (.int ((i1 &&& (2147483647 : Int32)) % (7 : Int32))), .val (.ref b1), .val (.int v64_78), .unset, .unset, .unset, .unset, .unset, .unset, .unset, .unset, .unset, .unset] [(.int (8 : Int32)), (.ref b80), (.ref b80)])
    refine Go.of (fun t k => XS.lloadN Xx150.here hx rfl (hb hby at_121) rfl  k) ?_
    show Go p e below Qo T145 (mkF m 122 #[.val (.long j1), .second, .val (.long j2), .second, .val (.long j3), .second, .val (.long j4), .second, .val (.int i1), .val (.int ((i1 &&& (2147483647 : Int32)) % (7 : Int32))), .val (.ref b1), .val (.int v64_78), .unset, .unset, .unset, .unset, .unset, .unset, .unset, .unset, .unset, .unset] [(.long j1), (.int (8 : Int32)), (.ref b80), (.ref b80)])
    refine Go.of (fun t k => XS.lloadN Xx150.here hx rfl (hb hby at_122) rfl  k) ?_
    show Go p e below Qo T145 (mkF m 123 #[.val (.long j1), .second, .val (.long j2), .second, .val (.long j3), .second, .val (.long j4), .second, .val (.int i1), .val (.int ((i1 &&& (2147483647 : Int32)) % (7 : Int32))), .val (.ref b1), .val (.int v64_78), .unset, .unset, .unset, .unset, .unset, .unset, .unset, .unset, .unset, .unset] [(.long j2), (.long j1), (.int (8 : Int32)), (.ref b80), (.ref b80)])
    refine Go.of (fun t k => XS.lxor Xx150.here hx rfl (hb hby at_123) rfl k) ?_
    show Go p e below Qo T145 (mkF m 124 #[.val (.long j1), .second, .val (.long j2), .second, .val (.long j3), .second, .val (.long j4), .second, .val (.int i1), .val (.int ((i1 &&& (2147483647 : Int32)) % (7 : Int32))), .val (.ref b1), .val (.int v64_78), .unset, .unset, .unset, .unset, .unset, .unset, .unset, .unset, .unset, .unset] [(.long (j1 ^^^ j2)), (.int (8 : Int32)), (.ref b80), (.ref b80)])
    have cpo151 := q147
    obtain ⟨clo151, Aro151, qco151, So151, Mo151, Ho151, Go151⟩ := cpo151
    have hin152 : ¬ ((8 : Int32) < 0 ∨ clo151.slots.size ≤ (8 : Int32).toNatClampNeg) := (inb_of So151 ⟨by decide, by decide⟩)
    obtain ⟨T153, h153, X153, e153, W153, st153⟩ := stJ Xx150 hx hZ e145 Aro151 (j := (8 : Int32)) hin152 (g := (mkF m 124 #[.val (.long j1), .second, .val (.long j2), .second, .val (.long j3), .second, .val (.long j4), .second, .val (.int i1), .val (.int ((i1 &&& (2147483647 : Int32)) % (7 : Int32))), .val (.ref b1), .val (.int v64_78), .unset, .unset, .unset, .unset, .unset, .unset, .unset, .unset, .unset, .unset] [(.long (j1 ^^^ j2)), (.int (8 : Int32)), (.ref b80), (.ref b80)])) rfl rfl (hb hby at_124)
    have q154 : Arv Z h153 b1 k1 .long (12 : Int32) [(.long j4), (.long j4), (.long j4), (.long j4), (.long j4), (.long y5), (.long y6), (.long y7), (.long y8), (.long y9), (.long y10), (.long y11)] (.long (0 : Int64)) := q146.other W153 ne81
    have q155 : Arv Z h153 b80 k80 .long (12 : Int32) [(.long j4), (.long j1), (.long j2), (.long j3), (.long (j4 ^^^ j1)), (.long j1), (.long j2), (.long j3), (.long (j1 ^^^ j2)), (.long (0 : Int64)), (.long (0 : Int64)), (.long (0 : Int64))] (.long (0 : Int64)) := Arv.set Aro151 qco151 So151 Mo151 Ho151 Go151 rfl W153 8 rfl (Nat.le_of_ble_eq_true rfl)
    have Z156 : n0 ≤ h153.size := Nat.le_trans Z148 (Keep.of_wr W153).1
    have N157 := Fr.snoc X153 Nx150 g83
    obtain ⟨Lx158, Xx158, Nx158⟩ := own_locs X153 N157
    refine Go.of st153 ?_
    show Go p e below Qo T153 (mkF m 125 #[.val (.long j1), .second, .val (.long j2), .second, .val (.long j3), .second, .val (.long j4), .second, .val (.int i1), .val (.int ((i1 &&& (2147483647 : Int32)) % (7 : Int32))), .val (.ref b1), .val (.int v64_78), .unset, .unset, .unset, .unset, .unset, .unset, .unset, .unset, .unset, .unset] [(.ref b80)])
    refine Go.of (fun t k => XS.dup Xx158.here hx rfl (hb hby at_125) rfl rfl k) ?_
    show Go p e below Qo T153 (mkF m 126 #[.val (.long j1), .second, .val (.long j2), .second, .val (.long j3), .second, .val (.long j4), .second, .val (.int i1), .val (.int ((i1 &&& (2147483647 : Int32)) % (7 : Int32))), .val (.ref b1), .val (.int v64_78), .unset, .unset, .unset, .unset, .unset, .unset, .unset, .unset, .unset, .unset] [(.ref b80), (.ref b80)])
    refine Go.of (fun t k => XS.bipush Xx158.here hx rfl (hb hby at_126) k) ?_
    show Go p e below Qo T153 (mkF m 128 #[.val (.long j1), .second, .val (.long j2), .second, .val (.long j3), .second, .val (.long j4), .second, .val (.int i1), .val (.int ((i1 &&& (2147483647 : Int32)) % (7 : Int32))), .val (.ref b1), .val (.int v64_78), .unset, .unset, .unset, .unset, .unset, .unset, .unset, .unset, .unset, .unset] [(.int (9 : Int32)), (.ref b80), (.ref b80)])
    refine Go.of (fun t k => XS.lloadN Xx158.here hx rfl (hb hby at_128) rfl  k) ?_
    show Go p e below Qo T153 (mkF m 129 #[.val (.long j1), .second, .val (.long j2), .second, .val (.long j3), .second, .val (.long j4), .second, .val (.int i1), .val (.int ((i1 &&& (2147483647 : Int32)) % (7 : Int32))), .val (.ref b1), .val (.int v64_78), .unset, .unset, .unset, .unset, .unset, .unset, .unset, .unset, .unset, .unset] [(.long j2), (.int (9 : Int32)), (.ref b80), (.ref b80)])
    refine Go.of (fun t k => XS.lload Xx158.here hx rfl (hb hby at_129) rfl  k) ?_
    show Go p e below Qo T153 (mkF m 131 #[.val (.long j1), .second, .val (.long j2), .second, .val (.long j3), .second, .val (.long j4), .second, .val (.int i1), .val (.int ((i1 &&& (2147483647 : Int32)) % (7 : Int32))), .val (.ref b1), .val (.int v64_78), .unset, .unset, .unset, .unset, .unset, .unset, .unset, .unset, .unset, .unset] [(.long j3), (.long j2), (.int (9 : Int32)), (.ref b80), (.ref b80)])
    refine Go.of (fun t k => XS.lxor Xx158.here hx rfl (hb hby at_131) rfl k) ?_
    show Go p e below Qo T153 (mkF m 132 #[.val (.long j1), .second, .val (.long j2), .second, .val (.long j3), .second, .val (.long j4), .second, .val (.int i1), .val (.int ((i1 &&& (2147483647 : Int32)) % (7 : Int32))), .val (.ref b1), .val (.int v64_78), .unset, .unset, .unset, .unset, .unset, .unset, .unset, .unset, .unset, .unset] [(.long (j2 ^^^ j3)), (.int (9 : Int32)), (.ref b80), (.ref b80)])
    have cpo159 := q155
    obtain ⟨clo159, Aro159, qco159, So159, Mo159, Ho159, Go159⟩ := cpo159
    have hin160 : ¬ ((9 : Int32) < 0 ∨ clo159.slots.size ≤ (9 : Int32).toNatClampNeg) := (inb_of So159 ⟨by decide, by decide⟩)
    obtain ⟨T161, h161, X161, e161, W161, st161⟩ := stJ Xx158 hx hZ e153 Aro159 (j := (9 : Int32)) hin160 (g := (mkF m 132 #[.val (.long j1), .second, .val (.long j2), .second, .val (.long j3), .second, .val (.long j4), .second, .val (.int i1), .val (.int ((i1 &&& (2147483647 : Int32)) % (7 : Int32))), .val (.ref b1), .val (.int v64_78), .unset, .unset, .unset, .unset, .unset, .unset, .unset, .unset, .unset, .unset] [(.long (j2 ^^^ j3)), (.int (9 : Int32)), (.ref b80), (.ref b80)])) rfl rfl (hb hby at_132)
    have q162 : Arv Z h161 b1 k1 .long (12 : Int32) [(.long j4), (.long j4), (.long j4), (.long j4), (.long j4), (.long y5), (.long y6), (.long y7), (.long y8), (.long y9), (.long y10), (.long y11)] (.long (0 : Int64)) := q154.other W161 ne81
    have q163 : Arv Z h161 b80 k80 .long (12 : Int32) [(.long j4), (.long j1), (.long j2), (.long j3), (.long (j4 ^^^ j1)), (.long j1), (.long j2), (.long j3), (.long (j1 ^^^ j2)), (.long (j2 ^^^ j3)), (.long (0 : Int64)), (.long (0 : Int64))] (.long (0 : Int64)) := Arv.set Aro159 qco159 So159 Mo159 Ho159 Go159 rfl W161 9 rfl (Nat.le_of_ble_eq_true rfl)
    have Z164 : n0 ≤ h161.size := Nat.le_trans Z156 (Keep.of_wr W161).1
    have N165 := Fr.snoc X161 Nx158 g83
    obtain ⟨Lx166, Xx166, Nx166⟩ := own_locs X161 N165
    refine Go.of st161 ?_
    show Go p e below Qo T161 (mkF m 133 #[.val (.long j1), .second, .val (.long j2), .second, .val (.long j3), .second, .val (.long j4), .second, .val (.int i1), .val (.int ((i1 &&& (2147483647 : Int32)) % (7 : Int32))), .val (.ref b1), .val (.int v64_78), .unset, .unset, .unset, .unset, .unset, .unset, .unset, .unset, .unset, .unset] [(.ref b80)])
    refine Go.of (fun t k => XS.dup Xx166.here hx rfl (hb hby at_133) rfl rfl k) ?_
    show Go p e below Qo T161 (mkF m 134 #[.val (.long j1), .second, .val (.long j2), .second, .val (.long j3), .second, .val (.long j4), .second, .val (.int i1), .val (.int ((i1 &&& (2147483647 : Int32)) % (7 : Int32))), .val (.ref b1), .val (.int v64_78), .unset, .unset, .unset, .unset, .unset, .unset, .unset, .unset, .unset, .unset] [(.ref b80), (.ref b80)])
    refine Go.of (fun t k => XS.bipush Xx166.here hx rfl (hb hby at_134) k) ?_
    show Go p e below Qo T161 (mkF m 136 #[.val (.long j1), .second, .val (.long j2), .second, .val (.long j3), .second, .val (.long j4), .second, .val (.int i1), .val (.int ((i1 &&& (2147483647 : Int32)) % (7 : Int32))), .val (.ref b1), .val (.int v64_78), .unset, .unset, .unset, .unset, .unset, .unset, .unset, .unset, .unset, .unset] [(.int (10 : Int32)), (.ref b80), (.ref b80)])
    refine Go.of (fun t k => XS.lload Xx166.here hx rfl (hb hby at_136) rfl  k) ?_
    show Go p e below Qo T161 (mkF m 138 #[.val (.long j1), .second, .val (.long j2), .second, .val (.long j3), .second, .val (.long j4), .second, .val (.int i1), .val (.int ((i1 &&& (2147483647 : Int32)) % (7 : Int32))), .val (.ref b1), .val (.int v64_78), .unset, .unset, .unset, .unset, .unset, .unset, .unset, .unset, .unset, .unset] [(.long j3), (.int (10 : Int32)), (.ref b80), (.ref b80)])
    refine Go.of (fun t k => XS.lloadN Xx166.here hx rfl (hb hby at_138) rfl  k) ?_
    show Go p e below Qo T161 (mkF m 139 #[.val (.long j1), .second, .val (.long j2), .second, .val (.long j3), .second, .val (.long j4), .second, .val (.int i1), .val (.int ((i1 &&& (2147483647 : Int32)) % (7 : Int32))), .val (.ref b1), .val (.int v64_78), .unset, .unset, .unset, .unset, .unset, .unset, .unset, .unset, .unset, .unset] [(.long j1), (.long j3), (.int (10 : Int32)), (.ref b80), (.ref b80)])
    refine Go.of (fun t k => XS.lsub Xx166.here hx rfl (hb hby at_139) rfl k) ?_
    show Go p e below Qo T161 (mkF m 140 #[.val (.long j1), .second, .val (.long j2), .second, .val (.long j3), .second, .val (.long j4), .second, .val (.int i1), .val (.int ((i1 &&& (2147483647 : Int32)) % (7 : Int32))), .val (.ref b1), .val (.int v64_78), .unset, .unset, .unset, .unset, .unset, .unset, .unset, .unset, .unset, .unset] [(.long (j3 - j1)), (.int (10 : Int32)), (.ref b80), (.ref b80)])
    have cpo167 := q163
    obtain ⟨clo167, Aro167, qco167, So167, Mo167, Ho167, Go167⟩ := cpo167
    have hin168 : ¬ ((10 : Int32) < 0 ∨ clo167.slots.size ≤ (10 : Int32).toNatClampNeg) := (inb_of So167 ⟨by decide, by decide⟩)
    obtain ⟨T169, h169, X169, e169, W169, st169⟩ := stJ Xx166 hx hZ e161 Aro167 (j := (10 : Int32)) hin168 (g := (mkF m 140 #[.val (.long j1), .second, .val (.long j2), .second, .val (.long j3), .second, .val (.long j4), .second, .val (.int i1), .val (.int ((i1 &&& (2147483647 : Int32)) % (7 : Int32))), .val (.ref b1), .val (.int v64_78), .unset, .unset, .unset, .unset, .unset, .unset, .unset, .unset, .unset, .unset] [(.long (j3 - j1)), (.int (10 : Int32)), (.ref b80), (.ref b80)])) rfl rfl (hb hby at_140)
    have q170 : Arv Z h169 b1 k1 .long (12 : Int32) [(.long j4), (.long j4), (.long j4), (.long j4), (.long j4), (.long y5), (.long y6), (.long y7), (.long y8), (.long y9), (.long y10), (.long y11)] (.long (0 : Int64)) := q162.other W169 ne81
    have q171 : Arv Z h169 b80 k80 .long (12 : Int32) [(.long j4), (.long j1), (.long j2), (.long j3), (.long (j4 ^^^ j1)), (.long j1), (.long j2), (.long j3), (.long (j1 ^^^ j2)), (.long (j2 ^^^ j3)), (.long (j3 - j1)), (.long (0 : Int64))] (.long (0 : Int64)) := Arv.set Aro167 qco167 So167 Mo167 Ho167 Go167 rfl W169 10 rfl (Nat.le_of_ble_eq_true rfl)
    have Z172 : n0 ≤ h169.size := Nat.le_trans Z164 (Keep.of_wr W169).1
    have N173 := Fr.snoc X169 Nx166 g83
    obtain ⟨Lx174, Xx174, Nx174⟩ := own_locs X169 N173
    refine Go.of st169 ?_
    show Go p e below Qo T169 (mkF m 141 #[.val (.long j1), .second, .val (.long j2), .second, .val (.long j3), .second, .val (.long j4), .second, .val (.int i1), .val (.int ((i1 &&& (2147483647 : Int32)) % (7 : Int32))), .val (.ref b1), .val (.int v64_78), .unset, .unset, .unset, .unset, .unset, .unset, .unset, .unset, .unset, .unset] [(.ref b80)])
    refine Go.of (fun t k => XS.dup Xx174.here hx rfl (hb hby at_141) rfl rfl k) ?_
    show Go p e below Qo T169 (mkF m 142 #[.val (.long j1), .second, .val (.long j2), .second, .val (.long j3), .second, .val (.long j4), .second, .val (.int i1), .val (.int ((i1 &&& (2147483647 : Int32)) % (7 : Int32))), .val (.ref b1), .val (.int v64_78), .unset, .unset, .unset, .unset, .unset, .unset, .unset, .unset, .unset, .unset] [(.ref b80), (.ref b80)])
    refine Go.of (fun t k => XS.bipush Xx174.here hx rfl (hb hby at_142) k) ?_
    show Go p e below Qo T169 (mkF m 144 #[.val (.long j1), .second, .val (.long j2), .second, .val (.long j3), .second, .val (.long j4), .second, .val (.int i1), .val (.int ((i1 &&& (2147483647 : Int32)) % (7 : Int32))), .val (.ref b1), .val (.int v64_78), .unset, .unset, .unset, .unset, .unset, .unset, .unset, .unset, .unset, .unset] [(.int (11 : Int32)), (.ref b80), (.ref b80)])
    refine Go.of (fun t k => XS.lload Xx174.here hx rfl (hb hby at_144) rfl  k) ?_
    show Go p e below Qo T169 (mkF m 146 #[.val (.long j1), .second, .val (.long j2), .second, .val (.long j3), .second, .val (.long j4), .second, .val (.int i1), .val (.int ((i1 &&& (2147483647 : Int32)) % (7 : Int32))), .val (.ref b1), .val (.int v64_78), .unset, .unset, .unset, .unset, .unset, .unset, .unset, .unset, .unset, .unset] [(.long j4), (.int (11 : Int32)), (.ref b80), (.ref b80)])
    have cpo175 := q171
    obtain ⟨clo175, Aro175, qco175, So175, Mo175, Ho175, Go175⟩ := cpo175
    have hin176 : ¬ ((11 : Int32) < 0 ∨ clo175.slots.size ≤ (11 : Int32).toNatClampNeg) := (inb_of So175 ⟨by decide, by decide⟩)
    obtain ⟨T177, h177, X177, e177, W177, st177⟩ := stJ Xx174 hx hZ e169 Aro175 (j := (11 : Int32)) hin176 (g := (mkF m 146 #[.val (.long j1), .second, .val (.long j2), .second, .val (.long j3), .second, .val (.long j4), .second, .val (.int i1), .val (.int ((i1 &&& (2147483647 : Int32)) % (7 : Int32))), .val (.ref b1), .val (.int v64_78), .unset, .unset, .unset, .unset, .unset, .unset, .unset, .unset, .unset, .unset] [(.long j4), (.int (11 : Int32)), (.ref b80), (.ref b80)])) rfl rfl (hb hby at_146)
    have q178 : Arv Z h177 b1 k1 .long (12 : Int32) [(.long j4), (.long j4), (.long j4), (.long j4), (.long j4), (.long y5), (.long y6), (.long y7), (.long y8), (.long y9), (.long y10), (.long y11)] (.long (0 : Int64)) := q170.other W177 ne81
    have q179 : Arv Z h177 b80 k80 .long (12 : Int32) [(.long j4), (.long j1), (.long j2), (.long j3), (.long (j4 ^^^ j1)), (.long j1), (.long j2), (.long j3), (.long (j1 ^^^ j2)), (.long (j2 ^^^ j3)), (.long (j3 - j1)), (.long j4)] (.long (0 : Int64)) := Arv.set Aro175 qco175 So175 Mo175 Ho175 Go175 rfl W177 11 rfl (Nat.le_of_ble_eq_true rfl)
    have Z180 : n0 ≤ h177.size := Nat.le_trans Z172 (Keep.of_wr W177).1
    have N181 := Fr.snoc X177 Nx174 g83
    obtain ⟨Lx182, Xx182, Nx182⟩ := own_locs X177 N181
    refine Go.of st177 ?_
    show Go p e below Qo T177 (mkF m 147 #[.val (.long j1), .second, .val (.long j2), .second, .val (.long j3), .second, .val (.long j4), .second, .val (.int i1), .val (.int ((i1 &&& (2147483647 : Int32)) % (7 : Int32))), .val (.ref b1), .val (.int v64_78), .unset, .unset, .unset, .unset, .unset, .unset, .unset, .unset, .unset, .unset] [(.ref b80)])
    refine Go.of (fun t k => XS.astore Xx182.here hx rfl (hb hby at_147) rfl rfl (l' := #[.val (.long j1), .second, .val (.long j2), .second, .val (.long j3), .second, .val (.long j4), .second, .val (.int i1), .val (.int ((i1 &&& (2147483647 : Int32)) % (7 : Int32))), .val (.ref b1), .val (.int v64_78), .val (.ref b80), .unset, .unset, .unset, .unset, .unset, .unset, .unset, .unset, .unset]) rfl k) ?_
    show Go p e below Qo T177 (mkF m 149 #[.val (.long j1), .second, .val (.long j2), .second, .val (.long j3), .second, .val (.long j4), .second, .val (.int i1), .val (.int ((i1 &&& (2147483647 : Int32)) % (7 : Int32))), .val (.ref b1), .val (.int v64_78), .val (.ref b80), .unset, .unset, .unset, .unset, .unset, .unset, .unset, .unset, .unset] [])
    refine Go.of (fun t k => XS.bipush Xx182.here hx rfl (hb hby at_149) k) ?_
    show Go p e below Qo T177 (mkF m 151 #[.val (.long j1), .second, .val (.long j2), .second, .val (.long j3), .second, .val (.long j4), .second, .val (.int i1), .val (.int ((i1 &&& (2147483647 : Int32)) % (7 : Int32))), .val (.ref b1), .val (.int v64_78), .val (.ref b80), .unset, .unset, .unset, .unset, .unset, .unset, .unset, .unset, .unset] [(.int (12 : Int32))])
    obtain ⟨T183, h183, k183, X183, e183, E183, A183, st183⟩ := newP Xx182 hx hZ (hw _ (List.mem_of_getElem? (i := 1) rfl)) e177 (g := (mkF m 151 #[.val (.long j1), .second, .val (.long j2), .second, .val (.long j3), .second, .val (.long j4), .second, .val (.int i1), .val (.int ((i1 &&& (2147483647 : Int32)) % (7 : Int32))), .val (.ref b1), .val (.int v64_78), .val (.ref b80), .unset, .unset, .unset, .unset, .unset, .unset, .unset, .unset, .unset] [(.int (12 : Int32))])) rfl (hb hby at_151) rfl (by decide) (cap := 12) (by decide) (by decide) (by decide) (by decide)
    obtain ⟨b183, g183⟩ : ∃ z, z = h177.size := ⟨_, rfl⟩
    rw [← g183] at A183 st183
    have ne184 : b1 ≠ b183 := Nat.ne_of_lt (Nat.lt_of_lt_of_le q178.lt (Nat.le_of_eq g183.symm))
    have ne185 : b80 ≠ b183 := Nat.ne_of_lt (Nat.lt_of_lt_of_le q179.lt (Nat.le_of_eq g183.symm))
    have g186 : n0 ≤ b183 := Nat.le_trans Z180 (Nat.le_of_eq g183.symm)
    have q187 : Arv Z h183 b1 k1 .long (12 : Int32) [(.long j4), (.long j4), (.long j4), (.long j4), (.long j4), (.long y5), (.long y6), (.long y7), (.long y8), (.long y9), (.long y10), (.long y11)] (.long (0 : Int64)) := q178.ext E183
    have q188 : Arv Z h183 b80 k80 .long (12 : Int32) [(.long j4), (.long j1), (.long j2), (.long j3), (.long (j4 ^^^ j1)), (.long j1), (.long j2), (.long j3), (.long (j1 ^^^ j2)), (.long (j2 ^^^ j3)), (.long (j3 - j1)), (.long j4)] (.long (0 : Int64)) := q179.ext E183
    have Z189 : n0 ≤ h183.size := Nat.le_trans Z180 E183.1
    replace X183 := own_cs X183 (c' := 4) (s' := 48) (by decide) (by decide)
    have q190 : Arv Z h183 b183 k183 .long (12 : Int32) [(.long (0 : Int64)), (.long (0 : Int64)), (.long (0 : Int64)), (.long (0 : Int64)), (.long (0 : Int64)), (.long (0 : Int64)), (.long (0 : Int64)), (.long (0 : Int64)), (.long (0 : Int64)), (.long (0 : Int64)), (.long (0 : Int64)), (.long (0 : Int64))] (.long (0 : Int64)) := (Arv.new A183 (by decide)).pad (pad_rep [] (.long (0 : Int64)) 12)
    refine Go.of st183 ?_
    show Go p e below Qo T183 (mkF m 153 #[.val (.long j1), .second, .val (.long j2), .second, .val (.long j3), .second, .val (.long j4), .second, .val (.int i1), .val (.int ((i1 &&& (2147483647 : Int32)) % (7 : Int32))), .val (.ref b1), .val (.int v64_78), .val (.ref b80), .unset, .unset, .unset, .unset, .unset, .unset, .unset, .unset, .unset] [(.ref b183)])
    refine Go.of (fun t k => XS.dup X183.here hx rfl (hb hby at_153) rfl rfl k) ?_
    show Go p e below Qo T183 (mkF m 154 #[.val (.long j1), .second, .val (.long j2), .second, .val (.long j3), .second, .val (.long j4), .second, .val (.int i1), .val (.int ((i1 &&& (2147483647 : Int32)) % (7 : Int32))), .val (.ref b1), .val (.int v64_78), .val (.ref b80), .unset, .unset, .unset, .unset, .unset, .unset, .unset, .unset, .unset] [(.ref b183), (.ref b183)])
    refine Go.of (fun t k => XS.iconst X183.here hx rfl (hb hby at_154) k) ?_
    show Go p e below Qo T183 (mkF m 155 #[.val (.long j1), .second, .val (.long j2), .second, .val (.long j3), .second, .val (.long j4), .second, .val (.int i1), .val (.int ((i1 &&& (2147483647 : Int32)) % (7 : Int32))), .val (.ref b1), .val (.int v64_78), .val (.ref b80), .unset, .unset, .unset, .unset, .unset, .unset, .unset, .unset, .unset] [(.int (0 : Int32)), (.ref b183), (.ref b183)])
    refine Go.of (fun t k => XS.lload X183.here hx rfl (hb hby at_155) rfl  k) ?_
    show Go p e below Qo T183 (mkF m 157 #[.val (.long j1), .second, .val (.long j2), .second, .val (.long j3), .second, .val (.long j4), .second, .val (.int i1), .val (.int ((i1 &&& (2147483647 : Int32)) % (7 : Int32))), .val (.ref b1), .val (.int v64_78), .val (.ref b80), .unset, .unset, .unset, .unset, .unset, .unset, .unset, .unset, .unset] [(.long j3), (.int (0 : Int32)), (.ref b183), (.ref b183)])
    have cpo191 := q190
    obtain ⟨clo191, Aro191, qco191, So191, Mo191, Ho191, Go191⟩ := cpo191
    have hin192 : ¬ ((0 : Int32) < 0 ∨ clo191.slots.size ≤ (0 : Int32).toNatClampNeg) := (inb_of So191 ⟨by decide, by decide⟩)
    obtain ⟨T193, h193, X193, e193, W193, st193⟩ := stJ X183 hx hZ e183 Aro191 (j := (0 : Int32)) hin192 (g := (mkF m 157 #[.val (.long j1), .second, .val (.long j2), .second, .val (.long j3), .second, .val (.long j4), .second, .val (.int i1), .val (.int ((i1 &&& (2147483647 : Int32)) % (7 : Int32))), .val (.ref b1), .val (.int v64_78), .val (.ref b80), .unset, .unset, .unset, .unset, .unset, .unset, .unset, .unset, .unset] [(.long j3), (.int (0 : Int32)), (.ref b183), (.ref b183)])) rfl rfl (hb hby at_157)
    have q194 : Arv Z h193 b1 k1 .long (12 : Int32) [(.long j4), (.long j4), (.long j4), (.long j4), (.long j4), (.long y5), (.long y6), (.long y7), (.long y8), (.long y9), (.long y10), (.long y11)] (.long (0 : Int64)) := q187.other W193 ne184
    have q195 : Arv Z h193 b80 k80 .long (12 : Int32) [(.long j4), (.long j1), (.long j2), (.long j3), (.long (j4 ^^^ j1)), (.long j1), (.long j2), (.long j3), (.long (j1 ^^^ j2)), (.long (j2 ^^^ j3)), (.long (j3 - j1)), (.long j4)] (.long (0 : Int64)) := q188.other W193 ne185
    have q196 : Arv Z h193 b183 k183 .long (12 : Int32) [(.long j3), (.long (0 : Int64)), (.long (0 : Int64)), (.long (0 : Int64)), (.long (0 : Int64)), (.long (0 : Int64)), (.long (0 : Int64)), (.long (0 : Int64)), (.long (0 : Int64)), (.long (0 : Int64)), (.long (0 : Int64)), (.long (0 : Int64))] (.long (0 : Int64)) := Arv.set Aro191 qco191 So191 Mo191 Ho191 Go191 rfl W193 0 rfl (Nat.le_of_ble_eq_true rfl)
    have Z197 : n0 ≤ h193.size := Nat.le_trans Z189 (Keep.of_wr W193).1
    have N198 := Fr.snoc X193 Nx182 g186
    obtain ⟨Lx199, Xx199, Nx199⟩ := own_locs X193 N198
    refine Go.of st193 ?_
    show Go p e below Qo T193 (mkF m 158 #[.val (.long j1), .second, .val (.long j2), .second, .val (.long j3), .second, .val (.long j4), .second, .val (.int i1), .val (.int ((i1 &&& (2147483647 : Int32)) % (7 : Int32))), .val (.ref b1), .val (.int v64_78), .val (.ref b80), .unset, .unset, .unset, .unset, .unset, .unset, .unset, .unset, .unset] [(.ref b183)])
    refine Go.of (fun t k => XS.dup Xx199.here hx rfl (hb hby at_158) rfl rfl k) ?_
    show Go p e below Qo T193 (mkF m 159 #[.val (.long j1), .second, .val (.long j2), .second, .val (.long j3), .second, .val (.long j4), .second, .val (.int i1), .val (.int ((i1 &&& (2147483647 : Int32)) % (7 : Int32))), .val (.ref b1), .val (.int v64_78), .val (.ref b80), .unset, .unset, .unset, .unset, .unset, .unset, .unset, .unset, .unset] [(.ref b183), (.ref b183)])
    refine Go.of (fun t k => XS.iconst Xx199.here hx rfl (hb hby at_159) k) ?_
    show Go p e below Qo T193 (mkF m 160 #[.val (.long j1), .second, .val (.long j2), .second, .val (.long j3), .second, .val (.long j4), .second, .val (.int i1), .val (.int ((i1 &&& (2147483647 : Int32)) % (7 : Int32))), .val (.ref b1), .val (.int v64_78), .val (.ref b80), .unset, .unset, .unset, .unset, .unset, .unset, .unset, .unset, .unset] [(.int (1 : Int32)), (.ref b183), (.ref b183)])
    refine Go.of (fun t k => XS.lload Xx199.here hx rfl (hb hby at_160) rfl  k) ?_
    show Go p e below Qo T193 (mkF m 162 #[.val (.long j1), .second, .val (.long j2), .second, .val (.long j3), .second, .val (.long j4), .second, .val (.int i1), .val (.int ((i1 &&& (2147483647 : Int32)) % (7 : Int32))), .val (.ref b1), .val (.int v64_78), .val (.ref b80), .unset, .unset, .unset, .unset, .unset, .unset, .unset, .unset, .unset] [(.long j4), (.int (1 : Int32)), (.ref b183), (.ref b183)])
    have cpo200 := q196
    obtain ⟨clo200, Aro200, qco200, So200, Mo200, Ho200, Go200⟩ := cpo200
    have hin201 : ¬ ((1 : Int32) < 0 ∨ clo200.slots.size ≤ (1 : Int32).toNatClampNeg) := (inb_of So200 ⟨by decide, by decide⟩)
    obtain ⟨T202, h202, X202, e202, W202, st202⟩ := stJ Xx199 hx hZ e193 Aro200 (j := (1 : Int32)) hin201 (g := (mkF m 162 #[.val (.long j1), .second, .val (.long j2), .second, .val (.long j3), .second, .val (.long j4), .second, .val (.int i1), .val (.int ((i1 &&& (2147483647 : Int32)) % (7 : Int32))), .val (.ref b1), .val (.int v64_78), .val (.ref b80), .unset, .unset, .unset, .unset, .unset, .unset, .unset, .unset, .unset] [(.long j4), (.int (1 : Int32)), (.ref b183), (.ref b183)])) rfl rfl (hb hby at_162)
    have q203 : Arv Z h202 b1 k1 .long (12 : Int32) [(.long j4), (.long j4), (.long j4), (.long j4), (.long j4), (.long y5), (.long y6), (.long y7), (.long y8), (.long y9), (.long y10), (.long y11)] (.long (0 : Int64)) := q194.other W202 ne184
    have q204 : Arv Z h202 b80 k80 .long (12 : Int32) [(.long j4), (.long j1), (.long j2), (.long j3), (.long (j4 ^^^ j1)), (.long j1), (.long j2), (.long j3), (.long (j1 ^^^ j2)), (.long (j2 ^^^ j3)), (.long (j3 - j1)), (.long j4)] (.long (0 : Int64)) := q195.other W202 ne185
    have q205 : Arv Z h202 b183 k183 .long (12 : Int32) [(.long j3), (.long j4), (.long (0 : Int64)), (.long (0 : Int64)), (.long (0 : Int64)), (.long (0 : Int64)), (.long (0 : Int64)), (.long (0 : Int64)), (.long (0 : Int64)), (.long (0 : Int64)), (.long (0 : Int64)), (.long (0 : Int64))] (.long (0 : Int64)) := Arv.set Aro200 qco200 So200 Mo200 Ho200 Go200 rfl W202 1 rfl (Nat.le_of_ble_eq_true rfl)
    have Z206 : n0 ≤ h202.size := Nat.le_trans Z197 (Keep.of_wr W202).1
    have N207 := Fr.snoc X202 Nx199 g186
    obtain ⟨Lx208, Xx208, Nx208⟩ := own_locs X202 N207
    refine Go.of st202 ?_
    show Go p e below Qo T202 (mkF m 163 #[.val (.long j1), .second, .val (.long j2), .second, .val (.long j3), .second, .val (.long j4), .second, .val (.int i1), .val (.int ((i1 &&& (2147483647 : Int32)) % (7 : Int32))), .val (.ref b1), .val (.int v64_78), .val (.ref b80), .unset, .unset, .unset, .unset, .unset, .unset, .unset, .unset, .unset] [(.ref b183)])
    refine Go.of (fun t k => XS.dup Xx208.here hx rfl (hb hby at_163) rfl rfl k) ?_
    show Go p e below Qo T202 (mkF m 164 #[.val (.long j1), .second, .val (.long j2), .second, .val (.long j3), .second, .val (.long j4), .second, .val (.int i1), .val (.int ((i1 &&& (2147483647 : Int32)) % (7 : Int32))), .val (.ref b1), .val (.int v64_78), .val (.ref b80), .unset, .unset, .unset, .unset, .unset, .unset, .unset, .unset, .unset] [(.ref b183), (.ref b183)])
    refine Go.of (fun t k => XS.iconst Xx208.here hx rfl (hb hby at_164) k) ?_
    show Go p e below Qo T202 (mkF m 165 #[.val (.long j1), .second, .val (.long j2), .second, .val (.long j3), .second, .val (.long j4), .second, .val (.int i1), .val (.int ((i1 &&& (2147483647 : Int32)) % (7 : Int32))), .val (.ref b1), .val (.int v64_78), .val (.ref b80), .unset, .unset, .unset, .unset, .unset, .unset, .unset, .unset, .unset] [(.int (2 : Int32)), (.ref b183), (.ref b183)])
    refine Go.of (fun t k => XS.lloadN Xx208.here hx rfl (hb hby at_165) rfl  k) ?_
    show Go p e below Qo T202 (mkF m 166 #[.val (.long j1), .second, .val (.long j2), .second, .val (.long j3), .second, .val (.long j4), .second, .val (.int i1), .val (.int ((i1 &&& (2147483647 : Int32)) % (7 : Int32))), .val (.ref b1), .val (.int v64_78), .val (.ref b80), .unset, .unset, .unset, .unset, .unset, .unset, .unset, .unset, .unset] [(.long j1), (.int (2 : Int32)), (.ref b183), (.ref b183)])
    have cpo209 := q205
    obtain ⟨clo209, Aro209, qco209, So209, Mo209, Ho209, Go209⟩ := cpo209
    have hin210 : ¬ ((2 : Int32) < 0 ∨ clo209.slots.size ≤ (2 : Int32).toNatClampNeg) := (inb_of So209 ⟨by decide, by decide⟩)
    obtain ⟨T211, h211, X211, e211, W211, st211⟩ := stJ Xx208 hx hZ e202 Aro209 (j := (2 : Int32)) hin210 (g := (mkF m 166 #[.val (.long j1), .second, .val (.long j2), .second, .val (.long j3), .second, .val (.long j4), .second, .val (.int i1), .val (.int ((i1 &&& (2147483647 : Int32)) % (7 : Int32))), .val (.ref b1), .val (.int v64_78), .val (.ref b80), .unset, .unset, .unset, .unset, .unset, .unset, .unset, .unset, .unset] [(.long j1), (.int (2 : Int32)), (.ref b183), (.ref b183)])) rfl rfl (hb hby at_166)
    have q212 : Arv Z h211 b1 k1 .long (12 : Int32) [(.long j4), (.long j4), (.long j4), (.long j4), (.long j4), (.long y5), (.long y6), (.long y7), (.long y8), (.long y9), (.long y10), (.long y11)] (.long (0 : Int64)) := q203.other W211 ne184
    have q213 : Arv Z h211 b80 k80 .long (12 : Int32) [(.long j4), (.long j1), (.long j2), (.long j3), (.long (j4 ^^^ j1)), (.long j1), (.long j2), (.long j3), (.long (j1 ^^^ j2)), (.long (j2 ^^^ j3)), (.long (j3 - j1)), (.long j4)] (.long (0 : Int64)) := q204.other W211 ne185
    have q214 : Arv Z h211 b183 k183 .long (12 : Int32) [(.long j3), (.long j4), (.long j1), (.long (0 : Int64)), (.long (0 : Int64)), (.long (0 : Int64)), (.long (0 : Int64)), (.long (0 : Int64)), (.long (0 : Int64)), (.long (0 : Int64)), (.long (0 : Int64)), (.long (0 : Int64))] (.long (0 : Int64)) := Arv.set Aro209 qco209 So209 Mo209 Ho209 Go209 rfl W211 2 rfl (Nat.le_of_ble_eq_true rfl)
    have Z215 : n0 ≤ h211.size := Nat.le_trans Z206 (Keep.of_wr W211).1
    have N216 := Fr.snoc X211 Nx208 g186
    obtain ⟨Lx217, Xx217, Nx217⟩ := own_locs X211 N216
    refine Go.of st211 ?_
    show Go p e below Qo T211 (mkF m 167 #[.val (.long j1), .second, .val (.long j2), .second, .val (.long j3), .second, .val (.long j4), .second, .val (.int i1), .val (.int ((i1 &&& (2147483647 : Int32)) % (7 : Int32))), .val (.ref b1), .val (.int v64_78), .val (.ref b80), .unset, .unset, .unset, .unset, .unset, .unset, .unset, .unset, .unset] [(.ref b183)])
    refine Go.of (fun t k => XS.dup Xx217.here hx rfl (hb hby at_167) rfl rfl k) ?_
    show Go p e below Qo T211 (mkF m 168 #[.val (.long j1), .second, .val (.long j2), .second, .val (.long j3), .second, .val (.long j4), .second, .val (.int i1), .val (.int ((i1 &&& (2147483647 : Int32)) % (7 : Int32))), .val (.ref b1), .val (.int v64_78), .val (.ref b80), .unset, .unset, .unset, .unset, .unset, .unset, .unset, .unset, .unset] [(.ref b183), (.ref b183)])
    refine Go.of (fun t k => XS.iconst Xx217.here hx rfl (hb hby at_168) k) ?_
    show Go p e below Qo T211 (mkF m 169 #[.val (.long j1), .second, .val (.long j2), .second, .val (.long j3), .second, .val (.long j4), .second, .val (.int i1), .val (.int ((i1 &&& (2147483647 : Int32)) % (7 : Int32))), .val (.ref b1), .val (.int v64_78), .val (.ref b80), .unset, .unset, .unset, .unset, .unset, .unset, .unset, .unset, .unset] [(.int (3 : Int32)), (.ref b183), (.ref b183)])
    refine Go.of (fun t k => XS.lloadN Xx217.here hx rfl (hb hby at_169) rfl  k) ?_
    show Go p e below Qo T211 (mkF m 170 #[.val (.long j1), .second, .val (.long j2), .second, .val (.long j3), .second, .val (.long j4), .second, .val (.int i1), .val (.int ((i1 &&& (2147483647 : Int32)) % (7 : Int32))), .val (.ref b1), .val (.int v64_78), .val (.ref b80), .unset, .unset, .unset, .unset, .unset, .unset, .unset, .unset, .unset] [(.long j2), (.int (3 : Int32)), (.ref b183), (.ref b183)])
    have cpo218 := q214
    obtain ⟨clo218, Aro218, qco218, So218, Mo218, Ho218, Go218⟩ := cpo218
    have hin219 : ¬ ((3 : Int32) < 0 ∨ clo218.slots.size ≤ (3 : Int32).toNatClampNeg) := (inb_of So218 ⟨by decide, by decide⟩)
    obtain ⟨T220, h220, X220, e220, W220, st220⟩ := stJ Xx217 hx hZ e211 Aro218 (j := (3 : Int32)) hin219 (g := (mkF m 170 #[.val (.long j1), .second, .val (.long j2), .second, .val (.long j3), .second, .val (.long j4), .second, .val (.int i1), .val (.int ((i1 &&& (2147483647 : Int32)) % (7 : Int32))), .val (.ref b1), .val (.int v64_78), .val (.ref b80), .unset, .unset, .unset, .unset, .unset, .unset, .unset, .unset, .unset] [(.long j2), (.int (3 : Int32)), (.ref b183), (.ref b183)])) rfl rfl (hb hby at_170)
    have q221 : Arv Z h220 b1 k1 .long (12 : Int32) [(.long j4), (.long j4), (.long j4), (.long j4), (.long j4), (.long y5), (.long y6), (.long y7), (.long y8), (.long y9), (.long y10), (.long y11)] (.long (0 : Int64)) := q212.other W220 ne184
    have q222 : Arv Z h220 b80 k80 .long (12 : Int32) [(.long j4), (.long j1), (.long j2), (.long j3), (.long (j4 ^^^ j1)), (.long j1), (.long j2), (.long j3), (.long (j1 ^^^ j2)), (.long (j2 ^^^ j3)), (.long (j3 - j1)), (.long j4)] (.long (0 : Int64)) := q213.other W220 ne185
    have q223 : Arv Z h220 b183 k183 .long (12 : Int32) [(.long j3), (.long j4), (.long j1), (.long j2), (.long (0 : Int64)), (.long (0 : Int64)), (.long (0 : Int64)), (.long (0 : Int64)), (.long (0 : Int64)), (.long (0 : Int64)), (.long (0 : Int64)), (.long (0 : Int64))] (.long (0 : Int64)) := Arv.set Aro218 qco218 So218 Mo218 Ho218 Go218 rfl W220 3 rfl (Nat.le_of_ble_eq_true rfl)
    have Z224 : n0 ≤ h220.size := Nat.le_trans Z215 (Keep.of_wr W220).1
    have N225 := Fr.snoc X220 Nx217 g186
    obtain ⟨Lx226, Xx226, Nx226⟩ := own_locs X220 N225
    refine Go.of st220 ?_
    show Go p e below Qo T220 (mkF m 171 #[.val (.long j1), .second, .val (.long j2), .second, .val (.long j3), .second, .val (.long j4), .second, .val (.int i1), .val (.int ((i1 &&& (2147483647 : Int32)) % (7 : Int32))), .val (.ref b1), .val (.int v64_78), .val (.ref b80), .unset, .unset, .unset, .unset, .unset, .unset, .unset, .unset, .unset] [(.ref b183)])
    refine Go.of (fun t k => XS.dup Xx226.here hx rfl (hb hby at_171) rfl rfl k) ?_
    show Go p e below Qo T220 (mkF m 172 #[.val (.long j1), .second, .val (.long j2), .second, .val (.long j3), .second, .val (.long j4), .second, .val (.int i1), .val (.int ((i1 &&& (2147483647 : Int32)) % (7 : Int32))), .val (.ref b1), .val (.int v64_78), .val (.ref b80), .unset, .unset, .unset, .unset, .unset, .unset, .unset, .unset, .unset] [(.ref b183), (.ref b183)])
    refine Go.of (fun t k => XS.iconst Xx226.here hx rfl (hb hby at_172) k) ?_
    show Go p e below Qo T220 (mkF m 173 #[.val (.long j1), .second, .val (.long j2), .second, .val (.long j3), .second, .val (.long j4), .second, .val (.int i1), .val (.int ((i1 &&& (2147483647 : Int32)) % (7 : Int32))), .val (.ref b1), .val (.int v64_78), .val (.ref b80), .unset, .unset, .unset, .unset, .unset, .unset, .unset, .unset, .unset] [(.int (4 : Int32)), (.ref b183), (.ref b183)])
    refine Go.of (fun t k => XS.lloadN Xx226.here hx rfl (hb hby at_173) rfl  k) ?_
    show Go p e below Qo T220 (mkF m 174 #[.val (.long j1), .second, .val (.long j2), .second, .val (.long j3), .second, .val (.long j4), .second, .val (.int i1), .val (.int ((i1 &&& (2147483647 : Int32)) % (7 : Int32))), .val (.ref b1), .val (.int v64_78), .val (.ref b80), .unset, .unset, .unset, .unset, .unset, .unset, .unset, .unset, .unset] [(.long j1), (.int (4 : Int32)), (.ref b183), (.ref b183)])
    refine Go.of (fun t k => XS.lloadN Xx226.here hx rfl (hb hby at_174) rfl  k) ?_
    show Go p e below Qo T220 (mkF m 175 #[.val (.long j1), .second, .val (.long j2), .second, .val (.long j3), .second, .val (.long j4), .second, .val (.int i1), .val (.int ((i1 &&& (2147483647 : Int32)) % (7 : Int32))), .val (.ref b1), .val (.int v64_78), .val (.ref b80), .unset, .unset, .unset, .unset, .unset, .unset, .unset, .unset, .unset] [(.long j2), (.long j1), (.int (4 : Int32)), (.ref b183), (.ref b183)])
    refine Go.of (fun t k => XS.ladd Xx226.here hx rfl (hb hby at_175) rfl k) ?_
    show Go p e below Qo T220 (mkF m 176 #[.val (.long j1), .second, .val (.long j2), .second, .val (.long j3), .second, .val (.long j4), .second, .val (.int i1), .val (.int ((i1 &&& (2147483647 : Int32)) % (7 : Int32))), .val (.ref b1), .val (.int v64_78), .val (.ref b80), .unset, .unset, .unset, .unset, .unset, .unset, .unset, .unset, .unset] [(.long (j1 + j2)), (.int (4 : Int32)), (.ref b183), (.ref b183)])
    have cpo227 := q223
    obtain ⟨clo227, Aro227, qco227, So227, Mo227, Ho227, Go227⟩ := cpo227
    have hin228 : ¬ ((4 : Int32) < 0 ∨ clo227.slots.size ≤ (4 : Int32).toNatClampNeg) := (inb_of So227 ⟨by decide, by decide⟩)
    obtain ⟨T229, h229, X229, e229, W229, st229⟩ := stJ Xx226 hx hZ e220 Aro227 (j := (4 : Int32)) hin228 (g := (mkF m 176 #[.val (.long j1), .second, .val (.long j2), .second, .val (.long j3), .second, .val (.long j4), .second, .val (.int i1), .val (.int ((i1 &&& (2147483647 : Int32)) % (7 : Int32))), .val (.ref b1), .val (.int v64_78), .val (.ref b80), .unset, .unset, .unset, .unset, .unset, .unset, .unset, .unset, .unset] [(.long (j1 + j2)), (.int (4 : Int32)), (.ref b183), (.ref b183)])) rfl rfl (hb hby at_176)
    have q230 : Arv Z h229 b1 k1 .long (12 : Int32) [(.long j4), (.long j4), (.long j4), (.long j4), (.long j4), (.long y5), (.long y6), (.long y7), (.long y8), (.long y9), (.long y10), (.long y11)] (.long (0 : Int64)) := q221.other W229 ne184
    have q231 : Arv Z h229 b80 k80 .long (12 : Int32) [(.long j4), (.long j1), (.long j2), (.long j3), (.long (j4 ^^^ j1)), (.long j1), (.long j2), (.long j3), (.long (j1 ^^^ j2)), (.long (j2 ^^^ j3)), (.long (j3 - j1)), (.long j4)] (.long (0 : Int64)) := q222.other W229 ne185
    have q232 : Arv Z h229 b183 k183 .long (12 : Int32) [(.long j3), (.long j4), (.long j1), (.long j2), (.long (j1 + j2)), (.long (0 : Int64)), (.long (0 : Int64)), (.long (0 : Int64)), (.long (0 : Int64)), (.long (0 : Int64)), (.long (0 : Int64)), (.long (0 : Int64))] (.long (0 : Int64)) := Arv.set Aro227 qco227 So227 Mo227 Ho227 Go227 rfl W229 4 rfl (Nat.le_of_ble_eq_true rfl)
    have Z233 : n0 ≤ h229.size := Nat.le_trans Z224 (Keep.of_wr W229).1
    have N234 := Fr.snoc X229 Nx226 g186
    obtain ⟨Lx235, Xx235, Nx235⟩ := own_locs X229 N234
    refine Go.of st229 ?_
    show Go p e below Qo T229 (mkF m 177 #[.val (.long j1), .second, .val (.long j2), .second, .val (.long j3), .second, .val (.long j4), .second, .val (.int i1), .val (.int ((i1 &&& (2147483647 : Int32)) % (7 : Int32))), .val (.ref b1), .val (.int v64_78), .val (.ref b80), .unset, .unset, .unset, .unset, .unset, .unset, .unset, .unset, .unset] [(.ref b183)])
    refine Go.of (fun t k => XS.dup Xx235.here hx rfl (hb hby at_177) rfl rfl k) ?_
    show Go p e below Qo T229 (mkF m 178 #[.val (.long j1), .second, .val (.long j2), .second, .val (.long j3), .second, .val (.long j4), .second, .val (.int i1), .val (.int ((i1 &&& (2147483647 : Int32)) % (7 : Int32))), .val (.ref b1), .val (.int v64_78), .val (.ref b80), .unset, .unset, .unset, .unset, .unset, .unset, .unset, .unset, .unset] [(.ref b183), (.ref b183)])
    refine Go.of (fun t k => XS.iconst Xx235.here hx rfl (hb hby at_178) k) ?_
    show Go p e below Qo T229 (mkF m 179 #[.val (.long j1), .second, .val (.long j2), .second, .val (.long j3), .second, .val (.long j4), .second, .val (.int i1), .val (.int ((i1 &&& (2147483647 : Int32)) % (7 : Int32))), .val (.ref b1), .val (.int v64_78), .val (.ref b80), .unset, .unset, .unset, .unset, .unset, .unset, .unset, .unset, .unset] [(.int (5 : Int32)), (.ref b183), (.ref b183)])
    refine Go.of (fun t k => XS.lload Xx235.here hx rfl (hb hby at_179) rfl  k) ?_
    show Go p e below Qo T229 (mkF m 181 #[.val (.long j1), .second, .val (.long j2), .second, .val (.long j3), .second, .val (.long j4), .second, .val (.int i1), .val (.int ((i1 &&& (2147483647 : Int32)) % (7 : Int32))), .val (.ref b1), .val (.int v64_78), .val (.ref b80), .unset, .unset, .unset, .unset, .unset, .unset, .unset, .unset, .unset] [(.long j3), (.int (5 : Int32)), (.ref b183), (.ref b183)])
    have cpo236 := q232
    obtain ⟨clo236, Aro236, qco236, So236, Mo236, Ho236, Go236⟩ := cpo236
    have hin237 : ¬ ((5 : Int32) < 0 ∨ clo236.slots.size ≤ (5 : Int32).toNatClampNeg) := (inb_of So236 ⟨by decide, by decide⟩)
    obtain ⟨T238, h238, X238, e238, W238, st238⟩ := stJ Xx235 hx hZ e229 Aro236 (j := (5 : Int32)) hin237 (g := (mkF m 181 #[.val (.long j1), .second, .val (.long j2), .second, .val (.long j3), .second, .val (.long j4), .second, .val (.int i1), .val (.int ((i1 &&& (2147483647 : Int32)) % (7 : Int32))), .val (.ref b1), .val (.int v64_78), .val (.ref b80), .unset, .unset, .unset, .unset, .unset, .unset, .unset, .unset, .unset] [(.long j3), (.int (5 : Int32)), (.ref b183), (.ref b183)])) rfl rfl (hb hby at_181)
    have q239 : Arv Z h238 b1 k1 .long (12 : Int32) [(.long j4), (.long j4), (.long j4), (.long j4), (.long j4), (.long y5), (.long y6), (.long y7), (.long y8), (.long y9), (.long y10), (.long y11)] (.long (0 : Int64)) := q230.other W238 ne184
    have q240 : Arv Z h238 b80 k80 .long (12 : Int32) [(.long j4), (.long j1), (.long j2), (.long j3), (.long (j4 ^^^ j1)), (.long j1), (.long j2), (.long j3), (.long (j1 ^^^ j2)), (.long (j2 ^^^ j3)), (.long (j3 - j1)), (.long j4)] (.long (0 : Int64)) := q231.other W238 ne185
    have q241 : Arv Z h238 b183 k183 .long (12 : Int32) [(.long j3), (.long j4), (.long j1), (.long j2), (.long (j1 + j2)), (.long j3), (.long (0 : Int64)), (.long (0 : Int64)), (.long (0 : Int64)), (.long (0 : Int64)), (.long (0 : Int64)), (.long (0 : Int64))] (.long (0 : Int64)) := Arv.set Aro236 qco236 So236 Mo236 Ho236 Go236 rfl W238 5 rfl (Nat.le_of_ble_eq_true rfl)
    have Z242 : n0 ≤ h238.size := Nat.le_trans Z233 (Keep.of_wr W238).1
    have N243 := Fr.snoc X238 Nx235 g186
    obtain ⟨Lx244, Xx244, Nx244⟩ := own_locs X238 N243
    refine Go.of st238 ?_
    show Go p e below Qo T238 (mkF m 182 #[.val (.long j1), .second, .val (.long j2), .second, .val (.long j3), .second, .val (.long j4), .second, .val (.int i1), .val (.int ((i1 &&& (2147483647 : Int32)) % (7 : Int32))), .val (.ref b1), .val (.int v64_78), .val (.ref b80), .unset, .unset, .unset, .unset, .unset, .unset, .unset, .unset, .unset] [(.ref b183)])
    refine Go.of (fun t k => XS.dup Xx244.here hx rfl (hb hby at_182) rfl rfl k) ?_
    show Go p e below Qo T238 (mkF m 183 #[.val (.long j1), .second, .val (.long j2), .second, .val (.long j3), .second, .val (.long j4), .second, .val (.int i1), .val (.int ((i1 &&& (2147483647 : Int32)) % (7 : Int32))), .val (.ref b1), .val (.int v64_78), .val (.ref b80), .unset, .unset, .unset, .unset, .unset, .unset, .unset, .unset, .unset] [(.ref b183), (.ref b183)])
    refine Go.of (fun t k => XS.bipush Xx244.here hx rfl (hb hby at_183) k) ?_
    show Go p e below Qo T238 (mkF m 185 #[.val (.long j1), .second, .val (.long j2), .second, .val (.long j3), .second, .val (.long j4), .second, .val (.int i1), .val (.int ((i1 &&& (2147483647 : Int32)) % (7 : Int32))), .val (.ref b1), .val (.int v64_78), .val (.ref b80), .unset, .unset, .unset, .unset, .unset, .unset, .unset, .unset, .unset] [(.int (6 : Int32)), (.ref b183), (.ref b183)])
    refine Go.of (fun t k => XS.lload Xx244.here hx rfl (hb hby at_185) rfl  k) ?_
    show Go p e below Qo T238 (mkF m 187 #[.val (.long j1), .second, .val (.long j2), .second, .val (.long j3), .second, .val (.long j4), .second, .val (.int i1), .val (.int ((i1 &&& (2147483647 : Int32)) % (7 : Int32))), .val (.ref b1), .val (.int v64_78), .val (.ref b80), .unset, .unset, .unset, .unset, .unset, .unset, .unset, .unset, .unset] [(.long j4), (.int (6 : Int32)), (.ref b183), (.ref b183)])
    have cpo245 := q241
    obtain ⟨clo245, Aro245, qco245, So245, Mo245, Ho245, Go245⟩ := cpo245
    have hin246 : ¬ ((6 : Int32) < 0 ∨ clo245.slots.size ≤ (6 : Int32).toNatClampNeg) := (inb_of So245 ⟨by decide, by decide⟩)
    obtain ⟨T247, h247, X247, e247, W247, st247⟩ := stJ Xx244 hx hZ e238 Aro245 (j := (6 : Int32)) hin246 (g := (mkF m 187 #[.val (.long j1), .second, .val (.long j2), .second, .val (.long j3), .second, .val (.long j4), .second, .val (.int i1), .val (.int ((i1 &&& (2147483647 : Int32)) % (7 : Int32))), .val (.ref b1), .val (.int v64_78), .val (.ref b80), .unset, .unset, .unset, .unset, .unset, .unset, .unset, .unset, .unset] [(.long j4), (.int (6 : Int32)), (.ref b183), (.ref b183)])) rfl rfl (hb hby at_187)
    have q248 : Arv Z h247 b1 k1 .long (12 : Int32) [(.long j4), (.long j4), (.long j4), (.long j4), (.long j4), (.long y5), (.long y6), (.long y7), (.long y8), (.long y9), (.long y10), (.long y11)] (.long (0 : Int64)) := q239.other W247 ne184
    have q249 : Arv Z h247 b80 k80 .long (12 : Int32) [(.long j4), (.long j1), (.long j2), (.long j3), (.long (j4 ^^^ j1)), (.long j1), (.long j2), (.long j3), (.long (j1 ^^^ j2)), (.long (j2 ^^^ j3)), (.long (j3 - j1)), (.long j4)] (.long (0 : Int64)) := q240.other W247 ne185
    have q250 : Arv Z h247 b183 k183 .long (12 : Int32) [(.long j3), (.long j4), (.long j1), (.long j2), (.long (j1 + j2)), (.long j3), (.long j4), (.long (0 : Int64)), (.long (0 : Int64)), (.long (0 : Int64)), (.long (0 : Int64)), (.long (0 : Int64))] (.long (0 : Int64)) := Arv.set Aro245 qco245 So245 Mo245 Ho245 Go245 rfl W247 6 rfl (Nat.le_of_ble_eq_true rfl)
    have Z251 : n0 ≤ h247.size := Nat.le_trans Z242 (Keep.of_wr W247).1
    have N252 := Fr.snoc X247 Nx244 g186
    obtain ⟨Lx253, Xx253, Nx253⟩ := own_locs X247 N252
    refine Go.of st247 ?_
    show Go p e below Qo T247 (mkF m 188 #[.val (.long j1), .second, .val (.long j2), .second, .val (.long j3), .second, .val (.long j4), .second, .val (.int i1), .val (.int ((i1 &&& (2147483647 : Int32)) % (7 : Int32))), .val (.ref b1), .val (.int v64_78), .val (.ref b80), .unset, .unset, .unset, .unset, .unset, .unset, .unset, .unset, .unset] [(.ref b183)])
    refine Go.of (fun t k => XS.dup Xx253.here hx rfl (hb hby at_188) rfl rfl k) ?_
    show Go p e below Qo T247 (mkF m 189 #[.val (.long j1), .second, .val (.long j2), .second, .val (.long j3), .second, .val (.long j4), .second, .val (.int i1), .val (.int ((i1 &&& (2147483647 : Int32)) % (7 : Int32))), .val (.ref b1), .val (.int v64_78), .val (.ref b80), .unset, .unset, .unset, .unset, .unset, .unset, .unset, .unset, .unset] [(.ref b183), (.ref b183)])
    refine Go.of (fun t k => XS.bipush Xx253.here hx rfl (hb hby at_189) k) ?_
    show Go p e below Qo T247 (mkF m 191 #[.val (.long j1), .second, .val (.long j2), .second, .val (.long j3), .second, .val (.long j4), .second, .val (.int i1), .val (.int ((i1 &&& (2147483647 : Int32)) % (7 : Int32))), .val (.ref b1), .val (.int v64_78), .val (.ref b80), .unset, .unset, .unset, .unset, .unset, .unset, .unset, .unset, .unset] [(.int (7 : Int32)), (.ref b183), (.ref b183)])
    refine Go.of (fun t k => XS.lloadN Xx253.here hx rfl (hb hby at_191) rfl  k) ?_
    show Go p e below Qo T247 (mkF m 192 #[.val (.long j1), .second, .val (.long j2), .second, .val (.long j3), .second, .val (.long j4), .second, .val (.int i1), .val (.int ((i1 &&& (2147483647 : Int32)) % (7 : Int32))), .val (.ref b1), .val (.int v64_78), .val (.ref b80), .unset, .unset, .unset, .unset, .unset, .unset, .unset, .unset, .unset] [(.long j1), (.int (7 : Int32)), (.ref b183), (.ref b183)])
    refine Go.of (fun t k => XS.lload Xx253.here hx rfl (hb hby at_192) rfl  k) ?_
    show Go p e below Qo T247 (mkF m 194 #[.val (.long j1), .second, .val (.long j2), .second, .val (.long j3), .second, .val (.long j4), .second, .val (.int i1), .val (.int ((i1 &&& (2147483647 : Int32)) % (7 : Int32))), .val (.ref b1), .val (.int v64_78), .val (.ref b80), .unset, .unset, .unset, .unset, .unset, .unset, .unset, .unset, .unset] [(.long j3), (.long j1), (.int (7 : Int32)), (.ref b183), (.ref b183)])
    refine Go.of (fun t k => XS.lxor Xx253.here hx rfl (hb hby at_194) rfl k) ?_
    show Go p e below Qo T247 (mkF m 195 #[.val (.long j1), .second, .val (.long j2), .second, .val (.long j3), .second, .val (.long j4), .second, .val (.int i1), .val (.int ((i1 &&& (2147483647 : Int32)) % (7 : Int32))), .val (.ref b1), .val (.int v64_78), .val (.ref b80), .unset, .unset, .unset, .unset, .unset, .unset, .unset, .unset, .unset] [(.long (j1 ^^^ j3)), (.int (7 : Int32)), (.ref b183), (.ref b183)])
    have cpo254 := q250
    obtain ⟨clo254, Aro254, qco254, So254, Mo254, Ho254, Go254⟩ := cpo254
    have hin255 : ¬ ((7 : Int32) < 0 ∨ clo254.slots.size ≤ (7 : Int32).toNatClampNeg) := (inb_of So254 ⟨by decide, by decide⟩)
    obtain ⟨T256, h256, X256, e256, W256, st256⟩ := stJ Xx253 hx hZ e247 Aro254 (j := (7 : Int32)) hin255 (g := (mkF m 195 #[.val (.long j1), .second, .val (.long j2), .second, .val (.long j3), .second, .val (.long j4), .second, .val (.int i1), .val (.int ((i1 &&& (2147483647 : Int32)) % (7 : Int32))), .val (.ref b1), .val (.int v64_78), .val (.ref b80), .unset, .unset, .unset, .unset, .unset, .unset, .unset, .unset, .unset] [(.long (j1 ^^^ j3)), (.int (7 : Int32)), (.ref b183), (.ref b183)])) rfl rfl (hb hby at_195)
    have q257 : Arv Z h256 b1 k1 .long (12 : Int32) [(.long j4), (.long j4), (.long j4), (.long j4), (.long j4), (.long y5), (.long y6), (.long y7), (.long y8), (.long y9), (.long y10), (.long y11)] (.long (0 : Int64)) := q248.other W256 ne184
    have q258 : Arv Z h256 b80 k80 .long (12 : Int32) [(.long j4), (.long j1), (.long j2), (.long j3), (.long (j4 ^^^ j1)), (.long j1), (.long j2), (.long j3), (.long (j1 ^^^ j2)), (.long (j2 ^^^ j3)), (.long (j3 - j1)), (.long j4)] (.long (0 : Int64)) := q249.other W256 ne185
    have q259 : Arv Z h256 b183 k183 .long (12 : Int32) [(.long j3), (.long j4), (.long j1), (.long j2), (.long (j1 + j2)), (.long j3), (.long j4), (.long (j1 ^^^ j3)), (.long (0 : Int64)), (.long (0 : Int64)), (.long (0 : Int64)), (.long (0 : Int64))] (.long (0 : Int64)) := Arv.set Aro254 qco254 So254 Mo254 Ho254 Go254 rfl W256 7 rfl (Nat.le_of_ble_eq_true rfl)
    have Z260 : n0 ≤ h256.size := Nat.le_trans Z251 (Keep.of_wr W256).1
    have N261 := Fr.snoc X256 Nx253 g186
    obtain ⟨Lx262, Xx262, Nx262⟩ := own_locs X256 N261
    refine Go.of st256 ?_
    show Go p e below Qo T256 (mkF m 196 #[.val (.long j1), .second, .val (.long j2), .second, .val (.long j3), .second, .val (.long j4), .second, .val (.int i1), .val (.int ((i1 &&& (2147483647 : Int32)) % (7 : Int32))), .val (.ref b1), .val (.int v64_78), .val (.ref b80), .unset, .unset, .unset, .unset, .unset, .unset, .unset, .unset, .unset] [(.ref b183)])
    refine Go.of (fun t k => XS.dup Xx262.here hx rfl (hb hby at_196) rfl rfl k) ?_
    show Go p e below Qo T256 (mkF m 197 #[.val (.long j1), .second, .val (.long j2), .second, .val (.long j3), .second, .val (.long j4), .second, .val (.int i1), .val (.int ((i1 &&& (2147483647 : Int32)) % (7 : Int32))), .val (.ref b1), .val (.int v64_78), .val (.ref b80), .unset, .unset, .unset, .unset, .unset, .unset, .unset, .unset, .unset] [(.ref b183), (.ref b183)])
    refine Go.of (fun t k => XS.bipush Xx262.here hx rfl (hb hby at_197) k) ?_
    show Go p e below Qo T256 (mkF m 199 #[.val (.long j1), .second, .val (.long j2), .second, .val (.long j3), .second, .val (.long j4), .second, .val (.int i1), .val (.int ((i1 &&& (2147483647 : Int32)) % (7 : Int32))), .val (.ref b1), .val (.int v64_78), .val (.ref b80), .unset, .unset, .unset, .unset, .unset, .unset, .unset, .unset, .unset] [(.int (8 : Int32)), (.ref b183), (.ref b183)])
    refine Go.of (fun t k => XS.lloadN Xx262.here hx rfl (hb hby at_199) rfl  k) ?_
    show Go p e below Qo T256 (mkF m 200 #[.val (.long j1), .second, .val (.long j2), .second, .val (.long j3), .second, .val (.long j4), .second, .val (.int i1), .val (.int ((i1 &&& (2147483647 : Int32)) % (7 : Int32))), .val (.ref b1), .val (.int v64_78), .val (.ref b80), .unset, .unset, .unset, .unset, .unset, .unset, .unset, .unset, .unset] [(.long j2), (.int (8 : Int32)), (.ref b183), (.ref b183)])
    have cpo263 := q259
    obtain ⟨clo263, Aro263, qco263, So263, Mo263, Ho263, Go263⟩ := cpo263
    have hin264 : ¬ ((8 : Int32) < 0 ∨ clo263.slots.size ≤ (8 : Int32).toNatClampNeg) := (inb_of So263 ⟨by decide, by decide⟩)
    obtain ⟨T265, h265, X265, e265, W265, st265⟩ := stJ Xx262 hx hZ e256 Aro263 (j := (8 : Int32)) hin264 (g := (mkF m 200 #[.val (.long j1), .second, .val (.long j2), .second, .val (.long j3), .second, .val (.long j4), .second, .val (.int i1), .val (.int ((i1 &&& (2147483647 : Int32)) % (7 : Int32))), .val (.ref b1), .val (.int v64_78), .val (.ref b80), .unset, .unset, .unset, .unset, .unset, .unset, .unset, .unset, .unset] [(.long j2), (.int (8 : Int32)), (.ref b183), (.ref b183)])) rfl rfl (hb hby at_200)
    have q266 : Arv Z h265 b1 k1 .long (12 : Int32) [(.long j4), (.long j4), (.long j4), (.long j4), (.long j4), (.long y5), (.long y6), (.long y7), (.long y8), (.long y9), (.long y10), (.long y11)] (.long (0 : Int64)) := q257.other W265 ne184
    have q267 : Arv Z h265 b80 k80 .long (12 : Int32) [(.long j4), (.long j1), (.long j2), (.long j3), (.long (j4 ^^^ j1)), (.long j1), (.long j2), (.long j3), (.long (j1 ^^^ j2)), (.long (j2 ^^^ j3)), (.long (j3 - j1)), (.long j4)] (.long (0 : Int64)) := q258.other W265 ne185
    have q268 : Arv Z h265 b183 k183 .long (12 : Int32) [(.long j3), (.long j4), (.long j1), (.long j2), (.long (j1 + j2)), (.long j3), (.long j4), (.long (j1 ^^^ j3)), (.long j2), (.long (0 : Int64)), (.long (0 : Int64)), (.long (0 : Int64))] (.long (0 : Int64)) := Arv.set Aro263 qco263 So263 Mo263 Ho263 Go263 rfl W265 8 rfl (Nat.le_of_ble_eq_true rfl)
    have Z269 : n0 ≤ h265.size := Nat.le_trans Z260 (Keep.of_wr W265).1
    have N270 := Fr.snoc X265 Nx262 g186
    obtain ⟨Lx271, Xx271, Nx271⟩ := own_locs X265 N270
    refine Go.of st265 ?_
    show Go p e below Qo T265 (mkF m 201 #[.val (.long j1), .second, .val (.long j2), .second, .val (.long j3), .second, .val (.long j4), .second, .val (.int i1), .val (.int ((i1 &&& (2147483647 : Int32)) % (7 : Int32))), .val (.ref b1), .val (.int v64_78), .val (.ref b80), .unset, .unset, .unset, .unset, .unset, .unset, .unset, .unset, .unset] [(.ref b183)])
    refine Go.of (fun t k => XS.dup Xx271.here hx rfl (hb hby at_201) rfl rfl k) ?_
    show Go p e below Qo T265 (mkF m 202 #[.val (.long j1), .second, .val (.long j2), .second, .val (.long j3), .second, .val (.long j4), .second, .val (.int i1), .val (.int ((i1 &&& (2147483647 : Int32)) % (7 : Int32))), .val (.ref b1), .val (.int v64_78), .val (.ref b80), .unset, .unset, .unset, .unset, .unset, .unset, .unset, .unset, .unset] [(.ref b183), (.ref b183)])
    refine Go.of (fun t k => XS.bipush Xx271.here hx rfl (hb hby at_202) k) ?_
    show Go p e below Qo T265 (mkF m 204 #[.val (.long j1), .second, .val (.long j2), .second, .val (.long j3), .second, .val (.long j4), .second, .val (.int i1), .val (.int ((i1 &&& (2147483647 : Int32)) % (7 : Int32))), .val (.ref b1), .val (.int v64_78), .val (.ref b80), .unset, .unset, .unset, .unset, .unset, .unset, .unset, .unset, .unset] [(.int (9 : Int32)), (.ref b183), (.ref b183)])
    refine Go.of (fun t k => XS.lloadN Xx271.here hx rfl (hb hby at_204) rfl  k) ?_
    show Go p e below Qo T265 (mkF m 205 #[.val (.long j1), .second, .val (.long j2), .second, .val (.long j3), .second, .val (.long j4), .second, .val (.int i1), .val (.int ((i1 &&& (2147483647 : Int32)) % (7 : Int32))), .val (.ref b1), .val (.int v64_78), .val (.ref b80), .unset, .unset, .unset, .unset, .unset, .unset, .unset, .unset, .unset] [(.long j1), (.int (9 : Int32)), (.ref b183), (.ref b183)])
    have cpo272 := q268
    obtain ⟨clo272, Aro272, qco272, So272, Mo272, Ho272, Go272⟩ := cpo272
    have hin273 : ¬ ((9 : Int32) < 0 ∨ clo272.slots.size ≤ (9 : Int32).toNatClampNeg) := (inb_of So272 ⟨by decide, by decide⟩)
    obtain ⟨T274, h274, X274, e274, W274, st274⟩ := stJ Xx271 hx hZ e265 Aro272 (j := (9 : Int32)) hin273 (g := (mkF m 205 #[.val (.long j1), .second, .val (.long j2), .second, .val (.long j3), .second, .val (.long j4), .second, .val (.int i1), .val (.int ((i1 &&& (2147483647 : Int32)) % (7 : Int32))), .val (.ref b1), .val (.int v64_78), .val (.ref b80), .unset, .unset, .unset, .unset, .unset, .unset, .unset, .unset, .unset] [(.long j1), (.int (9 : Int32)), (.ref b183), (.ref b183)])) rfl rfl (hb hby at_205)
    have q275 : Arv Z h274 b1 k1 .long (12 : Int32) [(.long j4), (.long j4), (.long j4), (.long j4), (.long j4), (.long y5), (.long y6), (.long y7), (.long y8), (.long y9), (.long y10), (.long y11)] (.long (0 : Int64)) := q266.other W274 ne184
    have q276 : Arv Z h274 b80 k80 .long (12 : Int32) [(.long j4), (.long j1), (.long j2), (.long j3), (.long (j4 ^^^ j1)), (.long j1), (.long j2), (.long j3), (.long (j1 ^^^ j2)), (.long (j2 ^^^ j3)), (.long (j3 - j1)), (.long j4)] (.long (0 : Int64)) := q267.other W274 ne185
    have q277 : Arv Z h274 b183 k183 .long (12 : Int32) [(.long j3), (.long j4), (.long j1), (.long j2), (.long (j1 + j2)), (.long j3), (.long j4), (.long (j1 ^^^ j3)), (.long j2), (.long j1), (.long (0 : Int64)), (.long (0 : Int64))] (.long (0 : Int64)) := Arv.set Aro272 qco272 So272 Mo272 Ho272 Go272 rfl W274 9 rfl (Nat.le_of_ble_eq_true rfl)
    have Z278 : n0 ≤ h274.size := Nat.le_trans Z269 (Keep.of_wr W274).1
    have N279 := Fr.snoc X274 Nx271 g186
    obtain ⟨Lx280, Xx280, Nx280⟩ := own_locs X274 N279
    refine Go.of st274 ?_
    show Go p e below Qo T274 (mkF m 206 #[.val (.long j1), .second, .val (.long j2), .second, .val (.long j3), .second, .val (.long j4), .second, .val (.int i1), .val (.int ((i1 &&& (2147483647 : Int32)) % (7 : Int32))), .val (.ref b1), .val (.int v64_78), .val (.ref b80), .unset, .unset, .unset, .unset, .unset, .unset, .unset, .unset, .unset] [(.ref b183)])
    refine Go.of (fun t k => XS.dup Xx280.here hx rfl (hb hby at_206) rfl rfl k) ?_
    show Go p e below Qo T274 (mkF m 207 #[.val (.long j1), .second, .val (.long j2), .second, .val (.long j3), .second, .val (.long j4), .second, .val (.int i1), .val (.int ((i1 &&& (2147483647 : Int32)) % (7 : Int32))), .val (.ref b1), .val (.int v64_78), .val (.ref b80), .unset, .unset, .unset, .unset, .unset, .unset, .unset, .unset, .unset] [(.ref b183), (.ref b183)])
    refine Go.of (fun t k => XS.bipush Xx280.here hx rfl (hb hby at_207) k) ?_
    show Go p e below Qo T274 (mkF m 209 #[.val (.long j1), .second, .val (.long j2), .second, .val (.long j3), .second, .val (.long j4), .second, .val (.int i1), .val (.int ((i1 &&& (2147483647 : Int32)) % (7 : Int32))), .val (.ref b1), .val (.int v64_78), .val (.ref b80), .unset, .unset, .unset, .unset, .unset, .unset, .unset, .unset, .unset] [(.int (10 : Int32)), (.ref b183), (.ref b183)])
    refine Go.of (fun t k => XS.lload Xx280.here hx rfl (hb hby at_209) rfl  k) ?_
    show Go p e below Qo T274 (mkF m 211 #[.val (.long j1), .second, .val (.long j2), .second, .val (.long j3), .second, .val (.long j4), .second, .val (.int i1), .val (.int ((i1 &&& (2147483647 : Int32)) % (7 : Int32))), .val (.ref b1), .val (.int v64_78), .val (.ref b80), .unset, .unset, .unset, .unset, .unset, .unset, .unset, .unset, .unset] [(.long j4), (.int (10 : Int32)), (.ref b183), (.ref b183)])
    refine Go.of (fun t k => XS.lloadN Xx280.here hx rfl (hb hby at_211) rfl  k) ?_
    show Go p e below Qo T274 (mkF m 212 #[.val (.long j1), .second, .val (.long j2), .second, .val (.long j3), .second, .val (.long j4), .second, .val (.int i1), .val (.int ((i1 &&& (2147483647 : Int32)) % (7 : Int32))), .val (.ref b1), .val (.int v64_78), .val (.ref b80), .unset, .unset, .unset, .unset, .unset, .unset, .unset, .unset, .unset] [(.long j2), (.long j4), (.int (10 : Int32)), (.ref b183), (.ref b183)])
    refine Go.of (fun t k => XS.lsub Xx280.here hx rfl (hb hby at_212) rfl k) ?_
    show Go p e below Qo T274 (mkF m 213 #[.val (.long j1), .second, .val (.long j2), .second, .val (.long j3), .second, .val (.long j4), .second, .val (.int i1), .val (.int ((i1 &&& (2147483647 : Int32)) % (7 : Int32))), .val (.ref b1), .val (.int v64_78), .val (.ref b80), .unset, .unset, .unset, .unset, .unset, .unset, .unset, .unset, .unset] [(.long (j4 - j2)), (.int (10 : Int32)), (.ref b183), (.ref b183)])
    have cpo281 := q277
    obtain ⟨clo281, Aro281, qco281, So281, Mo281, Ho281, Go281⟩ := cpo281
    have hin282 : ¬ ((10 : Int32) < 0 ∨ clo281.slots.size ≤ (10 : Int32).toNatClampNeg) := (inb_of So281 ⟨by decide, by decide⟩)
    obtain ⟨T283, h283, X283, e283, W283, st283⟩ := stJ Xx280 hx hZ e274 Aro281 (j := (10 : Int32)) hin282 (g := (mkF m 213 #[.val (.long j1), .second, .val (.long j2), .second, .val (.long j3), .second, .val (.long j4), .second, .val (.int i1), .val (.int ((i1 &&& (2147483647 : Int32)) % (7 : Int32))), .val (.ref b1), .val (.int v64_78), .val (.ref b80), .unset, .unset, .unset, .unset, .unset, .unset, .unset, .unset, .unset] [(.long (j4 - j2)), (.int (10 : Int32)), (.ref b183), (.ref b183)])) rfl rfl (hb hby at_213)
    have q284 : Arv Z h283 b1 k1 .long (12 : Int32) [(.long j4), (.long j4), (.long j4), (.long j4), (.long j4), (.long y5), (.long y6), (.long y7), (.long y8), (.long y9), (.long y10), (.long y11)] (.long (0 : Int64)) := q275.other W283 ne184
    have q285 : Arv Z h283 b80 k80 .long (12 : Int32) [(.long j4), (.long j1), (.long j2), (.long j3), (.long (j4 ^^^ j1)), (.long j1), (.long j2), (.long j3), (.long (j1 ^^^ j2)), (.long (j2 ^^^ j3)), (.long (j3 - j1)), (.long j4)] (.long (0 : Int64)) := q276.other W283 ne185
    have q286 : Arv Z h283 b183 k183 .long (12 : Int32) [(.long j3), (.long j4), (.long j1), (.long j2), (.long (j1 + j2)), (.long j3), (.long j4), (.long (j1 ^^^ j3)), (.long j2), (.long j1), (.long (j4 - j2)), (.long (0 : Int64))] (.long (0 : Int64)) := Arv.set Aro281 qco281 So281 Mo281 Ho281 Go281 rfl W283 10 rfl (Nat.le_of_ble_eq_true rfl)
    have Z287 : n0 ≤ h283.size := Nat.le_trans Z278 (Keep.of_wr W283).1
    have N288 := Fr.snoc X283 Nx280 g186
    obtain ⟨Lx289, Xx289, Nx289⟩ := own_locs X283 N288
    refine Go.of st283 ?_
    show Go p e below Qo T283 (mkF m 214 #[.val (.long j1), .second, .val (.long j2), .second, .val (.long j3), .second, .val (.long j4), .second, .val (.int i1), .val (.int ((i1 &&& (2147483647 : Int32)) % (7 : Int32))), .val (.ref b1), .val (.int v64_78), .val (.ref b80), .unset, .unset, .unset, .unset, .unset, .unset, .unset, .unset, .unset] [(.ref b183)])
    refine Go.of (fun t k => XS.dup Xx289.here hx rfl (hb hby at_214) rfl rfl k) ?_
    show Go p e below Qo T283 (mkF m 215 #[.val (.long j1), .second, .val (.long j2), .second, .val (.long j3), .second, .val (.long j4), .second, .val (.int i1), .val (.int ((i1 &&& (2147483647 : Int32)) % (7 : Int32))), .val (.ref b1), .val (.int v64_78), .val (.ref b80), .unset, .unset, .unset, .unset, .unset, .unset, .unset, .unset, .unset] [(.ref b183), (.ref b183)])
    refine Go.of (fun t k => XS.bipush Xx289.here hx rfl (hb hby at_215) k) ?_
    show Go p e below Qo T283 (mkF m 217 #[.val (.long j1), .second, .val (.long j2), .second, .val (.long j3), .second, .val (.long j4), .second, .val (.int i1), .val (.int ((i1 &&& (2147483647 : Int32)) % (7 : Int32))), .val (.ref b1), .val (.int v64_78), .val (.ref b80), .unset, .unset, .unset, .unset, .unset, .unset, .unset, .unset, .unset] [(.int (11 : Int32)), (.ref b183), (.ref b183)])
    refine Go.of (fun t k => XS.lload Xx289.here hx rfl (hb hby at_217) rfl  k) ?_
    show Go p e below Qo T283 (mkF m 219 #[.val (.long j1), .second, .val (.long j2), .second, .val (.long j3), .second, .val (.long j4), .second, .val (.int i1), .val (.int ((i1 &&& (2147483647 : Int32)) % (7 : Int32))), .val (.ref b1), .val (.int v64_78), .val (.ref b80), .unset, .unset, .unset, .unset, .unset, .unset, .unset, .unset, .unset] [(.long j3), (.int (11 : Int32)), (.ref b183), (.ref b183)])
    refine Go.of (fun t k => XS.lload Xx289.here hx rfl (hb hby at_219) rfl  k) ?_
    show Go p e below Qo T283 (mkF m 221 #[.val (.long j1), .second, .val (.long j2), .second, .val (.long j3), .second, .val (.long j4), .second, .val (.int i1), .val (.int ((i1 &&& (2147483647 : Int32)) % (7 : Int32))), .val (.ref b1), .val (.int v64_78), .val (.ref b80), .unset, .unset, .unset, .unset, .unset, .unset, .unset, .unset, .unset] [(.long j4), (.long j3), (.int (11 : Int32)), (.ref b183), (.ref b183)])
    refine Go.of (fun t k => XS.lsub Xx289.here hx rfl (hb hby at_221) rfl k) ?_
    show Go p e below Qo T283 (mkF m 222 #[.val (.long j1), .second, .val (.long j2), .second, .val (.long j3), .second, .val (.long j4), .second, .val (.int i1), .val (.int ((i1 &&& (2147483647 : Int32)) % (7 : Int32))), .val (.ref b1), .val (.int v64_78), .val (.ref b80), .unset, .unset, .unset, .unset, .unset, .unset, .unset, .unset, .unset] [(.long (j3 - j4)), (.int (11 : Int32)), (.ref b183), (.ref b183)])
    have cpo290 := q286
    obtain ⟨clo290, Aro290, qco290, So290, Mo290, Ho290, Go290⟩ := cpo290
    have hin291 : ¬ ((11 : Int32) < 0 ∨ clo290.slots.size ≤ (11 : Int32).toNatClampNeg) := (inb_of So290 ⟨by decide, by decide⟩)
    obtain ⟨T292, h292, X292, e292, W292, st292⟩ := stJ Xx289 hx hZ e283 Aro290 (j := (11 : Int32)) hin291 (g := (mkF m 222 #[.val (.long j1), .second, .val (.long j2), .second, .val (.long j3), .second, .val (.long j4), .second, .val (.int i1), .val (.int ((i1 &&& (2147483647 : Int32)) % (7 : Int32))), .val (.ref b1), .val (.int v64_78), .val (.ref b80), .unset, .unset, .unset, .unset, .unset, .unset, .unset, .unset, .unset] [(.long (j3 - j4)), (.int (11 : Int32)), (.ref b183), (.ref b183)])) rfl rfl (hb hby at_222)
    have q293 : Arv Z h292 b1 k1 .long (12 : Int32) [(.long j4), (.long j4), (.long j4), (.long j4), (.long j4), (.long y5), (.long y6), (.long y7), (.long y8), (.long y9), (.long y10), (.long y11)] (.long (0 : Int64)) := q284.other W292 ne184
    have q294 : Arv Z h292 b80 k80 .long (12 : Int32) [(.long j4), (.long j1), (.long j2), (.long j3), (.long (j4 ^^^ j1)), (.long j1), (.long j2), (.long j3), (.long (j1 ^^^ j2)), (.long (j2 ^^^ j3)), (.long (j3 - j1)), (.long j4)] (.long (0 : Int64)) := q285.other W292 ne185
    have q295 : Arv Z h292 b183 k183 .long (12 : Int32) [(.long j3), (.long j4), (.long j1), (.long j2), (.long (j1 + j2)), (.long j3), (.long j4), (.long (j1 ^^^ j3)), (.long j2), (.long j1), (.long (j4 - j2)), (.long (j3 - j4))] (.long (0 : Int64)) := Arv.set Aro290 qco290 So290 Mo290 Ho290 Go290 rfl W292 11 rfl (Nat.le_of_ble_eq_true rfl)
    have Z296 : n0 ≤ h292.size := Nat.le_trans Z287 (Keep.of_wr W292).1
    have N297 := Fr.snoc X292 Nx289 g186
    obtain ⟨Lx298, Xx298, Nx298⟩ := own_locs X292 N297
    refine Go.of st292 ?_
    show Go p e below Qo T292 (mkF m 223 #[.val (.long j1), .second, .val (.long j2), .second, .val (.long j3), .second, .val (.long j4), .second, .val (.int i1), .val (.int ((i1 &&& (2147483647 : Int32)) % (7 : Int32))), .val (.ref b1), .val (.int v64_78), .val (.ref b80), .unset, .unset, .unset, .unset, .unset, .unset, .unset, .unset, .unset] [(.ref b183)])
    refine Go.of (fun t k => XS.astore Xx298.here hx rfl (hb hby at_223) rfl rfl (l' := #[.val (.long j1), .second, .val (.long j2), .second, .val (.long j3), .second, .val (.long j4), .second, .val (.int i1), .val (.int ((i1 &&& (2147483647 : Int32)) % (7 : Int32))), .val (.ref b1), .val (.int v64_78), .val (.ref b80), .val (.ref b183), .unset, .unset, .unset, .unset, .unset, .unset, .unset, .unset]) rfl k) ?_
    show Go p e below Qo T292 (mkF m 225 #[.val (.long j1), .second, .val (.long j2), .second, .val (.long j3), .second, .val (.long j4), .second, .val (.int i1), .val (.int ((i1 &&& (2147483647 : Int32)) % (7 : Int32))), .val (.ref b1), .val (.int v64_78), .val (.ref b80), .val (.ref b183), .unset, .unset, .unset, .unset, .unset, .unset, .unset, .unset] [])
    refine Go.of (fun t k => XS.bipush Xx298.here hx rfl (hb hby at_225) k) ?_
    show Go p e below Qo T292 (mkF m 227 #[.val (.long j1), .second, .val (.long j2), .second, .val (.long j3), .second, .val (.long j4), .second, .val (.int i1), .val (.int ((i1 &&& (2147483647 : Int32)) % (7 : Int32))), .val (.ref b1), .val (.int v64_78), .val (.ref b80), .val (.ref b183), .unset, .unset, .unset, .unset, .unset, .unset, .unset, .unset] [(.int (12 : Int32))])
    obtain ⟨T299, h299, k299, X299, e299, E299, A299, st299⟩ := newP Xx298 hx hZ (hw _ (List.mem_of_getElem? (i := 1) rfl)) e292 (g := (mkF m 227 #[.val (.long j1), .second, .val (.long j2), .second, .val (.long j3), .second, .val (.long j4), .second, .val (.int i1), .val (.int ((i1 &&& (2147483647 : Int32)) % (7 : Int32))), .val (.ref b1), .val (.int v64_78), .val (.ref b80), .val (.ref b183), .unset, .unset, .unset, .unset, .unset, .unset, .unset, .unset] [(.int (12 : Int32))])) rfl (hb hby at_227) rfl (by decide) (cap := 12) (by decide) (by decide) (by decide) (by decide)
    obtain ⟨b299, g299⟩ : ∃ z, z = h292.size := ⟨_, rfl⟩
    rw [← g299] at A299 st299
    have ne300 : b1 ≠ b299 := Nat.ne_of_lt (Nat.lt_of_lt_of_le q293.lt (Nat.le_of_eq g299.symm))
    have ne301 : b80 ≠ b299 := Nat.ne_of_lt (Nat.lt_of_lt_of_le q294.lt (Nat.le_of_eq g299.symm))
    have ne302 : b183 ≠ b299 := Nat.ne_of_lt (Nat.lt_of_lt_of_le q295.lt (Nat.le_of_eq g299.symm))
    have g303 : n0 ≤ b299 := Nat.le_trans Z296 (Nat.le_of_eq g299.symm)
    have q304 : Arv Z h299 b1 k1 .long (12 : Int32) [(.long j4), (.long j4), (.long j4), (.long j4), (.long j4), (.long y5), (.long y6), (.long y7), (.long y8), (.long y9), (.long y10), (.long y11)] (.long (0 : Int64)) := q293.ext E299
    have q305 : Arv Z h299 b80 k80 .long (12 : Int32) [(.long j4), (.long j1), (.long j2), (.long j3), (.long (j4 ^^^ j1)), (.long j1), (.long j2), (.long j3), (.long (j1 ^^^ j2)), (.long (j2 ^^^ j3)), (.long (j3 - j1)), (.long j4)] (.long (0 : Int64)) := q294.ext E299
    have q306 : Arv Z h299 b183 k183 .long (12 : Int32) [(.long j3), (.long j4), (.long j1), (.long j2), (.long (j1 + j2)), (.long j3), (.long j4), (.long (j1 ^^^ j3)), (.long j2), (.long j1), (.long (j4 - j2)), (.long (j3 - j4))] (.long (0 : Int64)) := q295.ext E299
    have Z307 : n0 ≤ h299.size := Nat.le_trans Z296 E299.1
    replace X299 := own_cs X299 (c' := 5) (s' := 60) (by decide) (by decide)
    have q308 : Arv Z h299 b299 k299 .long (12 : Int32) [(.long (0 : Int64)), (.long (0 : Int64)), (.long (0 : Int64)), (.long (0 : Int64)), (.long (0 : Int64)), (.long (0 : Int64)), (.long (0 : Int64)), (.long (0 : Int64)), (.long (0 : Int64)), (.long (0 : Int64)), (.long (0 : Int64)), (.long (0 : Int64))] (.long (0 : Int64)) := (Arv.new A299 (by decide)).pad (pad_rep [] (.long (0 : Int64)) 12)
    refine Go.of st299 ?_
    show Go p e below Qo T299 (mkF m 229 #[.val (.long j1), .second, .val (.long j2), .second, .val (.long j3), .second, .val (.long j4), .second, .val (.int i1), .val (.int ((i1 &&& (2147483647 : Int32)) % (7 : Int32))), .val (.ref b1), .val (.int v64_78), .val (.ref b80), .val (.ref b183), .unset, .unset, .unset, .unset, .unset, .unset, .unset, .unset] [(.ref b299)])
    refine Go.of (fun t k => XS.dup X299.here hx rfl (hb hby at_229) rfl rfl k) ?_
    show Go p e below Qo T299 (mkF m 230 #[.val (.long j1), .second, .val (.long j2), .second, .val (.long j3), .second, .val (.long j4), .second, .val (.int i1), .val (.int ((i1 &&& (2147483647 : Int32)) % (7 : Int32))), .val (.ref b1), .val (.int v64_78), .val (.ref b80), .val (.ref b183), .unset, .unset, .unset, .unset, .unset, .unset, .unset, .unset] [(.ref b299), (.ref b299)])
    refine Go.of (fun t k => XS.iconst X299.here hx rfl (hb hby at_230) k) ?_
    show Go p e below Qo T299 (mkF m 231 #[.val (.long j1), .second, .val (.long j2), .second, .val (.long j3), .second, .val (.long j4), .second, .val (.int i1), .val (.int ((i1 &&& (2147483647 : Int32)) % (7 : Int32))), .val (.ref b1), .val (.int v64_78), .val (.ref b80), .val (.ref b183), .unset, .unset, .unset, .unset, .unset, .unset, .unset, .unset] [(.int (0 : Int32)), (.ref b299), (.ref b299)])
    refine Go.of (fun t k => XS.aload X299.here hx rfl (hb hby at_231) rfl rfl k) ?_
    show Go p e below Qo T299 (mkF m 233 #[.val (.long j1), .second, .val (.long j2), .second, .val (.long j3), .second, .val (.long j4), .second, .val (.int i1), .val (.int ((i1 &&& (2147483647 : Int32)) % (7 : Int32))), .val (.ref b1), .val (.int v64_78), .val (.ref b80), .val (.ref b183), .unset, .unset, .unset, .unset, .unset, .unset, .unset, .unset] [(.ref b80), (.int (0 : Int32)), (.ref b299), (.ref b299)])
    refine Go.of (fun t k => XS.iconst X299.here hx rfl (hb hby at_233) k) ?_
    show Go p e below Qo T299 (mkF m 234 #[.val (.long j1), .second, .val (.long j2), .second, .val (.long j3), .second, .val (.long j4), .second, .val (.int i1), .val (.int ((i1 &&& (2147483647 : Int32)) % (7 : Int32))), .val (.ref b1), .val (.int v64_78), .val (.ref b80), .val (.ref b183), .unset, .unset, .unset, .unset, .unset, .unset, .unset, .unset] [(.int (0 : Int32)), (.ref b80), (.int (0 : Int32)), (.ref b299), (.ref b299)])
    have cpo309 := q305
    obtain ⟨clo309, Aro309, qco309, So309, Mo309, Ho309, Go309⟩ := cpo309
    have hin310 : ¬ ((0 : Int32) < 0 ∨ clo309.slots.size ≤ (0 : Int32).toNatClampNeg) := (inb_of So309 ⟨by decide, by decide⟩)
    refine Go.of (fun t k => X299.laload hx (j := (0 : Int32)) (v := (.long j4)) (by rw [e299]; exact Aro309.1) (State.isArrayOf_alike hZ.alike Aro309.2.1) Aro309.2.2 hin310 (Ho309.at hin310 rfl) (g := (mkF m 234 #[.val (.long j1), .second, .val (.long j2), .second, .val (.long j3), .second, .val (.long j4), .second, .val (.int i1), .val (.int ((i1 &&& (2147483647 : Int32)) % (7 : Int32))), .val (.ref b1), .val (.int v64_78), .val (.ref b80), .val (.ref b183), .unset, .unset, .unset, .unset, .unset, .unset, .unset, .unset] [(.int (0 : Int32)), (.ref b80), (.int (0 : Int32)), (.ref b299), (.ref b299)])) rfl rfl (hb hby at_234) t k) ?_
    show Go p e below Qo T299 (mkF m 235 #[.val (.long j1), .second, .val (.long j2), .second, .val (.long j3), .second, .val (.long j4), .second, .val (.int i1), .val (.int ((i1 &&& (2147483647 : Int32)) % (7 : Int32))), .val (.ref b1), .val (.int v64_78), .val (.ref b80), .val (.ref b183), .unset, .unset, .unset, .unset, .unset, .unset, .unset, .unset] [(.long j4), (.int (0 : Int32)), (.ref b299), (.ref b299)])
    refine Go.of (fun t k => XS.aload X299.here hx rfl (hb hby at_235) rfl rfl k) ?_
    show Go p e below Qo T299 (mkF m 237 #[.val (.long j1), .second, .val (.long j2), .second, .val (.long j3), .second, .val (.long j4), .second, .val (.int i1), .val (.int ((i1 &&& (2147483647 : Int32)) % (7 : Int32))), .val (.ref b1), .val (.int v64_78), .val (.ref b80), .val (.ref b183), .unset, .unset, .unset, .unset, .unset, .unset, .unset, .unset] [(.ref b183), (.long j4), (.int (0 : Int32)), (.ref b299), (.ref b299)])
    refine Go.of (fun t k => XS.iconst X299.here hx rfl (hb hby at_237) k) ?_
    show Go p e below Qo T299 (mkF m 238 #[.val (.long j1), .second, .val (.long j2), .second, .val (.long j3), .second, .val (.long j4), .second, .val (.int i1), .val (.int ((i1 &&& (2147483647 : Int32)) % (7 : Int32))), .val (.ref b1), .val (.int v64_78), .val (.ref b80), .val (.ref b183), .unset, .unset, .unset, .unset, .unset, .unset, .unset, .unset] [(.int (0 : Int32)), (.ref b183), (.long j4), (.int (0 : Int32)), (.ref b299), (.ref b299)])
    have cpo311 := q306
    obtain ⟨clo311, Aro311, qco311, So311, Mo311, Ho311, Go311⟩ := cpo311
    have hin312 : ¬ ((0 : Int32) < 0 ∨ clo311.slots.size ≤ (0 : Int32).toNatClampNeg) := (inb_of So311 ⟨by decide, by decide⟩)
    refine Go.of (fun t k => X299.laload hx (j := (0 : Int32)) (v := (.long j3)) (by rw [e299]; exact Aro311.1) (State.isArrayOf_alike hZ.alike Aro311.2.1) Aro311.2.2 hin312 (Ho311.at hin312 rfl) (g := (mkF m 238 #[.val (.long j1), .second, .val (.long j2), .second, .val (.long j3), .second, .val (.long j4), .second, .val (.int i1), .val (.int ((i1 &&& (2147483647 : Int32)) % (7 : Int32))), .val (.ref b1), .val (.int v64_78), .val (.ref b80), .val (.ref b183), .unset, .unset, .unset, .unset, .unset, .unset, .unset, .unset] [(.int (0 : Int32)), (.ref b183), (.long j4), (.int (0 : Int32)), (.ref b299), (.ref b299)])) rfl rfl (hb hby at_238) t k) ?_
    show Go p e below Qo T299 (mkF m 239 #[.val (.long j1), .second, .val (.long j2), .second, .val (.long j3), .second, .val (.long j4), .second, .val (.int i1), .val (.int ((i1 &&& (2147483647 : Int32)) % (7 : Int32))), .val (.ref b1), .val (.int v64_78), .val (.ref b80), .val (.ref b183), .unset, .unset, .unset, .unset, .unset, .unset, .unset, .unset] [(.long j3), (.long j4), (.int (0 : Int32)), (.ref b299), (.ref b299)])
    refine Go.of (fun t k => XS.ladd X299.here hx rfl (hb hby at_239) rfl k) ?_
    show Go p e below Qo T299 (mkF m 240 #[.val (.long j1), .second, .val (.long j2), .second, .val (.long j3), .second, .val (.long j4), .second, .val (.int i1), .val (.int ((i1 &&& (2147483647 : Int32)) % (7 : Int32))), .val (.ref b1), .val (.int v64_78), .val (.ref b80), .val (.ref b183), .unset, .unset, .unset, .unset, .unset, .unset, .unset, .unset] [(.long (j4 + j3)), (.int (0 : Int32)), (.ref b299), (.ref b299)])
    have cpo313 := q308
    obtain ⟨clo313, Aro313, qco313, So313, Mo313, Ho313, Go313⟩ := cpo313
    have hin314 : ¬ ((0 : Int32) < 0 ∨ clo313.slots.size ≤ (0 : Int32).toNatClampNeg) := (inb_of So313 ⟨by decide, by decide⟩)
    obtain ⟨T315, h315, X315, e315, W315, st315⟩ := stJ X299 hx hZ e299 Aro313 (j := (0 : Int32)) hin314 (g := (mkF m 240 #[.val (.long j1), .second, .val (.long j2), .second, .val (.long j3), .second, .val (.long j4), .second, .val (.int i1), .val (.int ((i1 &&& (2147483647 : Int32)) % (7 : Int32))), .val (.ref b1), .val (.int v64_78), .val (.ref b80), .val (.ref b183), .unset, .unset, .unset, .unset, .unset, .unset, .unset, .unset] [(.long (j4 + j3)), (.int (0 : Int32)), (.ref b299), (.ref b299)])) rfl rfl (hb hby at_240)
    have q316 : Arv Z h315 b1 k1 .long (12 : Int32) [(.long j4), (.long j4), (.long j4), (.long j4), (.long j4), (.long y5), (.long y6), (.long y7), (.long y8), (.long y9), (.long y10), (.long y11)] (.long (0 : Int64)) := q304.other W315 ne300
    have q317 : Arv Z h315 b80 k80 .long (12 : Int32) [(.long j4), (.long j1), (.long j2), (.long j3), (.long (j4 ^^^ j1)), (.long j1), (.long j2), (.long j3), (.long (j1 ^^^ j2)), (.long (j2 ^^^ j3)), (.long (j3 - j1)), (.long j4)] (.long (0 : Int64)) := q305.other W315 ne301
    have q318 : Arv Z h315 b183 k183 .long (12 : Int32) [(.long j3), (.long j4), (.long j1), (.long j2), (.long (j1 + j2)), (.long j3), (.long j4), (.long (j1 ^^^ j3)), (.long j2), (.long j1), (.long (j4 - j2)), (.long (j3 - j4))] (.long (0 : Int64)) := q306.other W315 ne302
    have q319 : Arv Z h315 b299 k299 .long (12 : Int32) [(.long (j4 + j3)), (.long (0 : Int64)), (.long (0 : Int64)), (.long (0 : Int64)), (.long (0 : Int64)), (.long (0 : Int64)), (.long (0 : Int64)), (.long (0 : Int64)), (.long (0 : Int64)), (.long (0 : Int64)), (.long (0 : Int64)), (.long (0 : Int64))] (.long (0 : Int64)) := Arv.set Aro313 qco313 So313 Mo313 Ho313 Go313 rfl W315 0 rfl (Nat.le_of_ble_eq_true rfl)
    have Z320 : n0 ≤ h315.size := Nat.le_trans Z307 (Keep.of_wr W315).1
    have N321 := Fr.snoc X315 Nx298 g303
    obtain ⟨Lx322, Xx322, Nx322⟩ := own_locs X315 N321
    refine Go.of st315 ?_
    show Go p e below Qo T315 (mkF m 241 #[.val (.long j1), .second, .val (.long j2), .second, .val (.long j3), .second, .val (.long j4), .second, .val (.int i1), .val (.int ((i1 &&& (2147483647 : Int32)) % (7 : Int32))), .val (.ref b1), .val (.int v64_78), .val (.ref b80), .val (.ref b183), .unset, .unset, .unset, .unset, .unset, .unset, .unset, .unset] [(.ref b299)])
    refine Go.of (fun t k => XS.dup Xx322.here hx rfl (hb hby at_241) rfl rfl k) ?_
    show Go p e below Qo T315 (mkF m 242 #[.val (.long j1), .second, .val (.long j2), .second, .val (.long j3), .second, .val (.long j4), .second, .val (.int i1), .val (.int ((i1 &&& (2147483647 : Int32)) % (7 : Int32))), .val (.ref b1), .val (.int v64_78), .val (.ref b80), .val (.ref b183), .unset, .unset, .unset, .unset, .unset, .unset, .unset, .unset] [(.ref b299), (.ref b299)])
    refine Go.of (fun t k => XS.iconst Xx322.here hx rfl (hb hby at_242) k) ?_
    show Go p e below Qo T315 (mkF m 243 #[.val (.long j1), .second, .val (.long j2), .second, .val (.long j3), .second, .val (.long j4), .second, .val (.int i1), .val (.int ((i1 &&& (2147483647 : Int32)) % (7 : Int32))), .val (.ref b1), .val (.int v64_78), .val (.ref b80), .val (.ref b183), .unset, .unset, .unset, .unset, .unset, .unset, .unset, .unset] [(.int (1 : Int32)), (.ref b299), (.ref b299)])
    refine Go.of (fun t k => XS.aload Xx322.here hx rfl (hb hby at_243) rfl rfl k) ?_
    show Go p e below Qo T315 (mkF m 245 #[.val (.long j1), .second, .val (.long j2), .second, .val (.long j3), .second, .val (.long j4), .second, .val (.int i1), .val (.int ((i1 &&& (2147483647 : Int32)) % (7 : Int32))), .val (.ref b1), .val (.int v64_78), .val (.ref b80), .val (.ref b183), .unset, .unset, .unset, .unset, .unset, .unset, .unset, .unset] [(.ref b80), (.int (1 : Int32)), (.ref b299), (.ref b299)])
    refine Go.of (fun t k => XS.iconst Xx322.here hx rfl (hb hby at_245) k) ?_
    show Go p e below Qo T315 (mkF m 246 #[.val (.long j1), .second, .val (.long j2), .second, .val (.long j3), .second, .val (.long j4), .second, .val (.int i1), .val (.int ((i1 &&& (2147483647 : Int32)) % (7 : Int32))), .val (.ref b1), .val (.int v64_78), .val (.ref b80), .val (.ref b183), .unset, .unset, .unset, .unset, .unset, .unset, .unset, .unset] [(.int (1 : Int32)), (.ref b80), (.int (1 : Int32)), (.ref b299), (.ref b299)])
    have cpo323 := q317
    obtain ⟨clo323, Aro323, qco323, So323, Mo323, Ho323, Go323⟩ := cpo323
    have hin324 : ¬ ((1 : Int32) < 0 ∨ clo323.slots.size ≤ (1 : Int32).toNatClampNeg) := (inb_of So323 ⟨by decide, by decide⟩)
    refine Go.of (fun t k => Xx322.laload hx (j := (1 : Int32)) (v := (.long j1)) (by rw [e315]; exact Aro323.1) (State.isArrayOf_alike hZ.alike Aro323.2.1) Aro323.2.2 hin324 (Ho323.at hin324 rfl) (g := (mkF m 246 #[.val (.long j1), .second, .val (.long j2), .second, .val (.long j3), .second, .val (.long j4), .second, .val (.int i1), .val (.int ((i1 &&& (2147483647 : Int32)) % (7 : Int32))), .val (.ref b1), .val (.int v64_78), .val (.ref b80), .val (.ref b183), .unset, .unset, .unset, .unset, .unset, .unset, .unset, .unset] [(.int (1 : Int32)), (.ref b80), (.int (1 : Int32)), (.ref b299), (.ref b299)])) rfl rfl (hb hby at_246) t k) ?_
    show Go p e below Qo T315 (mkF m 247 #[.val (.long j1), .second, .val (.long j2), .second, .val (.long j3), .second, .val (.long j4), .second, .val (.int i1), .val (.int ((i1 &&& (2147483647 : Int32)) % (7 : Int32))), .val (.ref b1), .val (.int v64_78), .val (.ref b80), .val (.ref b183), .unset, .unset, .unset, .unset, .unset, .unset, .unset, .unset] [(.long j1), (.int (1 : Int32)), (.ref b299), (.ref b299)])
    refine Go.of (fun t k => XS.aload Xx322.here hx rfl (hb hby at_247) rfl rfl k) ?_
    show Go p e below Qo T315 (mkF m 249 #[.val (.long j1), .second, .val (.long j2), .second, .val (.long j3), .second, .val (.long j4), .second, .val (.int i1), .val (.int ((i1 &&& (2147483647 : Int32)) % (7 : Int32))), .val (.ref b1), .val (.int v64_78), .val (.ref b80), .val (.ref b183), .unset, .unset, .unset, .unset, .unset, .unset, .unset, .unset] [(.ref b183), (.long j1), (.int (1 : Int32)), (.ref b299), (.ref b299)])
    refine Go.of (fun t k => XS.iconst Xx322.here hx rfl (hb hby at_249) k) ?_
    show Go p e below Qo T315 (mkF m 250 #[.val (.long j1), .second, .val (.long j2), .second, .val (.long j3), .second, .val (.long j4), .second, .val (.int i1), .val (.int ((i1 &&& (2147483647 : Int32)) % (7 : Int32))), .val (.ref b1), .val (.int v64_78), .val (.ref b80), .val (.ref b183), .unset, .unset, .unset, .unset, .unset, .unset, .unset, .unset] [(.int (1 : Int32)), (.ref b183), (.long j1), (.int (1 : Int32)), (.ref b299), (.ref b299)])
    have cpo325 := q318
    obtain ⟨clo325, Aro325, qco325, So325, Mo325, Ho325, Go325⟩ := cpo325
    have hin326 : ¬ ((1 : Int32) < 0 ∨ clo325.slots.size ≤ (1 : Int32).toNatClampNeg) := (inb_of So325 ⟨by decide, by decide⟩)
    refine Go.of (fun t k => Xx322.laload hx (j := (1 : Int32)) (v := (.long j4)) (by rw [e315]; exact Aro325.1) (State.isArrayOf_alike hZ.alike Aro325.2.1) Aro325.2.2 hin326 (Ho325.at hin326 rfl) (g := (mkF m 250 #[.val (.long j1), .second, .val (.long j2), .second, .val (.long j3), .second, .val (.long j4), .second, .val (.int i1), .val (.int ((i1 &&& (2147483647 : Int32)) % (7 : Int32))), .val (.ref b1), .val (.int v64_78), .val (.ref b80), .val (.ref b183), .unset, .unset, .unset, .unset, .unset, .unset, .unset, .unset] [(.int (1 : Int32)), (.ref b183), (.long j1), (.int (1 : Int32)), (.ref b299), (.ref b299)])) rfl rfl (hb hby at_250) t k) ?_
    show Go p e below Qo T315 (mkF m 251 #[.val (.long j1), .second, .val (.long j2), .second, .val (.long j3), .second, .val (.long j4), .second, .val (.int i1), .val (.int ((i1 &&& (2147483647 : Int32)) % (7 : Int32))), .val (.ref b1), .val (.int v64_78), .val (.ref b80), .val (.ref b183), .unset, .unset, .unset, .unset, .unset, .unset, .unset, .unset] [(.long j4), (.long j1), (.int (1 : Int32)), (.ref b299), (.ref b299)])
    refine Go.of (fun t k => XS.ladd Xx322.here hx rfl (hb hby at_251) rfl k) ?_
    show Go p e below Qo T315 (mkF m 252 #[.val (.long j1), .second, .val (.long j2), .second, .val (.long j3), .second, .val (.long j4), .second, .val (.int i1), .val (.int ((i1 &&& (2147483647 : Int32)) % (7 : Int32))), .val (.ref b1), .val (.int v64_78), .val (.ref b80), .val (.ref b183), .unset, .unset, .unset, .unset, .unset, .unset, .unset, .unset] [(.long (j1 + j4)), (.int (1 : Int32)), (.ref b299), (.ref b299)])
    have cpo327 := q319
    obtain ⟨clo327, Aro327, qco327, So327, Mo327, Ho327, Go327⟩ := cpo327
    have hin328 : ¬ ((1 : Int32) < 0 ∨ clo327.slots.size ≤ (1 : Int32).toNatClampNeg) := (inb_of So327 ⟨by decide, by decide⟩)
    obtain ⟨T329, h329, X329, e329, W329, st329⟩ := stJ Xx322 hx hZ e315 Aro327 (j := (1 : Int32)) hin328 (g := (mkF m 252 #[.val (.long j1), .second, .val (.long j2), .second, .val (.long j3), .second, .val (.long j4), .second, .val (.int i1), .val (.int ((i1 &&& (2147483647 : Int32)) % (7 : Int32))), .val (.ref b1), .val (.int v64_78), .val (.ref b80), .val (.ref b183), .unset, .unset, .unset, .unset, .unset, .unset, .unset, .unset] [(.long (j1 + j4)), (.int (1 : Int32)), (.ref b299), (.ref b299)])) rfl rfl (hb hby at_252)
    have q330 : Arv Z h329 b1 k1 .long (12 : Int32) [(.long j4), (.long j4), (.long j4), (.long j4), (.long j4), (.long y5), (.long y6), (.long y7), (.long y8), (.long y9), (.long y10), (.long y11)] (.long (0 : Int64)) := q316.other W329 ne300
    have q331 : Arv Z h329 b80 k80 .long (12 : Int32) [(.long j4), (.long j1), (.long j2), (.long j3), (.long (j4 ^^^ j1)), (.long j1), (.long j2), (.long j3), (.long (j1 ^^^ j2)), (.long (j2 ^^^ j3)), (.long (j3 - j1)), (.long j4)] (.long (0 : Int64)) := q317.other W329 ne301
    have q332 : Arv Z h329 b183 k183 .long (12 : Int32) [(.long j3), (.long j4), (.long j1), (.long j2), (.long (j1 + j2)), (.long j3), (.long j4), (.long (j1 ^^^ j3)), (.long j2), (.long j1), (.long (j4 - j2)), (.long (j3 - j4))] (.long (0 : Int64)) := q318.other W329 ne302
    have q333 : Arv Z h329 b299 k299 .long (12 : Int32) [(.long (j4 + j3)), (.long (j1 + j4)), (.long (0 : Int64)), (.long (0 : Int64)), (.long (0 : Int64)), (.long (0 : Int64)), (.long (0 : Int64)), (.long (0 : Int64)), (.long (0 : Int64)), (.long (0 : Int64)), (.long (0 : Int64)), (.long (0 : Int64))] (.long (0 : Int64)) := Arv.set Aro327 qco327 So327 Mo327 Ho327 Go327 rfl W329 1 rfl (Nat.le_of_ble_eq_true rfl)
    have Z334 : n0 ≤ h329.size := Nat.le_trans Z320 (Keep.of_wr W329).1
    have N335 := Fr.snoc X329 Nx322 g303
    obtain ⟨Lx336, Xx336, Nx336⟩ := own_locs X329 N335
    refine Go.of st329 ?_
    show Go p e below Qo T329 (mkF m 253 #[.val (.long j1), .second, .val (.long j2), .second, .val (.long j3), .second, .val (.long j4), .second, .val (.int i1), .val (.int ((i1 &&& (2147483647 : Int32)) % (7 : Int32))), .val (.ref b1), .val (.int v64_78), .val (.ref b80), .val (.ref b183), .unset, .unset, .unset, .unset, .unset, .unset, .unset, .unset] [(.ref b299)])
    refine Go.of (fun t k => XS.dup Xx336.here hx rfl (hb hby at_253) rfl rfl k) ?_
    show Go p e below Qo T329 (mkF m 254 #[.val (.long j1), .second, .val (.long j2), .second, .val (.long j3), .second, .val (.long j4), .second, .val (.int i1), .val (.int ((i1 &&& (2147483647 : Int32)) % (7 : Int32))), .val (.ref b1), .val (.int v64_78), .val (.ref b80), .val (.ref b183), .unset, .unset, .unset, .unset, .unset, .unset, .unset, .unset] [(.ref b299), (.ref b299)])
    refine Go.of (fun t k => XS.iconst Xx336.here hx rfl (hb hby at_254) k) ?_
    show Go p e below Qo T329 (mkF m 255 #[.val (.long j1), .second, .val (.long j2), .second, .val (.long j3), .second, .val (.long j4), .second, .val (.int i1), .val (.int ((i1 &&& (2147483647 : Int32)) % (7 : Int32))), .val (.ref b1), .val (.int v64_78), .val (.ref b80), .val (.ref b183), .unset, .unset, .unset, .unset, .unset, .unset, .unset, .unset] [(.int (2 : Int32)), (.ref b299), (.ref b299)])
    refine Go.of (fun t k => XS.aload Xx336.here hx rfl (hb hby at_255) rfl rfl k) ?_
    show Go p e below Qo T329 (mkF m 257 #[.val (.long j1), .second, .val (.long j2), .second, .val (.long j3), .second, .val (.long j4), .second, .val (.int i1), .val (.int ((i1 &&& (2147483647 : Int32)) % (7 : Int32))), .val (.ref b1), .val (.int v64_78), .val (.ref b80), .val (.ref b183), .unset, .unset, .unset, .unset, .unset, .unset, .unset, .unset] [(.ref b80), (.int (2 : Int32)), (.ref b299), (.ref b299)])
    refine Go.of (fun t k => XS.iconst Xx336.here hx rfl (hb hby at_257) k) ?_
    show Go p e below Qo T329 (mkF m 258 #[.val (.long j1), .second, .val (.long j2), .second, .val (.long j3), .second, .val (.long j4), .second, .val (.int i1), .val (.int ((i1 &&& (2147483647 : Int32)) % (7 : Int32))), .val (.ref b1), .val (.int v64_78), .val (.ref b80), .val (.ref b183), .unset, .unset, .unset, .unset, .unset, .unset, .unset, .unset] [(.int (2 : Int32)), (.ref b80), (.int (2 : Int32)), (.ref b299), (.ref b299)])
    have cpo337 := q331
    obtain ⟨clo337, Aro337, qco337, So337, Mo337, Ho337, Go337⟩ := cpo337
    have hin338 : ¬ ((2 : Int32) < 0 ∨ clo337.slots.size ≤ (2 : Int32).toNatClampNeg) := (inb_of So337 ⟨by decide, by decide⟩)
    refine Go.of (fun t k => Xx336.laload hx (j := (2 : Int32)) (v := (.long j2)) (by rw [e329]; exact Aro337.1) (State.isArrayOf_alike hZ.alike Aro337.2.1) Aro337.2.2 hin338 (Ho337.at hin338 rfl) (g := (mkF m 258 #[.val (.long j1), .second, .val (.long j2), .second, .val (.long j3), .second, .val (.long j4), .second, .val (.int i1), .val (.int ((i1 &&& (2147483647 : Int32)) % (7 : Int32))), .val (.ref b1), .val (.int v64_78), .val (.ref b80), .val (.ref b183), .unset, .unset, .unset, .unset, .unset, .unset, .unset, .unset] [(.int (2 : Int32)), (.ref b80), (.int (2 : Int32)), (.ref b299), (.ref b299)])) rfl rfl (hb hby at_258) t k) ?_
    show Go p e below Qo T329 (mkF m 259 #[.val (.long j1), .second, .val (.long j2), .second, .val (.long j3), .second, .val (.long j4), .second, .val (.int i1), .val (.int ((i1 &&& (2147483647 : Int32)) % (7 : Int32))), .val (.ref b1), .val (.int v64_78), .val (.ref b80), .val (.ref b183), .unset, .unset, .unset, .unset, .unset, .unset, .unset, .unset] [(.long j2), (.int (2 : Int32)), (.ref b299), (.ref b299)])
    refine Go.of (fun t k => XS.aload Xx336.here hx rfl (hb hby at_259) rfl rfl k) ?_
    show Go p e below Qo T329 (mkF m 261 #[.val (.long j1), .second, .val (.long j2), .second, .val (.long j3), .second, .val (.long j4), .second, .val (.int i1), .val (.int ((i1 &&& (2147483647 : Int32)) % (7 : Int32))), .val (.ref b1), .val (.int v64_78), .val (.ref b80), .val (.ref b183), .unset, .unset, .unset, .unset, .unset, .unset, .unset, .unset] [(.ref b183), (.long j2), (.int (2 : Int32)), (.ref b299), (.ref b299)])
    refine Go.of (fun t k => XS.iconst Xx336.here hx rfl (hb hby at_261) k) ?_
    show Go p e below Qo T329 (mkF m 262 #[.val (.long j1), .second, .val (.long j2), .second, .val (.long j3), .second, .val (.long j4), .second, .val (.int i1), .val (.int ((i1 &&& (2147483647 : Int32)) % (7 : Int32))), .val (.ref b1), .val (.int v64_78), .val (.ref b80), .val (.ref b183), .unset, .unset, .unset, .unset, .unset, .unset, .unset, .unset] [(.int (2 : Int32)), (.ref b183), (.long j2), (.int (2 : Int32)), (.ref b299), (.ref b299)])
    have cpo339 := q332
    obtain ⟨clo339, Aro339, qco339, So339, Mo339, Ho339, Go339⟩ := cpo339
    have hin340 : ¬ ((2 : Int32) < 0 ∨ clo339.slots.size ≤ (2 : Int32).toNatClampNeg) := (inb_of So339 ⟨by decide, by decide⟩)
    refine Go.of (fun t k => Xx336.laload hx (j := (2 : Int32)) (v := (.long j1)) (by rw [e329]; exact Aro339.1) (State.isArrayOf_alike hZ.alike Aro339.2.1) Aro339.2.2 hin340 (Ho339.at hin340 rfl) (g := (mkF m 262 #[.val (.long j1), .second, .val (.long j2), .second, .val (.long j3), .second, .val (.long j4), .second, .val (.int i1), .val (.int ((i1 &&& (2147483647 : Int32)) % (7 : Int32))), .val (.ref b1), .val (.int v64_78), .val (.ref b80), .val (.ref b183), .unset, .unset, .unset, .unset, .unset, .unset, .unset, .unset] [(.int (2 : Int32)), (.ref b183), (.long j2), (.int (2 : Int32)), (.ref b299), (.ref b299)])) rfl rfl (hb hby at_262) t k) ?_
    show Go p e below Qo T329 (mkF m 263 #[.val (.long j1), .second, .val (.long j2), .second, .val (.long j3), .second, .val (.long j4), .second, .val (.int i1), .val (.int ((i1 &&& (2147483647 : Int32)) % (7 : Int32))), .val (.ref b1), .val (.int v64_78), .val (.ref b80), .val (.ref b183), .unset, .unset, .unset, .unset, .unset, .unset, .unset, .unset] [(.long j1), (.long j2), (.int (2 : Int32)), (.ref b299), (.ref b299)])
    refine Go.of (fun t k => XS.ladd Xx336.here hx rfl (hb hby at_263) rfl k) ?_
    show Go p e below Qo T329 (mkF m 264 #[.val (.long j1), .second, .val (.long j2), .second, .val (.long j3), .second, .val (.long j4), .second, .val (.int i1), .val (.int ((i1 &&& (2147483647 : Int32)) % (7 : Int32))), .val (.ref b1), .val (.int v64_78), .val (.ref b80), .val (.ref b183), .unset, .unset, .unset, .unset, .unset, .unset, .unset, .unset] [(.long (j2 + j1)), (.int (2 : Int32)), (.ref b299), (.ref b299)])
    have cpo341 := q333
    obtain ⟨clo341, Aro341, qco341, So341, Mo341, Ho341, Go341⟩ := cpo341
    have hin342 : ¬ ((2 : Int32) < 0 ∨ clo341.slots.size ≤ (2 : Int32).toNatClampNeg) := (inb_of So341 ⟨by decide, by decide⟩)
    obtain ⟨T343, h343, X343, e343, W343, st343⟩ := stJ Xx336 hx hZ e329 Aro341 (j := (2 : Int32)) hin342 (g := (mkF m 264 #[.val (.long j1), .second, .val (.long j2), .second, .val (.long j3), .second, .val (.long j4), .second, .val (.int i1), .val (.int ((i1 &&& (2147483647 : Int32)) % (7 : Int32))), .val (.ref b1), .val (.int v64_78), .val (.ref b80), .val (.ref b183), .unset, .unset, .unset, .unset, .unset, .unset, .unset, .unset] [(.long (j2 + j1)), (.int (2 : Int32)), (.ref b299), (.ref b299)])) rfl rfl (hb hby at_264)
    have q344 : Arv Z h343 b1 k1 .long (12 : Int32) [(.long j4), (.long j4), (.long j4), (.long j4), (.long j4), (.long y5), (.long y6), (.long y7), (.long y8), (.long y9), (.long y10), (.long y11)] (.long (0 : Int64)) := q330.other W343 ne300
    have q345 : Arv Z h343 b80 k80 .long (12 : Int32) [(.long j4), (.long j1), (.long j2), (.long j3), (.long (j4 ^^^ j1)), (.long j1), (.long j2), (.long j3), (.long (j1 ^^^ j2)), (.long (j2 ^^^ j3)), (.long (j3 - j1)), (.long j4)] (.long (0 : Int64)) := q331.other W343 ne301
    have q346 : Arv Z h343 b183 k183 .long (12 : Int32) [(.long j3), (.long j4), (.long j1), (.long j2), (.long (j1 + j2)), (.long j3), (.long j4), (.long (j1 ^^^ j3)), (.long j2), (.long j1), (.long (j4 - j2)), (.long (j3 - j4))] (.long (0 : Int64)) := q332.other W343 ne302
    have q347 : Arv Z h343 b299 k299 .long (12 : Int32) [(.long (j4 + j3)), (.long (j1 + j4)), (.long (j2 + j1)), (.long (0 : Int64)), (.long (0 : Int64)), (.long (0 : Int64)), (.long (0 : Int64)), (.long (0 : Int64)), (.long (0 : Int64)), (.long (0 : Int64)), (.long (0 : Int64)), (.long (0 : Int64))] (.long (0 : Int64)) := Arv.set Aro341 qco341 So341 Mo341 Ho341 Go341 rfl W343 2 rfl (Nat.le_of_ble_eq_true rfl)
    have Z348 : n0 ≤ h343.size := Nat.le_trans Z334 (Keep.of_wr W343).1
    have N349 := Fr.snoc X343 Nx336 g303
    obtain ⟨Lx350, Xx350, Nx350⟩ := own_locs X343 N349
    refine Go.of st343 ?_
    show Go p e below Qo T343 (mkF m 265 #[.val (.long j1), .second, .val (.long j2), .second, .val (.long j3), .second, .val (.long j4), .second, .val (.int i1), .val (.int ((i1 &&& (2147483647 : Int32)) % (7 : Int32))), .val (.ref b1), .val (.int v64_78), .val (.ref b80), .val (.ref b183), .unset, .unset, .unset, .unset, .unset, .unset, .unset, .unset] [(.ref b299)])
    refine Go.of (fun t k => XS.dup Xx350.here hx rfl (hb hby at_265) rfl rfl k) ?_
    show Go p e below Qo T343 (mkF m 266 #[.val (.long j1), .second, .val (.long j2), .second, .val (.long j3), .second, .val (.long j4), .second, .val (.int i1), .val (.int ((i1 &&& (2147483647 : Int32)) % (7 : Int32))), .val (.ref b1), .val (.int v64_78), .val (.ref b80), .val (.ref b183), .unset, .unset, .unset, .unset, .unset, .unset, .unset, .unset] [(.ref b299), (.ref b299)])
    refine Go.of (fun t k => XS.iconst Xx350.here hx rfl (hb hby at_266) k) ?_
    show Go p e below Qo T343 (mkF m 267 #[.val (.long j1), .second, .val (.long j2), .second, .val (.long j3), .second, .val (.long j4), .second, .val (.int i1), .val (.int ((i1 &&& (2147483647 : Int32)) % (7 : Int32))), .val (.ref b1), .val (.int v64_78), .val (.ref b80), .val (.ref b183), .unset, .unset, .unset, .unset, .unset, .unset, .unset, .unset] [(.int (3 : Int32)), (.ref b299), (.ref b299)])
    refine Go.of (fun t k => XS.aload Xx350.here hx rfl (hb hby at_267) rfl rfl k) ?_
    show Go p e below Qo T343 (mkF m 269 #[.val (.long j1), .second, .val (.long j2), .second, .val (.long j3), .second, .val (.long j4), .second, .val (.int i1), .val (.int ((i1 &&& (2147483647 : Int32)) % (7 : Int32))), .val (.ref b1), .val (.int v64_78), .val (.ref b80), .val (.ref b183), .unset, .unset, .unset, .unset, .unset, .unset, .unset, .unset] [(.ref b80), (.int (3 : Int32)), (.ref b299), (.ref b299)])
    refine Go.of (fun t k => XS.iconst Xx350.here hx rfl (hb hby at_269) k) ?_
    show Go p e below Qo T343 (mkF m 270 #[.val (.long j1), .second, .val (.long j2), .second, .val (.long j3), .second, .val (.long j4), .second, .val (.int i1), .val (.int ((i1 &&& (2147483647 : Int32)) % (7 : Int32))), .val (.ref b1), .val (.int v64_78), .val (.ref b80), .val (.ref b183), .unset, .unset, .unset, .unset, .unset, .unset, .unset, .unset] [(.int (3 : Int32)), (.ref b80), (.int (3 : Int32)), (.ref b299), (.ref b299)])
    have cpo351 := q345
    obtain ⟨clo351, Aro351, qco351, So351, Mo351, Ho351, Go351⟩ := cpo351
    have hin352 : ¬ ((3 : Int32) < 0 ∨ clo351.slots.size ≤ (3 : Int32).toNatClampNeg) := (inb_of So351 ⟨by decide, by decide⟩)
    refine Go.of (fun t k => Xx350.laload hx (j := (3 : Int32)) (v := (.long j3)) (by rw [e343]; exact Aro351.1) (State.isArrayOf_alike hZ.alike Aro351.2.1) Aro351.2.2 hin352 (Ho351.at hin352 rfl) (g := (mkF m 270 #[.val (.long j1), .second, .val (.long j2), .second, .val (.long j3), .second, .val (.long j4), .second, .val (.int i1), .val (.int ((i1 &&& (2147483647 : Int32)) % (7 : Int32))), .val (.ref b1), .val (.int v64_78), .val (.ref b80), .val (.ref b183), .unset, .unset, .unset, .unset, .unset, .unset, .unset, .unset] [(.int (3 : Int32)), (.ref b80), (.int (3 : Int32)), (.ref b299), (.ref b299)])) rfl rfl (hb hby at_270) t k) ?_
    show Go p e below Qo T343 (mkF m 271 #[.val (.long j1), .second, .val (.long j2), .second, .val (.long j3), .second, .val (.long j4), .second, .val (.int i1), .val (.int ((i1 &&& (2147483647 : Int32)) % (7 : Int32))), .val (.ref b1), .val (.int v64_78), .val (.ref b80), .val (.ref b183), .unset, .unset, .unset, .unset, .unset, .unset, .unset, .unset] [(.long j3), (.int (3 : Int32)), (.ref b299), (.ref b299)])
    refine Go.of (fun t k => XS.aload Xx350.here hx rfl (hb hby at_271) rfl rfl k) ?_
    show Go p e below Qo T343 (mkF m 273 #[.val (.long j1), .second, .val (.long j2), .second, .val (.long j3), .second, .val (.long j4), .second, .val (.int i1), .val (.int ((i1 &&& (2147483647 : Int32)) % (7 : Int32))), .val (.ref b1), .val (.int v64_78), .val (.ref b80), .val (.ref b183), .unset, .unset, .unset, .unset, .unset, .unset, .unset, .unset] [(.ref b183), (.long j3), (.int (3 : Int32)), (.ref b299), (.ref b299)])
    refine Go.of (fun t k => XS.iconst Xx350.here hx rfl (hb hby at_273) k) ?_
    show Go p e below Qo T343 (mkF m 274 #[.val (.long j1), .second, .val (.long j2), .second, .val (.long j3), .second, .val (.long j4), .second, .val (.int i1), .val (.int ((i1 &&& (2147483647 : Int32)) % (7 : Int32))), .val (.ref b1), .val (.int v64_78), .val (.ref b80), .val (.ref b183), .unset, .unset, .unset, .unset, .unset, .unset, .unset, .unset] [(.int (3 : Int32)), (.ref b183), (.long j3), (.int (3 : Int32)), (.ref b299), (.ref b299)])
    have cpo353 := q346
    obtain ⟨clo353, Aro353, qco353, So353, Mo353, Ho353, Go353⟩ := cpo353
    have hin354 : ¬ ((3 : Int32) < 0 ∨ clo353.slots.size ≤ (3 : Int32).toNatClampNeg) := (inb_of So353 ⟨by decide, by decide⟩)
    refine Go.of (fun t k => Xx350.laload hx (j := (3 : Int32)) (v := (.long j2)) (by rw [e343]; exact Aro353.1) (State.isArrayOf_alike hZ.alike Aro353.2.1) Aro353.2.2 hin354 (Ho353.at hin354 rfl) (g := (mkF m 274 #[.val (.long j1), .second, .val (.long j2), .second, .val (.long j3), .second, .val (.long j4), .second, .val (.int i1), .val (.int ((i1 &&& (2147483647 : Int32)) % (7 : Int32))), .val (.ref b1), .val (.int v64_78), .val (.ref b80), .val (.ref b183), .unset, .unset, .unset, .unset, .unset, .unset, .unset, .unset] [(.int (3 : Int32)), (.ref b183), (.long j3), (.int (3 : Int32)), (.ref b299), (.ref b299)])) rfl rfl (hb hby at_274) t k) ?_
    show Go p e below Qo T343 (mkF m 275 #[.val (.long j1), .second, .val (.long j2), .second, .val (.long j3), .second, .val (.long j4), .second, .val (.int i1), .val (.int ((i1 &&& (2147483647 : Int32)) % (7 : Int32))), .val (.ref b1), .val (.int v64_78), .val (.ref b80), .val (.ref b183), .unset, .unset, .unset, .unset, .unset, .unset, .unset, .unset] [(.long j2), (.long j3), (.int (3 : Int32)), (.ref b299), (.ref b299)])
    refine Go.of (fun t k => XS.ladd Xx350.here hx rfl (hb hby at_275) rfl k) ?_
    show Go p e below Qo T343 (mkF m 276 #[.val (.long j1), .second, .val (.long j2), .second, .val (.long j3), .second, .val (.long j4), .second, .val (.int i1), .val (.int ((i1 &&& (2147483647 : Int32)) % (7 : Int32))), .val (.ref b1), .val (.int v64_78), .val (.ref b80), .val (.ref b183), .unset, .unset, .unset, .unset, .unset, .unset, .unset, .unset] [(.long (j3 + j2)), (.int (3 : Int32)), (.ref b299), (.ref b299)])
    have cpo355 := q347
    obtain ⟨clo355, Aro355, qco355, So355, Mo355, Ho355, Go355⟩ := cpo355
    have hin356 : ¬ ((3 : Int32) < 0 ∨ clo355.slots.size ≤ (3 : Int32).toNatClampNeg) := (inb_of So355 ⟨by decide, by decide⟩)
    obtain ⟨T357, h357, X357, e357, W357, st357⟩ := stJ Xx350 hx hZ e343 Aro355 (j := (3 : Int32)) hin356 (g := (mkF m 276 #[.val (.long j1), .second, .val (.long j2), .second, .val (.long j3), .second, .val (.long j4), .second, .val (.int i1), .val (.int ((i1 &&& (2147483647 : Int32)) % (7 : Int32))), .val (.ref b1), .val (.int v64_78), .val (.ref b80), .val (.ref b183), .unset, .unset, .unset, .unset, .unset, .unset, .unset, .unset] [(.long (j3 + j2)), (.int (3 : Int32)), (.ref b299), (.ref b299)])) rfl rfl (hb hby at_276)
    have q358 : Arv Z h357 b1 k1 .long (12 : Int32) [(.long j4), (.long j4), (.long j4), (.long j4), (.long j4), (.long y5), (.long y6), (.long y7), (.long y8), (.long y9), (.long y10), (.long y11)] (.long (0 : Int64)) := q344.other W357 ne300
    have q359 : Arv Z h357 b80 k80 .long (12 : Int32) [(.long j4), (.long j1), (.long j2), (.long j3), (.long (j4 ^^^ j1)), (.long j1), (.long j2), (.long j3), (.long (j1 ^^^ j2)), (.long (j2 ^^^ j3)), (.long (j3 - j1)), (.long j4)] (.long (0 : Int64)) := q345.other W357 ne301
    have q360 : Arv Z h357 b183 k183 .long (12 : Int32) [(.long j3), (.long j4), (.long j1), (.long j2), (.long (j1 + j2)), (.long j3), (.long j4), (.long (j1 ^^^ j3)), (.long j2), (.long j1), (.long (j4 - j2)), (.long (j3 - j4))] (.long (0 : Int64)) := q346.other W357 ne302
    have q361 : Arv Z h357 b299 k299 .long (12 : Int32) [(.long (j4 + j3)), (.long (j1 + j4)), (.long (j2 + j1)), (.long (j3 + j2)), (.long (0 : Int64)), (.long (0 : Int64)), (.long (0 : Int64)), (.long (0 : Int64)), (.long (0 : Int64)), (.long (0 : Int64)), (.long (0 : Int64)), (.long (0 : Int64))] (.long (0 : Int64)) := Arv.set Aro355 qco355 So355 Mo355 Ho355 Go355 rfl W357 3 rfl (Nat.le_of_ble_eq_true rfl)
    have Z362 : n0 ≤ h357.size := Nat.le_trans Z348 (Keep.of_wr W357).1
    have N363 := Fr.snoc X357 Nx350 g303
    obtain ⟨Lx364, Xx364, Nx364⟩ := own_locs X357 N363
    refine Go.of st357 ?_
    show Go p e below Qo T357 (mkF m 277 #[.val (.long j1), .second, .val (.long j2), .second, .val (.long j3), .second, .val (.long j4), .second, .val (.int i1), .val (.int ((i1 &&& (2147483647 : Int32)) % (7 : Int32))), .val (.ref b1), .val (.int v64_78), .val (.ref b80), .val (.ref b183), .unset, .unset, .unset, .unset, .unset, .unset, .unset, .unset] [(.ref b299)])
    refine Go.of (fun t k => XS.dup Xx364.here hx rfl (hb hby at_277) rfl rfl k) ?_
    show Go p e below Qo T357 (mkF m 278 #[.val (.long j1), .second, .val (.long j2), .second, .val (.long j3), .second, .val (.long j4), .second, .val (.int i1), .val (.int ((i1 &&& (2147483647 : Int32)) % (7 : Int32))), .val (.ref b1), .val (.int v64_78), .val (.ref b80), .val (.ref b183), .unset, .unset, .unset, .unset, .unset, .unset, .unset, .unset] [(.ref b299), (.ref b299)])
    refine Go.of (fun t k => XS.iconst Xx364.here hx rfl (hb hby at_278) k) ?_
    show Go p e below Qo T357 (mkF m 279 #[.val (.long j1), .second, .val (.long j2), .second, .val (.long j3), .second, .val (.long j4), .second, .val (.int i1), .val (.int ((i1 &&& (2147483647 : Int32)) % (7 : Int32))), .val (.ref b1), .val (.int v64_78), .val (.ref b80), .val (.ref b183), .unset, .unset, .unset, .unset, .unset, .unset, .unset, .unset] [(.int (4 : Int32)), (.ref b299), (.ref b299)])
    refine Go.of (fun t k => XS.aload Xx364.here hx rfl (hb hby at_279) rfl rfl k) ?_
    show Go p e below Qo T357 (mkF m 281 #[.val (.long j1), .second, .val (.long j2), .second, .val (.long j3), .second, .val (.long j4), .second, .val (.int i1), .val (.int ((i1 &&& (2147483647 : Int32)) % (7 : Int32))), .val (.ref b1), .val (.int v64_78), .val (.ref b80), .val (.ref b183), .unset, .unset, .unset, .unset, .unset, .unset, .unset, .unset] [(.ref b80), (.int (4 : Int32)), (.ref b299), (.ref b299)])
    refine Go.of (fun t k => XS.iconst Xx364.here hx rfl (hb hby at_281) k) ?_
    show Go p e below Qo T357 (mkF m 282 #[.val (.long j1), .second, .val (.long j2), .second, .val (.long j3), .second, .val (.long j4), .second, .val (.int i1), .val (.int ((i1 &&& (2147483647 : Int32)) % (7 : Int32))), .val (.ref b1), .val (.int v64_78), .val (.ref b80), .val (.ref b183), .unset, .unset, .unset, .unset, .unset, .unset, .unset, .unset] [(.int (4 : Int32)), (.ref b80), (.int (4 : Int32)), (.ref b299), (.ref b299)])
    have cpo365 := q359
    obtain ⟨clo365, Aro365, qco365, So365, Mo365, Ho365, Go365⟩ := cpo365
    have hin366 : ¬ ((4 : Int32) < 0 ∨ clo365.slots.size ≤ (4 : Int32).toNatClampNeg) := (inb_of So365 ⟨by decide, by decide⟩)
    refine Go.of (fun t k => Xx364.laload hx (j := (4 : Int32)) (v := (.long (j4 ^^^ j1))) (by rw [e357]; exact Aro365.1) (State.isArrayOf_alike hZ.alike Aro365.2.1) Aro365.2.2 hin366 (Ho365.at hin366 rfl) (g := (mkF m 282 #[.val (.long j1), .second, .val (.long j2), .second, .val (.long j3), .second, .val (.long j4), .second, .val (.int i1), .val (.int ((i1 &&& (2147483647 : Int32)) % (7 : Int32))), .val (.ref b1), .val (.int v64_78), .val (.ref b80), .val (.ref b183), .unset, .unset, .unset, .unset, .unset, .unset, .unset, .unset] [(.int (4 : Int32)), (.ref b80), (.int (4 : Int32)), (.ref b299), (.ref b299)])) rfl rfl (hb hby at_282) t k) ?_
    show Go p e below Qo T357 (mkF m 283 #[.val (.long j1), .second, .val (.long j2), .second, .val (.long j3), .second, .val (.long j4), .second, .val (.int i1), .val (.int ((i1 &&& (2147483647 : Int32)) % (7 : Int32))), .val (.ref b1), .val (.int v64_78), .val (.ref b80), .val (.ref b183), .unset, .unset, .unset, .unset, .unset, .unset, .unset, .unset] [(.long (j4 ^^^ j1)), (.int (4 : Int32)), (.ref b299), (.ref b299)])
    refine Go.of (fun t k => XS.aload Xx364.here hx rfl (hb hby at_283) rfl rfl k) ?_
    show Go p e below Qo T357 (mkF m 285 #[.val (.long j1), .second, .val (.long j2), .second, .val (.long j3), .second, .val (.long j4), .second, .val (.int i1), .val (.int ((i1 &&& (2147483647 : Int32)) % (7 : Int32))), .val (.ref b1), .val (.int v64_78), .val (.ref b80), .val (.ref b183), .unset, .unset, .unset, .unset, .unset, .unset, .unset, .unset] [(.ref b183), (.long (j4 ^^^ j1)), (.int (4 : Int32)), (.ref b299), (.ref b299)])
    refine Go.of (fun t k => XS.iconst Xx364.here hx rfl (hb hby at_285) k) ?_
    show Go p e below Qo T357 (mkF m 286 #[.val (.long j1), .second, .val (.long j2), .second, .val (.long j3), .second, .val (.long j4), .second, .val (.int i1), .val (.int ((i1 &&& (2147483647 : Int32)) % (7 : Int32))), .val (.ref b1), .val (.int v64_78), .val (.ref b80), .val (.ref b183), .unset, .unset, .unset, .unset, .unset, .unset, .unset, .unset] [(.int (4 : Int32)), (.ref b183), (.long (j4 ^^^ j1)), (.int (4 : Int32)), (.ref b299), (.ref b299)])
    have cpo367 := q360
    obtain ⟨clo367, Aro367, qco367, So367, Mo367, Ho367, Go367⟩ := cpo367
    have hin368 : ¬ ((4 : Int32) < 0 ∨ clo367.slots.size ≤ (4 : Int32).toNatClampNeg) := (inb_of So367 ⟨by decide, by decide⟩)
    refine Go.of (fun t k => Xx364.laload hx (j := (4 : Int32)) (v := (.long (j1 + j2))) (by rw [e357]; exact Aro367.1) (State.isArrayOf_alike hZ.alike Aro367.2.1) Aro367.2.2 hin368 (Ho367.at hin368 rfl) (g := (mkF m 286 #[.val (.long j1), .second, .val (.long j2), .second, .val (.long j3), .second, .val (.long j4), .second, .val (.int i1), .val (.int ((i1 &&& (2147483647 : Int32)) % (7 : Int32))), .val (.ref b1), .val (.int v64_78), .val (.ref b80), .val (.ref b183), .unset, .unset, .unset, .unset, .unset, .unset, .unset, .unset] [(.int (4 : Int32)), (.ref b183), (.long (j4 ^^^ j1)), (.int (4 : Int32)), (.ref b299), (.ref b299)])) rfl rfl (hb hby at_286) t k) ?_
    show Go p e below Qo T357 (mkF m 287 #[.val (.long j1), .second, .val (.long j2), .second, .val (.long j3), .second, .val (.long j4), .second, .val (.int i1), .val (.int ((i1 &&& (2147483647 : Int32)) % (7 : Int32))), .val (.ref b1), .val (.int v64_78), .val (.ref b80), .val (.ref b183), .unset, .unset, .unset, .unset, .unset, .unset, .unset, .unset] [(.long (j1 + j2)), (.long (j4 ^^^ j1)), (.int (4 : Int32)), (.ref b299), (.ref b299)])
    refine Go.of (fun t k => XS.ladd Xx364.here hx rfl (hb hby at_287) rfl k) ?_
    show Go p e below Qo T357 (mkF m 288 #[.val (.long j1), .second, .val (.long j2), .second, .val (.long j3), .second, .val (.long j4), .second, .val (.int i1), .val (.int ((i1 &&& (2147483647 : Int32)) % (7 : Int32))), .val (.ref b1), .val (.int v64_78), .val (.ref b80), .val (.ref b183), .unset, .unset, .unset, .unset, .unset, .unset, .unset, .unset] [(.long ((j4 ^^^ j1) + (j1 + j2))), (.int (4 : Int32)), (.ref b299), (.ref b299)])
    have cpo369 := q361
    obtain ⟨clo369, Aro369, qco369, So369, Mo369, Ho369, Go369⟩ := cpo369
    have hin370 : ¬ ((4 : Int32) < 0 ∨ clo369.slots.size ≤ (4 : Int32).toNatClampNeg) := (inb_of So369 ⟨by decide, by decide⟩)
    obtain ⟨T371, h371, X371, e371, W371, st371⟩ := stJ Xx364 hx hZ e357 Aro369 (j := (4 : Int32)) hin370 (g := (mkF m 288 #[.val (.long j1), .second, .val (.long j2), .second, .val (.long j3), .second, .val (.long j4), .second, .val (.int i1), .val (.int ((i1 &&& (2147483647 : Int32)) % (7 : Int32))), .val (.ref b1), .val (.int v64_78), .val (.ref b80), .val (.ref b183), .unset, .unset, .unset, .unset, .unset, .unset, .unset, .unset] [(.long ((j4 ^^^ j1) + (j1 + j2))), (.int (4 : Int32)), (.ref b299), (.ref b299)])) rfl rfl (hb hby at_288)
    have q372 : Arv Z h371 b1 k1 .long (12 : Int32) [(.long j4), (.long j4), (.long j4), (.long j4), (.long j4), (.long y5), (.long y6), (.long y7), (.long y8), (.long y9), (.long y10), (.long y11)] (.long (0 : Int64)) := q358.other W371 ne300
    have q373 : Arv Z h371 b80 k80 .long (12 : Int32) [(.long j4), (.long j1), (.long j2), (.long j3), (.long (j4 ^^^ j1)), (.long j1), (.long j2), (.long j3), (.long (j1 ^^^ j2)), (.long (j2 ^^^ j3)), (.long (j3 - j1)), (.long j4)] (.long (0 : Int64)) := q359.other W371 ne301
    have q374 : Arv Z h371 b183 k183 .long (12 : Int32) [(.long j3), (.long j4), (.long j1), (.long j2), (.long (j1 + j2)), (.long j3), (.long j4), (.long (j1 ^^^ j3)), (.long j2), (.long j1), (.long (j4 - j2)), (.long (j3 - j4))] (.long (0 : Int64)) := q360.other W371 ne302
    have q375 : Arv Z h371 b299 k299 .long (12 : Int32) [(.long (j4 + j3)), (.long (j1 + j4)), (.long (j2 + j1)), (.long (j3 + j2)), (.long ((j4 ^^^ j1) + (j1 + j2))), (.long (0 : Int64)), (.long (0 : Int64)), (.long (0 : Int64)), (.long (0 : Int64)), (.long (0 : Int64)), (.long (0 : Int64)), (.long (0 : Int64))] (.long (0 : Int64)) := Arv.set Aro369 qco369 So369 Mo369 Ho369 Go369 rfl W371 4 rfl (Nat.le_of_ble_eq_true rfl)
    have Z376 : n0 ≤ h371.size := Nat.le_trans Z362 (Keep.of_wr W371).1
    have N377 := Fr.snoc X371 Nx364 g303
    obtain ⟨Lx378, Xx378, Nx378⟩ := own_locs X371 N377
    refine Go.of st371 ?_
    show Go p e below Qo T371 (mkF m 289 #[.val (.long j1), .second, .val (.long j2), .second, .val (.long j3), .second, .val (.long j4), .second, .val (.int i1), .val (.int ((i1 &&& (2147483647 : Int32)) % (7 : Int32))), .val (.ref b1), .val (.int v64_78), .val (.ref b80), .val (.ref b183), .unset, .unset, .unset, .unset, .unset, .unset, .unset, .unset] [(.ref b299)])
    refine Go.of (fun t k => XS.dup Xx378.here hx rfl (hb hby at_289) rfl rfl k) ?_
    show Go p e below Qo T371 (mkF m 290 #[.val (.long j1), .second, .val (.long j2), .second, .val (.long j3), .second, .val (.long j4), .second, .val (.int i1), .val (.int ((i1 &&& (2147483647 : Int32)) % (7 : Int32))), .val (.ref b1), .val (.int v64_78), .val (.ref b80), .val (.ref b183), .unset, .unset, .unset, .unset, .unset, .unset, .unset, .unset] [(.ref b299), (.ref b299)])
    refine Go.of (fun t k => XS.iconst Xx378.here hx rfl (hb hby at_290) k) ?_
    show Go p e below Qo T371 (mkF m 291 #[.val (.long j1), .second, .val (.long j2), .second, .val (.long j3), .second, .val (.long j4), .second, .val (.int i1), .val (.int ((i1 &&& (2147483647 : Int32)) % (7 : Int32))), .val (.ref b1), .val (.int v64_78), .val (.ref b80), .val (.ref b183), .unset, .unset, .unset, .unset, .unset, .unset, .unset, .unset] [(.int (5 : Int32)), (.ref b299), (.ref b299)])
    refine Go.of (fun t k => XS.aload Xx378.here hx rfl (hb hby at_291) rfl rfl k) ?_
    show Go p e below Qo T371 (mkF m 293 #[.val (.long j1), .second, .val (.long j2), .second, .val (.long j3), .second, .val (.long j4), .second, .val (.int i1), .val (.int ((i1 &&& (2147483647 : Int32)) % (7 : Int32))), .val (.ref b1), .val (.int v64_78), .val (.ref b80), .val (.ref b183), .unset, .unset, .unset, .unset, .unset, .unset, .unset, .unset] [(.ref b80), (.int (5 : Int32)), (.ref b299), (.ref b299)])
    refine Go.of (fun t k => XS.iconst Xx378.here hx rfl (hb hby at_293) k) ?_
    show Go p e below Qo T371 (mkF m 294 #[.val (.long j1), .second, .val (.long j2), .second, .val (.long j3), .second, .val (.long j4), .second, .val (.int i1), .val (.int ((i1 &&& (2147483647 : Int32)) % (7 : Int32))), .val (.ref b1), .val (.int v64_78), .val (.ref b80), .val (.ref b183), .unset, .unset, .unset, .unset, .unset, .unset, .unset, .unset] [(.int (5 : Int32)), (.ref b80), (.int (5 : Int32)), (.ref b299), (.ref b299)])
    have cpo379 := q373
    obtain ⟨clo379, Aro379, qco379, So379, Mo379, Ho379, Go379⟩ := cpo379
    have hin380 : ¬ ((5 : Int32) < 0 ∨ clo379.slots.size ≤ (5 : Int32).toNatClampNeg) := (inb_of So379 ⟨by decide, by decide⟩)
    refine Go.of (fun t k => Xx378.laload hx (j := (5 : Int32)) (v := (.long j1)) (by rw [e371]; exact Aro379.1) (State.isArrayOf_alike hZ.alike Aro379.2.1) Aro379.2.2 hin380 (Ho379.at hin380 rfl) (g := (mkF m 294 #[.val (.long j1), .second, .val (.long j2), .second, .val (.long j3), .second, .val (.long j4), .second, .val (.int i1), .val (.int ((i1 &&& (2147483647 : Int32)) % (7 : Int32))), .val (.ref b1), .val (.int v64_78), .val (.ref b80), .val (.ref b183), .unset, .unset, .unset, .unset, .unset, .unset, .unset, .unset] [(.int (5 : Int32)), (.ref b80), (.int (5 : Int32)), (.ref b299), (.ref b299)])) rfl rfl (hb hby at_294) t k) ?_
    show Go p e below Qo T371 (mkF m 295 #[.val (.long j1), .second, .val (.long j2), .second, .val (.long j3), .second, .val (.long j4), .second, .val (.int i1), .val (.int ((i1 &&& (2147483647 : Int32)) % (7 : Int32))), .val (.ref b1), .val (.int v64_78), .val (.ref b80), .val (.ref b183), .unset, .unset, .unset, .unset, .unset, .unset, .unset, .unset] [(.long j1), (.int (5 : Int32)), (.ref b299), (.ref b299)])
    refine Go.of (fun t k => XS.aload Xx378.here hx rfl (hb hby at_295) rfl rfl k) ?_
    show Go p e below Qo T371 (mkF m 297 #[.val (.long j1), .second, .val (.long j2), .second, .val (.long j3), .second, .val (.long j4), .second, .val (.int i1), .val (.int ((i1 &&& (2147483647 : Int32)) % (7 : Int32))), .val (.ref b1), .val (.int v64_78), .val (.ref b80), .val (.ref b183), .unset, .unset, .unset, .unset, .unset, .unset, .unset, .unset] [(.ref b183), (.long j1), (.int (5 : Int32)), (.ref b299), (.ref b299)])
    refine Go.of (fun t k => XS.iconst Xx378.here hx rfl (hb hby at_297) k) ?_
    show Go p e below Qo T371 (mkF m 298 #[.val (.long j1), .second, .val (.long j2), .second, .val (.long j3), .second, .val (.long j4), .second, .val (.int i1), .val (.int ((i1 &&& (2147483647 : Int32)) % (7 : Int32))), .val (.ref b1), .val (.int v64_78), .val (.ref b80), .val (.ref b183), .unset, .unset, .unset, .unset, .unset, .unset, .unset, .unset] [(.int (5 : Int32)), (.ref b183), (.long j1), (.int (5 : Int32)), (.ref b299), (.ref b299)])
    have cpo381 := q374
    obtain ⟨clo381, Aro381, qco381, So381, Mo381, Ho381, Go381⟩ := cpo381
    have hin382 : ¬ ((5 : Int32) < 0 ∨ clo381.slots.size ≤ (5 : Int32).toNatClampNeg) := (inb_of So381 ⟨by decide, by decide⟩)
    refine Go.of (fun t k => Xx378.laload hx (j := (5 : Int32)) (v := (.long j3)) (by rw [e371]; exact Aro381.1) (State.isArrayOf_alike hZ.alike Aro381.2.1) Aro381.2.2 hin382 (Ho381.at hin382 rfl) (g := (mkF m 298 #[.val (.long j1), .second, .val (.long j2), .second, .val (.long j3), .second, .val (.long j4), .second, .val (.int i1), .val (.int ((i1 &&& (2147483647 : Int32)) % (7 : Int32))), .val (.ref b1), .val (.int v64_78), .val (.ref b80), .val (.ref b183), .unset, .unset, .unset, .unset, .unset, .unset, .unset, .unset] [(.int (5 : Int32)), (.ref b183), (.long j1), (.int (5 : Int32)), (.ref b299), (.ref b299)])) rfl rfl (hb hby at_298) t k) ?_
    show Go p e below Qo T371 (mkF m 299 #[.val (.long j1), .second, .val (.long j2), .second, .val (.long j3), .second, .val (.long j4), .second, .val (.int i1), .val (.int ((i1 &&& (2147483647 : Int32)) % (7 : Int32))), .val (.ref b1), .val (.int v64_78), .val (.ref b80), .val (.ref b183), .unset, .unset, .unset, .unset, .unset, .unset, .unset, .unset] [(.long j3), (.long j1), (.int (5 : Int32)), (.ref b299), (.ref b299)])
    refine Go.of (fun t k => XS.ladd Xx378.here hx rfl (hb hby at_299) rfl k) ?_
    show Go p e below Qo T371 (mkF m 300 #[.val (.long j1), .second, .val (.long j2), .second, .val (.long j3), .second, .val (.long j4), .second, .val (.int i1), .val (.int ((i1 &&& (2147483647 : Int32)) % (7 : Int32))), .val (.ref b1), .val (.int v64_78), .val (.ref b80), .val (.ref b183), .unset, .unset, .unset, .unset, .unset, .unset, .unset, .unset] [(.long (j1 + j3)), (.int (5 : Int32)), (.ref b299), (.ref b299)])
    have cpo383 := q375
    obtain ⟨clo383, Aro383, qco383, So383, Mo383, Ho383, Go383⟩ := cpo383
    have hin384 : ¬ ((5 : Int32) < 0 ∨ clo383.slots.size ≤ (5 : Int32).toNatClampNeg) := (inb_of So383 ⟨by decide, by decide⟩)
    obtain ⟨T385, h385, X385, e385, W385, st385⟩ := stJ Xx378 hx hZ e371 Aro383 (j := (5 : Int32)) hin384 (g := (mkF m 300 #[.val (.long j1), .second, .val (.long j2), .second, .val (.long j3), .second, .val (.long j4), .second, .val (.int i1), .val (.int ((i1 &&& (2147483647 : Int32)) % (7 : Int32))), .val (.ref b1), .val (.int v64_78), .val (.ref b80), .val (.ref b183), .unset, .unset, .unset, .unset, .unset, .unset, .unset, .unset] [(.long (j1 + j3)), (.int (5 : Int32)), (.ref b299), (.ref b299)])) rfl rfl (hb hby at_300)
    have q386 : Arv Z h385 b1 k1 .long (12 : Int32) [(.long j4), (.long j4), (.long j4), (.long j4), (.long j4), (.long y5), (.long y6), (.long y7), (.long y8), (.long y9), (.long y10), (.long y11)] (.long (0 : Int64)) := q372.other W385 ne300
    have q387 : Arv Z h385 b80 k80 .long (12 : Int32) [(.long j4), (.long j1), (.long j2), (.long j3), (.long (j4 ^^^ j1)), (.long j1), (.long j2), (.long j3), (.long (j1 ^^^ j2)), (.long (j2 ^^^ j3)), (.long (j3 - j1)), (.long j4)] (.long (0 : Int64)) := q373.other W385 ne301
    have q388 : Arv Z h385 b183 k183 .long (12 : Int32) [(.long j3), (.long j4), (.long j1), (.long j2), (.long (j1 + j2)), (.long j3), (.long j4), (.long (j1 ^^^ j3)), (.long j2), (.long j1), (.long (j4 - j2)), (.long (j3 - j4))] (.long (0 : Int64)) := q374.other W385 ne302
    have q389 : Arv Z h385 b299 k299 .long (12 : Int32) [(.long (j4 + j3)), (.long (j1 + j4)), (.long (j2 + j1)), (.long (j3 + j2)), (.long ((j4 ^^^ j1) + (j1 + j2))), (.long (j1 + j3)), (.long (0 : Int64)), (.long (0 : Int64)), (.long (0 : Int64)), (.long (0 : Int64)), (.long (0 : Int64)), (.long (0 : Int64))] (.long (0 : Int64)) := Arv.set Aro383 qco383 So383 Mo383 Ho383 Go383 rfl W385 5 rfl (Nat.le_of_ble_eq_true rfl)
    have Z390 : n0 ≤ h385.size := Nat.le_trans Z376 (Keep.of_wr W385).1
    have N391 := Fr.snoc X385 Nx378 g303
    obtain ⟨Lx392, Xx392, Nx392⟩ := own_locs X385 N391
    refine Go.of st385 ?_
    show Go p e below Qo T385 (mkF m 301 #[.val (.long j1), .second, .val (.long j2), .second, .val (.long j3), .second, .val (.long j4), .second, .val (.int i1), .val (.int ((i1 &&& (2147483647 : Int32)) % (7 : Int32))), .val (.ref b1), .val (.int v64_78), .val (.ref b80), .val (.ref b183), .unset, .unset, .unset, .unset, .unset, .unset, .unset, .unset] [(.ref b299)])
    refine Go.of (fun t k => XS.dup Xx392.here hx rfl (hb hby at_301) rfl rfl k) ?_
    show Go p e below Qo T385 (mkF m 302 #[.val (.long j1), .second, .val (.long j2), .second, .val (.long j3), .second, .val (.long j4), .second, .val (.int i1), .val (.int ((i1 &&& (2147483647 : Int32)) % (7 : Int32))), .val (.ref b1), .val (.int v64_78), .val (.ref b80), .val (.ref b183), .unset, .unset, .unset, .unset, .unset, .unset, .unset, .unset] [(.ref b299), (.ref b299)])
    refine Go.of (fun t k => XS.bipush Xx392.here hx rfl (hb hby at_302) k) ?_
    show Go p e below Qo T385 (mkF m 304 #[.val (.long j1), .second, .val (.long j2), .second, .val (.long j3), .second, .val (.long j4), .second, .val (.int i1), .val (.int ((i1 &&& (2147483647 : Int32)) % (7 : Int32))), .val (.ref b1), .val (.int v64_78), .val (.ref b80), .val (.ref b183), .unset, .unset, .unset, .unset, .unset, .unset, .unset, .unset] [(.int (6 : Int32)), (.ref b299), (.ref b299)])
    refine Go.of (fun t k => XS.aload Xx392.here hx rfl (hb hby at_304) rfl rfl k) ?_
    show Go p e below Qo T385 (mkF m 306 #[.val (.long j1), .second, .val (.long j2), .second, .val (.long j3), .second, .val (.long j4), .second, .val (.int i1), .val (.int ((i1 &&& (2147483647 : Int32)) % (7 : Int32))), .val (.ref b1), .val (.int v64_78), .val (.ref b80), .val (.ref b183), .unset, .unset, .unset, .unset, .unset, .unset, .unset, .unset] [(.ref b80), (.int (6 : Int32)), (.ref b299), (.ref b299)])
    refine Go.of (fun t k => XS.bipush Xx392.here hx rfl (hb hby at_306) k) ?_
    show Go p e below Qo T385 (mkF m 308 #[.val (.long j1), .second, .val (.long j2), .second, .val (.long j3), .second, .val (.long j4), .second, .val (.int i1), .val (.int ((i1 &&& (2147483647 : Int32)) % (7 : Int32))), .val (.ref b1), .val (.int v64_78), .val (.ref b80), .val (.ref b183), .unset, .unset, .unset, .unset, .unset, .unset, .unset, .unset] [(.int (6 : Int32)), (.ref b80), (.int (6 : Int32)), (.ref b299), (.ref b299)])
    have cpo393 := q387
    obtain ⟨clo393, Aro393, qco393, So393, Mo393, Ho393, Go393⟩ := cpo393
    have hin394 : ¬ ((6 : Int32) < 0 ∨ clo393.slots.size ≤ (6 : Int32).toNatClampNeg) := (inb_of So393 ⟨by decide, by decide⟩)
    refine Go.of (fun t k => Xx392.laload hx (j := (6 : Int32)) (v := (.long j2)) (by rw [e385]; exact Aro393.1) (State.isArrayOf_alike hZ.alike Aro393.2.1) Aro393.2.2 hin394 (Ho393.at hin394 rfl) (g := (mkF m 308 #[.val (.long j1), .second, .val (.long j2), .second, .val (.long j3), .second, .val (.long j4), .second, .val (.int i1), .val (.int ((i1 &&& (2147483647 : Int32)) % (7 : Int32))), .val (.ref b1), .val (.int v64_78), .val (.ref b80), .val (.ref b183), .unset, .unset, .unset, .unset, .unset, .unset, .unset, .unset] [(.int (6 : Int32)), (.ref b80), (.int (6 : Int32)), (.ref b299), (.ref b299)])) rfl rfl (hb hby at_308) t k) ?_
    show Go p e below Qo T385 (mkF m 309 #[.val (.long j1), .second, .val (.long j2), .second, .val (.long j3), .second, .val (.long j4), .second, .val (.int i1), .val (.int ((i1 &&& (2147483647 : Int32)) % (7 : Int32))), .val (.ref b1), .val (.int v64_78), .val (.ref b80), .val (.ref b183), .unset, .unset, .unset, .unset, .unset, .unset, .unset, .unset] [(.long j2), (.int (6 : Int32)), (.ref b299), (.ref b299)])
    refine Go.of (fun t k => XS.aload Xx392.here hx rfl (hb hby at_309) rfl rfl k) ?_
    show Go p e below Qo T385 (mkF m 311 #[.val (.long j1), .second, .val (.long j2), .second, .val (.long j3), .second, .val (.long j4), .second, .val (.int i1), .val (.int ((i1 &&& (2147483647 : Int32)) % (7 : Int32))), .val (.ref b1), .val (.int v64_78), .val (.ref b80), .val (.ref b183), .unset, .unset, .unset, .unset, .unset, .unset, .unset, .unset] [(.ref b183), (.long j2), (.int (6 : Int32)), (.ref b299), (.ref b299)])
    refine Go.of (fun t k => XS.bipush Xx392.here hx rfl (hb hby at_311) k) ?_
    show Go p e below Qo T385 (mkF m 313 #[.val (.long j1), .second, .val (.long j2), .second, .val (.long j3), .second, .val (.long j4), .second, .val (.int i1), .val (.int ((i1 &&& (2147483647 : Int32)) % (7 : Int32))), .val (.ref b1), .val (.int v64_78), .val (.ref b80), .val (.ref b183), .unset, .unset, .unset, .unset, .unset, .unset, .unset, .unset] [(.int (6 : Int32)), (.ref b183), (.long j2), (.int (6 : Int32)), (.ref b299), (.ref b299)])
    have cpo395 := q388
    obtain ⟨clo395, Aro395, qco395, So395, Mo395, Ho395, Go395⟩ := cpo395
    have hin396 : ¬ ((6 : Int32) < 0 ∨ clo395.slots.size ≤ (6 : Int32).toNatClampNeg) := (inb_of So395 ⟨by decide, by decide⟩)
    refine Go.of (fun t k => Xx392.laload hx (j := (6 : Int32)) (v := (.long j4)) (by rw [e385]; exact Aro395.1) (State.isArrayOf_alike hZ.alike Aro395.2.1) Aro395.2.2 hin396 (Ho395.at hin396 rfl) (g := (mkF m 313 #[.val (.long j1), .second, .val (.long j2), .second, .val (.long j3), .second, .val (.long j4), .second, .val (.int i1), .val (.int ((i1 &&& (2147483647 : Int32)) % (7 : Int32))), .val (.ref b1), .val (.int v64_78), .val (.ref b80), .val (.ref b183), .unset, .unset, .unset, .unset, .unset, .unset, .unset, .unset] [(.int (6 : Int32)), (.ref b183), (.long j2), (.int (6 : Int32)), (.ref b299), (.ref b299)])) rfl rfl (hb hby at_313) t k) ?_
    show Go p e below Qo T385 (mkF m 314 #[.val (.long j1), .second, .val (.long j2), .second, .val (.long j3), .second, .val (.long j4), .second, .val (.int i1), .val (.int ((i1 &&& (2147483647 : Int32)) % (7 : Int32))), .val (.ref b1), .val (.int v64_78), .val (.ref b80), .val (.ref b183), .unset, .unset, .unset, .unset, .unset, .unset, .unset, .unset] [(.long j4), (.long j2), (.int (6 : Int32)), (.ref b299), (.ref b299)])
    refine Go.of (fun t k => XS.ladd Xx392.here hx rfl (hb hby at_314) rfl k) ?_
    show Go p e below Qo T385 (mkF m 315 #[.val (.long j1), .second, .val (.long j2), .second, .val (.long j3), .second, .val (.long j4), .second, .val (.int i1), .val (.int ((i1 &&& (2147483647 : Int32)) % (7 : Int32))), .val (.ref b1), .val (.int v64_78), .val (.ref b80), .val (.ref b183), .unset, .unset, .unset, .unset, .unset, .unset, .unset, .unset] [(.long (j2 + j4)), (.int (6 : Int32)), (.ref b299), (.ref b299)])
    have cpo397 := q389
    obtain ⟨clo397, Aro397, qco397, So397, Mo397, Ho397, Go397⟩ := cpo397
    have hin398 : ¬ ((6 : Int32) < 0 ∨ clo397.slots.size ≤ (6 : Int32).toNatClampNeg) := (inb_of So397 ⟨by decide, by decide⟩)
    obtain ⟨T399, h399, X399, e399, W399, st399⟩ := stJ Xx392 hx hZ e385 Aro397 (j := (6 : Int32)) hin398 (g := (mkF m 315 #[.val (.long j1), .second, .val (.long j2), .second, .val (.long j3), .second, .val (.long j4), .second, .val (.int i1), .val (.int ((i1 &&& (2147483647 : Int32)) % (7 : Int32))), .val (.ref b1), .val (.int v64_78), .val (.ref b80), .val (.ref b183), .unset, .unset, .unset, .unset, .unset, .unset, .unset, .unset] [(.long (j2 + j4)), (.int (6 : Int32)), (.ref b299), (.ref b299)])) rfl rfl (hb hby at_315)
    have q400 : Arv Z h399 b1 k1 .long (12 : Int32) [(.long j4), (.long j4), (.long j4), (.long j4), (.long j4), (.long y5), (.long y6), (.long y7), (.long y8), (.long y9), (.long y10), (.long y11)] (.long (0 : Int64)) := q386.other W399 ne300
    have q401 : Arv Z h399 b80 k80 .long (12 : Int32) [(.long j4), (.long j1), (.long j2), (.long j3), (.long (j4 ^^^ j1)), (.long j1), (.long j2), (.long j3), (.long (j1 ^^^ j2)), (.long (j2 ^^^ j3)), (.long (j3 - j1)), (.long j4)] (.long (0 : Int64)) := q387.other W399 ne301
    have q402 : Arv Z h399 b183 k183 .long (12 : Int32) [(.long j3), (.long j4), (.long j1), (.long j2), (.long (j1 + j2)), (.long j3), (.long j4), (.long (j1 ^^^ j3)), (.long j2), (.long j1), (.long (j4 - j2)), (.long (j3 - j4))] (.long (0 : Int64)) := q388.other W399 ne302
    have q403 : Arv Z h399 b299 k299 .long (12 : Int32) [(.long (j4 + j3)), (.long (j1 + j4)), (.long (j2 + j1)), (.long (j3 + j2)), (.long ((j4 ^^^ j1) + (j1 + j2))), (.long (j1 + j3)), (.long (j2 + j4)), (.long (0 : Int64)), (.long (0 : Int64)), (.long (0 : Int64)), (.long (0 : Int64)), (.long (0 : Int64))] (.long (0 : Int64)) := Arv.set Aro397 qco397 So397 Mo397 Ho397 Go397 rfl W399 6 rfl (Nat.le_of_ble_eq_true rfl)
    have Z404 : n0 ≤ h399.size := Nat.le_trans Z390 (Keep.of_wr W399).1
    have N405 := Fr.snoc X399 Nx392 g303
    obtain ⟨Lx406, Xx406, Nx406⟩ := own_locs X399 N405
    refine Go.of st399 ?_
    show Go p e below Qo T399 (mkF m 316 #[.val (.long j1), .second, .val (.long j2), .second, .val (.long j3), .second, .val (.long j4), .second, .val (.int i1), .val (.int ((i1 &&& (2147483647 : Int32)) % (7 : Int32))), .val (.ref b1), .val (.int v64_78), .val (.ref b80), .val (.ref b183), .unset, .unset, .unset, .unset, .unset, .unset, .unset, .unset] [(.ref b299)])
    refine Go.of (fun t k => XS.dup Xx406.here hx rfl (hb hby at_316) rfl rfl k) ?_
    show Go p e below Qo T399 (mkF m 317 #[.val (.long j1), .second, .val (.long j2), .second, .val (.long j3), .second, .val (.long j4), .second, .val (.int i1), .val (.int ((i1 &&& (2147483647 : Int32)) % (7 : Int32))), .val (.ref b1), .val (.int v64_78), .val (.ref b80), .val (.ref b183), .unset, .unset, .unset, .unset, .unset, .unset, .unset, .unset] [(.ref b299), (.ref b299)])
    refine Go.of (fun t k => XS.bipush Xx406.here hx rfl (hb hby at_317) k) ?_
    show Go p e below Qo T399 (mkF m 319 #[.val (.long j1), .second, .val (.long j2), .second, .val (.long j3), .second, .val (.long j4), .second, .val (.int i1), .val (.int ((i1 &&& (2147483647 : Int32)) % (7 : Int32))), .val (.ref b1), .val (.int v64_78), .val (.ref b80), .val (.ref b183), .unset, .unset, .unset, .unset, .unset, .unset, .unset, .unset] [(.int (7 : Int32)), (.ref b299), (.ref b299)])
    refine Go.of (fun t k => XS.aload Xx406.here hx rfl (hb hby at_319) rfl rfl k) ?_
    show Go p e below Qo T399 (mkF m 321 #[.val (.long j1), .second, .val (.long j2), .second, .val (.long j3), .second, .val (.long j4), .second, .val (.int i1), .val (.int ((i1 &&& (2147483647 : Int32)) % (7 : Int32))), .val (.ref b1), .val (.int v64_78), .val (.ref b80), .val (.ref b183), .unset, .unset, .unset, .unset, .unset, .unset, .unset, .unset] [(.ref b80), (.int (7 : Int32)), (.ref b299), (.ref b299)])
    refine Go.of (fun t k => XS.bipush Xx406.here hx rfl (hb hby at_321) k) ?_
    show Go p e below Qo T399 (mkF m 323 #[.val (.long j1), .second, .val (.long j2), .second, .val (.long j3), .second, .val (.long j4), .second, .val (.int i1), .val (.int ((i1 &&& (2147483647 : Int32)) % (7 : Int32))), .val (.ref b1), .val (.int v64_78), .val (.ref b80), .val (.ref b183), .unset, .unset, .unset, .unset, .unset, .unset, .unset, .unset] [(.int (7 : Int32)), (.ref b80), (.int (7 : Int32)), (.ref b299), (.ref b299)])
    have cpo407 := q401
    obtain ⟨clo407, Aro407, qco407, So407, Mo407, Ho407, Go407⟩ := cpo407
    have hin408 : ¬ ((7 : Int32) < 0 ∨ clo407.slots.size ≤ (7 : Int32).toNatClampNeg) := (inb_of So407 ⟨by decide, by decide⟩)
    refine Go.of (fun t k => Xx406.laload hx (j := (7 : Int32)) (v := (.long j3)) (by rw [e399]; exact Aro407.1) (State.isArrayOf_alike hZ.alike Aro407.2.1) Aro407.2.2 hin408 (Ho407.at hin408 rfl) (g := (mkF m 323 #[.val (.long j1), .second, .val (.long j2), .second, .val (.long j3), .second, .val (.long j4), .second, .val (.int i1), .val (.int ((i1 &&& (2147483647 : Int32)) % (7 : Int32))), .val (.ref b1), .val (.int v64_78), .val (.ref b80), .val (.ref b183), .unset, .unset, .unset, .unset, .unset, .unset, .unset, .unset] [(.int (7 : Int32)), (.ref b80), (.int (7 : Int32)), (.ref b299), (.ref b299)])) rfl rfl (hb hby at_323) t k) ?_
    show Go p e below Qo T399 (mkF m 324 #[.val (.long j1), .second, .val (.long j2), .second, .val (.long j3), .second, .val (.long j4), .second, .val (.int i1), .val (.int ((i1 &&& (2147483647 : Int32)) % (7 : Int32))), .val (.ref b1), .val (.int v64_78), .val (.ref b80), .val (.ref b183), .unset, .unset, .unset, .unset, .unset, .unset, .unset, .unset] [(.long j3), (.int (7 : Int32)), (.ref b299), (.ref b299)])
    refine Go.of (fun t k => XS.aload Xx406.here hx rfl (hb hby at_324) rfl rfl k) ?_
    show Go p e below Qo T399 (mkF m 326 #[.val (.long j1), .second, .val (.long j2), .second, .val (.long j3), .second, .val (.long j4), .second, .val (.int i1), .val (.int ((i1 &&& (2147483647 : Int32)) % (7 : Int32))), .val (.ref b1), .val (.int v64_78), .val (.ref b80), .val (.ref b183), .unset, .unset, .unset, .unset, .unset, .unset, .unset, .unset] [(.ref b183), (.long j3), (.int (7 : Int32)), (.ref b299), (.ref b299)])
    refine Go.of (fun t k => XS.bipush Xx406.here hx rfl (hb hby at_326) k) ?_
    show Go p e below Qo T399 (mkF m 328 #[.val (.long j1), .second, .val (.long j2), .second, .val (.long j3), .second, .val (.long j4), .second, .val (.int i1), .val (.int ((i1 &&& (2147483647 : Int32)) % (7 : Int32))), .val (.ref b1), .val (.int v64_78), .val (.ref b80), .val (.ref b183), .unset, .unset, .unset, .unset, .unset, .unset, .unset, .unset] [(.int (7 : Int32)), (.ref b183), (.long j3), (.int (7 : Int32)), (.ref b299), (.ref b299)])
    have cpo409 := q402
    obtain ⟨clo409, Aro409, qco409, So409, Mo409, Ho409, Go409⟩ := cpo409
    have hin410 : ¬ ((7 : Int32) < 0 ∨ clo409.slots.size ≤ (7 : Int32).toNatClampNeg) := (inb_of So409 ⟨by decide, by decide⟩)
    refine Go.of (fun t k => Xx406.laload hx (j := (7 : Int32)) (v := (.long (j1 ^^^ j3))) (by rw [e399]; exact Aro409.1) (State.isArrayOf_alike hZ.alike Aro409.2.1) Aro409.2.2 hin410 (Ho409.at hin410 rfl) (g := (mkF m 328 #[.val (.long j1), .second, .val (.long j2), .second, .val (.long j3), .second, .val (.long j4), .second, .val (.int i1), .val (.int ((i1 &&& (2147483647 : Int32)) % (7 : Int32))), .val (.ref b1), .val (.int v64_78), .val (.ref b80), .val (.ref b183), .unset, .unset, .unset, .unset, .unset, .unset, .unset, .unset] [(.int (7 : Int32)), (.ref b183), (.long j3), (.int (7 : Int32)), (.ref b299), (.ref b299)])) rfl rfl (hb hby at_328) t k) ?_
    show Go p e below Qo T399 (mkF m 329 #[.val (.long j1), .second, .val (.long j2), .second, .val (.long j3), .second, .val (.long j4), .second, .val (.int i1), .val (.int ((i1 &&& (2147483647 : Int32)) % (7 : Int32))), .val (.ref b1), .val (.int v64_78), .val (.ref b80), .val (.ref b183), .unset, .unset, .unset, .unset, .unset, .unset, .unset, .unset] [(.long (j1 ^^^ j3)), (.long j3), (.int (7 : Int32)), (.ref b299), (.ref b299)])
    refine Go.of (fun t k => XS.ladd Xx406.here hx rfl (hb hby at_329) rfl k) ?_
    show Go p e below Qo T399 (mkF m 330 #[.val (.long j1), .second, .val (.long j2), .second, .val (.long j3), .second, .val (.long j4), .second, .val (.int i1), .val (.int ((i1 &&& (2147483647 : Int32)) % (7 : Int32))), .val (.ref b1), .val (.int v64_78), .val (.ref b80), .val (.ref b183), .unset, .unset, .unset, .unset, .unset, .unset, .unset, .unset] [(.long (j3 + (j1 ^^^ j3))), (.int (7 : Int32)), (.ref b299), (.ref b299)])
    have cpo411 := q403
    obtain ⟨clo411, Aro411, qco411, So411, Mo411, Ho411, Go411⟩ := cpo411
    have hin412 : ¬ ((7 : Int32) < 0 ∨ clo411.slots.size ≤ (7 : Int32).toNatClampNeg) := (inb_of So411 ⟨by decide, by decide⟩)
    obtain ⟨T413, h413, X413, e413, W413, st413⟩ := stJ Xx406 hx hZ e399 Aro411 (j := (7 : Int32)) hin412 (g := (mkF m 330 #[.val (.long j1), .second, .val (.long j2), .second, .val (.long j3), .second, .val (.long j4), .second, .val (.int i1), .val (.int ((i1 &&& (2147483647 : Int32)) % (7 : Int32))), .val (.ref b1), .val (.int v64_78), .val (.ref b80), .val (.ref b183), .unset, .unset, .unset, .unset, .unset, .unset, .unset, .unset] [(.long (j3 + (j1 ^^^ j3))), (.int (7 : Int32)), (.ref b299), (.ref b299)])) rfl rfl (hb hby at_330)
    have q414 : Arv Z h413 b1 k1 .long (12 : Int32) [(.long j4), (.long j4), (.long j4), (.long j4), (.long j4), (.long y5), (.long y6), (.long y7), (.long y8), (.long y9), (.long y10), (.long y11)] (.long (0 : Int64)) := q400.other W413 ne300
    have q415 : Arv Z h413 b80 k80 .long (12 : Int32) [(.long j4), (.long j1), (.long j2), (.long j3), (.long (j4 ^^^ j1)), (.long j1), (.long j2), (.long j3), (.long (j1 ^^^ j2)), (.long (j2 ^^^ j3)), (.long (j3 - j1)), (.long j4)] (.long (0 : Int64)) := q401.other W413 ne301
    have q416 : Arv Z h413 b183 k183 .long (12 : Int32) [(.long j3), (.long j4), (.long j1), (.long j2), (.long (j1 + j2)), (.long j3), (.long j4), (.long (j1 ^^^ j3)), (.long j2), (.long j1), (.long (j4 - j2)), (.long (j3 - j4))] (.long (0 : Int64)) := q402.other W413 ne302
    have q417 : Arv Z h413 b299 k299 .long (12 : Int32) [(.long (j4 + j3)), (.long (j1 + j4)), (.long (j2 + j1)), (.long (j3 + j2)), (.long ((j4 ^^^ j1) + (j1 + j2))), (.long (j1 + j3)), (.long (j2 + j4)), (.long (j3 + (j1 ^^^ j3))), (.long (0 : Int64)), (.long (0 : Int64)), (.long (0 : Int64)), (.long (0 : Int64))] (.long (0 : Int64)) := Arv.set Aro411 qco411 So411 Mo411 Ho411 Go411 rfl W413 7 rfl (Nat.le_of_ble_eq_true rfl)
    have Z418 : n0 ≤ h413.size := Nat.le_trans Z404 (Keep.of_wr W413).1
    have N419 := Fr.snoc X413 Nx406 g303
    obtain ⟨Lx420, Xx420, Nx420⟩ := own_locs X413 N419
    refine Go.of st413 ?_
    show Go p e below Qo T413 (mkF m 331 #[.val (.long j1), .second, .val (.long j2), .second, .val (.long j3), .second, .val (.long j4), .second, .val (.int i1), .val (.int ((i1 &&& (2147483647 : Int32)) % (7 : Int32))), .val (.ref b1), .val (.int v64_78), .val (.ref b80), .val (.ref b183), .unset, .unset, .unset, .unset, .unset, .unset, .unset, .unset] [(.ref b299)])
    refine Go.of (fun t k => XS.dup Xx420.here hx rfl (hb hby at_331) rfl rfl k) ?_
    show Go p e below Qo T413 (mkF m 332 #[.val (.long j1), .second, .val (.long j2), .second, .val (.long j3), .second, .val (.long j4), .second, .val (.int i1), .val (.int ((i1 &&& (2147483647 : Int32)) % (7 : Int32))), .val (.ref b1), .val (.int v64_78), .val (.ref b80), .val (.ref b183), .unset, .unset, .unset, .unset, .unset, .unset, .unset, .unset] [(.ref b299), (.ref b299)])
    refine Go.of (fun t k => XS.bipush Xx420.here hx rfl (hb hby at_332) k) ?_
    show Go p e below Qo T413 (mkF m 334 #[.val (.long j1), .second, .val (.long j2), .second, .val (.long j3), .second, .val (.long j4), .second, .val (.int i1), .val (.int ((i1 &&& (2147483647 : Int32)) % (7 : Int32))), .val (.ref b1), .val (.int v64_78), .val (.ref b80), .val (.ref b183), .unset, .unset, .unset, .unset, .unset, .unset, .unset, .unset] [(.int (8 : Int32)), (.ref b299), (.ref b299)])
    refine Go.of (fun t k => XS.aload Xx420.here hx rfl (hb hby at_334) rfl rfl k) ?_
    show Go p e below Qo T413 (mkF m 336 #[.val (.long j1), .second, .val (.long j2), .second, .val (.long j3), .second, .val (.long j4), .second, .val (.int i1), .val (.int ((i1 &&& (2147483647 : Int32)) % (7 : Int32))), .val (.ref b1), .val (.int v64_78), .val (.ref b80), .val (.ref b183), .unset, .unset, .unset, .unset, .unset, .unset, .unset, .unset] [(.ref b80), (.int (8 : Int32)), (.ref b299), (.ref b299)])
    refine Go.of (fun t k => XS.bipush Xx420.here hx rfl (hb hby at_336) k) ?_
    show Go p e below Qo T413 (mkF m 338 #[.val (.long j1), .second, .val (.long j2), .second, .val (.long j3), .second, .val (.long j4), .second, .val (.int i1), .val (.int ((i1 &&& (2147483647 : Int32)) % (7 : Int32))), .val (.ref b1), .val (.int v64_78), .val (.ref b80), .val (.ref b183), .unset, .unset, .unset, .unset, .unset, .unset, .unset, .unset] [(.int (8 : Int32)), (.ref b80), (.int (8 : Int32)), (.ref b299), (.ref b299)])
    have cpo421 := q415
    obtain ⟨clo421, Aro421, qco421, So421, Mo421, Ho421, Go421⟩ := cpo421
    have hin422 : ¬ ((8 : Int32) < 0 ∨ clo421.slots.size ≤ (8 : Int32).toNatClampNeg) := (inb_of So421 ⟨by decide, by decide⟩)
    refine Go.of (fun t k => Xx420.laload hx (j := (8 : Int32)) (v := (.long (j1 ^^^ j2))) (by rw [e413]; exact Aro421.1) (State.isArrayOf_alike hZ.alike Aro421.2.1) Aro421.2.2 hin422 (Ho421.at hin422 rfl) (g := (mkF m 338 #[.val (.long j1), .second, .val (.long j2), .second, .val (.long j3), .second, .val (.long j4), .second, .val (.int i1), .val (.int ((i1 &&& (2147483647 : Int32)) % (7 : Int32))), .val (.ref b1), .val (.int v64_78), .val (.ref b80), .val (.ref b183), .unset, .unset, .unset, .unset, .unset, .unset, .unset, .unset] [(.int (8 : Int32)), (.ref b80), (.int (8 : Int32)), (.ref b299), (.ref b299)])) rfl rfl (hb hby at_338) t k) ?_
    show Go p e below Qo T413 (mkF m 339 #[.val (.long j1), .second, .val (.long j2), .second, .val (.long j3), .second, .val (.long j4), .second, .val (.int i1), .val (.int ((i1 &&& (2147483647 : Int32)) % (7 : Int32))), .val (.ref b1), .val (.int v64_78), .val (.ref b80), .val (.ref b183), .unset, .unset, .unset, .unset, .unset, .unset, .unset, .unset] [(.long (j1 ^^^ j2)), (.int (8 : Int32)), (.ref b299), (.ref b299)])
    refine Go.of (fun t k => XS.aload Xx420.here hx rfl (hb hby at_339) rfl rfl k) ?_
    show Go p e below Qo T413 (mkF m 341 #[.val (.long j1), .second, .val (.long j2), .second, .val (.long j3), .second, .val (.long j4), .second, .val (.int i1), .val (.int ((i1 &&& (2147483647 : Int32)) % (7 : Int32))), .val (.ref b1), .val (.int v64_78), .val (.ref b80), .val (.ref b183), .unset, .unset, .unset, .unset, .unset, .unset, .unset, .unset] [(.ref b183), (.long (j1 ^^^ j2)), (.int (8 : Int32)), (.ref b299), (.ref b299)])
    refine Go.of (fun t k => XS.bipush Xx420.here hx rfl (hb hby at_341) k) ?_
    show Go p e below Qo T413 (mkF m 343 #[.val (.long j1), .second, .val (.long j2), .second, .val (.long j3), .second, .val (.long j4), .second, .val (.int i1), .val (.int ((i1 &&& (2147483647 : Int32)) % (7 : Int32))), .val (.ref b1), .val (.int v64_78), .val (.ref b80), .val (.ref b183), .unset, .unset, .unset, .unset, .unset, .unset, .unset, .unset] [(.int (8 : Int32)), (.ref b183), (.long (j1 ^^^ j2)), (.int (8 : Int32)), (.ref b299), (.ref b299)])
    have cpo423 := q416
    obtain ⟨clo423, Aro423, qco423, So423, Mo423, Ho423, Go423⟩ := cpo423
    have hin424 : ¬ ((8 : Int32) < 0 ∨ clo423.slots.size ≤ (8 : Int32).toNatClampNeg) := (inb_of So423 ⟨by decide, by decide⟩)
    refine Go.of (fun t k => Xx420.laload hx (j := (8 : Int32)) (v := (.long j2)) (by rw [e413]; exact Aro423.1) (State.isArrayOf_alike hZ.alike Aro423.2.1) Aro423.2.2 hin424 (Ho423.at hin424 rfl) (g := (mkF m 343 #[.val (.long j1), .second, .val (.long j2), .second, .val (.long j3), .second, .val (.long j4), .second, .val (.int i1), .val (.int ((i1 &&& (2147483647 : Int32)) % (7 : Int32))), .val (.ref b1), .val (.int v64_78), .val (.ref b80), .val (.ref b183), .unset, .unset, .unset, .unset, .unset, .unset, .unset, .unset] [(.int (8 : Int32)), (.ref b183), (.long (j1 ^^^ j2)), (.int (8 : Int32)), (.ref b299), (.ref b299)])) rfl rfl (hb hby at_343) t k) ?_
    show Go p e below Qo T413 (mkF m 344 #[.val (.long j1), .second, .val (.long j2), .second, .val (.long j3), .second, .val (.long j4), .second, .val (.int i1), .val (.int ((i1 &&& (2147483647 : Int32)) % (7 : Int32))), .val (.ref b1), .val (.int v64_78), .val (.ref b80), .val (.ref b183), .unset, .unset, .unset, .unset, .unset, .unset, .unset, .unset] [(.long j2), (.long (j1 ^^^ j2)), (.int (8 : Int32)), (.ref b299), (.ref b299)])
    refine Go.of (fun t k => XS.ladd Xx420.here hx rfl (hb hby at_344) rfl k) ?_
    show Go p e below Qo T413 (mkF m 345 #[.val (.long j1), .second, .val (.long j2), .second, .val (.long j3), .second, .val (.long j4), .second, .val (.int i1), .val (.int ((i1 &&& (2147483647 : Int32)) % (7 : Int32))), .val (.ref b1), .val (.int v64_78), .val (.ref b80), .val (.ref b183), .unset, .unset, .unset, .unset, .unset, .unset, .unset, .unset] [(.long ((j1 ^^^ j2) + j2)), (.int (8 : Int32)), (.ref b299), (.ref b299)])
    have cpo425 := q417
    obtain ⟨clo425, Aro425, qco425, So425, Mo425, Ho425, Go425⟩ := cpo425
    have hin426 : ¬ ((8 : Int32) < 0 ∨ clo425.slots.size ≤ (8 : Int32).toNatClampNeg) := (inb_of So425 ⟨by decide, by decide⟩)
    obtain ⟨T427, h427, X427, e427, W427, st427⟩ := stJ Xx420 hx hZ e413 Aro425 (j := (8 : Int32)) hin426 (g := (mkF m 345 #[.val (.long j1), .second, .val (.long j2), .second, .val (.long j3), .second, .val (.long j4), .second, .val (.int i1), .val (.int ((i1 &&& (2147483647 : Int32)) % (7 : Int32))), .val (.ref b1), .val (.int v64_78), .val (.ref b80), .val (.ref b183), .unset, .unset, .unset, .unset, .unset, .unset, .unset, .unset] [(.long ((j1 ^^^ j2) + j2)), (.int (8 : Int32)), (.ref b299), (.ref b299)])) rfl rfl (hb hby at_345)
    have q428 : Arv Z h427 b1 k1 .long (12 : Int32) [(.long j4), (.long j4), (.long j4), (.long j4), (.long j4), (.long y5), (.long y6), (.long y7), (.long y8), (.long y9), (.long y10), (.long y11)] (.long (0 : Int64)) := q414.other W427 ne300
    have q429 : Arv Z h427 b80 k80 .long (12 : Int32) [(.long j4), (.long j1), (.long j2), (.long j3), (.long (j4 ^^^ j1)), (.long j1), (.long j2), (.long j3), (.long (j1 ^^^ j2)), (.long (j2 ^^^ j3)), (.long (j3 - j1)), (.long j4)] (.long (0 : Int64)) := q415.other W427 ne301
    have q430 : Arv Z h427 b183 k183 .long (12 : Int32) [(.long j3), (.long j4), (.long j1), (.long j2), (.long (j1 + j2)), (.long j3), (.long j4), (.long (j1 ^^^ j3)), (.long j2), (.long j1), (.long (j4 - j2)), (.long (j3 - j4))] (.long (0 : Int64)) := q416.other W427 ne302
    have q431 : Arv Z h427 b299 k299 .long (12 : Int32) [(.long (j4 + j3)), (.long (j1 + j4)), (.long (j2 + j1)), (.long (j3 + j2)), (.long ((j4 ^^^ j1) + (j1 + j2))), (.long (j1 + j3)), (.long (j2 + j4)), (.long (j3 + (j1 ^^^ j3))), (.long ((j1 ^^^ j2) + j2)), (.long (0 : Int64)), (.long (0 : Int64)), (.long (0 : Int64))] (.long (0 : Int64)) := Arv.set Aro425 qco425 So425 Mo425 Ho425 Go425 rfl W427 8 rfl (Nat.le_of_ble_eq_true rfl)
    have Z432 : n0 ≤ h427.size := Nat.le_trans Z418 (Keep.of_wr W427).1
    have N433 := Fr.snoc X427 Nx420 g303
    obtain ⟨Lx434, Xx434, Nx434⟩ := own_locs X427 N433
    refine Go.of st427 ?_
    show Go p e below Qo T427 (mkF m 346 #[.val (.long j1), .second, .val (.long j2), .second, .val (.long j3), .second, .val (.long j4), .second, .val (.int i1), .val (.int ((i1 &&& (2147483647 : Int32)) % (7 : Int32))), .val (.ref b1), .val (.int v64_78), .val (.ref b80), .val (.ref b183), .unset, .unset, .unset, .unset, .unset, .unset, .unset, .unset] [(.ref b299)])
    refine Go.of (fun t k => XS.dup Xx434.here hx rfl (hb hby at_346) rfl rfl k) ?_
    show Go p e below Qo T427 (mkF m 347 #[.val (.long j1), .second, .val (.long j2), .second, .val (.long j3), .second, .val (.long j4), .second, .val (.int i1), .val (.int ((i1 &&& (2147483647 : Int32)) % (7 : Int32))), .val (.ref b1), .val (.int v64_78), .val (.ref b80), .val (.ref b183), .unset, .unset, .unset, .unset, .unset, .unset, .unset, .unset] [(.ref b299), (.ref b299)])
    refine Go.of (fun t k => XS.bipush Xx434.here hx rfl (hb hby at_347) k) ?_
    show Go p e below Qo T427 (mkF m 349 #[.val (.long j1), .second, .val (.long j2), .second, .val (.long j3), .second, .val (.long j4), .second, .val (.int i1), .val (.int ((i1 &&& (2147483647 : Int32)) % (7 : Int32))), .val (.ref b1), .val (.int v64_78), .val (.ref b80), .val (.ref b183), .unset, .unset, .unset, .unset, .unset, .unset, .unset, .unset] [(.int (9 : Int32)), (.ref b299), (.ref b299)])
    refine Go.of (fun t k => XS.aload Xx434.here hx rfl (hb hby at_349) rfl rfl k) ?_
    show Go p e below Qo T427 (mkF m 351 #[.val (.long j1), .second, .val (.long j2), .second, .val (.long j3), .second, .val (.long j4), .second, .val (.int i1), .val (.int ((i1 &&& (2147483647 : Int32)) % (7 : Int32))), .val (.ref b1), .val (.int v64_78), .val (.ref b80), .val (.ref b183), .unset, .unset, .unset, .unset, .unset, .unset, .unset, .unset] [(.ref b80), (.int (9 : Int32)), (.ref b299), (.ref b299)])
    refine Go.of (fun t k => XS.bipush Xx434.here hx rfl (hb hby at_351) k) ?_
    show Go p e below Qo T427 (mkF m 353 #[.val (.long j1), .second, .val (.long j2), .second, .val (.long j3), .second, .val (.long j4), .second, .val (.int i1), .val (.int ((i1 &&& (2147483647 : Int32)) % (7 : Int32))), .val (.ref b1), .val (.int v64_78), .val (.ref b80), .val (.ref b183), .unset, .unset, .unset, .unset, .unset, .unset, .unset, .unset] [(.int (9 : Int32)), (.ref b80), (.int (9 : Int32)), (.ref b299), (.ref b299)])
    have cpo435 := q429
    obtain ⟨clo435, Aro435, qco435, So435, Mo435, Ho435, Go435⟩ := cpo435
    have hin436 : ¬ ((9 : Int32) < 0 ∨ clo435.slots.size ≤ (9 : Int32).toNatClampNeg) := (inb_of So435 ⟨by decide, by decide⟩)
    refine Go.of (fun t k => Xx434.laload hx (j := (9 : Int32)) (v := (.long (j2 ^^^ j3))) (by rw [e427]; exact Aro435.1) (State.isArrayOf_alike hZ.alike Aro435.2.1) Aro435.2.2 hin436 (Ho435.at hin436 rfl) (g := (mkF m 353 #[.val (.long j1), .second, .val (.long j2), .second, .val (.long j3), .second, .val (.long j4), .second, .val (.int i1), .val (.int ((i1 &&& (2147483647 : Int32)) % (7 : Int32))), .val (.ref b1), .val (.int v64_78), .val (.ref b80), .val (.ref b183), .unset, .unset, .unset, .unset, .unset, .unset, .unset, .unset] [(.int (9 : Int32)), (.ref b80), (.int (9 : Int32)), (.ref b299), (.ref b299)])) rfl rfl (hb hby at_353) t k) ?_
    show Go p e below Qo T427 (mkF m 354 #[.val (.long j1), .second, .val (.long j2), .second, .val (.long j3), .second, .val (.long j4), .second, .val (.int i1), .val (.int ((i1 &&& (2147483647 : Int32)) % (7 : Int32))), .val (.ref b1), .val (.int v64_78), .val (.ref b80), .val (.ref b183), .unset, .unset, .unset, .unset, .unset, .unset, .unset, .unset] [(.long (j2 ^^^ j3)), (.int (9 : Int32)), (.ref b299), (.ref b299)])
    refine Go.of (fun t k => XS.aload Xx434.here hx rfl (hb hby at_354) rfl rfl k) ?_
    show Go p e below Qo T427 (mkF m 356 #[.val (.long j1), .second, .val (.long j2), .second, .val (.long j3), .second, .val (.long j4), .second, .val (.int i1), .val (.int ((i1 &&& (2147483647 : Int32)) % (7 : Int32))), .val (.ref b1), .val (.int v64_78), .val (.ref b80), .val (.ref b183), .unset, .unset, .unset, .unset, .unset, .unset, .unset, .unset] [(.ref b183), (.long (j2 ^^^ j3)), (.int (9 : Int32)), (.ref b299), (.ref b299)])
    refine Go.of (fun t k => XS.bipush Xx434.here hx rfl (hb hby at_356) k) ?_
    show Go p e below Qo T427 (mkF m 358 #[.val (.long j1), .second, .val (.long j2), .second, .val (.long j3), .second, .val (.long j4), .second, .val (.int i1), .val (.int ((i1 &&& (2147483647 : Int32)) % (7 : Int32))), .val (.ref b1), .val (.int v64_78), .val (.ref b80), .val (.ref b183), .unset, .unset, .unset, .unset, .unset, .unset, .unset, .unset] [(.int (9 : Int32)), (.ref b183), (.long (j2 ^^^ j3)), (.int (9 : Int32)), (.ref b299), (.ref b299)])
    have cpo437 := q430
    obtain ⟨clo437, Aro437, qco437, So437, Mo437, Ho437, Go437⟩ := cpo437
    have hin438 : ¬ ((9 : Int32) < 0 ∨ clo437.slots.size ≤ (9 : Int32).toNatClampNeg) := (inb_of So437 ⟨by decide, by decide⟩)
    refine Go.of (fun t k => Xx434.laload hx (j := (9 : Int32)) (v := (.long j1)) (by rw [e427]; exact Aro437.1) (State.isArrayOf_alike hZ.alike Aro437.2.1) Aro437.2.2 hin438 (Ho437.at hin438 rfl) (g := (mkF m 358 #[.val (.long j1), .second, .val (.long j2), .second, .val (.long j3), .second, .val (.long j4), .second, .val (.int i1), .val (.int ((i1 &&& (2147483647 : Int32)) % (7 : Int32))), .val (.ref b1), .val (.int v64_78), .val (.ref b80), .val (.ref b183), .unset, .unset, .unset, .unset, .unset, .unset, .unset, .unset] [(.int (9 : Int32)), (.ref b183), (.long (j2 ^^^ j3)), (.int (9 : Int32)), (.ref b299), (.ref b299)])) rfl rfl (hb hby at_358) t k) ?_
    show Go p e below Qo T427 (mkF m 359 #[.val (.long j1), .second, .val (.long j2), .second, .val (.long j3), .second, .val (.long j4), .second, .val (.int i1), .val (.int ((i1 &&& (2147483647 : Int32)) % (7 : Int32))), .val (.ref b1), .val (.int v64_78), .val (.ref b80), .val (.ref b183), .unset, .unset, .unset, .unset, .unset, .unset, .unset, .unset] [(.long j1), (.long (j2 ^^^ j3)), (.int (9 : Int32)), (.ref b299), (.ref b299)])
    refine Go.of (fun t k => XS.ladd Xx434.here hx rfl (hb hby at_359) rfl k) ?_
    show Go p e below Qo T427 (mkF m 360 #[.val (.long j1), .second, .val (.long j2), .second, .val (.long j3), .second, .val (.long j4), .second, .val (.int i1), .val (.int ((i1 &&& (2147483647 : Int32)) % (7 : Int32))), .val (.ref b1), .val (.int v64_78), .val (.ref b80), .val (.ref b183), .unset, .unset, .unset, .unset, .unset, .unset, .unset, .unset] [(.long ((j2 ^^^ j3) + j1)), (.int (9 : Int32)), (.ref b299), (.ref b299)])
    have cpo439 := q431
    obtain ⟨clo439, Aro439, qco439, So439, Mo439, Ho439, Go439⟩ := cpo439
    have hin440 : ¬ ((9 : Int32) < 0 ∨ clo439.slots.size ≤ (9 : Int32).toNatClampNeg) := (inb_of So439 ⟨by decide, by decide⟩)
    obtain ⟨T441, h441, X441, e441, W441, st441⟩ := stJ Xx434 hx hZ e427 Aro439 (j := (9 : Int32)) hin440 (g := (mkF m 360 #[.val (.long j1), .second, .val (.long j2), .second, .val (.long j3), .second, .val (.long j4), .second, .val (.int i1), .val (.int ((i1 &&& (2147483647 : Int32)) % (7 : Int32))), .val (.ref b1), .val (.int v64_78), .val (.ref b80), .val (.ref b183), .unset, .unset, .unset, .unset, .unset, .unset, .unset, .unset] [(.long ((j2 ^^^ j3) + j1)), (.int (9 : Int32)), (.ref b299), (.ref b299)])) rfl rfl (hb hby at_360)
    have q442 : Arv Z h441 b1 k1 .long (12 : Int32) [(.long j4), (.long j4), (.long j4), (.long j4), (.long j4), (.long y5), (.long y6), (.long y7), (.long y8), (.long y9), (.long y10), (.long y11)] (.long (0 : Int64)) := q428.other W441 ne300
    have q443 : Arv Z h441 b80 k80 .long (12 : Int32) [(.long j4), (.long j1), (.long j2), (.long j3), (.long (j4 ^^^ j1)), (.long j1), (.long j2), (.long j3), (.long (j1 ^^^ j2)), (.long (j2 ^^^ j3)), (.long (j3 - j1)), (.long j4)] (.long (0 : Int64)) := q429.other W441 ne301
    have q444 : Arv Z h441 b183 k183 .long (12 : Int32) [(.long j3), (.long j4), (.long j1), (.long j2), (.long (j1 + j2)), (.long j3), (.long j4), (.long (j1 ^^^ j3)), (.long j2), (.long j1), (.long (j4 - j2)), (.long (j3 - j4))] (.long (0 : Int64)) := q430.other W441 ne302
    have q445 : Arv Z h441 b299 k299 .long (12 : Int32) [(.long (j4 + j3)), (.long (j1 + j4)), (.long (j2 + j1)), (.long (j3 + j2)), (.long ((j4 ^^^ j1) + (j1 + j2))), (.long (j1 + j3)), (.long (j2 + j4)), (.long (j3 + (j1 ^^^ j3))), (.long ((j1 ^^^ j2) + j2)), (.long ((j2 ^^^ j3) + j1)), (.long (0 : Int64)), (.long (0 : Int64))] (.long (0 : Int64)) := Arv.set Aro439 qco439 So439 Mo439 Ho439 Go439 rfl W441 9 rfl (Nat.le_of_ble_eq_true rfl)
    have Z446 : n0 ≤ h441.size := Nat.le_trans Z432 (Keep.of_wr W441).1
    have N447 := Fr.snoc X441 Nx434 g303
    obtain ⟨Lx448, Xx448, Nx448⟩ := own_locs X441 N447
    refine Go.of st441 ?_
    show Go p e below Qo T441 (mkF m 361 #[.val (.long j1), .second, .val (.long j2), .second, .val (.long j3), .second, .val (.long j4), .second, .val (.int i1), .val (.int ((i1 &&& (2147483647 : Int32)) % (7 : Int32))), .val (.ref b1), .val (.int v64_78), .val (.ref b80), .val (.ref b183), .unset, .unset, .unset, .unset, .unset, .unset, .unset, .unset] [(.ref b299)])
    refine Go.of (fun t k => XS.dup Xx448.here hx rfl (hb hby at_361) rfl rfl k) ?_
    show Go p e below Qo T441 (mkF m 362 #[.val (.long j1), .second, .val (.long j2), .second, .val (.long j3), .second, .val (.long j4), .second, .val (.int i1), .val (.int ((i1 &&& (2147483647 : Int32)) % (7 : Int32))), .val (.ref b1), .val (.int v64_78), .val (.ref b80), .val (.ref b183), .unset, .unset, .unset, .unset, .unset, .unset, .unset, .unset] [(.ref b299), (.ref b299)])
    refine Go.of (fun t k => XS.bipush Xx448.here hx rfl (hb hby at_362) k) ?_
    show Go p e below Qo T441 (mkF m 364 #[.val (.long j1), .second, .val (.long j2), .second, .val (.long j3), .second, .val (.long j4), .second, .val (.int i1), .val (.int ((i1 &&& (2147483647 : Int32)) % (7 : Int32))), .val (.ref b1), .val (.int v64_78), .val (.ref b80), .val (.ref b183), .unset, .unset, .unset, .unset, .unset, .unset, .unset, .unset] [(.int (10 : Int32)), (.ref b299), (.ref b299)])
    refine Go.of (fun t k => XS.aload Xx448.here hx rfl (hb hby at_364) rfl rfl k) ?_
    show Go p e below Qo T441 (mkF m 366 #[.val (.long j1), .second, .val (.long j2), .second, .val (.long j3), .second, .val (.long j4), .second, .val (.int i1), .val (.int ((i1 &&& (2147483647 : Int32)) % (7 : Int32))), .val (.ref b1), .val (.int v64_78), .val (.ref b80), .val (.ref b183), .unset, .unset, .unset, .unset, .unset, .unset, .unset, .unset] [(.ref b80), (.int (10 : Int32)), (.ref b299), (.ref b299)])
    refine Go.of (fun t k => XS.bipush Xx448.here hx rfl (hb hby at_366) k) ?_
    show Go p e below Qo T441 (mkF m 368 #[.val (.long j1), .second, .val (.long j2), .second, .val (.long j3), .second, .val (.long j4), .second, .val (.int i1), .val (.int ((i1 &&& (2147483647 : Int32)) % (7 : Int32))), .val (.ref b1), .val (.int v64_78), .val (.ref b80), .val (.ref b183), .unset, .unset, .unset, .unset, .unset, .unset, .unset, .unset] [(.int (10 : Int32)), (.ref b80), (.int (10 : Int32)), (.ref b299), (.ref b299)])
    have cpo449 := q443
    obtain ⟨clo449, Aro449, qco449, So449, Mo449, Ho449, Go449⟩ := cpo449
    have hin450 : ¬ ((10 : Int32) < 0 ∨ clo449.slots.size ≤ (10 : Int32).toNatClampNeg) := (inb_of So449 ⟨by decide, by decide⟩)
    refine Go.of (fun t k => Xx448.laload hx (j := (10 : Int32)) (v := (.long (j3 - j1))) (by rw [e441]; exact Aro449.1) (State.isArrayOf_alike hZ.alike Aro449.2.1) Aro449.2.2 hin450 (Ho449.at hin450 rfl) (g := (mkF m 368 #[.val (.long j1), .second, .val (.long j2), .second, .val (.long j3), .second, .val (.long j4), .second, .val (.int i1), .val (.int ((i1 &&& (2147483647 : Int32)) % (7 : Int32))), .val (.ref b1), .val (.int v64_78), .val (.ref b80), .val (.ref b183), .unset, .unset, .unset, .unset, .unset, .unset, .unset, .unset] [(.int (10 : Int32)), (.ref b80), (.int (10 : Int32)), (.ref b299), (.ref b299)])) rfl rfl (hb hby at_368) t k) ?_
    show Go p e below Qo T441 (mkF m 369 #[.val (.long j1), .second, .val (.long j2), .second, .val (.long j3), .second, .val (.long j4), .second, .val (.int i1), .val (.int ((i1 &&& (2147483647 : Int32)) % (7 : Int32))), .val (.ref b1), .val (.int v64_78), .val (.ref b80), .val (.ref b183), .unset, .unset, .unset, .unset, .unset, .unset, .unset, .unset] [(.long (j3 - j1)), (.int (10 : Int32)), (.ref b299), (.ref b299)])
    refine Go.of (fun t k => XS.aload Xx448.here hx rfl (hb hby at_369) rfl rfl k) ?_
    show Go p e below Qo T441 (mkF m 371 #[.val (.long j1), .second, .val (.long j2), .second, .val (.long j3), .second, .val (.long j4), .second, .val (.int i1), .val (.int ((i1 &&& (2147483647 : Int32)) % (7 : Int32))), .val (.ref b1), .val (.int v64_78), .val (.ref b80), .val (.ref b183), .unset, .unset, .unset, .unset, .unset, .unset, .unset, .unset] [(.ref b183), (.long (j3 - j1)), (.int (10 : Int32)), (.ref b299), (.ref b299)])
    refine Go.of (fun t k => XS.bipush Xx448.here hx rfl (hb hby at_371) k) ?_
    show Go p e below Qo T441 (mkF m 373 #[.val (.long j1), .second, .val (.long j2), .second, .val (.long j3), .second, .val (.long j4), .second, .val (.int i1), .val (.int ((i1 &&& (2147483647 : Int32)) % (7 : Int32))), .val (.ref b1), .val (.int v64_78), .val (.ref b80), .val (.ref b183), .unset, .unset, .unset, .unset, .unset, .unset, .unset, .unset] [(.int (10 : Int32)), (.ref b183), (.long (j3 - j1)), (.int (10 : Int32)), (.ref b299), (.ref b299)])
    have cpo451 := q444
    obtain ⟨clo451, Aro451, qco451, So451, Mo451, Ho451, Go451⟩ := cpo451
    have hin452 : ¬ ((10 : Int32) < 0 ∨ clo451.slots.size ≤ (10 : Int32).toNatClampNeg) := (inb_of So451 ⟨by decide, by decide⟩)
    refine Go.of (fun t k => Xx448.laload hx (j := (10 : Int32)) (v := (.long (j4 - j2))) (by rw [e441]; exact Aro451.1) (State.isArrayOf_alike hZ.alike Aro451.2.1) Aro451.2.2 hin452 (Ho451.at hin452 rfl) (g := (mkF m 373 #[.val (.long j1), .second, .val (.long j2), .second, .val (.long j3), .second, .val (.long j4), .second, .val (.int i1), .val (.int ((i1 &&& (2147483647 : Int32)) % (7 : Int32))), .val (.ref b1), .val (.int v64_78), .val (.ref b80), .val (.ref b183), .unset, .unset, .unset, .unset, .unset, .unset, .unset, .unset] [(.int (10 : Int32)), (.ref b183), (.long (j3 - j1)), (.int (10 : Int32)), (.ref b299), (.ref b299)])) rfl rfl (hb hby at_373) t k) ?_
    show Go p e below Qo T441 (mkF m 374 #[.val (.long j1), .second, .val (.long j2), .second, .val (.long j3), .second, .val (.long j4), .second, .val (.int i1), .val (.int ((i1 &&& (2147483647 : Int32)) % (7 : Int32))), .val (.ref b1), .val (.int v64_78), .val (.ref b80), .val (.ref b183), .unset, .unset, .unset, .unset, .unset, .unset, .unset, .unset] [(.long (j4 - j2)), (.long (j3 - j1)), (.int (10 : Int32)), (.ref b299), (.ref b299)])
    refine Go.of (fun t k => XS.ladd Xx448.here hx rfl (hb hby at_374) rfl k) ?_
    show Go p e below Qo T441 (mkF m 375 #[.val (.long j1), .second, .val (.long j2), .second, .val (.long j3), .second, .val (.long j4), .second, .val (.int i1), .val (.int ((i1 &&& (2147483647 : Int32)) % (7 : Int32))), .val (.ref b1), .val (.int v64_78), .val (.ref b80), .val (.ref b183), .unset, .unset, .unset, .unset, .unset, .unset, .unset, .unset] [(.long ((j3 - j1) + (j4 - j2))), (.int (10 : Int32)), (.ref b299), (.ref b299)])
    have cpo453 := q445
    obtain ⟨clo453, Aro453, qco453, So453, Mo453, Ho453, Go453⟩ := cpo453
    have hin454 : ¬ ((10 : Int32) < 0 ∨ clo453.slots.size ≤ (10 : Int32).toNatClampNeg) := (inb_of So453 ⟨by decide, by decide⟩)
    obtain ⟨T455, h455, X455, e455, W455, st455⟩ := stJ Xx448 hx hZ e441 Aro453 (j := (10 : Int32)) hin454 (g := (mkF m 375 #[.val (.long j1), .second, .val (.long j2), .second, .val (.long j3), .second, .val (.long j4), .second, .val (.int i1), .val (.int ((i1 &&& (2147483647 : Int32)) % (7 : Int32))), .val (.ref b1), .val (.int v64_78), .val (.ref b80), .val (.ref b183), .unset, .unset, .unset, .unset, .unset, .unset, .unset, .unset] [(.long ((j3 - j1) + (j4 - j2))), (.int (10 : Int32)), (.ref b299), (.ref b299)])) rfl rfl (hb hby at_375)
    have q456 : Arv Z h455 b1 k1 .long (12 : Int32) [(.long j4), (.long j4), (.long j4), (.long j4), (.long j4), (.long y5), (.long y6), (.long y7), (.long y8), (.long y9), (.long y10), (.long y11)] (.long (0 : Int64)) := q442.other W455 ne300
    have q457 : Arv Z h455 b80 k80 .long (12 : Int32) [(.long j4), (.long j1), (.long j2), (.long j3), (.long (j4 ^^^ j1)), (.long j1), (.long j2), (.long j3), (.long (j1 ^^^ j2)), (.long (j2 ^^^ j3)), (.long (j3 - j1)), (.long j4)] (.long (0 : Int64)) := q443.other W455 ne301
    have q458 : Arv Z h455 b183 k183 .long (12 : Int32) [(.long j3), (.long j4), (.long j1), (.long j2), (.long (j1 + j2)), (.long j3), (.long j4), (.long (j1 ^^^ j3)), (.long j2), (.long j1), (.long (j4 - j2)), (.long (j3 - j4))] (.long (0 : Int64)) := q444.other W455 ne302
    have q459 : Arv Z h455 b299 k299 .long (12 : Int32) [(.long (j4 + j3)), (.long (j1 + j4)), (.long (j2 + j1)), (.long (j3 + j2)), (.long ((j4 ^^^ j1) + (j1 + j2))), (.long (j1 + j3)), (.long (j2 + j4)), (.long (j3 + (j1 ^^^ j3))), (.long ((j1 ^^^ j2) + j2)), (.long ((j2 ^^^ j3) + j1)), (.long ((j3 - j1) + (j4 - j2))), (.long (0 : Int64))] (.long (0 : Int64)) := Arv.set Aro453 qco453 So453 Mo453 Ho453 Go453 rfl W455 10 rfl (Nat.le_of_ble_eq_true rfl)
    have Z460 : n0 ≤ h455.size := Nat.le_trans Z446 (Keep.of_wr W455).1
    have N461 := Fr.snoc X455 Nx448 g303
    obtain ⟨Lx462, Xx462, Nx462⟩ := own_locs X455 N461
    refine Go.of st455 ?_
    show Go p e below Qo T455 (mkF m 376 #[.val (.long j1), .second, .val (.long j2), .second, .val (.long j3), .second, .val (.long j4), .second, .val (.int i1), .val (.int ((i1 &&& (2147483647 : Int32)) % (7 : Int32))), .val (.ref b1), .val (.int v64_78), .val (.ref b80), .val (.ref b183), .unset, .unset, .unset, .unset, .unset, .unset, .unset, .unset] [(.ref b299)])
    refine Go.of (fun t k => XS.dup Xx462.here hx rfl (hb hby at_376) rfl rfl k) ?_
    show Go p e below Qo T455 (mkF m 377 #[.val (.long j1), .second, .val (.long j2), .second, .val (.long j3), .second, .val (.long j4), .second, .val (.int i1), .val (.int ((i1 &&& (2147483647 : Int32)) % (7 : Int32))), .val (.ref b1), .val (.int v64_78), .val (.ref b80), .val (.ref b183), .unset, .unset, .unset, .unset, .unset, .unset, .unset, .unset] [(.ref b299), (.ref b299)])
    refine Go.of (fun t k => XS.bipush Xx462.here hx rfl (hb hby at_377) k) ?_
    show Go p e below Qo T455 (mkF m 379 #[.val (.long j1), .second, .val (.long j2), .second, .val (.long j3), .second, .val (.long j4), .second, .val (.int i1), .val (.int ((i1 &&& (2147483647 : Int32)) % (7 : Int32))), .val (.ref b1), .val (.int v64_78), .val (.ref b80), .val (.ref b183), .unset, .unset, .unset, .unset, .unset, .unset, .unset, .unset] [(.int (11 : Int32)), (.ref b299), (.ref b299)])
    refine Go.of (fun t k => XS.aload Xx462.here hx rfl (hb hby at_379) rfl rfl k) ?_
    show Go p e below Qo T455 (mkF m 381 #[.val (.long j1), .second, .val (.long j2), .second, .val (.long j3), .second, .val (.long j4), .second, .val (.int i1), .val (.int ((i1 &&& (2147483647 : Int32)) % (7 : Int32))), .val (.ref b1), .val (.int v64_78), .val (.ref b80), .val (.ref b183), .unset, .unset, .unset, .unset, .unset, .unset, .unset, .unset] [(.ref b80), (.int (11 : Int32)), (.ref b299), (.ref b299)])
    refine Go.of (fun t k => XS.bipush Xx462.here hx rfl (hb hby at_381) k) ?_
    show Go p e below Qo T455 (mkF m 383 #[.val (.long j1), .second, .val (.long j2), .second, .val (.long j3), .second, .val (.long j4), .second, .val (.int i1), .val (.int ((i1 &&& (2147483647 : Int32)) % (7 : Int32))), .val (.ref b1), .val (.int v64_78), .val (.ref b80), .val (.ref b183), .unset, .unset, .unset, .unset, .unset, .unset, .unset, .unset] [(.int (11 : Int32)), (.ref b80), (.int (11 : Int32)), (.ref b299), (.ref b299)])
    have cpo463 := q457
    obtain ⟨clo463, Aro463, qco463, So463, Mo463, Ho463, Go463⟩ := cpo463
    have hin464 : ¬ ((11 : Int32) < 0 ∨ clo463.slots.size ≤ (11 : Int32).toNatClampNeg) := (inb_of So463 ⟨by decide, by decide⟩)
    refine Go.of (fun t k => Xx462.laload hx (j := (11 : Int32)) (v := (.long j4)) (by rw [e455]; exact Aro463.1) (State.isArrayOf_alike hZ.alike Aro463.2.1) Aro463.2.2 hin464 (Ho463.at hin464 rfl) (g := (mkF m 383 #[.val (.long j1), .second, .val (.long j2), .second, .val (.long j3), .second, .val (.long j4), .second, .val (.int i1), .val (.int ((i1 &&& (2147483647 : Int32)) % (7 : Int32))), .val (.ref b1), .val (.int v64_78), .val (.ref b80), .val (.ref b183), .unset, .unset, .unset, .unset, .unset, .unset, .unset, .unset] [(.int (11 : Int32)), (.ref b80), (.int (11 : Int32)), (.ref b299), (.ref b299)])) rfl rfl (hb hby at_383) t k) ?_
    show Go p e below Qo T455 (mkF m 384 #[.val (.long j1), .second, .val (.long j2), .second, .val (.long j3), .second, .val (.long j4), .second, .val (.int i1), .val (.int ((i1 &&& (2147483647 : Int32)) % (7 : Int32))), .val (.ref b1), .val (.int v64_78), .val (.ref b80), .val (.ref b183), .unset, .unset, .unset, .unset, .unset, .unset, .unset, .unset] [(.long j4), (.int (11 : Int32)), (.ref b299), (.ref b299)])
    refine Go.of (fun t k => XS.aload Xx462.here hx rfl (hb hby at_384) rfl rfl k) ?_
    show Go p e below Qo T455 (mkF m 386 #[.val (.long j1), .second, .val (.long j2), .second, .val (.long j3), .second, .val (.long j4), .second, .val (.int i1), .val (.int ((i1 &&& (2147483647 : Int32)) % (7 : Int32))), .val (.ref b1), .val (.int v64_78), .val (.ref b80), .val (.ref b183), .unset, .unset, .unset, .unset, .unset, .unset, .unset, .unset] [(.ref b183), (.long j4), (.int (11 : Int32)), (.ref b299), (.ref b299)])
    refine Go.of (fun t k => XS.bipush Xx462.here hx rfl (hb hby at_386) k) ?_
    show Go p e below Qo T455 (mkF m 388 #[.val (.long j1), .second, .val (.long j2), .second, .val (.long j3), .second, .val (.long j4), .second, .val (.int i1), .val (.int ((i1 &&& (2147483647 : Int32)) % (7 : Int32))), .val (.ref b1), .val (.int v64_78), .val (.ref b80), .val (.ref b183), .unset, .unset, .unset, .unset, .unset, .unset, .unset, .unset] [(.int (11 : Int32)), (.ref b183), (.long j4), (.int (11 : Int32)), (.ref b299), (.ref b299)])
    have cpo465 := q458
    obtain ⟨clo465, Aro465, qco465, So465, Mo465, Ho465, Go465⟩ := cpo465
    have hin466 : ¬ ((11 : Int32) < 0 ∨ clo465.slots.size ≤ (11 : Int32).toNatClampNeg) := (inb_of So465 ⟨by decide, by decide⟩)
    refine Go.of (fun t k => Xx462.laload hx (j := (11 : Int32)) (v := (.long (j3 - j4))) (by rw [e455]; exact Aro465.1) (State.isArrayOf_alike hZ.alike Aro465.2.1) Aro465.2.2 hin466 (Ho465.at hin466 rfl) (g := (mkF m 388 #[.val (.long j1), .second, .val (.long j2), .second, .val (.long j3), .second, .val (.long j4), .second, .val (.int i1), .val (.int ((i1 &&& (2147483647 : Int32)) % (7 : Int32))), .val (.ref b1), .val (.int v64_78), .val (.ref b80), .val (.ref b183), .unset, .unset, .unset, .unset, .unset, .unset, .unset, .unset] [(.int (11 : Int32)), (.ref b183), (.long j4), (.int (11 : Int32)), (.ref b299), (.ref b299)])) rfl rfl (hb hby at_388) t k) ?_
    show Go p e below Qo T455 (mkF m 389 #[.val (.long j1), .second, .val (.long j2), .second, .val (.long j3), .second, .val (.long j4), .second, .val (.int i1), .val (.int ((i1 &&& (2147483647 : Int32)) % (7 : Int32))), .val (.ref b1), .val (.int v64_78), .val (.ref b80), .val (.ref b183), .unset, .unset, .unset, .unset, .unset, .unset, .unset, .unset] [(.long (j3 - j4)), (.long j4), (.int (11 : Int32)), (.ref b299), (.ref b299)])
    refine Go.of (fun t k => XS.ladd Xx462.here hx rfl (hb hby at_389) rfl k) ?_
    show Go p e below Qo T455 (mkF m 390 #[.val (.long j1), .second, .val (.long j2), .second, .val (.long j3), .second, .val (.long j4), .second, .val (.int i1), .val (.int ((i1 &&& (2147483647 : Int32)) % (7 : Int32))), .val (.ref b1), .val (.int v64_78), .val (.ref b80), .val (.ref b183), .unset, .unset, .unset, .unset, .unset, .unset, .unset, .unset] [(.long (j4 + (j3 - j4))), (.int (11 : Int32)), (.ref b299), (.ref b299)])
    have cpo467 := q459
    obtain ⟨clo467, Aro467, qco467, So467, Mo467, Ho467, Go467⟩ := cpo467
    have hin468 : ¬ ((11 : Int32) < 0 ∨ clo467.slots.size ≤ (11 : Int32).toNatClampNeg) := (inb_of So467 ⟨by decide, by decide⟩)
    obtain ⟨T469, h469, X469, e469, W469, st469⟩ := stJ Xx462 hx hZ e455 Aro467 (j := (11 : Int32)) hin468 (g := (mkF m 390 #[.val (.long j1), .second, .val (.long j2), .second, .val (.long j3), .second, .val (.long j4), .second, .val (.int i1), .val (.int ((i1 &&& (2147483647 : Int32)) % (7 : Int32))), .val (.ref b1), .val (.int v64_78), .val (.ref b80), .val (.ref b183), .unset, .unset, .unset, .unset, .unset, .unset, .unset, .unset] [(.long (j4 + (j3 - j4))), (.int (11 : Int32)), (.ref b299), (.ref b299)])) rfl rfl (hb hby at_390)
    have q470 : Arv Z h469 b1 k1 .long (12 : Int32) [(.long j4), (.long j4), (.long j4), (.long j4), (.long j4), (.long y5), (.long y6), (.long y7), (.long y8), (.long y9), (.long y10), (.long y11)] (.long (0 : Int64)) := q456.other W469 ne300
    have q471 : Arv Z h469 b80 k80 .long (12 : Int32) [(.long j4), (.long j1), (.long j2), (.long j3), (.long (j4 ^^^ j1)), (.long j1), (.long j2), (.long j3), (.long (j1 ^^^ j2)), (.long (j2 ^^^ j3)), (.long (j3 - j1)), (.long j4)] (.long (0 : Int64)) := q457.other W469 ne301
    have q472 : Arv Z h469 b183 k183 .long (12 : Int32) [(.long j3), (.long j4), (.long j1), (.long j2), (.long (j1 + j2)), (.long j3), (.long j4), (.long (j1 ^^^ j3)), (.long j2), (.long j1), (.long (j4 - j2)), (.long (j3 - j4))] (.long (0 : Int64)) := q458.other W469 ne302
    have q473 : Arv Z h469 b299 k299 .long (12 : Int32) [(.long (j4 + j3)), (.long (j1 + j4)), (.long (j2 + j1)), (.long (j3 + j2)), (.long ((j4 ^^^ j1) + (j1 + j2))), (.long (j1 + j3)), (.long (j2 + j4)), (.long (j3 + (j1 ^^^ j3))), (.long ((j1 ^^^ j2) + j2)), (.long ((j2 ^^^ j3) + j1)), (.long ((j3 - j1) + (j4 - j2))), (.long (j4 + (j3 - j4)))] (.long (0 : Int64)) := Arv.set Aro467 qco467 So467 Mo467 Ho467 Go467 rfl W469 11 rfl (Nat.le_of_ble_eq_true rfl)
    have Z474 : n0 ≤ h469.size := Nat.le_trans Z460 (Keep.of_wr W469).1
    have N475 := Fr.snoc X469 Nx462 g303
    obtain ⟨Lx476, Xx476, Nx476⟩ := own_locs X469 N475
    refine Go.of st469 ?_
    show Go p e below Qo T469 (mkF m 391 #[.val (.long j1), .second, .val (.long j2), .second, .val (.long j3), .second, .val (.long j4), .second, .val (.int i1), .val (.int ((i1 &&& (2147483647 : Int32)) % (7 : Int32))), .val (.ref b1), .val (.int v64_78), .val (.ref b80), .val (.ref b183), .unset, .unset, .unset, .unset, .unset, .unset, .unset, .unset] [(.ref b299)])
    refine Go.of (fun t k => XS.astore Xx476.here hx rfl (hb hby at_391) rfl rfl (l' := #[.val (.long j1), .second, .val (.long j2), .second, .val (.long j3), .second, .val (.long j4), .second, .val (.int i1), .val (.int ((i1 &&& (2147483647 : Int32)) % (7 : Int32))), .val (.ref b1), .val (.int v64_78), .val (.ref b80), .val (.ref b183), .val (.ref b299), .unset, .unset, .unset, .unset, .unset, .unset, .unset]) rfl k) ?_
    show Go p e below Qo T469 (mkF m 393 #[.val (.long j1), .second, .val (.long j2), .second, .val (.long j3), .second, .val (.long j4), .second, .val (.int i1), .val (.int ((i1 &&& (2147483647 : Int32)) % (7 : Int32))), .val (.ref b1), .val (.int v64_78), .val (.ref b80), .val (.ref b183), .val (.ref b299), .unset, .unset, .unset, .unset, .unset, .unset, .unset] [])
    refine Go.of (fun t k => XS.aload Xx476.here hx rfl (hb hby at_393) rfl rfl k) ?_
    show Go p e below Qo T469 (mkF m 395 #[.val (.long j1), .second, .val (.long j2), .second, .val (.long j3), .second, .val (.long j4), .second, .val (.int i1), .val (.int ((i1 &&& (2147483647 : Int32)) % (7 : Int32))), .val (.ref b1), .val (.int v64_78), .val (.ref b80), .val (.ref b183), .val (.ref b299), .unset, .unset, .unset, .unset, .unset, .unset, .unset] [(.ref b80)])
    obtain ⟨_, _, ⟨T477, L477, k477, n477⟩, -, X477, ⟨Lc477, hQ477, l477, y477, z477⟩, st477⟩ := Jvm.LawKit.callS Xx476 hx (y := (⟨"com/example/examwright/examwright/CompetitionScoreSoftPenaltyPinLaw", "make", "([J)Lcom/example/examwright/examwright/CompetitionScore;"⟩ : MethodName)) hown (mvT hZ (hw _ (List.mem_of_getElem? (i := 2) rfl))) (mvT hZ (hw _ (List.mem_of_getElem? (i := 3) rfl))) (mvT hZ (hw _ (List.mem_of_getElem? (i := 4) rfl))) (mvT hZ (hw _ (List.mem_of_getElem? (i := 5) rfl))) (by decide) (backOf (W := 0) (rm1 l Z a0 hw [] b80 k80 j4 j1 j2 j3 (j4 ^^^ j1) j1 j2 j3 (j1 ^^^ j2) (j2 ^^^ j3) (j3 - j1) j4 h469 n0 Z474 q471) hZ (hw _ (List.mem_of_getElem? (i := 5) rfl)) (hw _ (List.mem_of_getElem? (i := 4) rfl)) (by decide) (by decide)) (g := (mkF m 395 #[.val (.long j1), .second, .val (.long j2), .second, .val (.long j3), .second, .val (.long j4), .second, .val (.int i1), .val (.int ((i1 &&& (2147483647 : Int32)) % (7 : Int32))), .val (.ref b1), .val (.int v64_78), .val (.ref b80), .val (.ref b183), .val (.ref b299), .unset, .unset, .unset, .unset, .unset, .unset, .unset] [(.ref b80)])) rfl (by rw [hml]; rfl) (argsL := [(.ref b80)]) (rest := []) (lenOf pd_2 rfl) rfl (by show 2 * 0 + _ ≤ _; exact Nat.le_of_eq rfl) (hb hby at_395) (fun _ _ => ⟨rfl, e469, (by decide : 5 + 1 ≤ _), (by decide : 60 + 12 ≤ _)⟩)
    dsimp only [Pt.U, Pt.locs, Pt.cells, Pt.slots] at X477 l477 y477 z477 st477 hQ477
    subst l477 y477 z477
    replace X477 := own_cs X477 (c' := 6) (s' := 72) (by decide) (by decide)
    obtain ⟨x479, rfl, N478, Kc480, g494, q481, q482, q483, q484, q485, q486, q487, q488, q489, q490, q491, q492, q493⟩ := hQ477
    have N495 := Fr.app Nx476 N478
    have ne496 : b1 ≠ x479 := Nat.ne_of_lt (Nat.lt_of_lt_of_le q470.lt g494)
    have ne497 : b80 ≠ x479 := Nat.ne_of_lt (Nat.lt_of_lt_of_le q471.lt g494)
    have ne498 : b183 ≠ x479 := Nat.ne_of_lt (Nat.lt_of_lt_of_le q472.lt g494)
    have ne499 : b299 ≠ x479 := Nat.ne_of_lt (Nat.lt_of_lt_of_le q473.lt g494)
    have g500 : n0 ≤ x479 := Nat.le_trans Z474 g494
    have q501 : Arv Z T477.heap b1 k1 .long (12 : Int32) [(.long j4), (.long j4), (.long j4), (.long j4), (.long j4), (.long y5), (.long y6), (.long y7), (.long y8), (.long y9), (.long y10), (.long y11)] (.long (0 : Int64)) := q470.keep Kc480 nin0
    have q502 : Arv Z T477.heap b80 k80 .long (12 : Int32) [(.long j4), (.long j1), (.long j2), (.long j3), (.long (j4 ^^^ j1)), (.long j1), (.long j2), (.long j3), (.long (j1 ^^^ j2)), (.long (j2 ^^^ j3)), (.long (j3 - j1)), (.long j4)] (.long (0 : Int64)) := q471.keep Kc480 nin0
    have q503 : Arv Z T477.heap b183 k183 .long (12 : Int32) [(.long j3), (.long j4), (.long j1), (.long j2), (.long (j1 + j2)), (.long j3), (.long j4), (.long (j1 ^^^ j3)), (.long j2), (.long j1), (.long (j4 - j2)), (.long (j3 - j4))] (.long (0 : Int64)) := q472.keep Kc480 nin0
    have q504 : Arv Z T477.heap b299 k299 .long (12 : Int32) [(.long (j4 + j3)), (.long (j1 + j4)), (.long (j2 + j1)), (.long (j3 + j2)), (.long ((j4 ^^^ j1) + (j1 + j2))), (.long (j1 + j3)), (.long (j2 + j4)), (.long (j3 + (j1 ^^^ j3))), (.long ((j1 ^^^ j2) + j2)), (.long ((j2 ^^^ j3) + j1)), (.long ((j3 - j1) + (j4 - j2))), (.long (j4 + (j3 - j4)))] (.long (0 : Int64)) := q473.keep Kc480 nin0
    have Z505 : n0 ≤ T477.heap.size := Nat.le_trans Z474 Kc480.1
    refine Go.of st477 ?_
    obtain ⟨Lx506, Xx506, Nx506⟩ := own_locs X477 N495
    show Go p e below Qo T477 (mkF m 398 #[.val (.long j1), .second, .val (.long j2), .second, .val (.long j3), .second, .val (.long j4), .second, .val (.int i1), .val (.int ((i1 &&& (2147483647 : Int32)) % (7 : Int32))), .val (.ref b1), .val (.int v64_78), .val (.ref b80), .val (.ref b183), .val (.ref b299), .unset, .unset, .unset, .unset, .unset, .unset, .unset] [(.ref x479)])
    obtain ⟨ciq508, kiq508, iq508a, iq508b, iq508c⟩ := isOf hZ rfl q481
    obtain ⟨_, _, ⟨T507, L507, k507, n507⟩, -, X507, ⟨Lc507, hQ507, l507, y507, z507⟩, st507⟩ := Xx506.virtualBack hx (y := (⟨"com/example/examwright/examwright/CompetitionScore", "softPenalty", "()J"⟩ : MethodName)) (z := (⟨"com/example/examwright/examwright/CompetitionScore", "softPenalty", "()J"⟩ : MethodName)) hown (mvT hZ (hw _ (List.mem_of_getElem? (i := 44) rfl))) (mvT hZ (hw _ (List.mem_of_getElem? (i := 45) rfl))) (notFace_of_selects (args := #[]) (mvT hZ (hw _ (List.mem_of_getElem? (i := 47) rfl)))) (mvT hZ (hw _ (List.mem_of_getElem? (i := 47) rfl))) (mvT hZ (hw _ (List.mem_of_getElem? (i := 46) rfl))) (by decide) (backOf (W := 0) (rm5 l Z a0 hw [] x479 j1 j2 j3 (j1 ^^^ j2) (j2 ^^^ j3) (j3 - j1) j4 T477.heap n0 Z505 q487 q488 q489 q490 q491 q492 q493) hZ (hw _ (List.mem_of_getElem? (i := 48) rfl)) (hw _ (List.mem_of_getElem? (i := 8) rfl)) (by decide) (by decide)) iq508a iq508c (g := (mkF m 398 #[.val (.long j1), .second, .val (.long j2), .second, .val (.long j3), .second, .val (.long j4), .second, .val (.int i1), .val (.int ((i1 &&& (2147483647 : Int32)) % (7 : Int32))), .val (.ref b1), .val (.int v64_78), .val (.ref b80), .val (.ref b183), .val (.ref b299), .unset, .unset, .unset, .unset, .unset, .unset, .unset] [(.ref x479)])) rfl (by rw [hml]; rfl) (Steps.refl _) (argsL := []) (rest := []) (lenOf pd_3 rfl) rfl (by show 2 * 0 + _ ≤ _; exact Nat.le_of_eq rfl) (hb hby at_398) (fun _ _ => ⟨rfl, rfl, (by decide : 6 + 0 ≤ _), (by decide : 72 + 0 ≤ _)⟩)
    dsimp only [Pt.U, Pt.locs, Pt.cells, Pt.slots] at X507 l507 y507 z507 st507 hQ507
    subst l507 y507 z507
    replace X507 := own_cs X507 (c' := 6) (s' := 72) (by decide) (by decide)
    obtain ⟨rfl, N509, eh510⟩ := hQ507
    have N511 := Fr.app Nx506 N509
    refine Go.via st507 ?_
    obtain ⟨Lx512, Xx512, Nx512⟩ := own_locs X507 N511
    show Go p e below Qo T507 (mkF m 401 #[.val (.long j1), .second, .val (.long j2), .second, .val (.long j3), .second, .val (.long j4), .second, .val (.int i1), .val (.int ((i1 &&& (2147483647 : Int32)) % (7 : Int32))), .val (.ref b1), .val (.int v64_78), .val (.ref b80), .val (.ref b183), .val (.ref b299), .unset, .unset, .unset, .unset, .unset, .unset, .unset] [(.long (F5 j1 j2 j3 (j1 ^^^ j2) (j2 ^^^ j3) (j3 - j1) j4))])
    refine Go.of (fun t k => XS.lstore Xx512.here hx rfl (hb hby at_401) rfl (l' := #[.val (.long j1), .second, .val (.long j2), .second, .val (.long j3), .second, .val (.long j4), .second, .val (.int i1), .val (.int ((i1 &&& (2147483647 : Int32)) % (7 : Int32))), .val (.ref b1), .val (.int v64_78), .val (.ref b80), .val (.ref b183), .val (.ref b299), .val (.long (F5 j1 j2 j3 (j1 ^^^ j2) (j2 ^^^ j3) (j3 - j1) j4)), .second, .unset, .unset, .unset, .unset, .unset]) rfl k) ?_
    show Go p e below Qo T507 (mkF m 403 #[.val (.long j1), .second, .val (.long j2), .second, .val (.long j3), .second, .val (.long j4), .second, .val (.int i1), .val (.int ((i1 &&& (2147483647 : Int32)) % (7 : Int32))), .val (.ref b1), .val (.int v64_78), .val (.ref b80), .val (.ref b183), .val (.ref b299), .val (.long (F5 j1 j2 j3 (j1 ^^^ j2) (j2 ^^^ j3) (j3 - j1) j4)), .second, .unset, .unset, .unset, .unset, .unset] [])
    refine Go.of (fun t k => XS.aload Xx512.here hx rfl (hb hby at_403) rfl rfl k) ?_
    show Go p e below Qo T507 (mkF m 405 #[.val (.long j1), .second, .val (.long j2), .second, .val (.long j3), .second, .val (.long j4), .second, .val (.int i1), .val (.int ((i1 &&& (2147483647 : Int32)) % (7 : Int32))), .val (.ref b1), .val (.int v64_78), .val (.ref b80), .val (.ref b183), .val (.ref b299), .val (.long (F5 j1 j2 j3 (j1 ^^^ j2) (j2 ^^^ j3) (j3 - j1) j4)), .second, .unset, .unset, .unset, .unset, .unset] [(.ref b183)])
    obtain ⟨_, _, ⟨T513, L513, k513, n513⟩, -, X513, ⟨Lc513, hQ513, l513, y513, z513⟩, st513⟩ := Jvm.LawKit.callS Xx512 hx (y := (⟨"com/example/examwright/examwright/CompetitionScoreSoftPenaltyPinLaw", "make", "([J)Lcom/example/examwright/examwright/CompetitionScore;"⟩ : MethodName)) hown (mvT hZ (hw _ (List.mem_of_getElem? (i := 2) rfl))) (mvT hZ (hw _ (List.mem_of_getElem? (i := 3) rfl))) (mvT hZ (hw _ (List.mem_of_getElem? (i := 4) rfl))) (mvT hZ (hw _ (List.mem_of_getElem? (i := 5) rfl))) (by decide) (backOf (W := 0) (rm1 l Z a0 hw [] b183 k183 j3 j4 j1 j2 (j1 + j2) j3 j4 (j1 ^^^ j3) j2 j1 (j4 - j2) (j3 - j4) T477.heap n0 Z505 q503) hZ (hw _ (List.mem_of_getElem? (i := 5) rfl)) (hw _ (List.mem_of_getElem? (i := 4) rfl)) (by decide) (by decide)) (g := (mkF m 405 #[.val (.long j1), .second, .val (.long j2), .second, .val (.long j3), .second, .val (.long j4), .second, .val (.int i1), .val (.int ((i1 &&& (2147483647 : Int32)) % (7 : Int32))), .val (.ref b1), .val (.int v64_78), .val (.ref b80), .val (.ref b183), .val (.ref b299), .val (.long (F5 j1 j2 j3 (j1 ^^^ j2) (j2 ^^^ j3) (j3 - j1) j4)), .second, .unset, .unset, .unset, .unset, .unset] [(.ref b183)])) rfl (by rw [hml]; rfl) (argsL := [(.ref b183)]) (rest := []) (lenOf pd_2 rfl) rfl (by show 2 * 0 + _ ≤ _; exact Nat.le_of_eq rfl) (hb hby at_405) (fun _ _ => ⟨rfl, eh510, (by decide : 6 + 1 ≤ _), (by decide : 72 + 12 ≤ _)⟩)
    dsimp only [Pt.U, Pt.locs, Pt.cells, Pt.slots] at X513 l513 y513 z513 st513 hQ513
    subst l513 y513 z513
    replace X513 := own_cs X513 (c' := 7) (s' := 84) (by decide) (by decide)
    obtain ⟨x515, rfl, N514, Kc516, g530, q517, q518, q519, q520, q521, q522, q523, q524, q525, q526, q527, q528, q529⟩ := hQ513
    have N531 := Fr.app Nx512 N514
    have ne532 : b1 ≠ x515 := Nat.ne_of_lt (Nat.lt_of_lt_of_le q501.lt g530)
    have ne533 : b80 ≠ x515 := Nat.ne_of_lt (Nat.lt_of_lt_of_le q502.lt g530)
    have ne534 : b183 ≠ x515 := Nat.ne_of_lt (Nat.lt_of_lt_of_le q503.lt g530)
    have ne535 : b299 ≠ x515 := Nat.ne_of_lt (Nat.lt_of_lt_of_le q504.lt g530)
    have ne536 : x479 ≠ x515 := Nat.ne_of_lt (Nat.lt_of_lt_of_le q481.lt g530)
    have g537 : n0 ≤ x515 := Nat.le_trans Z505 g530
    have q538 : Arv Z T513.heap b1 k1 .long (12 : Int32) [(.long j4), (.long j4), (.long j4), (.long j4), (.long j4), (.long y5), (.long y6), (.long y7), (.long y8), (.long y9), (.long y10), (.long y11)] (.long (0 : Int64)) := q501.keep Kc516 nin0
    have q539 : Arv Z T513.heap b80 k80 .long (12 : Int32) [(.long j4), (.long j1), (.long j2), (.long j3), (.long (j4 ^^^ j1)), (.long j1), (.long j2), (.long j3), (.long (j1 ^^^ j2)), (.long (j2 ^^^ j3)), (.long (j3 - j1)), (.long j4)] (.long (0 : Int64)) := q502.keep Kc516 nin0
    have q540 : Arv Z T513.heap b183 k183 .long (12 : Int32) [(.long j3), (.long j4), (.long j1), (.long j2), (.long (j1 + j2)), (.long j3), (.long j4), (.long (j1 ^^^ j3)), (.long j2), (.long j1), (.long (j4 - j2)), (.long (j3 - j4))] (.long (0 : Int64)) := q503.keep Kc516 nin0
    have q541 : Arv Z T513.heap b299 k299 .long (12 : Int32) [(.long (j4 + j3)), (.long (j1 + j4)), (.long (j2 + j1)), (.long (j3 + j2)), (.long ((j4 ^^^ j1) + (j1 + j2))), (.long (j1 + j3)), (.long (j2 + j4)), (.long (j3 + (j1 ^^^ j3))), (.long ((j1 ^^^ j2) + j2)), (.long ((j2 ^^^ j3) + j1)), (.long ((j3 - j1) + (j4 - j2))), (.long (j4 + (j3 - j4)))] (.long (0 : Int64)) := q504.keep Kc516 nin0
    have Z542 : n0 ≤ T513.heap.size := Nat.le_trans Z505 Kc516.1
    refine Go.of st513 ?_
    obtain ⟨Lx543, Xx543, Nx543⟩ := own_locs X513 N531
    show Go p e below Qo T513 (mkF m 408 #[.val (.long j1), .second, .val (.long j2), .second, .val (.long j3), .second, .val (.long j4), .second, .val (.int i1), .val (.int ((i1 &&& (2147483647 : Int32)) % (7 : Int32))), .val (.ref b1), .val (.int v64_78), .val (.ref b80), .val (.ref b183), .val (.ref b299), .val (.long (F5 j1 j2 j3 (j1 ^^^ j2) (j2 ^^^ j3) (j3 - j1) j4)), .second, .unset, .unset, .unset, .unset, .unset] [(.ref x515)])
    obtain ⟨ciq545, kiq545, iq545a, iq545b, iq545c⟩ := isOf hZ rfl q517
    obtain ⟨_, _, ⟨T544, L544, k544, n544⟩, -, X544, ⟨Lc544, hQ544, l544, y544, z544⟩, st544⟩ := Xx543.virtualBack hx (y := (⟨"com/example/examwright/examwright/CompetitionScore", "softPenalty", "()J"⟩ : MethodName)) (z := (⟨"com/example/examwright/examwright/CompetitionScore", "softPenalty", "()J"⟩ : MethodName)) hown (mvT hZ (hw _ (List.mem_of_getElem? (i := 44) rfl))) (mvT hZ (hw _ (List.mem_of_getElem? (i := 45) rfl))) (notFace_of_selects (args := #[]) (mvT hZ (hw _ (List.mem_of_getElem? (i := 47) rfl)))) (mvT hZ (hw _ (List.mem_of_getElem? (i := 47) rfl))) (mvT hZ (hw _ (List.mem_of_getElem? (i := 46) rfl))) (by decide) (backOf (W := 0) (rm5 l Z a0 hw [] x515 j3 j4 (j1 ^^^ j3) j2 j1 (j4 - j2) (j3 - j4) T513.heap n0 Z542 q523 q524 q525 q526 q527 q528 q529) hZ (hw _ (List.mem_of_getElem? (i := 48) rfl)) (hw _ (List.mem_of_getElem? (i := 8) rfl)) (by decide) (by decide)) iq545a iq545c (g := (mkF m 408 #[.val (.long j1), .second, .val (.long j2), .second, .val (.long j3), .second, .val (.long j4), .second, .val (.int i1), .val (.int ((i1 &&& (2147483647 : Int32)) % (7 : Int32))), .val (.ref b1), .val (.int v64_78), .val (.ref b80), .val (.ref b183), .val (.ref b299), .val (.long (F5 j1 j2 j3 (j1 ^^^ j2) (j2 ^^^ j3) (j3 - j1) j4)), .second, .unset, .unset, .unset, .unset, .unset] [(.ref x515)])) rfl (by rw [hml]; rfl) (Steps.refl _) (argsL := []) (rest := []) (lenOf pd_3 rfl) rfl (by show 2 * 0 + _ ≤ _; exact Nat.le_of_eq rfl) (hb hby at_408) (fun _ _ => ⟨rfl, rfl, (by decide : 7 + 0 ≤ _), (by decide : 84 + 0 ≤ _)⟩)
    dsimp only [Pt.U, Pt.locs, Pt.cells, Pt.slots] at X544 l544 y544 z544 st544 hQ544
    subst l544 y544 z544
    replace X544 := own_cs X544 (c' := 7) (s' := 84) (by decide) (by decide)
    obtain ⟨rfl, N546, eh547⟩ := hQ544
    have N548 := Fr.app Nx543 N546
    refine Go.via st544 ?_
    obtain ⟨Lx549, Xx549, Nx549⟩ := own_locs X544 N548
    show Go p e below Qo T544 (mkF m 411 #[.val (.long j1), .second, .val (.long j2), .second, .val (.long j3), .second, .val (.long j4), .second, .val (.int i1), .val (.int ((i1 &&& (2147483647 : Int32)) % (7 : Int32))), .val (.ref b1), .val (.int v64_78), .val (.ref b80), .val (.ref b183), .val (.ref b299), .val (.long (F5 j1 j2 j3 (j1 ^^^ j2) (j2 ^^^ j3) (j3 - j1) j4)), .second, .unset, .unset, .unset, .unset, .unset] [(.long (F5 j3 j4 (j1 ^^^ j3) j2 j1 (j4 - j2) (j3 - j4)))])
    refine Go.of (fun t k => XS.lstore Xx549.here hx rfl (hb hby at_411) rfl (l' := #[.val (.long j1), .second, .val (.long j2), .second, .val (.long j3), .second, .val (.long j4), .second, .val (.int i1), .val (.int ((i1 &&& (2147483647 : Int32)) % (7 : Int32))), .val (.ref b1), .val (.int v64_78), .val (.ref b80), .val (.ref b183), .val (.ref b299), .val (.long (F5 j1 j2 j3 (j1 ^^^ j2) (j2 ^^^ j3) (j3 - j1) j4)), .second, .val (.long (F5 j3 j4 (j1 ^^^ j3) j2 j1 (j4 - j2) (j3 - j4))), .second, .unset, .unset, .unset]) rfl k) ?_
    show Go p e below Qo T544 (mkF m 413 #[.val (.long j1), .second, .val (.long j2), .second, .val (.long j3), .second, .val (.long j4), .second, .val (.int i1), .val (.int ((i1 &&& (2147483647 : Int32)) % (7 : Int32))), .val (.ref b1), .val (.int v64_78), .val (.ref b80), .val (.ref b183), .val (.ref b299), .val (.long (F5 j1 j2 j3 (j1 ^^^ j2) (j2 ^^^ j3) (j3 - j1) j4)), .second, .val (.long (F5 j3 j4 (j1 ^^^ j3) j2 j1 (j4 - j2) (j3 - j4))), .second, .unset, .unset, .unset] [])
    refine Go.of (fun t k => XS.aload Xx549.here hx rfl (hb hby at_413) rfl rfl k) ?_
    show Go p e below Qo T544 (mkF m 415 #[.val (.long j1), .second, .val (.long j2), .second, .val (.long j3), .second, .val (.long j4), .second, .val (.int i1), .val (.int ((i1 &&& (2147483647 : Int32)) % (7 : Int32))), .val (.ref b1), .val (.int v64_78), .val (.ref b80), .val (.ref b183), .val (.ref b299), .val (.long (F5 j1 j2 j3 (j1 ^^^ j2) (j2 ^^^ j3) (j3 - j1) j4)), .second, .val (.long (F5 j3 j4 (j1 ^^^ j3) j2 j1 (j4 - j2) (j3 - j4))), .second, .unset, .unset, .unset] [(.ref b299)])
    obtain ⟨_, _, ⟨T550, L550, k550, n550⟩, -, X550, ⟨Lc550, hQ550, l550, y550, z550⟩, st550⟩ := Jvm.LawKit.callS Xx549 hx (y := (⟨"com/example/examwright/examwright/CompetitionScoreSoftPenaltyPinLaw", "make", "([J)Lcom/example/examwright/examwright/CompetitionScore;"⟩ : MethodName)) hown (mvT hZ (hw _ (List.mem_of_getElem? (i := 2) rfl))) (mvT hZ (hw _ (List.mem_of_getElem? (i := 3) rfl))) (mvT hZ (hw _ (List.mem_of_getElem? (i := 4) rfl))) (mvT hZ (hw _ (List.mem_of_getElem? (i := 5) rfl))) (by decide) (backOf (W := 0) (rm1 l Z a0 hw [] b299 k299 (j4 + j3) (j1 + j4) (j2 + j1) (j3 + j2) ((j4 ^^^ j1) + (j1 + j2)) (j1 + j3) (j2 + j4) (j3 + (j1 ^^^ j3)) ((j1 ^^^ j2) + j2) ((j2 ^^^ j3) + j1) ((j3 - j1) + (j4 - j2)) (j4 + (j3 - j4)) T513.heap n0 Z542 q541) hZ (hw _ (List.mem_of_getElem? (i := 5) rfl)) (hw _ (List.mem_of_getElem? (i := 4) rfl)) (by decide) (by decide)) (g := (mkF m 415 #[.val (.long j1), .second, .val (.long j2), .second, .val (.long j3), .second, .val (.long j4), .second, .val (.int i1), .val (.int ((i1 &&& (2147483647 : Int32)) % (7 : Int32))), .val (.ref b1), .val (.int v64_78), .val (.ref b80), .val (.ref b183), .val (.ref b299), .val (.long (F5 j1 j2 j3 (j1 ^^^ j2) (j2 ^^^ j3) (j3 - j1) j4)), .second, .val (.long (F5 j3 j4 (j1 ^^^ j3) j2 j1 (j4 - j2) (j3 - j4))), .second, .unset, .unset, .unset] [(.ref b299)])) rfl (by rw [hml]; rfl) (argsL := [(.ref b299)]) (rest := []) (lenOf pd_2 rfl) rfl (by show 2 * 0 + _ ≤ _; exact Nat.le_of_eq rfl) (hb hby at_415) (fun _ _ => ⟨rfl, eh547, (by decide : 7 + 1 ≤ _), (by decide : 84 + 12 ≤ _)⟩)
    dsimp only [Pt.U, Pt.locs, Pt.cells, Pt.slots] at X550 l550 y550 z550 st550 hQ550
    subst l550 y550 z550
    replace X550 := own_cs X550 (c' := 8) (s' := 96) (by decide) (by decide)
    obtain ⟨x552, rfl, N551, Kc553, g567, q554, q555, q556, q557, q558, q559, q560, q561, q562, q563, q564, q565, q566⟩ := hQ550
    have N568 := Fr.app Nx549 N551
    have ne569 : b1 ≠ x552 := Nat.ne_of_lt (Nat.lt_of_lt_of_le q538.lt g567)
    have ne570 : b80 ≠ x552 := Nat.ne_of_lt (Nat.lt_of_lt_of_le q539.lt g567)
    have ne571 : b183 ≠ x552 := Nat.ne_of_lt (Nat.lt_of_lt_of_le q540.lt g567)
    have ne572 : b299 ≠ x552 := Nat.ne_of_lt (Nat.lt_of_lt_of_le q541.lt g567)
    have ne573 : x515 ≠ x552 := Nat.ne_of_lt (Nat.lt_of_lt_of_le q517.lt g567)
    have g574 : n0 ≤ x552 := Nat.le_trans Z542 g567
    have q575 : Arv Z T550.heap b1 k1 .long (12 : Int32) [(.long j4), (.long j4), (.long j4), (.long j4), (.long j4), (.long y5), (.long y6), (.long y7), (.long y8), (.long y9), (.long y10), (.long y11)] (.long (0 : Int64)) := q538.keep Kc553 nin0
    have q576 : Arv Z T550.heap b80 k80 .long (12 : Int32) [(.long j4), (.long j1), (.long j2), (.long j3), (.long (j4 ^^^ j1)), (.long j1), (.long j2), (.long j3), (.long (j1 ^^^ j2)), (.long (j2 ^^^ j3)), (.long (j3 - j1)), (.long j4)] (.long (0 : Int64)) := q539.keep Kc553 nin0
    have q577 : Arv Z T550.heap b183 k183 .long (12 : Int32) [(.long j3), (.long j4), (.long j1), (.long j2), (.long (j1 + j2)), (.long j3), (.long j4), (.long (j1 ^^^ j3)), (.long j2), (.long j1), (.long (j4 - j2)), (.long (j3 - j4))] (.long (0 : Int64)) := q540.keep Kc553 nin0
    have q578 : Arv Z T550.heap b299 k299 .long (12 : Int32) [(.long (j4 + j3)), (.long (j1 + j4)), (.long (j2 + j1)), (.long (j3 + j2)), (.long ((j4 ^^^ j1) + (j1 + j2))), (.long (j1 + j3)), (.long (j2 + j4)), (.long (j3 + (j1 ^^^ j3))), (.long ((j1 ^^^ j2) + j2)), (.long ((j2 ^^^ j3) + j1)), (.long ((j3 - j1) + (j4 - j2))), (.long (j4 + (j3 - j4)))] (.long (0 : Int64)) := q541.keep Kc553 nin0
    have Z579 : n0 ≤ T550.heap.size := Nat.le_trans Z542 Kc553.1
    refine Go.of st550 ?_
    obtain ⟨Lx580, Xx580, Nx580⟩ := own_locs X550 N568
    show Go p e below Qo T550 (mkF m 418 #[.val (.long j1), .second, .val (.long j2), .second, .val (.long j3), .second, .val (.long j4), .second, .val (.int i1), .val (.int ((i1 &&& (2147483647 : Int32)) % (7 : Int32))), .val (.ref b1), .val (.int v64_78), .val (.ref b80), .val (.ref b183), .val (.ref b299), .val (.long (F5 j1 j2 j3 (j1 ^^^ j2) (j2 ^^^ j3) (j3 - j1) j4)), .second, .val (.long (F5 j3 j4 (j1 ^^^ j3) j2 j1 (j4 - j2) (j3 - j4))), .second, .unset, .unset, .unset] [(.ref x552)])
    obtain ⟨ciq582, kiq582, iq582a, iq582b, iq582c⟩ := isOf hZ rfl q554
    obtain ⟨_, _, ⟨T581, L581, k581, n581⟩, -, X581, ⟨Lc581, hQ581, l581, y581, z581⟩, st581⟩ := Xx580.virtualBack hx (y := (⟨"com/example/examwright/examwright/CompetitionScore", "softPenalty", "()J"⟩ : MethodName)) (z := (⟨"com/example/examwright/examwright/CompetitionScore", "softPenalty", "()J"⟩ : MethodName)) hown (mvT hZ (hw _ (List.mem_of_getElem? (i := 44) rfl))) (mvT hZ (hw _ (List.mem_of_getElem? (i := 45) rfl))) (notFace_of_selects (args := #[]) (mvT hZ (hw _ (List.mem_of_getElem? (i := 47) rfl)))) (mvT hZ (hw _ (List.mem_of_getElem? (i := 47) rfl))) (mvT hZ (hw _ (List.mem_of_getElem? (i := 46) rfl))) (by decide) (backOf (W := 0) (rm5 l Z a0 hw [] x552 (j1 + j3) (j2 + j4) (j3 + (j1 ^^^ j3)) ((j1 ^^^ j2) + j2) ((j2 ^^^ j3) + j1) ((j3 - j1) + (j4 - j2)) (j4 + (j3 - j4)) T550.heap n0 Z579 q560 q561 q562 q563 q564 q565 q566) hZ (hw _ (List.mem_of_getElem? (i := 48) rfl)) (hw _ (List.mem_of_getElem? (i := 8) rfl)) (by decide) (by decide)) iq582a iq582c (g := (mkF m 418 #[.val (.long j1), .second, .val (.long j2), .second, .val (.long j3), .second, .val (.long j4), .second, .val (.int i1), .val (.int ((i1 &&& (2147483647 : Int32)) % (7 : Int32))), .val (.ref b1), .val (.int v64_78), .val (.ref b80), .val (.ref b183), .val (.ref b299), .val (.long (F5 j1 j2 j3 (j1 ^^^ j2) (j2 ^^^ j3) (j3 - j1) j4)), .second, .val (.long (F5 j3 j4 (j1 ^^^ j3) j2 j1 (j4 - j2) (j3 - j4))), .second, .unset, .unset, .unset] [(.ref x552)])) rfl (by rw [hml]; rfl) (Steps.refl _) (argsL := []) (rest := []) (lenOf pd_3 rfl) rfl (by show 2 * 0 + _ ≤ _; exact Nat.le_of_eq rfl) (hb hby at_418) (fun _ _ => ⟨rfl, rfl, (by decide : 8 + 0 ≤ _), (by decide : 96 + 0 ≤ _)⟩)
    dsimp only [Pt.U, Pt.locs, Pt.cells, Pt.slots] at X581 l581 y581 z581 st581 hQ581
    subst l581 y581 z581
    replace X581 := own_cs X581 (c' := 8) (s' := 96) (by decide) (by decide)
    obtain ⟨rfl, N583, eh584⟩ := hQ581
    have N585 := Fr.app Nx580 N583
    refine Go.via st581 ?_
    obtain ⟨Lx586, Xx586, Nx586⟩ := own_locs X581 N585
    show Go p e below Qo T581 (mkF m 421 #[.val (.long j1), .second, .val (.long j2), .second, .val (.long j3), .second, .val (.long j4), .second, .val (.int i1), .val (.int ((i1 &&& (2147483647 : Int32)) % (7 : Int32))), .val (.ref b1), .val (.int v64_78), .val (.ref b80), .val (.ref b183), .val (.ref b299), .val (.long (F5 j1 j2 j3 (j1 ^^^ j2) (j2 ^^^ j3) (j3 - j1) j4)), .second, .val (.long (F5 j3 j4 (j1 ^^^ j3) j2 j1 (j4 - j2) (j3 - j4))), .second, .unset, .unset, .unset] [(.long (F5 (j1 + j3) (j2 + j4) (j3 + (j1 ^^^ j3)) ((j1 ^^^ j2) + j2) ((j2 ^^^ j3) + j1) ((j3 - j1) + (j4 - j2)) (j4 + (j3 - j4))))])
    refine Go.of (fun t k => XS.lstore Xx586.here hx rfl (hb hby at_421) rfl (l' := #[.val (.long j1), .second, .val (.long j2), .second, .val (.long j3), .second, .val (.long j4), .second, .val (.int i1), .val (.int ((i1 &&& (2147483647 : Int32)) % (7 : Int32))), .val (.ref b1), .val (.int v64_78), .val (.ref b80), .val (.ref b183), .val (.ref b299), .val (.long (F5 j1 j2 j3 (j1 ^^^ j2) (j2 ^^^ j3) (j3 - j1) j4)), .second, .val (.long (F5 j3 j4 (j1 ^^^ j3) j2 j1 (j4 - j2) (j3 - j4))), .second, .val (.long (F5 (j1 + j3) (j2 + j4) (j3 + (j1 ^^^ j3)) ((j1 ^^^ j2) + j2) ((j2 ^^^ j3) + j1) ((j3 - j1) + (j4 - j2)) (j4 + (j3 - j4)))), .second, .unset]) rfl k) ?_
    show Go p e below Qo T581 (mkF m 423 #[.val (.long j1), .second, .val (.long j2), .second, .val (.long j3), .second, .val (.long j4), .second, .val (.int i1), .val (.int ((i1 &&& (2147483647 : Int32)) % (7 : Int32))), .val (.ref b1), .val (.int v64_78), .val (.ref b80), .val (.ref b183), .val (.ref b299), .val (.long (F5 j1 j2 j3 (j1 ^^^ j2) (j2 ^^^ j3) (j3 - j1) j4)), .second, .val (.long (F5 j3 j4 (j1 ^^^ j3) j2 j1 (j4 - j2) (j3 - j4))), .second, .val (.long (F5 (j1 + j3) (j2 + j4) (j3 + (j1 ^^^ j3)) ((j1 ^^^ j2) + j2) ((j2 ^^^ j3) + j1) ((j3 - j1) + (j4 - j2)) (j4 + (j3 - j4)))), .second, .unset] [])
    refine Go.of (fun t k => XS.lload Xx586.here hx rfl (hb hby at_423) rfl  k) ?_
    show Go p e below Qo T581 (mkF m 425 #[.val (.long j1), .second, .val (.long j2), .second, .val (.long j3), .second, .val (.long j4), .second, .val (.int i1), .val (.int ((i1 &&& (2147483647 : Int32)) % (7 : Int32))), .val (.ref b1), .val (.int v64_78), .val (.ref b80), .val (.ref b183), .val (.ref b299), .val (.long (F5 j1 j2 j3 (j1 ^^^ j2) (j2 ^^^ j3) (j3 - j1) j4)), .second, .val (.long (F5 j3 j4 (j1 ^^^ j3) j2 j1 (j4 - j2) (j3 - j4))), .second, .val (.long (F5 (j1 + j3) (j2 + j4) (j3 + (j1 ^^^ j3)) ((j1 ^^^ j2) + j2) ((j2 ^^^ j3) + j1) ((j3 - j1) + (j4 - j2)) (j4 + (j3 - j4)))), .second, .unset] [(.long (F5 (j1 + j3) (j2 + j4) (j3 + (j1 ^^^ j3)) ((j1 ^^^ j2) + j2) ((j2 ^^^ j3) + j1) ((j3 - j1) + (j4 - j2)) (j4 + (j3 - j4))))])
    refine Go.of (fun t k => XS.lload Xx586.here hx rfl (hb hby at_425) rfl  k) ?_
    show Go p e below Qo T581 (mkF m 427 #[.val (.long j1), .second, .val (.long j2), .second, .val (.long j3), .second, .val (.long j4), .second, .val (.int i1), .val (.int ((i1 &&& (2147483647 : Int32)) % (7 : Int32))), .val (.ref b1), .val (.int v64_78), .val (.ref b80), .val (.ref b183), .val (.ref b299), .val (.long (F5 j1 j2 j3 (j1 ^^^ j2) (j2 ^^^ j3) (j3 - j1) j4)), .second, .val (.long (F5 j3 j4 (j1 ^^^ j3) j2 j1 (j4 - j2) (j3 - j4))), .second, .val (.long (F5 (j1 + j3) (j2 + j4) (j3 + (j1 ^^^ j3)) ((j1 ^^^ j2) + j2) ((j2 ^^^ j3) + j1) ((j3 - j1) + (j4 - j2)) (j4 + (j3 - j4)))), .second, .unset] [(.long (F5 j1 j2 j3 (j1 ^^^ j2) (j2 ^^^ j3) (j3 - j1) j4)), (.long (F5 (j1 + j3) (j2 + j4) (j3 + (j1 ^^^ j3)) ((j1 ^^^ j2) + j2) ((j2 ^^^ j3) + j1) ((j3 - j1) + (j4 - j2)) (j4 + (j3 - j4))))])
    refine Go.of (fun t k => XS.lload Xx586.here hx rfl (hb hby at_427) rfl  k) ?_
    show Go p e below Qo T581 (mkF m 429 #[.val (.long j1), .second, .val (.long j2), .second, .val (.long j3), .second, .val (.long j4), .second, .val (.int i1), .val (.int ((i1 &&& (2147483647 : Int32)) % (7 : Int32))), .val (.ref b1), .val (.int v64_78), .val (.ref b80), .val (.ref b183), .val (.ref b299), .val (.long (F5 j1 j2 j3 (j1 ^^^ j2) (j2 ^^^ j3) (j3 - j1) j4)), .second, .val (.long (F5 j3 j4 (j1 ^^^ j3) j2 j1 (j4 - j2) (j3 - j4))), .second, .val (.long (F5 (j1 + j3) (j2 + j4) (j3 + (j1 ^^^ j3)) ((j1 ^^^ j2) + j2) ((j2 ^^^ j3) + j1) ((j3 - j1) + (j4 - j2)) (j4 + (j3 - j4)))), .second, .unset] [(.long (F5 j3 j4 (j1 ^^^ j3) j2 j1 (j4 - j2) (j3 - j4))), (.long (F5 j1 j2 j3 (j1 ^^^ j2) (j2 ^^^ j3) (j3 - j1) j4)), (.long (F5 (j1 + j3) (j2 + j4) (j3 + (j1 ^^^ j3)) ((j1 ^^^ j2) + j2) ((j2 ^^^ j3) + j1) ((j3 - j1) + (j4 - j2)) (j4 + (j3 - j4))))])
    refine Go.of (fun t k => XS.ladd Xx586.here hx rfl (hb hby at_429) rfl k) ?_
    show Go p e below Qo T581 (mkF m 430 #[.val (.long j1), .second, .val (.long j2), .second, .val (.long j3), .second, .val (.long j4), .second, .val (.int i1), .val (.int ((i1 &&& (2147483647 : Int32)) % (7 : Int32))), .val (.ref b1), .val (.int v64_78), .val (.ref b80), .val (.ref b183), .val (.ref b299), .val (.long (F5 j1 j2 j3 (j1 ^^^ j2) (j2 ^^^ j3) (j3 - j1) j4)), .second, .val (.long (F5 j3 j4 (j1 ^^^ j3) j2 j1 (j4 - j2) (j3 - j4))), .second, .val (.long (F5 (j1 + j3) (j2 + j4) (j3 + (j1 ^^^ j3)) ((j1 ^^^ j2) + j2) ((j2 ^^^ j3) + j1) ((j3 - j1) + (j4 - j2)) (j4 + (j3 - j4)))), .second, .unset] [(.long ((F5 j1 j2 j3 (j1 ^^^ j2) (j2 ^^^ j3) (j3 - j1) j4) + (F5 j3 j4 (j1 ^^^ j3) j2 j1 (j4 - j2) (j3 - j4)))), (.long (F5 (j1 + j3) (j2 + j4) (j3 + (j1 ^^^ j3)) ((j1 ^^^ j2) + j2) ((j2 ^^^ j3) + j1) ((j3 - j1) + (j4 - j2)) (j4 + (j3 - j4))))])
    refine Go.of (fun t k => XS.lcmp Xx586.here hx rfl (hb hby at_430) rfl k) ?_
    show Go p e below Qo T581 (mkF m 431 #[.val (.long j1), .second, .val (.long j2), .second, .val (.long j3), .second, .val (.long j4), .second, .val (.int i1), .val (.int ((i1 &&& (2147483647 : Int32)) % (7 : Int32))), .val (.ref b1), .val (.int v64_78), .val (.ref b80), .val (.ref b183), .val (.ref b299), .val (.long (F5 j1 j2 j3 (j1 ^^^ j2) (j2 ^^^ j3) (j3 - j1) j4)), .second, .val (.long (F5 j3 j4 (j1 ^^^ j3) j2 j1 (j4 - j2) (j3 - j4))), .second, .val (.long (F5 (j1 + j3) (j2 + j4) (j3 + (j1 ^^^ j3)) ((j1 ^^^ j2) + j2) ((j2 ^^^ j3) + j1) ((j3 - j1) + (j4 - j2)) (j4 + (j3 - j4)))), .second, .unset] [(.int (lcmpW (F5 (j1 + j3) (j2 + j4) (j3 + (j1 ^^^ j3)) ((j1 ^^^ j2) + j2) ((j2 ^^^ j3) + j1) ((j3 - j1) + (j4 - j2)) (j4 + (j3 - j4))) ((F5 j1 j2 j3 (j1 ^^^ j2) (j2 ^^^ j3) (j3 - j1) j4) + (F5 j3 j4 (j1 ^^^ j3) j2 j1 (j4 - j2) (j3 - j4)))))])
    have J431_589 : ∀ (v431_588 : Int32), v431_588 = (if (F5 (j1 + j3) (j2 + j4) (j3 + (j1 ^^^ j3)) ((j1 ^^^ j2) + j2) ((j2 ^^^ j3) + j1) ((j3 - j1) + (j4 - j2)) (j4 + (j3 - j4))) = ((F5 j1 j2 j3 (j1 ^^^ j2) (j2 ^^^ j3) (j3 - j1) j4) + (F5 j3 j4 (j1 ^^^ j3) j2 j1 (j4 - j2) (j3 - j4))) then (1 : Int32) else (0 : Int32)) → Go p e below Qo T581 (mkF m 439 #[.val (.long j1), .second, .val (.long j2), .second, .val (.long j3), .second, .val (.long j4), .second, .val (.int i1), .val (.int ((i1 &&& (2147483647 : Int32)) % (7 : Int32))), .val (.ref b1), .val (.int v64_78), .val (.ref b80), .val (.ref b183), .val (.ref b299), .val (.long (F5 j1 j2 j3 (j1 ^^^ j2) (j2 ^^^ j3) (j3 - j1) j4)), .second, .val (.long (F5 j3 j4 (j1 ^^^ j3) j2 j1 (j4 - j2) (j3 - j4))), .second, .val (.long (F5 (j1 + j3) (j2 + j4) (j3 + (j1 ^^^ j3)) ((j1 ^^^ j2) + j2) ((j2 ^^^ j3) + j1) ((j3 - j1) + (j4 - j2)) (j4 + (j3 - j4)))), .second, .unset] [(.int v431_588)]) := by
      intro v431_588 hv431_588
      show Go p e below Qo T581 (mkF m 439 #[.val (.long j1), .second, .val (.long j2), .second, .val (.long j3), .second, .val (.long j4), .second, .val (.int i1), .val (.int ((i1 &&& (2147483647 : Int32)) % (7 : Int32))), .val (.ref b1), .val (.int v64_78), .val (.ref b80), .val (.ref b183), .val (.ref b299), .val (.long (F5 j1 j2 j3 (j1 ^^^ j2) (j2 ^^^ j3) (j3 - j1) j4)), .second, .val (.long (F5 j3 j4 (j1 ^^^ j3) j2 j1 (j4 - j2) (j3 - j4))), .second, .val (.long (F5 (j1 + j3) (j2 + j4) (j3 + (j1 ^^^ j3)) ((j1 ^^^ j2) + j2) ((j2 ^^^ j3) + j1) ((j3 - j1) + (j4 - j2)) (j4 + (j3 - j4)))), .second, .unset] [(.int v431_588)])
      refine Go.of (fun t k => XS.istore Xx586.here hx rfl (hb hby at_439) rfl (l' := #[.val (.long j1), .second, .val (.long j2), .second, .val (.long j3), .second, .val (.long j4), .second, .val (.int i1), .val (.int ((i1 &&& (2147483647 : Int32)) % (7 : Int32))), .val (.ref b1), .val (.int v64_78), .val (.ref b80), .val (.ref b183), .val (.ref b299), .val (.long (F5 j1 j2 j3 (j1 ^^^ j2) (j2 ^^^ j3) (j3 - j1) j4)), .second, .val (.long (F5 j3 j4 (j1 ^^^ j3) j2 j1 (j4 - j2) (j3 - j4))), .second, .val (.long (F5 (j1 + j3) (j2 + j4) (j3 + (j1 ^^^ j3)) ((j1 ^^^ j2) + j2) ((j2 ^^^ j3) + j1) ((j3 - j1) + (j4 - j2)) (j4 + (j3 - j4)))), .second, .val (.int v431_588)]) rfl k) ?_
      show Go p e below Qo T581 (mkF m 441 #[.val (.long j1), .second, .val (.long j2), .second, .val (.long j3), .second, .val (.long j4), .second, .val (.int i1), .val (.int ((i1 &&& (2147483647 : Int32)) % (7 : Int32))), .val (.ref b1), .val (.int v64_78), .val (.ref b80), .val (.ref b183), .val (.ref b299), .val (.long (F5 j1 j2 j3 (j1 ^^^ j2) (j2 ^^^ j3) (j3 - j1) j4)), .second, .val (.long (F5 j3 j4 (j1 ^^^ j3) j2 j1 (j4 - j2) (j3 - j4))), .second, .val (.long (F5 (j1 + j3) (j2 + j4) (j3 + (j1 ^^^ j3)) ((j1 ^^^ j2) + j2) ((j2 ^^^ j3) + j1) ((j3 - j1) + (j4 - j2)) (j4 + (j3 - j4)))), .second, .val (.int v431_588)] [])
      refine Go.of (fun t k => XS.iload Xx586.here hx rfl (hb hby at_441) rfl  k) ?_
      show Go p e below Qo T581 (mkF m 443 #[.val (.long j1), .second, .val (.long j2), .second, .val (.long j3), .second, .val (.long j4), .second, .val (.int i1), .val (.int ((i1 &&& (2147483647 : Int32)) % (7 : Int32))), .val (.ref b1), .val (.int v64_78), .val (.ref b80), .val (.ref b183), .val (.ref b299), .val (.long (F5 j1 j2 j3 (j1 ^^^ j2) (j2 ^^^ j3) (j3 - j1) j4)), .second, .val (.long (F5 j3 j4 (j1 ^^^ j3) j2 j1 (j4 - j2) (j3 - j4))), .second, .val (.long (F5 (j1 + j3) (j2 + j4) (j3 + (j1 ^^^ j3)) ((j1 ^^^ j2) + j2) ((j2 ^^^ j3) + j1) ((j3 - j1) + (j4 - j2)) (j4 + (j3 - j4)))), .second, .val (.int v431_588)] [(.int v64_78)])
      have J443_593 : ∀ (v443_592 : Int32), v443_592 = (if v64_78 = (0 : Int32) then (0 : Int32) else (if v431_588 = (0 : Int32) then (0 : Int32) else (1 : Int32))) → Go p e below Qo T581 (mkF m 456 #[.val (.long j1), .second, .val (.long j2), .second, .val (.long j3), .second, .val (.long j4), .second, .val (.int i1), .val (.int ((i1 &&& (2147483647 : Int32)) % (7 : Int32))), .val (.ref b1), .val (.int v64_78), .val (.ref b80), .val (.ref b183), .val (.ref b299), .val (.long (F5 j1 j2 j3 (j1 ^^^ j2) (j2 ^^^ j3) (j3 - j1) j4)), .second, .val (.long (F5 j3 j4 (j1 ^^^ j3) j2 j1 (j4 - j2) (j3 - j4))), .second, .val (.long (F5 (j1 + j3) (j2 + j4) (j3 + (j1 ^^^ j3)) ((j1 ^^^ j2) + j2) ((j2 ^^^ j3) + j1) ((j3 - j1) + (j4 - j2)) (j4 + (j3 - j4)))), .second, .val (.int v431_588)] [(.int v443_592)]) := by
        intro v443_592 hv443_592
        show Go p e below Qo T581 (mkF m 456 #[.val (.long j1), .second, .val (.long j2), .second, .val (.long j3), .second, .val (.long j4), .second, .val (.int i1), .val (.int ((i1 &&& (2147483647 : Int32)) % (7 : Int32))), .val (.ref b1), .val (.int v64_78), .val (.ref b80), .val (.ref b183), .val (.ref b299), .val (.long (F5 j1 j2 j3 (j1 ^^^ j2) (j2 ^^^ j3) (j3 - j1) j4)), .second, .val (.long (F5 j3 j4 (j1 ^^^ j3) j2 j1 (j4 - j2) (j3 - j4))), .second, .val (.long (F5 (j1 + j3) (j2 + j4) (j3 + (j1 ^^^ j3)) ((j1 ^^^ j2) + j2) ((j2 ^^^ j3) + j1) ((j3 - j1) + (j4 - j2)) (j4 + (j3 - j4)))), .second, .val (.int v431_588)] [(.int v443_592)])
        have hfin : v443_592 = 1 := by
          exact own_fin _ _ _ hv64_78 hv431_588 hv443_592 hsum (own_add _ _ _ _ _ _ _ _ _ _ _ _ _ _)
        exact own_retN Xx586 hx Bd.notSynchronized (t := .boolean) Bd.returns (by simp) (hb hby at_456) (fun u hu hF => hQo _ _ _ ⟨by rw [hfin]; rfl, Nx586⟩ (own_mono hF (by decide) (by decide)))
      by_cases hc443_594 : v64_78 = (0 : Int32)
      · refine Go.of (fun t k => XS.ifYes Xx586.here hx rfl (pc0 := 443) (pc' := 455) rfl (hb hby at_443) rfl ((if0 _ _).trans (teq hc443_594).1) (by decide) (by decide) k) ?_
        show Go p e below Qo T581 (mkF m 455 #[.val (.long j1), .second, .val (.long j2), .second, .val (.long j3), .second, .val (.long j4), .second, .val (.int i1), .val (.int ((i1 &&& (2147483647 : Int32)) % (7 : Int32))), .val (.ref b1), .val (.int v64_78), .val (.ref b80), .val (.ref b183), .val (.ref b299), .val (.long (F5 j1 j2 j3 (j1 ^^^ j2) (j2 ^^^ j3) (j3 - j1) j4)), .second, .val (.long (F5 j3 j4 (j1 ^^^ j3) j2 j1 (j4 - j2) (j3 - j4))), .second, .val (.long (F5 (j1 + j3) (j2 + j4) (j3 + (j1 ^^^ j3)) ((j1 ^^^ j2) + j2) ((j2 ^^^ j3) + j1) ((j3 - j1) + (j4 - j2)) (j4 + (j3 - j4)))), .second, .val (.int v431_588)] [])
        refine Go.of (fun t k => XS.iconst Xx586.here hx rfl (hb hby at_455) k) ?_
        show Go p e below Qo T581 (mkF m 456 #[.val (.long j1), .second, .val (.long j2), .second, .val (.long j3), .second, .val (.long j4), .second, .val (.int i1), .val (.int ((i1 &&& (2147483647 : Int32)) % (7 : Int32))), .val (.ref b1), .val (.int v64_78), .val (.ref b80), .val (.ref b183), .val (.ref b299), .val (.long (F5 j1 j2 j3 (j1 ^^^ j2) (j2 ^^^ j3) (j3 - j1) j4)), .second, .val (.long (F5 j3 j4 (j1 ^^^ j3) j2 j1 (j4 - j2) (j3 - j4))), .second, .val (.long (F5 (j1 + j3) (j2 + j4) (j3 + (j1 ^^^ j3)) ((j1 ^^^ j2) + j2) ((j2 ^^^ j3) + j1) ((j3 - j1) + (j4 - j2)) (j4 + (j3 - j4)))), .second, .val (.int v431_588)] [(.int (0 : Int32))])
        exact J443_593 _ (by first | rfl | (rw [if_pos hc443_594]) | (simp only [hc443_594, if_true, if_false]; done) | simp [hc443_594])
      · refine Go.of (fun t k => XS.ifNo Xx586.here hx rfl (hb hby at_443) rfl ((if0 _ _).trans (feq hc443_594).1) k) ?_
        show Go p e below Qo T581 (mkF m 446 #[.val (.long j1), .second, .val (.long j2), .second, .val (.long j3), .second, .val (.long j4), .second, .val (.int i1), .val (.int ((i1 &&& (2147483647 : Int32)) % (7 : Int32))), .val (.ref b1), .val (.int v64_78), .val (.ref b80), .val (.ref b183), .val (.ref b299), .val (.long (F5 j1 j2 j3 (j1 ^^^ j2) (j2 ^^^ j3) (j3 - j1) j4)), .second, .val (.long (F5 j3 j4 (j1 ^^^ j3) j2 j1 (j4 - j2) (j3 - j4))), .second, .val (.long (F5 (j1 + j3) (j2 + j4) (j3 + (j1 ^^^ j3)) ((j1 ^^^ j2) + j2) ((j2 ^^^ j3) + j1) ((j3 - j1) + (j4 - j2)) (j4 + (j3 - j4)))), .second, .val (.int v431_588)] [])
        refine Go.of (fun t k => XS.iload Xx586.here hx rfl (hb hby at_446) rfl  k) ?_
        show Go p e below Qo T581 (mkF m 448 #[.val (.long j1), .second, .val (.long j2), .second, .val (.long j3), .second, .val (.long j4), .second, .val (.int i1), .val (.int ((i1 &&& (2147483647 : Int32)) % (7 : Int32))), .val (.ref b1), .val (.int v64_78), .val (.ref b80), .val (.ref b183), .val (.ref b299), .val (.long (F5 j1 j2 j3 (j1 ^^^ j2) (j2 ^^^ j3) (j3 - j1) j4)), .second, .val (.long (F5 j3 j4 (j1 ^^^ j3) j2 j1 (j4 - j2) (j3 - j4))), .second, .val (.long (F5 (j1 + j3) (j2 + j4) (j3 + (j1 ^^^ j3)) ((j1 ^^^ j2) + j2) ((j2 ^^^ j3) + j1) ((j3 - j1) + (j4 - j2)) (j4 + (j3 - j4)))), .second, .val (.int v431_588)] [(.int v431_588)])
        by_cases hc448_595 : v431_588 = (0 : Int32)
        · refine Go.of (fun t k => XS.ifYes Xx586.here hx rfl (pc0 := 448) (pc' := 455) rfl (hb hby at_448) rfl ((if0 _ _).trans (teq hc448_595).1) (by decide) (by decide) k) ?_
          show Go p e below Qo T581 (mkF m 455 #[.val (.long j1), .second, .val (.long j2), .second, .val (.long j3), .second, .val (.long j4), .second, .val (.int i1), .val (.int ((i1 &&& (2147483647 : Int32)) % (7 : Int32))), .val (.ref b1), .val (.int v64_78), .val (.ref b80), .val (.ref b183), .val (.ref b299), .val (.long (F5 j1 j2 j3 (j1 ^^^ j2) (j2 ^^^ j3) (j3 - j1) j4)), .second, .val (.long (F5 j3 j4 (j1 ^^^ j3) j2 j1 (j4 - j2) (j3 - j4))), .second, .val (.long (F5 (j1 + j3) (j2 + j4) (j3 + (j1 ^^^ j3)) ((j1 ^^^ j2) + j2) ((j2 ^^^ j3) + j1) ((j3 - j1) + (j4 - j2)) (j4 + (j3 - j4)))), .second, .val (.int v431_588)] [])
          refine Go.of (fun t k => XS.iconst Xx586.here hx rfl (hb hby at_455) k) ?_
          show Go p e below Qo T581 (mkF m 456 #[.val (.long j1), .second, .val (.long j2), .second, .val (.long j3), .second, .val (.long j4), .second, .val (.int i1), .val (.int ((i1 &&& (2147483647 : Int32)) % (7 : Int32))), .val (.ref b1), .val (.int v64_78), .val (.ref b80), .val (.ref b183), .val (.ref b299), .val (.long (F5 j1 j2 j3 (j1 ^^^ j2) (j2 ^^^ j3) (j3 - j1) j4)), .second, .val (.long (F5 j3 j4 (j1 ^^^ j3) j2 j1 (j4 - j2) (j3 - j4))), .second, .val (.long (F5 (j1 + j3) (j2 + j4) (j3 + (j1 ^^^ j3)) ((j1 ^^^ j2) + j2) ((j2 ^^^ j3) + j1) ((j3 - j1) + (j4 - j2)) (j4 + (j3 - j4)))), .second, .val (.int v431_588)] [(.int (0 : Int32))])
          exact J443_593 _ (by first | rfl | (rw [if_neg hc443_594, if_pos hc448_595]) | (simp only [hc443_594, hc448_595, if_true, if_false]; done) | simp [hc443_594, hc448_595])
        · refine Go.of (fun t k => XS.ifNo Xx586.here hx rfl (hb hby at_448) rfl ((if0 _ _).trans (feq hc448_595).1) k) ?_
          show Go p e below Qo T581 (mkF m 451 #[.val (.long j1), .second, .val (.long j2), .second, .val (.long j3), .second, .val (.long j4), .second, .val (.int i1), .val (.int ((i1 &&& (2147483647 : Int32)) % (7 : Int32))), .val (.ref b1), .val (.int v64_78), .val (.ref b80), .val (.ref b183), .val (.ref b299), .val (.long (F5 j1 j2 j3 (j1 ^^^ j2) (j2 ^^^ j3) (j3 - j1) j4)), .second, .val (.long (F5 j3 j4 (j1 ^^^ j3) j2 j1 (j4 - j2) (j3 - j4))), .second, .val (.long (F5 (j1 + j3) (j2 + j4) (j3 + (j1 ^^^ j3)) ((j1 ^^^ j2) + j2) ((j2 ^^^ j3) + j1) ((j3 - j1) + (j4 - j2)) (j4 + (j3 - j4)))), .second, .val (.int v431_588)] [])
          refine Go.of (fun t k => XS.iconst Xx586.here hx rfl (hb hby at_451) k) ?_
          show Go p e below Qo T581 (mkF m 452 #[.val (.long j1), .second, .val (.long j2), .second, .val (.long j3), .second, .val (.long j4), .second, .val (.int i1), .val (.int ((i1 &&& (2147483647 : Int32)) % (7 : Int32))), .val (.ref b1), .val (.int v64_78), .val (.ref b80), .val (.ref b183), .val (.ref b299), .val (.long (F5 j1 j2 j3 (j1 ^^^ j2) (j2 ^^^ j3) (j3 - j1) j4)), .second, .val (.long (F5 j3 j4 (j1 ^^^ j3) j2 j1 (j4 - j2) (j3 - j4))), .second, .val (.long (F5 (j1 + j3) (j2 + j4) (j3 + (j1 ^^^ j3)) ((j1 ^^^ j2) + j2) ((j2 ^^^ j3) + j1) ((j3 - j1) + (j4 - j2)) (j4 + (j3 - j4)))), .second, .val (.int v431_588)] [(.int (1 : Int32))])
          refine Go.of (fun t k => XS.goto Xx586.here hx rfl (pc0 := 452) (pc' := 456) rfl (hb hby at_452) (by decide) (by decide) k) ?_
          show Go p e below Qo T581 (mkF m 456 #[.val (.long j1), .second, .val (.long j2), .second, .val (.long j3), .second, .val (.long j4), .second, .val (.int i1), .val (.int ((i1 &&& (2147483647 : Int32)) % (7 : Int32))), .val (.ref b1), .val (.int v64_78), .val (.ref b80), .val (.ref b183), .val (.ref b299), .val (.long (F5 j1 j2 j3 (j1 ^^^ j2) (j2 ^^^ j3) (j3 - j1) j4)), .second, .val (.long (F5 j3 j4 (j1 ^^^ j3) j2 j1 (j4 - j2) (j3 - j4))), .second, .val (.long (F5 (j1 + j3) (j2 + j4) (j3 + (j1 ^^^ j3)) ((j1 ^^^ j2) + j2) ((j2 ^^^ j3) + j1) ((j3 - j1) + (j4 - j2)) (j4 + (j3 - j4)))), .second, .val (.int v431_588)] [(.int (1 : Int32))])
          exact J443_593 _ (by first | rfl | (rw [if_neg hc443_594, if_neg hc448_595]) | (simp only [hc443_594, hc448_595, if_true, if_false]; done) | simp [hc443_594, hc448_595])
    by_cases hc431_596 : (F5 (j1 + j3) (j2 + j4) (j3 + (j1 ^^^ j3)) ((j1 ^^^ j2) + j2) ((j2 ^^^ j3) + j1) ((j3 - j1) + (j4 - j2)) (j4 + (j3 - j4))) = ((F5 j1 j2 j3 (j1 ^^^ j2) (j2 ^^^ j3) (j3 - j1) j4) + (F5 j3 j4 (j1 ^^^ j3) j2 j1 (j4 - j2) (j3 - j4)))
    · refine Go.of (fun t k => XS.ifNo Xx586.here hx rfl (hb hby at_431) rfl ((if0 _ _).trans (teq ((lw_eq (F5 (j1 + j3) (j2 + j4) (j3 + (j1 ^^^ j3)) ((j1 ^^^ j2) + j2) ((j2 ^^^ j3) + j1) ((j3 - j1) + (j4 - j2)) (j4 + (j3 - j4))) ((F5 j1 j2 j3 (j1 ^^^ j2) (j2 ^^^ j3) (j3 - j1) j4) + (F5 j3 j4 (j1 ^^^ j3) j2 j1 (j4 - j2) (j3 - j4)))).mpr hc431_596)).2) k) ?_
      show Go p e below Qo T581 (mkF m 434 #[.val (.long j1), .second, .val (.long j2), .second, .val (.long j3), .second, .val (.long j4), .second, .val (.int i1), .val (.int ((i1 &&& (2147483647 : Int32)) % (7 : Int32))), .val (.ref b1), .val (.int v64_78), .val (.ref b80), .val (.ref b183), .val (.ref b299), .val (.long (F5 j1 j2 j3 (j1 ^^^ j2) (j2 ^^^ j3) (j3 - j1) j4)), .second, .val (.long (F5 j3 j4 (j1 ^^^ j3) j2 j1 (j4 - j2) (j3 - j4))), .second, .val (.long (F5 (j1 + j3) (j2 + j4) (j3 + (j1 ^^^ j3)) ((j1 ^^^ j2) + j2) ((j2 ^^^ j3) + j1) ((j3 - j1) + (j4 - j2)) (j4 + (j3 - j4)))), .second, .unset] [])
      refine Go.of (fun t k => XS.iconst Xx586.here hx rfl (hb hby at_434) k) ?_
      show Go p e below Qo T581 (mkF m 435 #[.val (.long j1), .second, .val (.long j2), .second, .val (.long j3), .second, .val (.long j4), .second, .val (.int i1), .val (.int ((i1 &&& (2147483647 : Int32)) % (7 : Int32))), .val (.ref b1), .val (.int v64_78), .val (.ref b80), .val (.ref b183), .val (.ref b299), .val (.long (F5 j1 j2 j3 (j1 ^^^ j2) (j2 ^^^ j3) (j3 - j1) j4)), .second, .val (.long (F5 j3 j4 (j1 ^^^ j3) j2 j1 (j4 - j2) (j3 - j4))), .second, .val (.long (F5 (j1 + j3) (j2 + j4) (j3 + (j1 ^^^ j3)) ((j1 ^^^ j2) + j2) ((j2 ^^^ j3) + j1) ((j3 - j1) + (j4 - j2)) (j4 + (j3 - j4)))), .second, .unset] [(.int (1 : Int32))])
      refine Go.of (fun t k => XS.goto Xx586.here hx rfl (pc0 := 435) (pc' := 439) rfl (hb hby at_435) (by decide) (by decide) k) ?_
      show Go p e below Qo T581 (mkF m 439 #[.val (.long j1), .second, .val (.long j2), .second, .val (.long j3), .second, .val (.long j4), .second, .val (.int i1), .val (.int ((i1 &&& (2147483647 : Int32)) % (7 : Int32))), .val (.ref b1), .val (.int v64_78), .val (.ref b80), .val (.ref b183), .val (.ref b299), .val (.long (F5 j1 j2 j3 (j1 ^^^ j2) (j2 ^^^ j3) (j3 - j1) j4)), .second, .val (.long (F5 j3 j4 (j1 ^^^ j3) j2 j1 (j4 - j2) (j3 - j4))), .second, .val (.long (F5 (j1 + j3) (j2 + j4) (j3 + (j1 ^^^ j3)) ((j1 ^^^ j2) + j2) ((j2 ^^^ j3) + j1) ((j3 - j1) + (j4 - j2)) (j4 + (j3 - j4)))), .second, .unset] [(.int (1 : Int32))])
      exact J431_589 _ (by first | rfl | (rw [if_pos hc431_596]) | (simp only [hc431_596, if_true, if_false]; done) | simp [hc431_596])
    · refine Go.of (fun t k => XS.ifYes Xx586.here hx rfl (pc0 := 431) (pc' := 438) rfl (hb hby at_431) rfl ((if0 _ _).trans (feq (fun z => hc431_596 ((lw_eq (F5 (j1 + j3) (j2 + j4) (j3 + (j1 ^^^ j3)) ((j1 ^^^ j2) + j2) ((j2 ^^^ j3) + j1) ((j3 - j1) + (j4 - j2)) (j4 + (j3 - j4))) ((F5 j1 j2 j3 (j1 ^^^ j2) (j2 ^^^ j3) (j3 - j1) j4) + (F5 j3 j4 (j1 ^^^ j3) j2 j1 (j4 - j2) (j3 - j4)))).mp z))).2) (by decide) (by decide) k) ?_
      show Go p e below Qo T581 (mkF m 438 #[.val (.long j1), .second, .val (.long j2), .second, .val (.long j3), .second, .val (.long j4), .second, .val (.int i1), .val (.int ((i1 &&& (2147483647 : Int32)) % (7 : Int32))), .val (.ref b1), .val (.int v64_78), .val (.ref b80), .val (.ref b183), .val (.ref b299), .val (.long (F5 j1 j2 j3 (j1 ^^^ j2) (j2 ^^^ j3) (j3 - j1) j4)), .second, .val (.long (F5 j3 j4 (j1 ^^^ j3) j2 j1 (j4 - j2) (j3 - j4))), .second, .val (.long (F5 (j1 + j3) (j2 + j4) (j3 + (j1 ^^^ j3)) ((j1 ^^^ j2) + j2) ((j2 ^^^ j3) + j1) ((j3 - j1) + (j4 - j2)) (j4 + (j3 - j4)))), .second, .unset] [])
      refine Go.of (fun t k => XS.iconst Xx586.here hx rfl (hb hby at_438) k) ?_
      show Go p e below Qo T581 (mkF m 439 #[.val (.long j1), .second, .val (.long j2), .second, .val (.long j3), .second, .val (.long j4), .second, .val (.int i1), .val (.int ((i1 &&& (2147483647 : Int32)) % (7 : Int32))), .val (.ref b1), .val (.int v64_78), .val (.ref b80), .val (.ref b183), .val (.ref b299), .val (.long (F5 j1 j2 j3 (j1 ^^^ j2) (j2 ^^^ j3) (j3 - j1) j4)), .second, .val (.long (F5 j3 j4 (j1 ^^^ j3) j2 j1 (j4 - j2) (j3 - j4))), .second, .val (.long (F5 (j1 + j3) (j2 + j4) (j3 + (j1 ^^^ j3)) ((j1 ^^^ j2) + j2) ((j2 ^^^ j3) + j1) ((j3 - j1) + (j4 - j2)) (j4 + (j3 - j4)))), .second, .unset] [(.int (0 : Int32))])
      exact J431_589 _ (by first | rfl | (rw [if_neg hc431_596]) | (simp only [hc431_596, if_true, if_false]; done) | simp [hc431_596])
  by_cases hc64_597 : (F5 y5 y6 y7 y8 y9 y10 y11) = j1
  · refine Go.of (fun t k => XS.ifNo Xx76.here hx rfl (hb hby at_64) rfl ((if0 _ _).trans (teq ((lw_eq (F5 y5 y6 y7 y8 y9 y10 y11) j1).mpr hc64_597)).2) k) ?_
    show Go p e below Qo T71 (mkF m 67 #[.val (.long j1), .second, .val (.long j2), .second, .val (.long j3), .second, .val (.long j4), .second, .val (.int i1), .val (.int ((i1 &&& (2147483647 : Int32)) % (7 : Int32))), .val (.ref b1), .unset, .unset, .unset, .unset, .unset, .unset, .unset, .unset, .unset, .unset, .unset] [])
    refine Go.of (fun t k => XS.iconst Xx76.here hx rfl (hb hby at_67) k) ?_
    show Go p e below Qo T71 (mkF m 68 #[.val (.long j1), .second, .val (.long j2), .second, .val (.long j3), .second, .val (.long j4), .second, .val (.int i1), .val (.int ((i1 &&& (2147483647 : Int32)) % (7 : Int32))), .val (.ref b1), .unset, .unset, .unset, .unset, .unset, .unset, .unset, .unset, .unset, .unset, .unset] [(.int (1 : Int32))])
    refine Go.of (fun t k => XS.goto Xx76.here hx rfl (pc0 := 68) (pc' := 72) rfl (hb hby at_68) (by decide) (by decide) k) ?_
    show Go p e below Qo T71 (mkF m 72 #[.val (.long j1), .second, .val (.long j2), .second, .val (.long j3), .second, .val (.long j4), .second, .val (.int i1), .val (.int ((i1 &&& (2147483647 : Int32)) % (7 : Int32))), .val (.ref b1), .unset, .unset, .unset, .unset, .unset, .unset, .unset, .unset, .unset, .unset, .unset] [(.int (1 : Int32))])
    exact J64_79 _ (by first | rfl | (rw [if_pos hc64_597]) | (simp only [hc64_597, if_true, if_false]; done) | simp [hc64_597])
  · refine Go.of (fun t k => XS.ifYes Xx76.here hx rfl (pc0 := 64) (pc' := 71) rfl (hb hby at_64) rfl ((if0 _ _).trans (feq (fun z => hc64_597 ((lw_eq (F5 y5 y6 y7 y8 y9 y10 y11) j1).mp z))).2) (by decide) (by decide) k) ?_
    show Go p e below Qo T71 (mkF m 71 #[.val (.long j1), .second, .val (.long j2), .second, .val (.long j3), .second, .val (.long j4), .second, .val (.int i1), .val (.int ((i1 &&& (2147483647 : Int32)) % (7 : Int32))), .val (.ref b1), .unset, .unset, .unset, .unset, .unset, .unset, .unset, .unset, .unset, .unset, .unset] [])
    refine Go.of (fun t k => XS.iconst Xx76.here hx rfl (hb hby at_71) k) ?_
    show Go p e below Qo T71 (mkF m 72 #[.val (.long j1), .second, .val (.long j2), .second, .val (.long j3), .second, .val (.long j4), .second, .val (.int i1), .val (.int ((i1 &&& (2147483647 : Int32)) % (7 : Int32))), .val (.ref b1), .unset, .unset, .unset, .unset, .unset, .unset, .unset, .unset, .unset, .unset, .unset] [(.int (0 : Int32))])
    exact J64_79 _ (by first | rfl | (rw [if_neg hc64_597]) | (simp only [hc64_597, if_true, if_false]; done) | simp [hc64_597])
set_option maxRecDepth 65536 in
set_option maxHeartbeats 40000000 in
theorem comes_1 {Post : Tables → Env → Array Value → State → Outcome → State → Prop} (hpost : ∀ tb e args s v u, (limb_1_1.after args s (.returned v) u = true ∧ limb_1_2.after args s (.returned v) u = true ∧ True) → FrameEnd s (.returned v) u (Jvm.fieldLocs frame_1_writes args s ++ Jvm.arrayLocs frame_1_arrays args s ++ Jvm.staticLocs frame_1_statics s) 24 256 → Post tb e args s (.returned v) u) :
    ArmFor flags0 classFile x code maxLocals ret World_1 tables_1 room_1 Calls_1 rest_1 Pre_1 Post := by
  intro l hfl _ _ p e ha hc hk s m args below hf hA hF happ hP
  obtain ⟨hcalls, hrest, hpre⟩ := hP
  obtain ⟨-, -, -, hnamed, -, -, -, hat⟩ := (Spec.applies_iff hf).mp happ
  obtain ⟨hg, hn⟩ := and_e (Cond.before_iff.mp (show (Jvm.Cond.and given_1 narrow_1).before args s = true from hpre))
  obtain ⟨hg0, hgr0⟩ := and_e hg
  obtain ⟨ha0, hgr1⟩ := and_e hgr0
  obtain ⟨ha1, hgr2⟩ := and_e hgr1
  obtain ⟨ha2, hgr3⟩ := and_e hgr2
  obtain ⟨ha3, hgr4⟩ := and_e hgr3
  obtain ⟨w0, w1, w2, w3, w4, rfl⟩ : ∃ w0 w1 w2 w3 w4 : Value, args = #[w0, w1, w2, w3, w4] := by
    have hs : args.size = 5 := by simpa [Cond.value, given_1] using hg0
    obtain ⟨L⟩ := args
    match L, hs with
    | [w0, w1, w2, w3, w4], _ => exact ⟨w0, w1, w2, w3, w4, rfl⟩
  have hw := fun d (hd : d ∈ tables_1) => atoms_spec (ws := Jvm.Cond.code x code maxLocals ret :: tables_1) hat d (List.mem_cons_of_mem _ hd)
  have hfit : Fit s := fun {y c} hc i hi => by
    obtain ⟨ha, rfl⟩ := Array.getElem?_eq_some_iff.mp hc
    have q := List.all_eq_true.mp ((Array.all_eq_true_iff_forall_mem.mp hF) _ (Array.getElem_mem ha)) i (List.mem_range.mpr hi)
    simpa [Array.getElem?_eq_getElem hi] using q
  obtain ⟨i0, ei0⟩ := isL_v ha0
  obtain rfl : w0 = (.long i0) := Option.some.inj ei0
  obtain ⟨i1, ei1⟩ := isL_v ha1
  obtain rfl : w1 = (.long i1) := Option.some.inj ei1
  obtain ⟨i2, ei2⟩ := isL_v ha2
  obtain rfl : w2 = (.long i2) := Option.some.inj ei2
  obtain ⟨i3, ei3⟩ := isL_v ha3
  obtain rfl : w3 = (.long i3) := Option.some.inj ei3
  obtain ⟨i4, ei4⟩ := is_v hgr4
  obtain rfl : w4 = (.int i4) := Option.some.inj ei4
  obtain ⟨n, o, h1, h2, h3, _, L, rfl, ⟨rfl, N⟩, hq⟩ := rm0 l s _ hw tables_1 i0 i1 i2 i3 i4  s.heap s.heap.size (Nat.le_refl _)  p e ha hc hk s m _ below hf ((Spec.applies_iff_loose hf).mp happ).1 ⟨rfl, State.Warmed39.refl s, rfl⟩ trivial
  refine ⟨n, _, h1, h2, h3, hpost _ _ _ _ _ _ ⟨Cond.after_iff.mpr rfl, Cond.after_iff.mpr (eq_i res_at (Term.int_eval (1)) rfl), trivial⟩ ⟨hq.1, hq.2.1, (hq.2.2.sift fun y hy => Or.inr (N y hy)).mono (by decide) (by decide)⟩⟩
theorem main_1_1 : Claimed_1_1 := comes_1 fun _ _ _ _ _ _ h hF => ⟨h.1, hF⟩
theorem main_1_2 : Claimed_1_2 := comes_1 fun _ _ _ _ _ _ h hF => ⟨h.2.1, hF⟩
end Jvm.Pilot.@@N@@
namespace Jvm.Pilot.@@N@@
open Jvm Jvm.ClassFile Sem Op Lib Jvm.Free Jvm.Stand Jvm.Pilot.@@N@@.Jvm.D
/-! MADE BY PROGRAM (witnessworld.py) out of the Statement's table words and the real class files: 12 classes; the members and pool entries that the words name. The judged class is class 1, her method 1. -/
namespace start1
open Jvm.ClassFile
def u (s : String) : CpInfo := .utf8 (stringToUtf16 s)
/-- a pool by its gaps: so many unusable entries, then the entry; so many at the end -/
def gap : Nat → List CpInfo → List CpInfo
  | 0, r => r
  | n + 1, r => .unusable :: gap n r
def poolList (es : List (Nat × CpInfo)) (last : Nat) : List CpInfo := es.foldr (fun e r => gap e.1 (e.2 :: r)) (gap last [])
def pool (es : List (Nat × CpInfo)) (last : Nat) : Array CpInfo := ⟨poolList es last⟩
def fileOf (pool : Array CpInfo) (this : Nat) (attrs : Array Attribute := #[]) (ms : Array MethodInfo := #[]) (fl : Nat := 33) (sup : Nat := 0) (ifs : Array Nat := #[]) (fds : Array FieldInfo := #[]) : ClassFile where
  minorVersion := 0
  majorVersion := 65
  constantPool := pool
  accessFlags := fl
  thisClass := this
  superClass := sup
  interfaces := ifs
  fields := fds
  methods := ms
  attributes := attrs
def plain (name : String) (sup : Option ClassId) : Class where
  name := name
  kind := .ordinary
  loader := none
  accessFlags := 33
  super := sup
  interfaces := #[]
  cf := none
  fields := #[]
  methods := #[]
  instanceTypes := #[]
  staticTypes := #[]
  resolved := #[]
  callSites := []
  init := .initialized
  statics := none
  mirror := none

def pool0 : Array CpInfo := pool [(5, u "<init>"), (0, u "()V"), (1, .class_ 10), (1, u "java/lang/Object")] 113

def k0c0 : Code := { maxStack := 0, maxLocals := 1, code := object_method_1_code, exceptionTable := #[], attributes := #[] }
def k0m0 : Method := { name := "<init>", desc := "()V", sig := { parameters := [], returnType := none }, accessFlags := 1, code := some k0c0 }
/-- java/lang/Object -/
def k0 : Class := { plain "java/lang/Object" none with
  accessFlags := 33
  interfaces := #[]
  cf := some (fileOf pool0 8 #[] #[{ accessFlags := 1, nameIndex := 5, descriptorIndex := 6, attributes := #[] }] 33 0 #[] #[])
  fields := #[]
  methods := #[k0m0]
  instanceTypes := #[]
  staticTypes := #[]
  resolved := Array.replicate 124 none
  statics := none }

def pool1 : Array CpInfo := pool [(2, .class_ 4), (1, u "java/lang/Object"), (0, u "<init>"), (0, u "()V"), (0, .integer 2147483647), (0, .methodref 9 10), (0, .class_ 11), (0, .nameAndType 12 13), (0, u "com/example/examwright/examwright/CompetitionScoreSoftPenaltyPinLaw"), (0, u "make"), (0, u "([J)Lcom/example/examwright/examwright/CompetitionScore;"), (0, .methodref 15 16), (0, .class_ 17), (0, .nameAndType 18 19), (0, u "com/example/examwright/examwright/CompetitionScore"), (0, u "softPenalty"), (0, u "()J"), (0, .methodref 15 21), (0, .nameAndType 5 22), (0, u "(JJJJJJJJJJJJ)V"), (2, u "law"), (0, u "(JJJJI)Z")] 5

def k1m0 : Method := { name := "<init>", desc := "()V", sig := { parameters := [], returnType := none }, accessFlags := 1, code := none }
def k1c1 : Code := { maxStack := 7, maxLocals := 22, code := code, exceptionTable := #[], attributes := #[] }
def k1m1 : Method := { name := "law", desc := "(JJJJI)Z", sig := { parameters := [.long, .long, .long, .long, .int], returnType := some .boolean }, accessFlags := 9, code := some k1c1 }
def k1c2 : Code := { maxStack := 26, maxLocals := 1, code := method_3_code, exceptionTable := #[], attributes := #[] }
def k1m2 : Method := { name := "make", desc := "([J)Lcom/example/examwright/examwright/CompetitionScore;", sig := { parameters := [(.array .long)], returnType := some (.object "com/example/examwright/examwright/CompetitionScore") }, accessFlags := 10, code := some k1c2 }
/-- com/example/examwright/examwright/CompetitionScoreSoftPenaltyPinLaw -/
def k1 : Class := { plain "com/example/examwright/examwright/CompetitionScoreSoftPenaltyPinLaw" (some 0) with
  accessFlags := 49
  interfaces := #[]
  cf := some (fileOf pool1 9 #[] #[{ accessFlags := 1, nameIndex := 5, descriptorIndex := 6, attributes := #[] }, { accessFlags := 9, nameIndex := 25, descriptorIndex := 26, attributes := #[] }, { accessFlags := 10, nameIndex := 12, descriptorIndex := 13, attributes := #[] }] 49 2 #[] #[])
  fields := #[]
  methods := #[k1m0, k1m1, k1m2]
  instanceTypes := #[]
  staticTypes := #[]
  resolved := Array.replicate 32 none
  statics := none }

def pool2 : Array CpInfo := pool [(1, .methodref 2 3), (0, .class_ 4), (0, .nameAndType 5 6), (0, u "java/lang/Object"), (0, u "<init>"), (0, u "()V"), (0, .class_ 8), (0, u "java/lang/Record")] 13

def k2c0 : Code := { maxStack := 1, maxLocals := 1, code := jdk_30_method_1_code, exceptionTable := #[], attributes := #[] }
def k2m0 : Method := { name := "<init>", desc := "()V", sig := { parameters := [], returnType := none }, accessFlags := 4, code := some k2c0 }
/-- java/lang/Record -/
def k2 : Class := { plain "java/lang/Record" (some 0) with
  accessFlags := 1057
  interfaces := #[]
  cf := some (fileOf pool2 7 #[] #[{ accessFlags := 4, nameIndex := 5, descriptorIndex := 6, attributes := #[] }] 1057 2 #[] #[])
  fields := #[]
  methods := #[k2m0]
  instanceTypes := #[]
  staticTypes := #[]
  resolved := Array.replicate 22 none
  statics := none }

def pool3 : Array CpInfo := pool [(1, .methodref 2 3), (0, .class_ 4), (0, .nameAndType 5 6), (0, u "java/lang/Record"), (0, u "<init>"), (0, u "()V"), (0, .fieldref 8 9), (0, .class_ 10), (0, .nameAndType 11 12), (0, u "com/example/examwright/examwright/CompetitionScore"), (0, u "conflicts"), (0, u "J"), (0, .fieldref 8 14), (0, .nameAndType 15 12), (0, u "roomOccupancy"), (0, .fieldref 8 17), (0, .nameAndType 18 12), (0, u "periodUtilisation"), (0, .fieldref 8 20), (0, .nameAndType 21 12), (0, u "periodRelated"), (0, .fieldref 8 23), (0, .nameAndType 24 12), (0, u "roomRelated"), (0, .fieldref 8 26), (0, .nameAndType 27 12), (0, u "twoInARow"), (0, .fieldref 8 29), (0, .nameAndType 30 12), (0, u "twoInADay"), (0, .fieldref 8 32), (0, .nameAndType 33 12), (0, u "periodSpread"), (0, .fieldref 8 35), (0, .nameAndType 36 12), (0, u "mixedDurations"), (0, .fieldref 8 38), (0, .nameAndType 39 12), (0, u "frontLoad"), (0, .fieldref 8 41), (0, .nameAndType 42 12), (0, u "periodPenalty"), (0, .fieldref 8 44), (0, .nameAndType 45 12), (0, u "roomPenalty"), (0, .class_ 47), (0, u "com/example/examwright/examwright/CompetitionScore$Tally"), (50, u "(JJJJJJJJJJJJ)V"), (35, u "softPenalty"), (0, u "()J"), (42, .class_ 179), (0, u "com/example/examwright/examwright/CompetitionScore$1")] 39

def k3c0 : Code := { maxStack := 3, maxLocals := 25, code := prog_13_method_1_code, exceptionTable := #[], attributes := #[] }
def k3m0 : Method := { name := "<init>", desc := "(JJJJJJJJJJJJ)V", sig := { parameters := [.long, .long, .long, .long, .long, .long, .long, .long, .long, .long, .long, .long], returnType := none }, accessFlags := 0, code := some k3c0 }
def k3c1 : Code := { maxStack := 4, maxLocals := 1, code := prog_13_method_4_code, exceptionTable := #[], attributes := #[] }
def k3m1 : Method := { name := "softPenalty", desc := "()J", sig := { parameters := [], returnType := some .long }, accessFlags := 0, code := some k3c1 }
/-- com/example/examwright/examwright/CompetitionScore -/
def k3 : Class := { plain "com/example/examwright/examwright/CompetitionScore" (some 2) with
  accessFlags := 48
  interfaces := #[]
  cf := some (fileOf pool3 8 #[.nestMembers #[178, 46]] #[{ accessFlags := 0, nameIndex := 5, descriptorIndex := 98, attributes := #[] }, { accessFlags := 0, nameIndex := 134, descriptorIndex := 135, attributes := #[] }] 48 2 #[] #[{ accessFlags := 18, nameIndex := 11, descriptorIndex := 12, attributes := #[] }, { accessFlags := 18, nameIndex := 15, descriptorIndex := 12, attributes := #[] }, { accessFlags := 18, nameIndex := 18, descriptorIndex := 12, attributes := #[] }, { accessFlags := 18, nameIndex := 21, descriptorIndex := 12, attributes := #[] }, { accessFlags := 18, nameIndex := 24, descriptorIndex := 12, attributes := #[] }, { accessFlags := 18, nameIndex := 27, descriptorIndex := 12, attributes := #[] }, { accessFlags := 18, nameIndex := 30, descriptorIndex := 12, attributes := #[] }, { accessFlags := 18, nameIndex := 33, descriptorIndex := 12, attributes := #[] }, { accessFlags := 18, nameIndex := 36, descriptorIndex := 12, attributes := #[] }, { accessFlags := 18, nameIndex := 39, descriptorIndex := 12, attributes := #[] }, { accessFlags := 18, nameIndex := 42, descriptorIndex := 12, attributes := #[] }, { accessFlags := 18, nameIndex := 45, descriptorIndex := 12, attributes := #[] }])
  fields := #[{ name := "conflicts", type := .long, accessFlags := 18, slot := 0, constantValue := 0 }, { name := "roomOccupancy", type := .long, accessFlags := 18, slot := 1, constantValue := 0 }, { name := "periodUtilisation", type := .long, accessFlags := 18, slot := 2, constantValue := 0 }, { name := "periodRelated", type := .long, accessFlags := 18, slot := 3, constantValue := 0 }, { name := "roomRelated", type := .long, accessFlags := 18, slot := 4, constantValue := 0 }, { name := "twoInARow", type := .long, accessFlags := 18, slot := 5, constantValue := 0 }, { name := "twoInADay", type := .long, accessFlags := 18, slot := 6, constantValue := 0 }, { name := "periodSpread", type := .long, accessFlags := 18, slot := 7, constantValue := 0 }, { name := "mixedDurations", type := .long, accessFlags := 18, slot := 8, constantValue := 0 }, { name := "frontLoad", type := .long, accessFlags := 18, slot := 9, constantValue := 0 }, { name := "periodPenalty", type := .long, accessFlags := 18, slot := 10, constantValue := 0 }, { name := "roomPenalty", type := .long, accessFlags := 18, slot := 11, constantValue := 0 }]
  methods := #[k3m0, k3m1]
  instanceTypes := #[.long, .long, .long, .long, .long, .long, .long, .long, .long, .long, .long, .long]
  staticTypes := #[]
  resolved := Array.replicate 219 none
  statics := none }

def pool4 : Array CpInfo := pool [(1, u "java/lang/Cloneable"), (0, .class_ 1), (0, u "java/lang/Object"), (0, .class_ 3)] 3

/-- java/lang/Cloneable -/
def k4 : Class := { plain "java/lang/Cloneable" (some 0) with
  accessFlags := 1537
  interfaces := #[]
  cf := some (fileOf pool4 2 #[] #[] 1537 4 #[] #[])
  fields := #[]
  methods := #[]
  instanceTypes := #[]
  staticTypes := #[]
  resolved := Array.replicate 8 none
  statics := none }

def pool5 : Array CpInfo := pool [(1, u "java/io/Serializable"), (0, .class_ 1), (0, u "java/lang/Object"), (0, .class_ 3)] 3

/-- java/io/Serializable -/
def k5 : Class := { plain "java/io/Serializable" (some 0) with
  accessFlags := 1537
  interfaces := #[]
  cf := some (fileOf pool5 2 #[] #[] 1537 4 #[] #[])
  fields := #[]
  methods := #[]
  instanceTypes := #[]
  staticTypes := #[]
  resolved := Array.replicate 8 none
  statics := none }

/-- the primitive byte -/
def k6 : Class := { plain "byte" none with kind := .primitive 'B', accessFlags := 0x411 }
/-- [B -/
def k7 : Class := { plain "[B" (some 0) with kind := .array 6 .byte, interfaces := #[4, 5], accessFlags := 1041 }

/-- the primitive int -/
def k8 : Class := { plain "int" none with kind := .primitive 'I', accessFlags := 0x411 }
/-- [I -/
def k9 : Class := { plain "[I" (some 0) with kind := .array 8 .int, interfaces := #[4, 5], accessFlags := 1041 }

/-- the primitive long -/
def k10 : Class := { plain "long" none with kind := .primitive 'J', accessFlags := 0x411 }
/-- [J -/
def k11 : Class := { plain "[J" (some 0) with kind := .array 10 .long, interfaces := #[4, 5], accessFlags := 1041 }

def heap : Heap := #[]
def classes : Array Class := #[k0, k1, k2, k3, k4, k5, k6, k7, k8, k9, k10, k11]
def interned : List (Array UInt16 × Addr) := []
def slotsUsed : Nat := 0
def theMethod : MethodId := ⟨1, 1⟩
def args0 : Array Value := #[.long 5, .long 7, .long 9, .long 2, .int 3]
def aboutOver (below : List Frame) : State where
  vm := { classes := classes, interned := interned.toArray }
  heap := heap
  slotsUsed := slotsUsed
  threads := #[{ frames := .invoking theMethod args0 :: below }]
def below0 : List Frame := [.native { method := ⟨0, 0⟩, args := #[] }]
def about1 : State := aboutOver below0
def p0 : Program := .bare "" "" ""
def e0 : Env := launch0.env 0 0 0
theorem w_frames : about1.frames = Frame.invoking theMethod args0 :: below0 := rfl
set_option maxRecDepth 65536 in
theorem w_args : argsFit about1.vm theMethod args0 = true := by decide +kernel
set_option maxRecDepth 65536 in
theorem w_heap : heapFits about1 = true := by decide +kernel
set_option maxRecDepth 65536 in
theorem w_runnable : about1.curStatus? = some .runnable := by decide +kernel
set_option maxRecDepth 65536 in
theorem w_alone : about1.alone = true := by decide +kernel
set_option maxRecDepth 65536 in
theorem w_named : about1.methodNamed? x = some theMethod := by decide +kernel
set_option maxRecDepth 65536 in
theorem w_hears : about1.hears theMethod below0 = true := by decide +kernel
set_option maxRecDepth 65536 in
theorem w_ripe : about1.ripe theMethod args0 below0 = true := by decide +kernel
theorem w_running : about1.status = .running := rfl
set_option maxRecDepth 65536 in
theorem w_room : about1.hasRoom e0.platform room_1 = true :=
  launch0.hasRoom_least _ room_1 (by decide +kernel) (by decide +kernel) (by decide +kernel) (by decide +kernel) (by decide +kernel) (by decide +kernel)
theorem allAtoms_all (ts : List Jvm.Cond) (a : Array Jvm.Value) (st : Jvm.State) : (allAtoms ts).before a st = ts.all (fun c => c.before a st) := by
  induction ts with
  | nil => rfl
  | cons c t ih =>
    show (Jvm.Cond.and c (allAtoms t)).before a st = _
    rw [Jvm.Cond.before_and, ih, List.all_cons]
def words1 : List Jvm.Cond := Jvm.Cond.code x code maxLocals ret :: tables_1
/-- a 'code' word, met by the world's own term for the bytes: nothing is compared byte by byte -/
theorem code_word {y : MethodName} {bytes : ByteArray} {mx : Nat} {rt : Option FieldType} {a : Array Value} {s : State} {m : MethodId} {meth : Method} {c : Code} (h1 : s.methodNamed? y = some m) (h2 : s.vm.method? m = some meth) (h3 : meth.code = some c) (h4 : c.code = bytes)
    (h5 : (c.maxLocals == mx && c.exceptionTable.isEmpty && decide (c.maxStack ≤ mostOperands) && decide (meth.sig.returnType = rt) && !meth.locks && decide (parseMethodDescriptor y.desc = some meth.sig)) = true) : (Jvm.Cond.code y bytes mx rt).before a s = true := by
  simp only [Bool.and_eq_true, beq_iff_eq, Bool.not_eq_true', decide_eq_true_eq] at h5
  obtain ⟨⟨⟨⟨⟨g1, g2⟩, g3⟩, g4⟩, g5⟩, g6⟩ := h5
  simp [Cond.before, Cond.holds, Cond.value, h1, h2, h3, h4, g1, g2, g3, g4, g5, g6]
def isCode : Jvm.Cond → Bool
  | .code _ _ _ _ => true
  | _ => false
theorem all_split {L : List Jvm.Cond} {P : Jvm.Cond → Bool} (h1 : L.all (fun c => isCode c || P c) = true) (h2 : ∀ c ∈ L.filter isCode, P c = true) : L.all P = true := by
  refine List.all_eq_true.mpr fun c hc => ?_
  have h := List.all_eq_true.mp h1 c hc
  rcases Bool.eq_false_or_eq_true (isCode c) with hi | hi
  · exact h2 c (List.mem_filter.mpr ⟨hc, hi⟩)
  · simpa [hi] using h
set_option maxRecDepth 65536 in
theorem w_c0 : (Jvm.Cond.code x code maxLocals ret).before args0 about1 = true := code_word (m := ⟨1, 1⟩) (meth := k1m1) (c := k1c1) (by decide +kernel) rfl rfl rfl (by decide +kernel)
set_option maxRecDepth 65536 in
theorem w_c1 : (Jvm.Cond.code ({ cls := "com/example/examwright/examwright/CompetitionScoreSoftPenaltyPinLaw", name := "make", desc := "([J)Lcom/example/examwright/examwright/CompetitionScore;" } : Jvm.MethodName) method_3_code (1 : Nat) (Option.some (Jvm.ClassFile.FieldType.object "com/example/examwright/examwright/CompetitionScore"))).before args0 about1 = true := code_word (m := ⟨1, 2⟩) (meth := k1m2) (c := k1c2) (by decide +kernel) rfl rfl rfl (by decide +kernel)
set_option maxRecDepth 65536 in
theorem w_c2 : (Jvm.Cond.code ({ cls := "com/example/examwright/examwright/CompetitionScore", name := "<init>", desc := "(JJJJJJJJJJJJ)V" } : Jvm.MethodName) prog_13_method_1_code (25 : Nat) (Option.none : Option Jvm.ClassFile.FieldType)).before args0 about1 = true := code_word (m := ⟨3, 0⟩) (meth := k3m0) (c := k3c0) (by decide +kernel) rfl rfl rfl (by decide +kernel)
set_option maxRecDepth 65536 in
theorem w_c3 : (Jvm.Cond.code ({ cls := "java/lang/Record", name := "<init>", desc := "()V" } : Jvm.MethodName) jdk_30_method_1_code (1 : Nat) (Option.none : Option Jvm.ClassFile.FieldType)).before args0 about1 = true := code_word (m := ⟨2, 0⟩) (meth := k2m0) (c := k2c0) (by decide +kernel) rfl rfl rfl (by decide +kernel)
set_option maxRecDepth 65536 in
theorem w_c4 : (Jvm.Cond.code ({ cls := "java/lang/Object", name := "<init>", desc := "()V" } : Jvm.MethodName) object_method_1_code (1 : Nat) (Option.none : Option Jvm.ClassFile.FieldType)).before args0 about1 = true := code_word (m := ⟨0, 0⟩) (meth := k0m0) (c := k0c0) (by decide +kernel) rfl rfl rfl (by decide +kernel)
set_option maxRecDepth 65536 in
theorem w_c5 : (Jvm.Cond.code ({ cls := "com/example/examwright/examwright/CompetitionScore", name := "softPenalty", desc := "()J" } : Jvm.MethodName) prog_13_method_4_code (1 : Nat) (Option.some Jvm.ClassFile.FieldType.long)).before args0 about1 = true := code_word (m := ⟨3, 1⟩) (meth := k3m1) (c := k3c1) (by decide +kernel) rfl rfl rfl (by decide +kernel)
def codes1 : List Jvm.Cond := [Jvm.Cond.code x code maxLocals ret, Jvm.Cond.code ({ cls := "com/example/examwright/examwright/CompetitionScoreSoftPenaltyPinLaw", name := "make", desc := "([J)Lcom/example/examwright/examwright/CompetitionScore;" } : Jvm.MethodName) method_3_code (1 : Nat) (Option.some (Jvm.ClassFile.FieldType.object "com/example/examwright/examwright/CompetitionScore")), Jvm.Cond.code ({ cls := "com/example/examwright/examwright/CompetitionScore", name := "<init>", desc := "(JJJJJJJJJJJJ)V" } : Jvm.MethodName) prog_13_method_1_code (25 : Nat) (Option.none : Option Jvm.ClassFile.FieldType), Jvm.Cond.code ({ cls := "java/lang/Record", name := "<init>", desc := "()V" } : Jvm.MethodName) jdk_30_method_1_code (1 : Nat) (Option.none : Option Jvm.ClassFile.FieldType), Jvm.Cond.code ({ cls := "java/lang/Object", name := "<init>", desc := "()V" } : Jvm.MethodName) object_method_1_code (1 : Nat) (Option.none : Option Jvm.ClassFile.FieldType), Jvm.Cond.code ({ cls := "com/example/examwright/examwright/CompetitionScore", name := "softPenalty", desc := "()J" } : Jvm.MethodName) prog_13_method_4_code (1 : Nat) (Option.some Jvm.ClassFile.FieldType.long)]
set_option maxRecDepth 65536 in
theorem codes_eq : words1.filter isCode = codes1 := rfl
theorem w_codes : ∀ c ∈ words1.filter isCode, c.before args0 about1 = true := by
  rw [codes_eq]
  intro c hc
  simp only [codes1, List.mem_cons, List.not_mem_nil, or_false] at hc
  rcases hc with rfl | rfl | rfl | rfl | rfl | rfl
  · exact w_c0
  · exact w_c1
  · exact w_c2
  · exact w_c3
  · exact w_c4
  · exact w_c5
set_option maxRecDepth 65536 in
theorem w_t1 : (words1.take 24).all (fun c => isCode c || c.before args0 about1) = true := by decide +kernel
set_option maxRecDepth 65536 in
theorem w_t2 : ((words1.drop 24).take 24).all (fun c => isCode c || c.before args0 about1) = true := by decide +kernel
set_option maxRecDepth 65536 in
theorem w_t3 : ((words1.drop 24).drop 24).all (fun c => isCode c || c.before args0 about1) = true := by decide +kernel
theorem w_tables : (allAtoms (Jvm.Cond.code x code maxLocals ret :: tables_1)).before args0 about1 = true := by
  rw [allAtoms_all]
  show words1.all (fun c => c.before args0 about1) = true
  refine all_split ?_ w_codes
  rw [← List.take_append_drop 24 words1, List.all_append, w_t1, ← List.take_append_drop 24 (words1.drop 24), List.all_append, w_t2, w_t3]
  rfl
set_option maxRecDepth 65536 in
theorem w_case : (Jvm.Cond.and given_1 narrow_1).before args0 about1 = true := by decide +kernel
theorem w_applies : (headSpec (Jvm.Cond.code x code maxLocals ret :: tables_1) room_1).applies x e0.platform about1 = true :=
  (Spec.applies_iff w_frames).mpr ⟨w_running, w_runnable, w_alone, w_named, w_hears, w_ripe, w_room, w_tables⟩
theorem atStart : AtStart classFile x code maxLocals ret World_1 tables_1 room_1 Calls_1 rest_1 Pre_1 launch0 p0 e0 about1 theMethod args0 below0 :=
  ⟨lists_1, trivial, launch0.admits_env _ _ _, launch0.least_env, fairChoices_fair.cas, fairChoices_fair.clock, w_frames, w_args, w_heap, w_applies, trivial, trivial, w_case⟩
end start1
theorem witness_1 : WitnessClaimed_1 := ⟨start1.p0, start1.e0, start1.about1, start1.theMethod, start1.args0, start1.below0, start1.atStart⟩
end Jvm.Pilot.@@N@@
