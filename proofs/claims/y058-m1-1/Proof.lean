import JvmDerived
import JvmDerived.Pilot.@@N@@Statement
import JvmDerived.Pilot.@@N@@Code
set_option linter.unusedVariables false
set_option linter.unusedSimpArgs false
namespace Jvm.Pilot.@@N@@
open Jvm Jvm.ClassFile Sem Op Lib Jvm.Free Jvm.Stand Jvm.LawKit Jvm.RoadKit Bundle Jvm.Pilot.@@N@@.Jvm.D
/-! the run comes to an end that answers Q -/
def Go (p : Program) (e : Env) (below : List Frame) (Q : Outcome → State → Prop) (T : State) (g : JFrame) : Prop :=
  ∃ s₂ o, Steps p.tables e below (T.setTop g) s₂ ∧ s₂.status = .running ∧ Ended s₂ below o ∧ Q o s₂
section Own
variable {p : Program} {l : Launch} {e : Env} {R : Room} {s : State} {m : MethodId} {args : Array Value} {below : List Frame} {meth : Method} {c : Code} {T T' : State} {locs : List Loc} {cells slots : Nat} {Q : Outcome → State → Prop} {g g' : JFrame}
theorem Go.of (k : ∀ t, Steps p.tables e below (T'.setTop g') t → Steps p.tables e below (T.setTop g) t) (h : Go p e below Q T' g') : Go p e below Q T g := by
  obtain ⟨u, o, h1, h2⟩ := h
  exact ⟨u, o, k _ h1, h2⟩
theorem Go.via (k : Steps p.tables e below (T.setTop g) (T'.setTop g')) (h : Go p e below Q T' g') : Go p e below Q T g := by
  obtain ⟨u, o, h1, h2⟩ := h
  exact ⟨u, o, k.trans h1, h2⟩
theorem Go.cast (q : g = g') (h : Go p e below Q T g') : Go p e below Q T g := q ▸ h
theorem own_out (X : Stand p l e R s m args below meth c T locs cells slots) {v : Option Value} (hv : meth.sig.returnType = none → v = none) (hlocks : meth.locks = false)
    (k : ∀ fs : List Frame, (∀ (f : JFrame) (acts : List Action), f.method = m → f.locked = none → f.entered = [] → (doReturn e (T.setTop f) acts v).1 = T.setFrames fs) → Steps p.tables e below (T.setTop g) (T.setFrames fs))
    (hQ : ∀ u : State, u.heap = T.heap → FrameEnd s (.returned v) u locs cells slots → Q (.returned v) u) : Go p e below Q T g := by
  obtain ⟨fs, hr, hrun, hended, hW, hsame⟩ := X.leave hv hlocks
  exact ⟨_, _, k fs hr, hrun, hended, hQ _ rfl ⟨⟨_, rfl⟩, hW, hsame⟩⟩
theorem own_retN (X : Stand p l e R s m args below meth c T locs cells slots) (hx : p.tables.exec = Jvm.exec) (hlocks : meth.locks = false) {pc : Nat} {Ls : Array Slot} {z : Int32} {t : FieldType} {rest : List Value} (hret : meth.sig.returnType = some t) (ht : t = .boolean ∨ t = .byte ∨ t = .char ∨ t = .short)
    (hd : decode c.code pc = .ok (.ireturn, 1)) (hQ : ∀ u : State, u.heap = T.heap → FrameEnd s (.returned (some (.int (nar t z)))) u locs cells slots → Q (.returned (some (.int (nar t z)))) u) : Go p e below Q T (mkF m pc Ls (.int z :: rest)) :=
  own_out X (fun h => by rw [hret] at h; cases h) hlocks (fun fs hr => retN X hx hret ht hd hr) hQ
theorem own_retW (X : Stand p l e R s m args below meth c T locs cells slots) (hx : p.tables.exec = Jvm.exec) (hlocks : meth.locks = false) {pc : Nat} {Ls : Array Slot} {w : Value} {t : FieldType} {i : Instr} {rest : List Value} (hret : meth.sig.returnType = some t) (hn : narrow t w = w)
    (hi : (i = .ireturn ∧ (t = .int ∨ t = .boolean ∨ t = .byte ∨ t = .char ∨ t = .short) ∧ ∃ z, w = .int z) ∨ (i = .lreturn ∧ t = .long ∧ ∃ z, w = .long z) ∨ (i = .dreturn ∧ t = .double ∧ ∃ z, w = .double z) ∨ (i = .freturn ∧ t = .float ∧ ∃ z, w = .float z) ∨ (i = .areturn ∧ t.isReference = true ∧ w.isRef = true))
    (hd : decode c.code pc = .ok (i, 1)) (hQ : ∀ u : State, u.heap = T.heap → FrameEnd s (.returned (some w)) u locs cells slots → Q (.returned (some w)) u) : Go p e below Q T (mkF m pc Ls (w :: rest)) :=
  own_out X (fun h => by rw [hret] at h; cases h) hlocks (fun fs hr => retOut X hx hret hn hi hd hr) hQ
theorem own_ret0 (X : Stand p l e R s m args below meth c T locs cells slots) (hx : p.tables.exec = Jvm.exec) (hlocks : meth.locks = false) {pc : Nat} {Ls : Array Slot} (hret : meth.sig.returnType = none)
    (hd : decode c.code pc = .ok (.return_, 1)) (hQ : ∀ u : State, u.heap = T.heap → FrameEnd s (.returned none) u locs cells slots → Q (.returned none) u) : Go p e below Q T (mkF m pc Ls []) :=
  own_out X (fun _ => rfl) hlocks (fun fs hr => X.returnOut hx hret hd hr) hQ
theorem own_mono {o : Outcome} {u : State} {k n k' n' : Nat} (h : FrameEnd s o u locs k n) (hk : k ≤ k') (hn : n ≤ n') : FrameEnd s o u locs k' n' := ⟨h.1, h.2.1, h.2.2.mono hk hn⟩
end Own
theorem own_r24 (x : Int32) : ¬ ((x.toUInt32 >>> ((1 : Int32) &&& 31).toUInt32).toInt32) % (24 : Int32) < 0 ∧ ((x.toUInt32 >>> ((1 : Int32) &&& 31).toUInt32).toInt32) % (24 : Int32) < 24 := by
  have h := c_iushr x 1 1 (by decide) (by decide)
  generalize ((x.toUInt32 >>> ((1 : Int32) &&& 31).toUInt32).toInt32) = y at *
  have e6 : (24 : Int32).toInt = 24 := by decide
  have e0 : (0 : Int32).toInt = 0 := by decide
  have k := (c_irem y 24 24 e6).1 (by omega)
  rw [Int32.lt_iff_toInt_lt, Int32.lt_iff_toInt_lt, k, e0, e6]
  omega
theorem d1_0 : decode method_2_code 0 = .ok (.bipush 24, 2) := by decide +kernel
theorem d1_2 : decode method_2_code 2 = .ok (.newarray .char, 2) := by decide +kernel
theorem d1_4 : decode method_2_code 4 = .ok (.dup, 1) := by decide +kernel
theorem d1_5 : decode method_2_code 5 = .ok (.iconst 0, 1) := by decide +kernel
theorem d1_6 : decode method_2_code 6 = .ok (.bipush 81, 2) := by decide +kernel
theorem d1_8 : decode method_2_code 8 = .ok (.castore, 1) := by decide +kernel
theorem d1_9 : decode method_2_code 9 = .ok (.dup, 1) := by decide +kernel
theorem d1_10 : decode method_2_code 10 = .ok (.iconst 1, 1) := by decide +kernel
theorem d1_11 : decode method_2_code 11 = .ok (.bipush 83, 2) := by decide +kernel
theorem d1_13 : decode method_2_code 13 = .ok (.castore, 1) := by decide +kernel
theorem d1_14 : decode method_2_code 14 = .ok (.dup, 1) := by decide +kernel
theorem d1_15 : decode method_2_code 15 = .ok (.iconst 2, 1) := by decide +kernel
theorem d1_16 : decode method_2_code 16 = .ok (.bipush 70, 2) := by decide +kernel
theorem d1_18 : decode method_2_code 18 = .ok (.castore, 1) := by decide +kernel
theorem d1_19 : decode method_2_code 19 = .ok (.dup, 1) := by decide +kernel
theorem d1_20 : decode method_2_code 20 = .ok (.iconst 3, 1) := by decide +kernel
theorem d1_21 : decode method_2_code 21 = .ok (.bipush 80, 2) := by decide +kernel
theorem d1_23 : decode method_2_code 23 = .ok (.castore, 1) := by decide +kernel
theorem d1_24 : decode method_2_code 24 = .ok (.dup, 1) := by decide +kernel
theorem d1_25 : decode method_2_code 25 = .ok (.iconst 4, 1) := by decide +kernel
theorem d1_26 : decode method_2_code 26 = .ok (.bipush 66, 2) := by decide +kernel
theorem d1_28 : decode method_2_code 28 = .ok (.castore, 1) := by decide +kernel
theorem d1_29 : decode method_2_code 29 = .ok (.dup, 1) := by decide +kernel
theorem d1_30 : decode method_2_code 30 = .ok (.iconst 5, 1) := by decide +kernel
theorem d1_31 : decode method_2_code 31 = .ok (.bipush 67, 2) := by decide +kernel
theorem d1_33 : decode method_2_code 33 = .ok (.castore, 1) := by decide +kernel
theorem d1_34 : decode method_2_code 34 = .ok (.dup, 1) := by decide +kernel
theorem d1_35 : decode method_2_code 35 = .ok (.bipush 6, 2) := by decide +kernel
theorem d1_37 : decode method_2_code 37 = .ok (.bipush 68, 2) := by decide +kernel
theorem d1_39 : decode method_2_code 39 = .ok (.castore, 1) := by decide +kernel
theorem d1_40 : decode method_2_code 40 = .ok (.dup, 1) := by decide +kernel
theorem d1_41 : decode method_2_code 41 = .ok (.bipush 7, 2) := by decide +kernel
theorem d1_43 : decode method_2_code 43 = .ok (.bipush 69, 2) := by decide +kernel
theorem d1_45 : decode method_2_code 45 = .ok (.castore, 1) := by decide +kernel
theorem d1_46 : decode method_2_code 46 = .ok (.dup, 1) := by decide +kernel
theorem d1_47 : decode method_2_code 47 = .ok (.bipush 8, 2) := by decide +kernel
theorem d1_49 : decode method_2_code 49 = .ok (.bipush 90, 2) := by decide +kernel
theorem d1_51 : decode method_2_code 51 = .ok (.castore, 1) := by decide +kernel
theorem d1_52 : decode method_2_code 52 = .ok (.dup, 1) := by decide +kernel
theorem d1_53 : decode method_2_code 53 = .ok (.bipush 9, 2) := by decide +kernel
theorem d1_55 : decode method_2_code 55 = .ok (.bipush 49, 2) := by decide +kernel
theorem d1_57 : decode method_2_code 57 = .ok (.castore, 1) := by decide +kernel
theorem d1_58 : decode method_2_code 58 = .ok (.dup, 1) := by decide +kernel
theorem d1_59 : decode method_2_code 59 = .ok (.bipush 10, 2) := by decide +kernel
theorem d1_61 : decode method_2_code 61 = .ok (.bipush 50, 2) := by decide +kernel
theorem d1_63 : decode method_2_code 63 = .ok (.castore, 1) := by decide +kernel
theorem d1_64 : decode method_2_code 64 = .ok (.dup, 1) := by decide +kernel
theorem d1_65 : decode method_2_code 65 = .ok (.bipush 11, 2) := by decide +kernel
theorem d1_67 : decode method_2_code 67 = .ok (.bipush 51, 2) := by decide +kernel
theorem d1_69 : decode method_2_code 69 = .ok (.castore, 1) := by decide +kernel
theorem d1_70 : decode method_2_code 70 = .ok (.dup, 1) := by decide +kernel
theorem d1_71 : decode method_2_code 71 = .ok (.bipush 12, 2) := by decide +kernel
theorem d1_73 : decode method_2_code 73 = .ok (.bipush 84, 2) := by decide +kernel
theorem d1_75 : decode method_2_code 75 = .ok (.castore, 1) := by decide +kernel
theorem d1_76 : decode method_2_code 76 = .ok (.dup, 1) := by decide +kernel
theorem d1_77 : decode method_2_code 77 = .ok (.bipush 13, 2) := by decide +kernel
theorem d1_79 : decode method_2_code 79 = .ok (.bipush 110, 2) := by decide +kernel
theorem d1_81 : decode method_2_code 81 = .ok (.castore, 1) := by decide +kernel
theorem d1_82 : decode method_2_code 82 = .ok (.dup, 1) := by decide +kernel
theorem d1_83 : decode method_2_code 83 = .ok (.bipush 14, 2) := by decide +kernel
theorem d1_85 : decode method_2_code 85 = .ok (.bipush 73, 2) := by decide +kernel
theorem d1_87 : decode method_2_code 87 = .ok (.castore, 1) := by decide +kernel
theorem d1_88 : decode method_2_code 88 = .ok (.dup, 1) := by decide +kernel
theorem d1_89 : decode method_2_code 89 = .ok (.bipush 15, 2) := by decide +kernel
theorem d1_91 : decode method_2_code 91 = .ok (.bipush 115, 2) := by decide +kernel
theorem d1_93 : decode method_2_code 93 = .ok (.castore, 1) := by decide +kernel
theorem d1_94 : decode method_2_code 94 = .ok (.dup, 1) := by decide +kernel
theorem d1_95 : decode method_2_code 95 = .ok (.bipush 16, 2) := by decide +kernel
theorem d1_97 : decode method_2_code 97 = .ok (.bipush 88, 2) := by decide +kernel
theorem d1_99 : decode method_2_code 99 = .ok (.castore, 1) := by decide +kernel
theorem d1_100 : decode method_2_code 100 = .ok (.dup, 1) := by decide +kernel
theorem d1_101 : decode method_2_code 101 = .ok (.bipush 17, 2) := by decide +kernel
theorem d1_103 : decode method_2_code 103 = .ok (.bipush 72, 2) := by decide +kernel
theorem d1_105 : decode method_2_code 105 = .ok (.castore, 1) := by decide +kernel
theorem d1_106 : decode method_2_code 106 = .ok (.dup, 1) := by decide +kernel
theorem d1_107 : decode method_2_code 107 = .ok (.bipush 18, 2) := by decide +kernel
theorem d1_109 : decode method_2_code 109 = .ok (.bipush 82, 2) := by decide +kernel
theorem d1_111 : decode method_2_code 111 = .ok (.castore, 1) := by decide +kernel
theorem d1_112 : decode method_2_code 112 = .ok (.dup, 1) := by decide +kernel
theorem d1_113 : decode method_2_code 113 = .ok (.bipush 19, 2) := by decide +kernel
theorem d1_115 : decode method_2_code 115 = .ok (.bipush 78, 2) := by decide +kernel
theorem d1_117 : decode method_2_code 117 = .ok (.castore, 1) := by decide +kernel
theorem d1_118 : decode method_2_code 118 = .ok (.dup, 1) := by decide +kernel
theorem d1_119 : decode method_2_code 119 = .ok (.bipush 20, 2) := by decide +kernel
theorem d1_121 : decode method_2_code 121 = .ok (.bipush 99, 2) := by decide +kernel
theorem d1_123 : decode method_2_code 123 = .ok (.castore, 1) := by decide +kernel
theorem d1_124 : decode method_2_code 124 = .ok (.dup, 1) := by decide +kernel
theorem d1_125 : decode method_2_code 125 = .ok (.bipush 21, 2) := by decide +kernel
theorem d1_127 : decode method_2_code 127 = .ok (.bipush 100, 2) := by decide +kernel
theorem d1_129 : decode method_2_code 129 = .ok (.castore, 1) := by decide +kernel
theorem d1_130 : decode method_2_code 130 = .ok (.dup, 1) := by decide +kernel
theorem d1_131 : decode method_2_code 131 = .ok (.bipush 22, 2) := by decide +kernel
theorem d1_133 : decode method_2_code 133 = .ok (.bipush 65, 2) := by decide +kernel
theorem d1_135 : decode method_2_code 135 = .ok (.castore, 1) := by decide +kernel
theorem d1_136 : decode method_2_code 136 = .ok (.dup, 1) := by decide +kernel
theorem d1_137 : decode method_2_code 137 = .ok (.bipush 23, 2) := by decide +kernel
theorem d1_139 : decode method_2_code 139 = .ok (.bipush 116, 2) := by decide +kernel
theorem d1_141 : decode method_2_code 141 = .ok (.castore, 1) := by decide +kernel
theorem d1_142 : decode method_2_code 142 = .ok (.astore_n 1, 1) := by decide +kernel
theorem d1_143 : decode method_2_code 143 = .ok (.iload_n 0, 1) := by decide +kernel
theorem d1_144 : decode method_2_code 144 = .ok (.iconst 1, 1) := by decide +kernel
theorem d1_145 : decode method_2_code 145 = .ok (.iand, 1) := by decide +kernel
theorem d1_146 : decode method_2_code 146 = .ok (.ifCond .ne 12, 3) := by decide +kernel
theorem d1_149 : decode method_2_code 149 = .ok (.aload_n 1, 1) := by decide +kernel
theorem d1_150 : decode method_2_code 150 = .ok (.iload_n 0, 1) := by decide +kernel
theorem d1_151 : decode method_2_code 151 = .ok (.iconst 1, 1) := by decide +kernel
theorem d1_152 : decode method_2_code 152 = .ok (.iushr, 1) := by decide +kernel
theorem d1_153 : decode method_2_code 153 = .ok (.bipush 24, 2) := by decide +kernel
theorem d1_155 : decode method_2_code 155 = .ok (.irem, 1) := by decide +kernel
theorem d1_156 : decode method_2_code 156 = .ok (.caload, 1) := by decide +kernel
theorem d1_157 : decode method_2_code 157 = .ok (.ireturn, 1) := by decide +kernel
theorem d1_158 : decode method_2_code 158 = .ok (.iload_n 0, 1) := by decide +kernel
theorem d1_159 : decode method_2_code 159 = .ok (.iconst 1, 1) := by decide +kernel
theorem d1_160 : decode method_2_code 160 = .ok (.iushr, 1) := by decide +kernel
theorem d1_161 : decode method_2_code 161 = .ok (.i2c, 1) := by decide +kernel
theorem d1_162 : decode method_2_code 162 = .ok (.ireturn, 1) := by decide +kernel
theorem pn_0 : plainName "com/example/lockstep/lockstep/protocol/PgMessageEndsAnswerToPinLaw" = true := by first | (simp [plainName, overriddenIn]; done) | decide +kernel
theorem ef_1 (m : MethodId) (i1 : Int32)  : entryFrame m #[(.int i1)] 2 = mkF m 0 #[.val (.int i1), .unset] [] := by
  first | (simp [entryFrame, mkF, argsToLocals, Value.category]; done) | rfl
def Q1 (Z : State) (i1 : Int32) (h0 : Heap) (n0 : Nat) (v : Option Value) (h : Heap) (L : List Loc) : Prop := ∃ z : Int32, v = some (.int (nar .char z)) ∧ Fr n0 L ∧ Keep h0 h []
set_option maxRecDepth 65536 in
set_option maxHeartbeats 40000000 in
theorem rm1 (l : Launch) (Z : State) (a0 : Array Value) (hw : ∀ d ∈ tables_1, d.before a0 Z = true) (ws : List Jvm.Cond) (i1 : Int32) (h0 : Heap) (n0 : Nat) (Z0 : n0 ≤ h0.size)  :
    MetFree l (⟨"com/example/lockstep/lockstep/protocol/PgMessageEndsAnswerToPinLaw", "pick", "(I)C"⟩ : MethodName) (head1 (Jvm.Cond.code (⟨"com/example/lockstep/lockstep/protocol/PgMessageEndsAnswerToPinLaw", "pick", "(I)C"⟩ : MethodName) method_2_code 2 (some .char) :: ws) ({ frames := 0, cells := 1, slots := 24, locals := 0 } : Room)) (fun a U => a = #[(.int i1)] ∧ Z.Warmed39 U.vm ∧ U.heap = h0) (fun _ _ _ _ _ => True) (fun _ U o U' => ∃ v L, o = .returned v ∧ Q1 Z i1 h0 n0 v U'.heap L ∧ FrameEnd U o U' L ({ frames := 0, cells := 1, slots := 24, locals := 0 } : Room).cells ({ frames := 0, cells := 1, slots := 24, locals := 0 } : Room).slots) := by
  refine MetFree.of_bodySF (plainFor_of_name pn_0) hisR ?_
  intro p e s m args below meth c s₁ Bd hml0 hP hK
  obtain ⟨rfl, hZ, hh⟩ := hP
  have hx := Bd.exec
  have hby := Bd.bytes
  have hml : c.maxLocals = 2 := hml0
  have hown : s.vm.findClass "com/example/lockstep/lockstep/protocol/PgMessageEndsAnswerToPinLaw" = some m.cls := findClass_of_methodNamed Bd.named
  have hnm := (name_of_methodNamed Bd.named Bd.method).1
  have X0 : Stand p l e ({ frames := 0, cells := 1, slots := 24, locals := 0 } : Room) s m #[(.int i1)] below meth c s₁ [] 0 0 := Stand.of_body Bd
  have e0 : s₁.heap = h0 := by rw [← hh, Bd.state]; rfl
  have N0 := Fr.nil n0
  suffices H : ∀ Qo : Outcome → State → Prop, (∀ (v : Option Value) (u : State) (L : List Loc), Q1 Z i1 h0 n0 v u.heap L → FrameEnd s (.returned v) u L ({ frames := 0, cells := 1, slots := 24, locals := 0 } : Room).cells ({ frames := 0, cells := 1, slots := 24, locals := 0 } : Room).slots → Qo (.returned v) u) → Go p e below Qo s₁ (mkF m 0 #[.val (.int i1), .unset] []) from
    Go.cast (ef_1 m i1) (H _ fun v u L h1 h2 => ⟨v, L, rfl, h1, h2⟩)
  intro Qo hQo
  show Go p e below Qo s₁ (mkF m 0 #[.val (.int i1), .unset] [])
  refine Go.of (fun t k => XS.bipush X0.here hx rfl (hb hby d1_0) k) ?_
  show Go p e below Qo s₁ (mkF m 2 #[.val (.int i1), .unset] [(.int (24 : Int32))])
  obtain ⟨T1, h1, k1, X1, e1, E1, A1, st1⟩ := newP X0 hx hZ (hw _ (List.mem_of_getElem? (i := 4) rfl)) e0 (g := (mkF m 2 #[.val (.int i1), .unset] [(.int (24 : Int32))])) rfl (hb hby d1_2) rfl (by decide) (cap := 24) (by decide) (by decide) (by decide) (by decide)
  obtain ⟨b1, g1⟩ : ∃ z, z = h0.size := ⟨_, rfl⟩
  rw [← g1] at A1 st1
  have g2 : n0 ≤ b1 := Nat.le_trans Z0 (Nat.le_of_eq g1.symm)
  have sz3 : h0.size ≤ b1 := Nat.le_trans (Keep.refl h0 []).1 (Nat.le_of_eq g1.symm)
  have Z4 : n0 ≤ h1.size := Nat.le_trans Z0 E1.1
  have K5 : Keep h0 h1 [] := (Keep.refl h0 []).ext E1
  have q6 : Arv Z h1 b1 k1 .char (24 : Int32) [(.int (0 : Int32)), (.int (0 : Int32)), (.int (0 : Int32)), (.int (0 : Int32)), (.int (0 : Int32)), (.int (0 : Int32)), (.int (0 : Int32)), (.int (0 : Int32)), (.int (0 : Int32)), (.int (0 : Int32)), (.int (0 : Int32)), (.int (0 : Int32)), (.int (0 : Int32)), (.int (0 : Int32)), (.int (0 : Int32)), (.int (0 : Int32)), (.int (0 : Int32)), (.int (0 : Int32)), (.int (0 : Int32)), (.int (0 : Int32)), (.int (0 : Int32)), (.int (0 : Int32)), (.int (0 : Int32)), (.int (0 : Int32))] (.int (0 : Int32)) := (Arv.new A1 (by decide)).pad (pad_rep [] (.int (0 : Int32)) 24)
  refine Go.of st1 ?_
  show Go p e below Qo T1 (mkF m 4 #[.val (.int i1), .unset] [(.ref b1)])
  refine Go.of (fun t k => XS.dup X1.here hx rfl (hb hby d1_4) rfl rfl k) ?_
  show Go p e below Qo T1 (mkF m 5 #[.val (.int i1), .unset] [(.ref b1), (.ref b1)])
  refine Go.of (fun t k => XS.iconst X1.here hx rfl (hb hby d1_5) k) ?_
  show Go p e below Qo T1 (mkF m 6 #[.val (.int i1), .unset] [(.int (0 : Int32)), (.ref b1), (.ref b1)])
  refine Go.of (fun t k => XS.bipush X1.here hx rfl (hb hby d1_6) k) ?_
  show Go p e below Qo T1 (mkF m 8 #[.val (.int i1), .unset] [(.int (81 : Int32)), (.int (0 : Int32)), (.ref b1), (.ref b1)])
  have cpo7 := q6
  obtain ⟨clo7, Aro7, qco7, So7, Mo7, Ho7, Go7⟩ := cpo7
  have hin8 : ¬ ((0 : Int32) < 0 ∨ clo7.slots.size ≤ (0 : Int32).toNatClampNeg) := (inb_of So7 ⟨by decide, by decide⟩)
  obtain ⟨T9, h9, X9, e9, W9, st9⟩ := stC X1 hx hZ e1 Aro7 (j := (0 : Int32)) hin8 (g := (mkF m 8 #[.val (.int i1), .unset] [(.int (81 : Int32)), (.int (0 : Int32)), (.ref b1), (.ref b1)])) rfl rfl (hb hby d1_8)
  have q10 : Arv Z h9 b1 k1 .char (24 : Int32) [(.int (nar .char (81 : Int32))), (.int (0 : Int32)), (.int (0 : Int32)), (.int (0 : Int32)), (.int (0 : Int32)), (.int (0 : Int32)), (.int (0 : Int32)), (.int (0 : Int32)), (.int (0 : Int32)), (.int (0 : Int32)), (.int (0 : Int32)), (.int (0 : Int32)), (.int (0 : Int32)), (.int (0 : Int32)), (.int (0 : Int32)), (.int (0 : Int32)), (.int (0 : Int32)), (.int (0 : Int32)), (.int (0 : Int32)), (.int (0 : Int32)), (.int (0 : Int32)), (.int (0 : Int32)), (.int (0 : Int32)), (.int (0 : Int32))] (.int (0 : Int32)) := Arv.set Aro7 qco7 So7 Mo7 Ho7 Go7 (fits_nar_char _) W9 0 rfl (Nat.le_of_ble_eq_true rfl)
  have Z11 : n0 ≤ h9.size := Nat.le_trans Z4 (Keep.of_wr W9).1
  have K12 : Keep h0 h9 [] := K5.wr W9 (Or.inr sz3)
  have N13 := Fr.snoc X9 N0 g2
  refine Go.of st9 ?_
  show Go p e below Qo T9 (mkF m 9 #[.val (.int i1), .unset] [(.ref b1)])
  refine Go.of (fun t k => XS.dup X9.here hx rfl (hb hby d1_9) rfl rfl k) ?_
  show Go p e below Qo T9 (mkF m 10 #[.val (.int i1), .unset] [(.ref b1), (.ref b1)])
  refine Go.of (fun t k => XS.iconst X9.here hx rfl (hb hby d1_10) k) ?_
  show Go p e below Qo T9 (mkF m 11 #[.val (.int i1), .unset] [(.int (1 : Int32)), (.ref b1), (.ref b1)])
  refine Go.of (fun t k => XS.bipush X9.here hx rfl (hb hby d1_11) k) ?_
  show Go p e below Qo T9 (mkF m 13 #[.val (.int i1), .unset] [(.int (83 : Int32)), (.int (1 : Int32)), (.ref b1), (.ref b1)])
  have cpo14 := q10
  obtain ⟨clo14, Aro14, qco14, So14, Mo14, Ho14, Go14⟩ := cpo14
  have hin15 : ¬ ((1 : Int32) < 0 ∨ clo14.slots.size ≤ (1 : Int32).toNatClampNeg) := (inb_of So14 ⟨by decide, by decide⟩)
  obtain ⟨T16, h16, X16, e16, W16, st16⟩ := stC X9 hx hZ e9 Aro14 (j := (1 : Int32)) hin15 (g := (mkF m 13 #[.val (.int i1), .unset] [(.int (83 : Int32)), (.int (1 : Int32)), (.ref b1), (.ref b1)])) rfl rfl (hb hby d1_13)
  have q17 : Arv Z h16 b1 k1 .char (24 : Int32) [(.int (nar .char (81 : Int32))), (.int (nar .char (83 : Int32))), (.int (0 : Int32)), (.int (0 : Int32)), (.int (0 : Int32)), (.int (0 : Int32)), (.int (0 : Int32)), (.int (0 : Int32)), (.int (0 : Int32)), (.int (0 : Int32)), (.int (0 : Int32)), (.int (0 : Int32)), (.int (0 : Int32)), (.int (0 : Int32)), (.int (0 : Int32)), (.int (0 : Int32)), (.int (0 : Int32)), (.int (0 : Int32)), (.int (0 : Int32)), (.int (0 : Int32)), (.int (0 : Int32)), (.int (0 : Int32)), (.int (0 : Int32)), (.int (0 : Int32))] (.int (0 : Int32)) := Arv.set Aro14 qco14 So14 Mo14 Ho14 Go14 (fits_nar_char _) W16 1 rfl (Nat.le_of_ble_eq_true rfl)
  have Z18 : n0 ≤ h16.size := Nat.le_trans Z11 (Keep.of_wr W16).1
  have K19 : Keep h0 h16 [] := K12.wr W16 (Or.inr sz3)
  have N20 := Fr.snoc X16 N13 g2
  refine Go.of st16 ?_
  show Go p e below Qo T16 (mkF m 14 #[.val (.int i1), .unset] [(.ref b1)])
  refine Go.of (fun t k => XS.dup X16.here hx rfl (hb hby d1_14) rfl rfl k) ?_
  show Go p e below Qo T16 (mkF m 15 #[.val (.int i1), .unset] [(.ref b1), (.ref b1)])
  refine Go.of (fun t k => XS.iconst X16.here hx rfl (hb hby d1_15) k) ?_
  show Go p e below Qo T16 (mkF m 16 #[.val (.int i1), .unset] [(.int (2 : Int32)), (.ref b1), (.ref b1)])
  refine Go.of (fun t k => XS.bipush X16.here hx rfl (hb hby d1_16) k) ?_
  show Go p e below Qo T16 (mkF m 18 #[.val (.int i1), .unset] [(.int (70 : Int32)), (.int (2 : Int32)), (.ref b1), (.ref b1)])
  have cpo21 := q17
  obtain ⟨clo21, Aro21, qco21, So21, Mo21, Ho21, Go21⟩ := cpo21
  have hin22 : ¬ ((2 : Int32) < 0 ∨ clo21.slots.size ≤ (2 : Int32).toNatClampNeg) := (inb_of So21 ⟨by decide, by decide⟩)
  obtain ⟨T23, h23, X23, e23, W23, st23⟩ := stC X16 hx hZ e16 Aro21 (j := (2 : Int32)) hin22 (g := (mkF m 18 #[.val (.int i1), .unset] [(.int (70 : Int32)), (.int (2 : Int32)), (.ref b1), (.ref b1)])) rfl rfl (hb hby d1_18)
  have q24 : Arv Z h23 b1 k1 .char (24 : Int32) [(.int (nar .char (81 : Int32))), (.int (nar .char (83 : Int32))), (.int (nar .char (70 : Int32))), (.int (0 : Int32)), (.int (0 : Int32)), (.int (0 : Int32)), (.int (0 : Int32)), (.int (0 : Int32)), (.int (0 : Int32)), (.int (0 : Int32)), (.int (0 : Int32)), (.int (0 : Int32)), (.int (0 : Int32)), (.int (0 : Int32)), (.int (0 : Int32)), (.int (0 : Int32)), (.int (0 : Int32)), (.int (0 : Int32)), (.int (0 : Int32)), (.int (0 : Int32)), (.int (0 : Int32)), (.int (0 : Int32)), (.int (0 : Int32)), (.int (0 : Int32))] (.int (0 : Int32)) := Arv.set Aro21 qco21 So21 Mo21 Ho21 Go21 (fits_nar_char _) W23 2 rfl (Nat.le_of_ble_eq_true rfl)
  have Z25 : n0 ≤ h23.size := Nat.le_trans Z18 (Keep.of_wr W23).1
  have K26 : Keep h0 h23 [] := K19.wr W23 (Or.inr sz3)
  have N27 := Fr.snoc X23 N20 g2
  refine Go.of st23 ?_
  show Go p e below Qo T23 (mkF m 19 #[.val (.int i1), .unset] [(.ref b1)])
  refine Go.of (fun t k => XS.dup X23.here hx rfl (hb hby d1_19) rfl rfl k) ?_
  show Go p e below Qo T23 (mkF m 20 #[.val (.int i1), .unset] [(.ref b1), (.ref b1)])
  refine Go.of (fun t k => XS.iconst X23.here hx rfl (hb hby d1_20) k) ?_
  show Go p e below Qo T23 (mkF m 21 #[.val (.int i1), .unset] [(.int (3 : Int32)), (.ref b1), (.ref b1)])
  refine Go.of (fun t k => XS.bipush X23.here hx rfl (hb hby d1_21) k) ?_
  show Go p e below Qo T23 (mkF m 23 #[.val (.int i1), .unset] [(.int (80 : Int32)), (.int (3 : Int32)), (.ref b1), (.ref b1)])
  have cpo28 := q24
  obtain ⟨clo28, Aro28, qco28, So28, Mo28, Ho28, Go28⟩ := cpo28
  have hin29 : ¬ ((3 : Int32) < 0 ∨ clo28.slots.size ≤ (3 : Int32).toNatClampNeg) := (inb_of So28 ⟨by decide, by decide⟩)
  obtain ⟨T30, h30, X30, e30, W30, st30⟩ := stC X23 hx hZ e23 Aro28 (j := (3 : Int32)) hin29 (g := (mkF m 23 #[.val (.int i1), .unset] [(.int (80 : Int32)), (.int (3 : Int32)), (.ref b1), (.ref b1)])) rfl rfl (hb hby d1_23)
  have q31 : Arv Z h30 b1 k1 .char (24 : Int32) [(.int (nar .char (81 : Int32))), (.int (nar .char (83 : Int32))), (.int (nar .char (70 : Int32))), (.int (nar .char (80 : Int32))), (.int (0 : Int32)), (.int (0 : Int32)), (.int (0 : Int32)), (.int (0 : Int32)), (.int (0 : Int32)), (.int (0 : Int32)), (.int (0 : Int32)), (.int (0 : Int32)), (.int (0 : Int32)), (.int (0 : Int32)), (.int (0 : Int32)), (.int (0 : Int32)), (.int (0 : Int32)), (.int (0 : Int32)), (.int (0 : Int32)), (.int (0 : Int32)), (.int (0 : Int32)), (.int (0 : Int32)), (.int (0 : Int32)), (.int (0 : Int32))] (.int (0 : Int32)) := Arv.set Aro28 qco28 So28 Mo28 Ho28 Go28 (fits_nar_char _) W30 3 rfl (Nat.le_of_ble_eq_true rfl)
  have Z32 : n0 ≤ h30.size := Nat.le_trans Z25 (Keep.of_wr W30).1
  have K33 : Keep h0 h30 [] := K26.wr W30 (Or.inr sz3)
  have N34 := Fr.snoc X30 N27 g2
  refine Go.of st30 ?_
  show Go p e below Qo T30 (mkF m 24 #[.val (.int i1), .unset] [(.ref b1)])
  refine Go.of (fun t k => XS.dup X30.here hx rfl (hb hby d1_24) rfl rfl k) ?_
  show Go p e below Qo T30 (mkF m 25 #[.val (.int i1), .unset] [(.ref b1), (.ref b1)])
  refine Go.of (fun t k => XS.iconst X30.here hx rfl (hb hby d1_25) k) ?_
  show Go p e below Qo T30 (mkF m 26 #[.val (.int i1), .unset] [(.int (4 : Int32)), (.ref b1), (.ref b1)])
  refine Go.of (fun t k => XS.bipush X30.here hx rfl (hb hby d1_26) k) ?_
  show Go p e below Qo T30 (mkF m 28 #[.val (.int i1), .unset] [(.int (66 : Int32)), (.int (4 : Int32)), (.ref b1), (.ref b1)])
  have cpo35 := q31
  obtain ⟨clo35, Aro35, qco35, So35, Mo35, Ho35, Go35⟩ := cpo35
  have hin36 : ¬ ((4 : Int32) < 0 ∨ clo35.slots.size ≤ (4 : Int32).toNatClampNeg) := (inb_of So35 ⟨by decide, by decide⟩)
  obtain ⟨T37, h37, X37, e37, W37, st37⟩ := stC X30 hx hZ e30 Aro35 (j := (4 : Int32)) hin36 (g := (mkF m 28 #[.val (.int i1), .unset] [(.int (66 : Int32)), (.int (4 : Int32)), (.ref b1), (.ref b1)])) rfl rfl (hb hby d1_28)
  have q38 : Arv Z h37 b1 k1 .char (24 : Int32) [(.int (nar .char (81 : Int32))), (.int (nar .char (83 : Int32))), (.int (nar .char (70 : Int32))), (.int (nar .char (80 : Int32))), (.int (nar .char (66 : Int32))), (.int (0 : Int32)), (.int (0 : Int32)), (.int (0 : Int32)), (.int (0 : Int32)), (.int (0 : Int32)), (.int (0 : Int32)), (.int (0 : Int32)), (.int (0 : Int32)), (.int (0 : Int32)), (.int (0 : Int32)), (.int (0 : Int32)), (.int (0 : Int32)), (.int (0 : Int32)), (.int (0 : Int32)), (.int (0 : Int32)), (.int (0 : Int32)), (.int (0 : Int32)), (.int (0 : Int32)), (.int (0 : Int32))] (.int (0 : Int32)) := Arv.set Aro35 qco35 So35 Mo35 Ho35 Go35 (fits_nar_char _) W37 4 rfl (Nat.le_of_ble_eq_true rfl)
  have Z39 : n0 ≤ h37.size := Nat.le_trans Z32 (Keep.of_wr W37).1
  have K40 : Keep h0 h37 [] := K33.wr W37 (Or.inr sz3)
  have N41 := Fr.snoc X37 N34 g2
  refine Go.of st37 ?_
  show Go p e below Qo T37 (mkF m 29 #[.val (.int i1), .unset] [(.ref b1)])
  refine Go.of (fun t k => XS.dup X37.here hx rfl (hb hby d1_29) rfl rfl k) ?_
  show Go p e below Qo T37 (mkF m 30 #[.val (.int i1), .unset] [(.ref b1), (.ref b1)])
  refine Go.of (fun t k => XS.iconst X37.here hx rfl (hb hby d1_30) k) ?_
  show Go p e below Qo T37 (mkF m 31 #[.val (.int i1), .unset] [(.int (5 : Int32)), (.ref b1), (.ref b1)])
  refine Go.of (fun t k => XS.bipush X37.here hx rfl (hb hby d1_31) k) ?_
  show Go p e below Qo T37 (mkF m 33 #[.val (.int i1), .unset] [(.int (67 : Int32)), (.int (5 : Int32)), (.ref b1), (.ref b1)])
  have cpo42 := q38
  obtain ⟨clo42, Aro42, qco42, So42, Mo42, Ho42, Go42⟩ := cpo42
  have hin43 : ¬ ((5 : Int32) < 0 ∨ clo42.slots.size ≤ (5 : Int32).toNatClampNeg) := (inb_of So42 ⟨by decide, by decide⟩)
  obtain ⟨T44, h44, X44, e44, W44, st44⟩ := stC X37 hx hZ e37 Aro42 (j := (5 : Int32)) hin43 (g := (mkF m 33 #[.val (.int i1), .unset] [(.int (67 : Int32)), (.int (5 : Int32)), (.ref b1), (.ref b1)])) rfl rfl (hb hby d1_33)
  have q45 : Arv Z h44 b1 k1 .char (24 : Int32) [(.int (nar .char (81 : Int32))), (.int (nar .char (83 : Int32))), (.int (nar .char (70 : Int32))), (.int (nar .char (80 : Int32))), (.int (nar .char (66 : Int32))), (.int (nar .char (67 : Int32))), (.int (0 : Int32)), (.int (0 : Int32)), (.int (0 : Int32)), (.int (0 : Int32)), (.int (0 : Int32)), (.int (0 : Int32)), (.int (0 : Int32)), (.int (0 : Int32)), (.int (0 : Int32)), (.int (0 : Int32)), (.int (0 : Int32)), (.int (0 : Int32)), (.int (0 : Int32)), (.int (0 : Int32)), (.int (0 : Int32)), (.int (0 : Int32)), (.int (0 : Int32)), (.int (0 : Int32))] (.int (0 : Int32)) := Arv.set Aro42 qco42 So42 Mo42 Ho42 Go42 (fits_nar_char _) W44 5 rfl (Nat.le_of_ble_eq_true rfl)
  have Z46 : n0 ≤ h44.size := Nat.le_trans Z39 (Keep.of_wr W44).1
  have K47 : Keep h0 h44 [] := K40.wr W44 (Or.inr sz3)
  have N48 := Fr.snoc X44 N41 g2
  refine Go.of st44 ?_
  show Go p e below Qo T44 (mkF m 34 #[.val (.int i1), .unset] [(.ref b1)])
  refine Go.of (fun t k => XS.dup X44.here hx rfl (hb hby d1_34) rfl rfl k) ?_
  show Go p e below Qo T44 (mkF m 35 #[.val (.int i1), .unset] [(.ref b1), (.ref b1)])
  refine Go.of (fun t k => XS.bipush X44.here hx rfl (hb hby d1_35) k) ?_
  show Go p e below Qo T44 (mkF m 37 #[.val (.int i1), .unset] [(.int (6 : Int32)), (.ref b1), (.ref b1)])
  refine Go.of (fun t k => XS.bipush X44.here hx rfl (hb hby d1_37) k) ?_
  show Go p e below Qo T44 (mkF m 39 #[.val (.int i1), .unset] [(.int (68 : Int32)), (.int (6 : Int32)), (.ref b1), (.ref b1)])
  have cpo49 := q45
  obtain ⟨clo49, Aro49, qco49, So49, Mo49, Ho49, Go49⟩ := cpo49
  have hin50 : ¬ ((6 : Int32) < 0 ∨ clo49.slots.size ≤ (6 : Int32).toNatClampNeg) := (inb_of So49 ⟨by decide, by decide⟩)
  obtain ⟨T51, h51, X51, e51, W51, st51⟩ := stC X44 hx hZ e44 Aro49 (j := (6 : Int32)) hin50 (g := (mkF m 39 #[.val (.int i1), .unset] [(.int (68 : Int32)), (.int (6 : Int32)), (.ref b1), (.ref b1)])) rfl rfl (hb hby d1_39)
  have q52 : Arv Z h51 b1 k1 .char (24 : Int32) [(.int (nar .char (81 : Int32))), (.int (nar .char (83 : Int32))), (.int (nar .char (70 : Int32))), (.int (nar .char (80 : Int32))), (.int (nar .char (66 : Int32))), (.int (nar .char (67 : Int32))), (.int (nar .char (68 : Int32))), (.int (0 : Int32)), (.int (0 : Int32)), (.int (0 : Int32)), (.int (0 : Int32)), (.int (0 : Int32)), (.int (0 : Int32)), (.int (0 : Int32)), (.int (0 : Int32)), (.int (0 : Int32)), (.int (0 : Int32)), (.int (0 : Int32)), (.int (0 : Int32)), (.int (0 : Int32)), (.int (0 : Int32)), (.int (0 : Int32)), (.int (0 : Int32)), (.int (0 : Int32))] (.int (0 : Int32)) := Arv.set Aro49 qco49 So49 Mo49 Ho49 Go49 (fits_nar_char _) W51 6 rfl (Nat.le_of_ble_eq_true rfl)
  have Z53 : n0 ≤ h51.size := Nat.le_trans Z46 (Keep.of_wr W51).1
  have K54 : Keep h0 h51 [] := K47.wr W51 (Or.inr sz3)
  have N55 := Fr.snoc X51 N48 g2
  refine Go.of st51 ?_
  show Go p e below Qo T51 (mkF m 40 #[.val (.int i1), .unset] [(.ref b1)])
  refine Go.of (fun t k => XS.dup X51.here hx rfl (hb hby d1_40) rfl rfl k) ?_
  show Go p e below Qo T51 (mkF m 41 #[.val (.int i1), .unset] [(.ref b1), (.ref b1)])
  refine Go.of (fun t k => XS.bipush X51.here hx rfl (hb hby d1_41) k) ?_
  show Go p e below Qo T51 (mkF m 43 #[.val (.int i1), .unset] [(.int (7 : Int32)), (.ref b1), (.ref b1)])
  refine Go.of (fun t k => XS.bipush X51.here hx rfl (hb hby d1_43) k) ?_
  show Go p e below Qo T51 (mkF m 45 #[.val (.int i1), .unset] [(.int (69 : Int32)), (.int (7 : Int32)), (.ref b1), (.ref b1)])
  have cpo56 := q52
  obtain ⟨clo56, Aro56, qco56, So56, Mo56, Ho56, Go56⟩ := cpo56
  have hin57 : ¬ ((7 : Int32) < 0 ∨ clo56.slots.size ≤ (7 : Int32).toNatClampNeg) := (inb_of So56 ⟨by decide, by decide⟩)
  obtain ⟨T58, h58, X58, e58, W58, st58⟩ := stC X51 hx hZ e51 Aro56 (j := (7 : Int32)) hin57 (g := (mkF m 45 #[.val (.int i1), .unset] [(.int (69 : Int32)), (.int (7 : Int32)), (.ref b1), (.ref b1)])) rfl rfl (hb hby d1_45)
  have q59 : Arv Z h58 b1 k1 .char (24 : Int32) [(.int (nar .char (81 : Int32))), (.int (nar .char (83 : Int32))), (.int (nar .char (70 : Int32))), (.int (nar .char (80 : Int32))), (.int (nar .char (66 : Int32))), (.int (nar .char (67 : Int32))), (.int (nar .char (68 : Int32))), (.int (nar .char (69 : Int32))), (.int (0 : Int32)), (.int (0 : Int32)), (.int (0 : Int32)), (.int (0 : Int32)), (.int (0 : Int32)), (.int (0 : Int32)), (.int (0 : Int32)), (.int (0 : Int32)), (.int (0 : Int32)), (.int (0 : Int32)), (.int (0 : Int32)), (.int (0 : Int32)), (.int (0 : Int32)), (.int (0 : Int32)), (.int (0 : Int32)), (.int (0 : Int32))] (.int (0 : Int32)) := Arv.set Aro56 qco56 So56 Mo56 Ho56 Go56 (fits_nar_char _) W58 7 rfl (Nat.le_of_ble_eq_true rfl)
  have Z60 : n0 ≤ h58.size := Nat.le_trans Z53 (Keep.of_wr W58).1
  have K61 : Keep h0 h58 [] := K54.wr W58 (Or.inr sz3)
  have N62 := Fr.snoc X58 N55 g2
  refine Go.of st58 ?_
  show Go p e below Qo T58 (mkF m 46 #[.val (.int i1), .unset] [(.ref b1)])
  refine Go.of (fun t k => XS.dup X58.here hx rfl (hb hby d1_46) rfl rfl k) ?_
  show Go p e below Qo T58 (mkF m 47 #[.val (.int i1), .unset] [(.ref b1), (.ref b1)])
  refine Go.of (fun t k => XS.bipush X58.here hx rfl (hb hby d1_47) k) ?_
  show Go p e below Qo T58 (mkF m 49 #[.val (.int i1), .unset] [(.int (8 : Int32)), (.ref b1), (.ref b1)])
  refine Go.of (fun t k => XS.bipush X58.here hx rfl (hb hby d1_49) k) ?_
  show Go p e below Qo T58 (mkF m 51 #[.val (.int i1), .unset] [(.int (90 : Int32)), (.int (8 : Int32)), (.ref b1), (.ref b1)])
  have cpo63 := q59
  obtain ⟨clo63, Aro63, qco63, So63, Mo63, Ho63, Go63⟩ := cpo63
  have hin64 : ¬ ((8 : Int32) < 0 ∨ clo63.slots.size ≤ (8 : Int32).toNatClampNeg) := (inb_of So63 ⟨by decide, by decide⟩)
  obtain ⟨T65, h65, X65, e65, W65, st65⟩ := stC X58 hx hZ e58 Aro63 (j := (8 : Int32)) hin64 (g := (mkF m 51 #[.val (.int i1), .unset] [(.int (90 : Int32)), (.int (8 : Int32)), (.ref b1), (.ref b1)])) rfl rfl (hb hby d1_51)
  have q66 : Arv Z h65 b1 k1 .char (24 : Int32) [(.int (nar .char (81 : Int32))), (.int (nar .char (83 : Int32))), (.int (nar .char (70 : Int32))), (.int (nar .char (80 : Int32))), (.int (nar .char (66 : Int32))), (.int (nar .char (67 : Int32))), (.int (nar .char (68 : Int32))), (.int (nar .char (69 : Int32))), (.int (nar .char (90 : Int32))), (.int (0 : Int32)), (.int (0 : Int32)), (.int (0 : Int32)), (.int (0 : Int32)), (.int (0 : Int32)), (.int (0 : Int32)), (.int (0 : Int32)), (.int (0 : Int32)), (.int (0 : Int32)), (.int (0 : Int32)), (.int (0 : Int32)), (.int (0 : Int32)), (.int (0 : Int32)), (.int (0 : Int32)), (.int (0 : Int32))] (.int (0 : Int32)) := Arv.set Aro63 qco63 So63 Mo63 Ho63 Go63 (fits_nar_char _) W65 8 rfl (Nat.le_of_ble_eq_true rfl)
  have Z67 : n0 ≤ h65.size := Nat.le_trans Z60 (Keep.of_wr W65).1
  have K68 : Keep h0 h65 [] := K61.wr W65 (Or.inr sz3)
  have N69 := Fr.snoc X65 N62 g2
  refine Go.of st65 ?_
  show Go p e below Qo T65 (mkF m 52 #[.val (.int i1), .unset] [(.ref b1)])
  refine Go.of (fun t k => XS.dup X65.here hx rfl (hb hby d1_52) rfl rfl k) ?_
  show Go p e below Qo T65 (mkF m 53 #[.val (.int i1), .unset] [(.ref b1), (.ref b1)])
  refine Go.of (fun t k => XS.bipush X65.here hx rfl (hb hby d1_53) k) ?_
  show Go p e below Qo T65 (mkF m 55 #[.val (.int i1), .unset] [(.int (9 : Int32)), (.ref b1), (.ref b1)])
  refine Go.of (fun t k => XS.bipush X65.here hx rfl (hb hby d1_55) k) ?_
  show Go p e below Qo T65 (mkF m 57 #[.val (.int i1), .unset] [(.int (49 : Int32)), (.int (9 : Int32)), (.ref b1), (.ref b1)])
  have cpo70 := q66
  obtain ⟨clo70, Aro70, qco70, So70, Mo70, Ho70, Go70⟩ := cpo70
  have hin71 : ¬ ((9 : Int32) < 0 ∨ clo70.slots.size ≤ (9 : Int32).toNatClampNeg) := (inb_of So70 ⟨by decide, by decide⟩)
  obtain ⟨T72, h72, X72, e72, W72, st72⟩ := stC X65 hx hZ e65 Aro70 (j := (9 : Int32)) hin71 (g := (mkF m 57 #[.val (.int i1), .unset] [(.int (49 : Int32)), (.int (9 : Int32)), (.ref b1), (.ref b1)])) rfl rfl (hb hby d1_57)
  have q73 : Arv Z h72 b1 k1 .char (24 : Int32) [(.int (nar .char (81 : Int32))), (.int (nar .char (83 : Int32))), (.int (nar .char (70 : Int32))), (.int (nar .char (80 : Int32))), (.int (nar .char (66 : Int32))), (.int (nar .char (67 : Int32))), (.int (nar .char (68 : Int32))), (.int (nar .char (69 : Int32))), (.int (nar .char (90 : Int32))), (.int (nar .char (49 : Int32))), (.int (0 : Int32)), (.int (0 : Int32)), (.int (0 : Int32)), (.int (0 : Int32)), (.int (0 : Int32)), (.int (0 : Int32)), (.int (0 : Int32)), (.int (0 : Int32)), (.int (0 : Int32)), (.int (0 : Int32)), (.int (0 : Int32)), (.int (0 : Int32)), (.int (0 : Int32)), (.int (0 : Int32))] (.int (0 : Int32)) := Arv.set Aro70 qco70 So70 Mo70 Ho70 Go70 (fits_nar_char _) W72 9 rfl (Nat.le_of_ble_eq_true rfl)
  have Z74 : n0 ≤ h72.size := Nat.le_trans Z67 (Keep.of_wr W72).1
  have K75 : Keep h0 h72 [] := K68.wr W72 (Or.inr sz3)
  have N76 := Fr.snoc X72 N69 g2
  refine Go.of st72 ?_
  show Go p e below Qo T72 (mkF m 58 #[.val (.int i1), .unset] [(.ref b1)])
  refine Go.of (fun t k => XS.dup X72.here hx rfl (hb hby d1_58) rfl rfl k) ?_
  show Go p e below Qo T72 (mkF m 59 #[.val (.int i1), .unset] [(.ref b1), (.ref b1)])
  refine Go.of (fun t k => XS.bipush X72.here hx rfl (hb hby d1_59) k) ?_
  show Go p e below Qo T72 (mkF m 61 #[.val (.int i1), .unset] [(.int (10 : Int32)), (.ref b1), (.ref b1)])
  refine Go.of (fun t k => XS.bipush X72.here hx rfl (hb hby d1_61) k) ?_
  show Go p e below Qo T72 (mkF m 63 #[.val (.int i1), .unset] [(.int (50 : Int32)), (.int (10 : Int32)), (.ref b1), (.ref b1)])
  have cpo77 := q73
  obtain ⟨clo77, Aro77, qco77, So77, Mo77, Ho77, Go77⟩ := cpo77
  have hin78 : ¬ ((10 : Int32) < 0 ∨ clo77.slots.size ≤ (10 : Int32).toNatClampNeg) := (inb_of So77 ⟨by decide, by decide⟩)
  obtain ⟨T79, h79, X79, e79, W79, st79⟩ := stC X72 hx hZ e72 Aro77 (j := (10 : Int32)) hin78 (g := (mkF m 63 #[.val (.int i1), .unset] [(.int (50 : Int32)), (.int (10 : Int32)), (.ref b1), (.ref b1)])) rfl rfl (hb hby d1_63)
  have q80 : Arv Z h79 b1 k1 .char (24 : Int32) [(.int (nar .char (81 : Int32))), (.int (nar .char (83 : Int32))), (.int (nar .char (70 : Int32))), (.int (nar .char (80 : Int32))), (.int (nar .char (66 : Int32))), (.int (nar .char (67 : Int32))), (.int (nar .char (68 : Int32))), (.int (nar .char (69 : Int32))), (.int (nar .char (90 : Int32))), (.int (nar .char (49 : Int32))), (.int (nar .char (50 : Int32))), (.int (0 : Int32)), (.int (0 : Int32)), (.int (0 : Int32)), (.int (0 : Int32)), (.int (0 : Int32)), (.int (0 : Int32)), (.int (0 : Int32)), (.int (0 : Int32)), (.int (0 : Int32)), (.int (0 : Int32)), (.int (0 : Int32)), (.int (0 : Int32)), (.int (0 : Int32))] (.int (0 : Int32)) := Arv.set Aro77 qco77 So77 Mo77 Ho77 Go77 (fits_nar_char _) W79 10 rfl (Nat.le_of_ble_eq_true rfl)
  have Z81 : n0 ≤ h79.size := Nat.le_trans Z74 (Keep.of_wr W79).1
  have K82 : Keep h0 h79 [] := K75.wr W79 (Or.inr sz3)
  have N83 := Fr.snoc X79 N76 g2
  refine Go.of st79 ?_
  show Go p e below Qo T79 (mkF m 64 #[.val (.int i1), .unset] [(.ref b1)])
  refine Go.of (fun t k => XS.dup X79.here hx rfl (hb hby d1_64) rfl rfl k) ?_
  show Go p e below Qo T79 (mkF m 65 #[.val (.int i1), .unset] [(.ref b1), (.ref b1)])
  refine Go.of (fun t k => XS.bipush X79.here hx rfl (hb hby d1_65) k) ?_
  show Go p e below Qo T79 (mkF m 67 #[.val (.int i1), .unset] [(.int (11 : Int32)), (.ref b1), (.ref b1)])
  refine Go.of (fun t k => XS.bipush X79.here hx rfl (hb hby d1_67) k) ?_
  show Go p e below Qo T79 (mkF m 69 #[.val (.int i1), .unset] [(.int (51 : Int32)), (.int (11 : Int32)), (.ref b1), (.ref b1)])
  have cpo84 := q80
  obtain ⟨clo84, Aro84, qco84, So84, Mo84, Ho84, Go84⟩ := cpo84
  have hin85 : ¬ ((11 : Int32) < 0 ∨ clo84.slots.size ≤ (11 : Int32).toNatClampNeg) := (inb_of So84 ⟨by decide, by decide⟩)
  obtain ⟨T86, h86, X86, e86, W86, st86⟩ := stC X79 hx hZ e79 Aro84 (j := (11 : Int32)) hin85 (g := (mkF m 69 #[.val (.int i1), .unset] [(.int (51 : Int32)), (.int (11 : Int32)), (.ref b1), (.ref b1)])) rfl rfl (hb hby d1_69)
  have q87 : Arv Z h86 b1 k1 .char (24 : Int32) [(.int (nar .char (81 : Int32))), (.int (nar .char (83 : Int32))), (.int (nar .char (70 : Int32))), (.int (nar .char (80 : Int32))), (.int (nar .char (66 : Int32))), (.int (nar .char (67 : Int32))), (.int (nar .char (68 : Int32))), (.int (nar .char (69 : Int32))), (.int (nar .char (90 : Int32))), (.int (nar .char (49 : Int32))), (.int (nar .char (50 : Int32))), (.int (nar .char (51 : Int32))), (.int (0 : Int32)), (.int (0 : Int32)), (.int (0 : Int32)), (.int (0 : Int32)), (.int (0 : Int32)), (.int (0 : Int32)), (.int (0 : Int32)), (.int (0 : Int32)), (.int (0 : Int32)), (.int (0 : Int32)), (.int (0 : Int32)), (.int (0 : Int32))] (.int (0 : Int32)) := Arv.set Aro84 qco84 So84 Mo84 Ho84 Go84 (fits_nar_char _) W86 11 rfl (Nat.le_of_ble_eq_true rfl)
  have Z88 : n0 ≤ h86.size := Nat.le_trans Z81 (Keep.of_wr W86).1
  have K89 : Keep h0 h86 [] := K82.wr W86 (Or.inr sz3)
  have N90 := Fr.snoc X86 N83 g2
  refine Go.of st86 ?_
  show Go p e below Qo T86 (mkF m 70 #[.val (.int i1), .unset] [(.ref b1)])
  refine Go.of (fun t k => XS.dup X86.here hx rfl (hb hby d1_70) rfl rfl k) ?_
  show Go p e below Qo T86 (mkF m 71 #[.val (.int i1), .unset] [(.ref b1), (.ref b1)])
  refine Go.of (fun t k => XS.bipush X86.here hx rfl (hb hby d1_71) k) ?_
  show Go p e below Qo T86 (mkF m 73 #[.val (.int i1), .unset] [(.int (12 : Int32)), (.ref b1), (.ref b1)])
  refine Go.of (fun t k => XS.bipush X86.here hx rfl (hb hby d1_73) k) ?_
  show Go p e below Qo T86 (mkF m 75 #[.val (.int i1), .unset] [(.int (84 : Int32)), (.int (12 : Int32)), (.ref b1), (.ref b1)])
  have cpo91 := q87
  obtain ⟨clo91, Aro91, qco91, So91, Mo91, Ho91, Go91⟩ := cpo91
  have hin92 : ¬ ((12 : Int32) < 0 ∨ clo91.slots.size ≤ (12 : Int32).toNatClampNeg) := (inb_of So91 ⟨by decide, by decide⟩)
  obtain ⟨T93, h93, X93, e93, W93, st93⟩ := stC X86 hx hZ e86 Aro91 (j := (12 : Int32)) hin92 (g := (mkF m 75 #[.val (.int i1), .unset] [(.int (84 : Int32)), (.int (12 : Int32)), (.ref b1), (.ref b1)])) rfl rfl (hb hby d1_75)
  have q94 : Arv Z h93 b1 k1 .char (24 : Int32) [(.int (nar .char (81 : Int32))), (.int (nar .char (83 : Int32))), (.int (nar .char (70 : Int32))), (.int (nar .char (80 : Int32))), (.int (nar .char (66 : Int32))), (.int (nar .char (67 : Int32))), (.int (nar .char (68 : Int32))), (.int (nar .char (69 : Int32))), (.int (nar .char (90 : Int32))), (.int (nar .char (49 : Int32))), (.int (nar .char (50 : Int32))), (.int (nar .char (51 : Int32))), (.int (nar .char (84 : Int32))), (.int (0 : Int32)), (.int (0 : Int32)), (.int (0 : Int32)), (.int (0 : Int32)), (.int (0 : Int32)), (.int (0 : Int32)), (.int (0 : Int32)), (.int (0 : Int32)), (.int (0 : Int32)), (.int (0 : Int32)), (.int (0 : Int32))] (.int (0 : Int32)) := Arv.set Aro91 qco91 So91 Mo91 Ho91 Go91 (fits_nar_char _) W93 12 rfl (Nat.le_of_ble_eq_true rfl)
  have Z95 : n0 ≤ h93.size := Nat.le_trans Z88 (Keep.of_wr W93).1
  have K96 : Keep h0 h93 [] := K89.wr W93 (Or.inr sz3)
  have N97 := Fr.snoc X93 N90 g2
  refine Go.of st93 ?_
  show Go p e below Qo T93 (mkF m 76 #[.val (.int i1), .unset] [(.ref b1)])
  refine Go.of (fun t k => XS.dup X93.here hx rfl (hb hby d1_76) rfl rfl k) ?_
  show Go p e below Qo T93 (mkF m 77 #[.val (.int i1), .unset] [(.ref b1), (.ref b1)])
  refine Go.of (fun t k => XS.bipush X93.here hx rfl (hb hby d1_77) k) ?_
  show Go p e below Qo T93 (mkF m 79 #[.val (.int i1), .unset] [(.int (13 : Int32)), (.ref b1), (.ref b1)])
  refine Go.of (fun t k => XS.bipush X93.here hx rfl (hb hby d1_79) k) ?_
  show Go p e below Qo T93 (mkF m 81 #[.val (.int i1), .unset] [(.int (110 : Int32)), (.int (13 : Int32)), (.ref b1), (.ref b1)])
  have cpo98 := q94
  obtain ⟨clo98, Aro98, qco98, So98, Mo98, Ho98, Go98⟩ := cpo98
  have hin99 : ¬ ((13 : Int32) < 0 ∨ clo98.slots.size ≤ (13 : Int32).toNatClampNeg) := (inb_of So98 ⟨by decide, by decide⟩)
  obtain ⟨T100, h100, X100, e100, W100, st100⟩ := stC X93 hx hZ e93 Aro98 (j := (13 : Int32)) hin99 (g := (mkF m 81 #[.val (.int i1), .unset] [(.int (110 : Int32)), (.int (13 : Int32)), (.ref b1), (.ref b1)])) rfl rfl (hb hby d1_81)
  have q101 : Arv Z h100 b1 k1 .char (24 : Int32) [(.int (nar .char (81 : Int32))), (.int (nar .char (83 : Int32))), (.int (nar .char (70 : Int32))), (.int (nar .char (80 : Int32))), (.int (nar .char (66 : Int32))), (.int (nar .char (67 : Int32))), (.int (nar .char (68 : Int32))), (.int (nar .char (69 : Int32))), (.int (nar .char (90 : Int32))), (.int (nar .char (49 : Int32))), (.int (nar .char (50 : Int32))), (.int (nar .char (51 : Int32))), (.int (nar .char (84 : Int32))), (.int (nar .char (110 : Int32))), (.int (0 : Int32)), (.int (0 : Int32)), (.int (0 : Int32)), (.int (0 : Int32)), (.int (0 : Int32)), (.int (0 : Int32)), (.int (0 : Int32)), (.int (0 : Int32)), (.int (0 : Int32)), (.int (0 : Int32))] (.int (0 : Int32)) := Arv.set Aro98 qco98 So98 Mo98 Ho98 Go98 (fits_nar_char _) W100 13 rfl (Nat.le_of_ble_eq_true rfl)
  have Z102 : n0 ≤ h100.size := Nat.le_trans Z95 (Keep.of_wr W100).1
  have K103 : Keep h0 h100 [] := K96.wr W100 (Or.inr sz3)
  have N104 := Fr.snoc X100 N97 g2
  refine Go.of st100 ?_
  show Go p e below Qo T100 (mkF m 82 #[.val (.int i1), .unset] [(.ref b1)])
  refine Go.of (fun t k => XS.dup X100.here hx rfl (hb hby d1_82) rfl rfl k) ?_
  show Go p e below Qo T100 (mkF m 83 #[.val (.int i1), .unset] [(.ref b1), (.ref b1)])
  refine Go.of (fun t k => XS.bipush X100.here hx rfl (hb hby d1_83) k) ?_
  show Go p e below Qo T100 (mkF m 85 #[.val (.int i1), .unset] [(.int (14 : Int32)), (.ref b1), (.ref b1)])
  refine Go.of (fun t k => XS.bipush X100.here hx rfl (hb hby d1_85) k) ?_
  show Go p e below Qo T100 (mkF m 87 #[.val (.int i1), .unset] [(.int (73 : Int32)), (.int (14 : Int32)), (.ref b1), (.ref b1)])
  have cpo105 := q101
  obtain ⟨clo105, Aro105, qco105, So105, Mo105, Ho105, Go105⟩ := cpo105
  have hin106 : ¬ ((14 : Int32) < 0 ∨ clo105.slots.size ≤ (14 : Int32).toNatClampNeg) := (inb_of So105 ⟨by decide, by decide⟩)
  obtain ⟨T107, h107, X107, e107, W107, st107⟩ := stC X100 hx hZ e100 Aro105 (j := (14 : Int32)) hin106 (g := (mkF m 87 #[.val (.int i1), .unset] [(.int (73 : Int32)), (.int (14 : Int32)), (.ref b1), (.ref b1)])) rfl rfl (hb hby d1_87)
  have q108 : Arv Z h107 b1 k1 .char (24 : Int32) [(.int (nar .char (81 : Int32))), (.int (nar .char (83 : Int32))), (.int (nar .char (70 : Int32))), (.int (nar .char (80 : Int32))), (.int (nar .char (66 : Int32))), (.int (nar .char (67 : Int32))), (.int (nar .char (68 : Int32))), (.int (nar .char (69 : Int32))), (.int (nar .char (90 : Int32))), (.int (nar .char (49 : Int32))), (.int (nar .char (50 : Int32))), (.int (nar .char (51 : Int32))), (.int (nar .char (84 : Int32))), (.int (nar .char (110 : Int32))), (.int (nar .char (73 : Int32))), (.int (0 : Int32)), (.int (0 : Int32)), (.int (0 : Int32)), (.int (0 : Int32)), (.int (0 : Int32)), (.int (0 : Int32)), (.int (0 : Int32)), (.int (0 : Int32)), (.int (0 : Int32))] (.int (0 : Int32)) := Arv.set Aro105 qco105 So105 Mo105 Ho105 Go105 (fits_nar_char _) W107 14 rfl (Nat.le_of_ble_eq_true rfl)
  have Z109 : n0 ≤ h107.size := Nat.le_trans Z102 (Keep.of_wr W107).1
  have K110 : Keep h0 h107 [] := K103.wr W107 (Or.inr sz3)
  have N111 := Fr.snoc X107 N104 g2
  refine Go.of st107 ?_
  show Go p e below Qo T107 (mkF m 88 #[.val (.int i1), .unset] [(.ref b1)])
  refine Go.of (fun t k => XS.dup X107.here hx rfl (hb hby d1_88) rfl rfl k) ?_
  show Go p e below Qo T107 (mkF m 89 #[.val (.int i1), .unset] [(.ref b1), (.ref b1)])
  refine Go.of (fun t k => XS.bipush X107.here hx rfl (hb hby d1_89) k) ?_
  show Go p e below Qo T107 (mkF m 91 #[.val (.int i1), .unset] [(.int (15 : Int32)), (.ref b1), (.ref b1)])
  refine Go.of (fun t k => XS.bipush X107.here hx rfl (hb hby d1_91) k) ?_
  show Go p e below Qo T107 (mkF m 93 #[.val (.int i1), .unset] [(.int (115 : Int32)), (.int (15 : Int32)), (.ref b1), (.ref b1)])
  have cpo112 := q108
  obtain ⟨clo112, Aro112, qco112, So112, Mo112, Ho112, Go112⟩ := cpo112
  have hin113 : ¬ ((15 : Int32) < 0 ∨ clo112.slots.size ≤ (15 : Int32).toNatClampNeg) := (inb_of So112 ⟨by decide, by decide⟩)
  obtain ⟨T114, h114, X114, e114, W114, st114⟩ := stC X107 hx hZ e107 Aro112 (j := (15 : Int32)) hin113 (g := (mkF m 93 #[.val (.int i1), .unset] [(.int (115 : Int32)), (.int (15 : Int32)), (.ref b1), (.ref b1)])) rfl rfl (hb hby d1_93)
  have q115 : Arv Z h114 b1 k1 .char (24 : Int32) [(.int (nar .char (81 : Int32))), (.int (nar .char (83 : Int32))), (.int (nar .char (70 : Int32))), (.int (nar .char (80 : Int32))), (.int (nar .char (66 : Int32))), (.int (nar .char (67 : Int32))), (.int (nar .char (68 : Int32))), (.int (nar .char (69 : Int32))), (.int (nar .char (90 : Int32))), (.int (nar .char (49 : Int32))), (.int (nar .char (50 : Int32))), (.int (nar .char (51 : Int32))), (.int (nar .char (84 : Int32))), (.int (nar .char (110 : Int32))), (.int (nar .char (73 : Int32))), (.int (nar .char (115 : Int32))), (.int (0 : Int32)), (.int (0 : Int32)), (.int (0 : Int32)), (.int (0 : Int32)), (.int (0 : Int32)), (.int (0 : Int32)), (.int (0 : Int32)), (.int (0 : Int32))] (.int (0 : Int32)) := Arv.set Aro112 qco112 So112 Mo112 Ho112 Go112 (fits_nar_char _) W114 15 rfl (Nat.le_of_ble_eq_true rfl)
  have Z116 : n0 ≤ h114.size := Nat.le_trans Z109 (Keep.of_wr W114).1
  have K117 : Keep h0 h114 [] := K110.wr W114 (Or.inr sz3)
  have N118 := Fr.snoc X114 N111 g2
  refine Go.of st114 ?_
  show Go p e below Qo T114 (mkF m 94 #[.val (.int i1), .unset] [(.ref b1)])
  refine Go.of (fun t k => XS.dup X114.here hx rfl (hb hby d1_94) rfl rfl k) ?_
  show Go p e below Qo T114 (mkF m 95 #[.val (.int i1), .unset] [(.ref b1), (.ref b1)])
  refine Go.of (fun t k => XS.bipush X114.here hx rfl (hb hby d1_95) k) ?_
  show Go p e below Qo T114 (mkF m 97 #[.val (.int i1), .unset] [(.int (16 : Int32)), (.ref b1), (.ref b1)])
  refine Go.of (fun t k => XS.bipush X114.here hx rfl (hb hby d1_97) k) ?_
  show Go p e below Qo T114 (mkF m 99 #[.val (.int i1), .unset] [(.int (88 : Int32)), (.int (16 : Int32)), (.ref b1), (.ref b1)])
  have cpo119 := q115
  obtain ⟨clo119, Aro119, qco119, So119, Mo119, Ho119, Go119⟩ := cpo119
  have hin120 : ¬ ((16 : Int32) < 0 ∨ clo119.slots.size ≤ (16 : Int32).toNatClampNeg) := (inb_of So119 ⟨by decide, by decide⟩)
  obtain ⟨T121, h121, X121, e121, W121, st121⟩ := stC X114 hx hZ e114 Aro119 (j := (16 : Int32)) hin120 (g := (mkF m 99 #[.val (.int i1), .unset] [(.int (88 : Int32)), (.int (16 : Int32)), (.ref b1), (.ref b1)])) rfl rfl (hb hby d1_99)
  have q122 : Arv Z h121 b1 k1 .char (24 : Int32) [(.int (nar .char (81 : Int32))), (.int (nar .char (83 : Int32))), (.int (nar .char (70 : Int32))), (.int (nar .char (80 : Int32))), (.int (nar .char (66 : Int32))), (.int (nar .char (67 : Int32))), (.int (nar .char (68 : Int32))), (.int (nar .char (69 : Int32))), (.int (nar .char (90 : Int32))), (.int (nar .char (49 : Int32))), (.int (nar .char (50 : Int32))), (.int (nar .char (51 : Int32))), (.int (nar .char (84 : Int32))), (.int (nar .char (110 : Int32))), (.int (nar .char (73 : Int32))), (.int (nar .char (115 : Int32))), (.int (nar .char (88 : Int32))), (.int (0 : Int32)), (.int (0 : Int32)), (.int (0 : Int32)), (.int (0 : Int32)), (.int (0 : Int32)), (.int (0 : Int32)), (.int (0 : Int32))] (.int (0 : Int32)) := Arv.set Aro119 qco119 So119 Mo119 Ho119 Go119 (fits_nar_char _) W121 16 rfl (Nat.le_of_ble_eq_true rfl)
  have Z123 : n0 ≤ h121.size := Nat.le_trans Z116 (Keep.of_wr W121).1
  have K124 : Keep h0 h121 [] := K117.wr W121 (Or.inr sz3)
  have N125 := Fr.snoc X121 N118 g2
  refine Go.of st121 ?_
  show Go p e below Qo T121 (mkF m 100 #[.val (.int i1), .unset] [(.ref b1)])
  refine Go.of (fun t k => XS.dup X121.here hx rfl (hb hby d1_100) rfl rfl k) ?_
  show Go p e below Qo T121 (mkF m 101 #[.val (.int i1), .unset] [(.ref b1), (.ref b1)])
  refine Go.of (fun t k => XS.bipush X121.here hx rfl (hb hby d1_101) k) ?_
  show Go p e below Qo T121 (mkF m 103 #[.val (.int i1), .unset] [(.int (17 : Int32)), (.ref b1), (.ref b1)])
  refine Go.of (fun t k => XS.bipush X121.here hx rfl (hb hby d1_103) k) ?_
  show Go p e below Qo T121 (mkF m 105 #[.val (.int i1), .unset] [(.int (72 : Int32)), (.int (17 : Int32)), (.ref b1), (.ref b1)])
  have cpo126 := q122
  obtain ⟨clo126, Aro126, qco126, So126, Mo126, Ho126, Go126⟩ := cpo126
  have hin127 : ¬ ((17 : Int32) < 0 ∨ clo126.slots.size ≤ (17 : Int32).toNatClampNeg) := (inb_of So126 ⟨by decide, by decide⟩)
  obtain ⟨T128, h128, X128, e128, W128, st128⟩ := stC X121 hx hZ e121 Aro126 (j := (17 : Int32)) hin127 (g := (mkF m 105 #[.val (.int i1), .unset] [(.int (72 : Int32)), (.int (17 : Int32)), (.ref b1), (.ref b1)])) rfl rfl (hb hby d1_105)
  have q129 : Arv Z h128 b1 k1 .char (24 : Int32) [(.int (nar .char (81 : Int32))), (.int (nar .char (83 : Int32))), (.int (nar .char (70 : Int32))), (.int (nar .char (80 : Int32))), (.int (nar .char (66 : Int32))), (.int (nar .char (67 : Int32))), (.int (nar .char (68 : Int32))), (.int (nar .char (69 : Int32))), (.int (nar .char (90 : Int32))), (.int (nar .char (49 : Int32))), (.int (nar .char (50 : Int32))), (.int (nar .char (51 : Int32))), (.int (nar .char (84 : Int32))), (.int (nar .char (110 : Int32))), (.int (nar .char (73 : Int32))), (.int (nar .char (115 : Int32))), (.int (nar .char (88 : Int32))), (.int (nar .char (72 : Int32))), (.int (0 : Int32)), (.int (0 : Int32)), (.int (0 : Int32)), (.int (0 : Int32)), (.int (0 : Int32)), (.int (0 : Int32))] (.int (0 : Int32)) := Arv.set Aro126 qco126 So126 Mo126 Ho126 Go126 (fits_nar_char _) W128 17 rfl (Nat.le_of_ble_eq_true rfl)
  have Z130 : n0 ≤ h128.size := Nat.le_trans Z123 (Keep.of_wr W128).1
  have K131 : Keep h0 h128 [] := K124.wr W128 (Or.inr sz3)
  have N132 := Fr.snoc X128 N125 g2
  refine Go.of st128 ?_
  show Go p e below Qo T128 (mkF m 106 #[.val (.int i1), .unset] [(.ref b1)])
  refine Go.of (fun t k => XS.dup X128.here hx rfl (hb hby d1_106) rfl rfl k) ?_
  show Go p e below Qo T128 (mkF m 107 #[.val (.int i1), .unset] [(.ref b1), (.ref b1)])
  refine Go.of (fun t k => XS.bipush X128.here hx rfl (hb hby d1_107) k) ?_
  show Go p e below Qo T128 (mkF m 109 #[.val (.int i1), .unset] [(.int (18 : Int32)), (.ref b1), (.ref b1)])
  refine Go.of (fun t k => XS.bipush X128.here hx rfl (hb hby d1_109) k) ?_
  show Go p e below Qo T128 (mkF m 111 #[.val (.int i1), .unset] [(.int (82 : Int32)), (.int (18 : Int32)), (.ref b1), (.ref b1)])
  have cpo133 := q129
  obtain ⟨clo133, Aro133, qco133, So133, Mo133, Ho133, Go133⟩ := cpo133
  have hin134 : ¬ ((18 : Int32) < 0 ∨ clo133.slots.size ≤ (18 : Int32).toNatClampNeg) := (inb_of So133 ⟨by decide, by decide⟩)
  obtain ⟨T135, h135, X135, e135, W135, st135⟩ := stC X128 hx hZ e128 Aro133 (j := (18 : Int32)) hin134 (g := (mkF m 111 #[.val (.int i1), .unset] [(.int (82 : Int32)), (.int (18 : Int32)), (.ref b1), (.ref b1)])) rfl rfl (hb hby d1_111)
  have q136 : Arv Z h135 b1 k1 .char (24 : Int32) [(.int (nar .char (81 : Int32))), (.int (nar .char (83 : Int32))), (.int (nar .char (70 : Int32))), (.int (nar .char (80 : Int32))), (.int (nar .char (66 : Int32))), (.int (nar .char (67 : Int32))), (.int (nar .char (68 : Int32))), (.int (nar .char (69 : Int32))), (.int (nar .char (90 : Int32))), (.int (nar .char (49 : Int32))), (.int (nar .char (50 : Int32))), (.int (nar .char (51 : Int32))), (.int (nar .char (84 : Int32))), (.int (nar .char (110 : Int32))), (.int (nar .char (73 : Int32))), (.int (nar .char (115 : Int32))), (.int (nar .char (88 : Int32))), (.int (nar .char (72 : Int32))), (.int (nar .char (82 : Int32))), (.int (0 : Int32)), (.int (0 : Int32)), (.int (0 : Int32)), (.int (0 : Int32)), (.int (0 : Int32))] (.int (0 : Int32)) := Arv.set Aro133 qco133 So133 Mo133 Ho133 Go133 (fits_nar_char _) W135 18 rfl (Nat.le_of_ble_eq_true rfl)
  have Z137 : n0 ≤ h135.size := Nat.le_trans Z130 (Keep.of_wr W135).1
  have K138 : Keep h0 h135 [] := K131.wr W135 (Or.inr sz3)
  have N139 := Fr.snoc X135 N132 g2
  refine Go.of st135 ?_
  show Go p e below Qo T135 (mkF m 112 #[.val (.int i1), .unset] [(.ref b1)])
  refine Go.of (fun t k => XS.dup X135.here hx rfl (hb hby d1_112) rfl rfl k) ?_
  show Go p e below Qo T135 (mkF m 113 #[.val (.int i1), .unset] [(.ref b1), (.ref b1)])
  refine Go.of (fun t k => XS.bipush X135.here hx rfl (hb hby d1_113) k) ?_
  show Go p e below Qo T135 (mkF m 115 #[.val (.int i1), .unset] [(.int (19 : Int32)), (.ref b1), (.ref b1)])
  refine Go.of (fun t k => XS.bipush X135.here hx rfl (hb hby d1_115) k) ?_
  show Go p e below Qo T135 (mkF m 117 #[.val (.int i1), .unset] [(.int (78 : Int32)), (.int (19 : Int32)), (.ref b1), (.ref b1)])
  have cpo140 := q136
  obtain ⟨clo140, Aro140, qco140, So140, Mo140, Ho140, Go140⟩ := cpo140
  have hin141 : ¬ ((19 : Int32) < 0 ∨ clo140.slots.size ≤ (19 : Int32).toNatClampNeg) := (inb_of So140 ⟨by decide, by decide⟩)
  obtain ⟨T142, h142, X142, e142, W142, st142⟩ := stC X135 hx hZ e135 Aro140 (j := (19 : Int32)) hin141 (g := (mkF m 117 #[.val (.int i1), .unset] [(.int (78 : Int32)), (.int (19 : Int32)), (.ref b1), (.ref b1)])) rfl rfl (hb hby d1_117)
  have q143 : Arv Z h142 b1 k1 .char (24 : Int32) [(.int (nar .char (81 : Int32))), (.int (nar .char (83 : Int32))), (.int (nar .char (70 : Int32))), (.int (nar .char (80 : Int32))), (.int (nar .char (66 : Int32))), (.int (nar .char (67 : Int32))), (.int (nar .char (68 : Int32))), (.int (nar .char (69 : Int32))), (.int (nar .char (90 : Int32))), (.int (nar .char (49 : Int32))), (.int (nar .char (50 : Int32))), (.int (nar .char (51 : Int32))), (.int (nar .char (84 : Int32))), (.int (nar .char (110 : Int32))), (.int (nar .char (73 : Int32))), (.int (nar .char (115 : Int32))), (.int (nar .char (88 : Int32))), (.int (nar .char (72 : Int32))), (.int (nar .char (82 : Int32))), (.int (nar .char (78 : Int32))), (.int (0 : Int32)), (.int (0 : Int32)), (.int (0 : Int32)), (.int (0 : Int32))] (.int (0 : Int32)) := Arv.set Aro140 qco140 So140 Mo140 Ho140 Go140 (fits_nar_char _) W142 19 rfl (Nat.le_of_ble_eq_true rfl)
  have Z144 : n0 ≤ h142.size := Nat.le_trans Z137 (Keep.of_wr W142).1
  have K145 : Keep h0 h142 [] := K138.wr W142 (Or.inr sz3)
  have N146 := Fr.snoc X142 N139 g2
  refine Go.of st142 ?_
  show Go p e below Qo T142 (mkF m 118 #[.val (.int i1), .unset] [(.ref b1)])
  refine Go.of (fun t k => XS.dup X142.here hx rfl (hb hby d1_118) rfl rfl k) ?_
  show Go p e below Qo T142 (mkF m 119 #[.val (.int i1), .unset] [(.ref b1), (.ref b1)])
  refine Go.of (fun t k => XS.bipush X142.here hx rfl (hb hby d1_119) k) ?_
  show Go p e below Qo T142 (mkF m 121 #[.val (.int i1), .unset] [(.int (20 : Int32)), (.ref b1), (.ref b1)])
  refine Go.of (fun t k => XS.bipush X142.here hx rfl (hb hby d1_121) k) ?_
  show Go p e below Qo T142 (mkF m 123 #[.val (.int i1), .unset] [(.int (99 : Int32)), (.int (20 : Int32)), (.ref b1), (.ref b1)])
  have cpo147 := q143
  obtain ⟨clo147, Aro147, qco147, So147, Mo147, Ho147, Go147⟩ := cpo147
  have hin148 : ¬ ((20 : Int32) < 0 ∨ clo147.slots.size ≤ (20 : Int32).toNatClampNeg) := (inb_of So147 ⟨by decide, by decide⟩)
  obtain ⟨T149, h149, X149, e149, W149, st149⟩ := stC X142 hx hZ e142 Aro147 (j := (20 : Int32)) hin148 (g := (mkF m 123 #[.val (.int i1), .unset] [(.int (99 : Int32)), (.int (20 : Int32)), (.ref b1), (.ref b1)])) rfl rfl (hb hby d1_123)
  have q150 : Arv Z h149 b1 k1 .char (24 : Int32) [(.int (nar .char (81 : Int32))), (.int (nar .char (83 : Int32))), (.int (nar .char (70 : Int32))), (.int (nar .char (80 : Int32))), (.int (nar .char (66 : Int32))), (.int (nar .char (67 : Int32))), (.int (nar .char (68 : Int32))), (.int (nar .char (69 : Int32))), (.int (nar .char (90 : Int32))), (.int (nar .char (49 : Int32))), (.int (nar .char (50 : Int32))), (.int (nar .char (51 : Int32))), (.int (nar .char (84 : Int32))), (.int (nar .char (110 : Int32))), (.int (nar .char (73 : Int32))), (.int (nar .char (115 : Int32))), (.int (nar .char (88 : Int32))), (.int (nar .char (72 : Int32))), (.int (nar .char (82 : Int32))), (.int (nar .char (78 : Int32))), (.int (nar .char (99 : Int32))), (.int (0 : Int32)), (.int (0 : Int32)), (.int (0 : Int32))] (.int (0 : Int32)) := Arv.set Aro147 qco147 So147 Mo147 Ho147 Go147 (fits_nar_char _) W149 20 rfl (Nat.le_of_ble_eq_true rfl)
  have Z151 : n0 ≤ h149.size := Nat.le_trans Z144 (Keep.of_wr W149).1
  have K152 : Keep h0 h149 [] := K145.wr W149 (Or.inr sz3)
  have N153 := Fr.snoc X149 N146 g2
  refine Go.of st149 ?_
  show Go p e below Qo T149 (mkF m 124 #[.val (.int i1), .unset] [(.ref b1)])
  refine Go.of (fun t k => XS.dup X149.here hx rfl (hb hby d1_124) rfl rfl k) ?_
  show Go p e below Qo T149 (mkF m 125 #[.val (.int i1), .unset] [(.ref b1), (.ref b1)])
  refine Go.of (fun t k => XS.bipush X149.here hx rfl (hb hby d1_125) k) ?_
  show Go p e below Qo T149 (mkF m 127 #[.val (.int i1), .unset] [(.int (21 : Int32)), (.ref b1), (.ref b1)])
  refine Go.of (fun t k => XS.bipush X149.here hx rfl (hb hby d1_127) k) ?_
  show Go p e below Qo T149 (mkF m 129 #[.val (.int i1), .unset] [(.int (100 : Int32)), (.int (21 : Int32)), (.ref b1), (.ref b1)])
  have cpo154 := q150
  obtain ⟨clo154, Aro154, qco154, So154, Mo154, Ho154, Go154⟩ := cpo154
  have hin155 : ¬ ((21 : Int32) < 0 ∨ clo154.slots.size ≤ (21 : Int32).toNatClampNeg) := (inb_of So154 ⟨by decide, by decide⟩)
  obtain ⟨T156, h156, X156, e156, W156, st156⟩ := stC X149 hx hZ e149 Aro154 (j := (21 : Int32)) hin155 (g := (mkF m 129 #[.val (.int i1), .unset] [(.int (100 : Int32)), (.int (21 : Int32)), (.ref b1), (.ref b1)])) rfl rfl (hb hby d1_129)
  have q157 : Arv Z h156 b1 k1 .char (24 : Int32) [(.int (nar .char (81 : Int32))), (.int (nar .char (83 : Int32))), (.int (nar .char (70 : Int32))), (.int (nar .char (80 : Int32))), (.int (nar .char (66 : Int32))), (.int (nar .char (67 : Int32))), (.int (nar .char (68 : Int32))), (.int (nar .char (69 : Int32))), (.int (nar .char (90 : Int32))), (.int (nar .char (49 : Int32))), (.int (nar .char (50 : Int32))), (.int (nar .char (51 : Int32))), (.int (nar .char (84 : Int32))), (.int (nar .char (110 : Int32))), (.int (nar .char (73 : Int32))), (.int (nar .char (115 : Int32))), (.int (nar .char (88 : Int32))), (.int (nar .char (72 : Int32))), (.int (nar .char (82 : Int32))), (.int (nar .char (78 : Int32))), (.int (nar .char (99 : Int32))), (.int (nar .char (100 : Int32))), (.int (0 : Int32)), (.int (0 : Int32))] (.int (0 : Int32)) := Arv.set Aro154 qco154 So154 Mo154 Ho154 Go154 (fits_nar_char _) W156 21 rfl (Nat.le_of_ble_eq_true rfl)
  have Z158 : n0 ≤ h156.size := Nat.le_trans Z151 (Keep.of_wr W156).1
  have K159 : Keep h0 h156 [] := K152.wr W156 (Or.inr sz3)
  have N160 := Fr.snoc X156 N153 g2
  refine Go.of st156 ?_
  show Go p e below Qo T156 (mkF m 130 #[.val (.int i1), .unset] [(.ref b1)])
  refine Go.of (fun t k => XS.dup X156.here hx rfl (hb hby d1_130) rfl rfl k) ?_
  show Go p e below Qo T156 (mkF m 131 #[.val (.int i1), .unset] [(.ref b1), (.ref b1)])
  refine Go.of (fun t k => XS.bipush X156.here hx rfl (hb hby d1_131) k) ?_
  show Go p e below Qo T156 (mkF m 133 #[.val (.int i1), .unset] [(.int (22 : Int32)), (.ref b1), (.ref b1)])
  refine Go.of (fun t k => XS.bipush X156.here hx rfl (hb hby d1_133) k) ?_
  show Go p e below Qo T156 (mkF m 135 #[.val (.int i1), .unset] [(.int (65 : Int32)), (.int (22 : Int32)), (.ref b1), (.ref b1)])
  have cpo161 := q157
  obtain ⟨clo161, Aro161, qco161, So161, Mo161, Ho161, Go161⟩ := cpo161
  have hin162 : ¬ ((22 : Int32) < 0 ∨ clo161.slots.size ≤ (22 : Int32).toNatClampNeg) := (inb_of So161 ⟨by decide, by decide⟩)
  obtain ⟨T163, h163, X163, e163, W163, st163⟩ := stC X156 hx hZ e156 Aro161 (j := (22 : Int32)) hin162 (g := (mkF m 135 #[.val (.int i1), .unset] [(.int (65 : Int32)), (.int (22 : Int32)), (.ref b1), (.ref b1)])) rfl rfl (hb hby d1_135)
  have q164 : Arv Z h163 b1 k1 .char (24 : Int32) [(.int (nar .char (81 : Int32))), (.int (nar .char (83 : Int32))), (.int (nar .char (70 : Int32))), (.int (nar .char (80 : Int32))), (.int (nar .char (66 : Int32))), (.int (nar .char (67 : Int32))), (.int (nar .char (68 : Int32))), (.int (nar .char (69 : Int32))), (.int (nar .char (90 : Int32))), (.int (nar .char (49 : Int32))), (.int (nar .char (50 : Int32))), (.int (nar .char (51 : Int32))), (.int (nar .char (84 : Int32))), (.int (nar .char (110 : Int32))), (.int (nar .char (73 : Int32))), (.int (nar .char (115 : Int32))), (.int (nar .char (88 : Int32))), (.int (nar .char (72 : Int32))), (.int (nar .char (82 : Int32))), (.int (nar .char (78 : Int32))), (.int (nar .char (99 : Int32))), (.int (nar .char (100 : Int32))), (.int (nar .char (65 : Int32))), (.int (0 : Int32))] (.int (0 : Int32)) := Arv.set Aro161 qco161 So161 Mo161 Ho161 Go161 (fits_nar_char _) W163 22 rfl (Nat.le_of_ble_eq_true rfl)
  have Z165 : n0 ≤ h163.size := Nat.le_trans Z158 (Keep.of_wr W163).1
  have K166 : Keep h0 h163 [] := K159.wr W163 (Or.inr sz3)
  have N167 := Fr.snoc X163 N160 g2
  refine Go.of st163 ?_
  show Go p e below Qo T163 (mkF m 136 #[.val (.int i1), .unset] [(.ref b1)])
  refine Go.of (fun t k => XS.dup X163.here hx rfl (hb hby d1_136) rfl rfl k) ?_
  show Go p e below Qo T163 (mkF m 137 #[.val (.int i1), .unset] [(.ref b1), (.ref b1)])
  refine Go.of (fun t k => XS.bipush X163.here hx rfl (hb hby d1_137) k) ?_
  show Go p e below Qo T163 (mkF m 139 #[.val (.int i1), .unset] [(.int (23 : Int32)), (.ref b1), (.ref b1)])
  refine Go.of (fun t k => XS.bipush X163.here hx rfl (hb hby d1_139) k) ?_
  show Go p e below Qo T163 (mkF m 141 #[.val (.int i1), .unset] [(.int (116 : Int32)), (.int (23 : Int32)), (.ref b1), (.ref b1)])
  have cpo168 := q164
  obtain ⟨clo168, Aro168, qco168, So168, Mo168, Ho168, Go168⟩ := cpo168
  have hin169 : ¬ ((23 : Int32) < 0 ∨ clo168.slots.size ≤ (23 : Int32).toNatClampNeg) := (inb_of So168 ⟨by decide, by decide⟩)
  obtain ⟨T170, h170, X170, e170, W170, st170⟩ := stC X163 hx hZ e163 Aro168 (j := (23 : Int32)) hin169 (g := (mkF m 141 #[.val (.int i1), .unset] [(.int (116 : Int32)), (.int (23 : Int32)), (.ref b1), (.ref b1)])) rfl rfl (hb hby d1_141)
  have q171 : Arv Z h170 b1 k1 .char (24 : Int32) [(.int (nar .char (81 : Int32))), (.int (nar .char (83 : Int32))), (.int (nar .char (70 : Int32))), (.int (nar .char (80 : Int32))), (.int (nar .char (66 : Int32))), (.int (nar .char (67 : Int32))), (.int (nar .char (68 : Int32))), (.int (nar .char (69 : Int32))), (.int (nar .char (90 : Int32))), (.int (nar .char (49 : Int32))), (.int (nar .char (50 : Int32))), (.int (nar .char (51 : Int32))), (.int (nar .char (84 : Int32))), (.int (nar .char (110 : Int32))), (.int (nar .char (73 : Int32))), (.int (nar .char (115 : Int32))), (.int (nar .char (88 : Int32))), (.int (nar .char (72 : Int32))), (.int (nar .char (82 : Int32))), (.int (nar .char (78 : Int32))), (.int (nar .char (99 : Int32))), (.int (nar .char (100 : Int32))), (.int (nar .char (65 : Int32))), (.int (nar .char (116 : Int32)))] (.int (0 : Int32)) := Arv.set Aro168 qco168 So168 Mo168 Ho168 Go168 (fits_nar_char _) W170 23 rfl (Nat.le_of_ble_eq_true rfl)
  have Z172 : n0 ≤ h170.size := Nat.le_trans Z165 (Keep.of_wr W170).1
  have K173 : Keep h0 h170 [] := K166.wr W170 (Or.inr sz3)
  have N174 := Fr.snoc X170 N167 g2
  refine Go.of st170 ?_
  show Go p e below Qo T170 (mkF m 142 #[.val (.int i1), .unset] [(.ref b1)])
  refine Go.of (fun t k => XS.astoreN X170.here hx rfl (hb hby d1_142) rfl rfl (l' := #[.val (.int i1), .val (.ref b1)]) rfl k) ?_
  show Go p e below Qo T170 (mkF m 143 #[.val (.int i1), .val (.ref b1)] [])
  refine Go.of (fun t k => XS.iloadN X170.here hx rfl (hb hby d1_143) rfl  k) ?_
  show Go p e below Qo T170 (mkF m 144 #[.val (.int i1), .val (.ref b1)] [(.int i1)])
  refine Go.of (fun t k => XS.iconst X170.here hx rfl (hb hby d1_144) k) ?_
  show Go p e below Qo T170 (mkF m 145 #[.val (.int i1), .val (.ref b1)] [(.int (1 : Int32)), (.int i1)])
  refine Go.of (fun t k => XS.iand X170.here hx rfl (hb hby d1_145) rfl k) ?_
  show Go p e below Qo T170 (mkF m 146 #[.val (.int i1), .val (.ref b1)] [(.int (i1 &&& (1 : Int32)))])
  by_cases hc146_175 : (i1 &&& (1 : Int32)) = (0 : Int32)
  · refine Go.of (fun t k => XS.ifNo X170.here hx rfl (hb hby d1_146) rfl ((if0 _ _).trans (teq hc146_175).2) k) ?_
    show Go p e below Qo T170 (mkF m 149 #[.val (.int i1), .val (.ref b1)] [])
    refine Go.of (fun t k => XS.aloadN X170.here hx rfl (hb hby d1_149) rfl rfl k) ?_
    show Go p e below Qo T170 (mkF m 150 #[.val (.int i1), .val (.ref b1)] [(.ref b1)])
    refine Go.of (fun t k => XS.iloadN X170.here hx rfl (hb hby d1_150) rfl  k) ?_
    show Go p e below Qo T170 (mkF m 151 #[.val (.int i1), .val (.ref b1)] [(.int i1), (.ref b1)])
    refine Go.of (fun t k => XS.iconst X170.here hx rfl (hb hby d1_151) k) ?_
    show Go p e below Qo T170 (mkF m 152 #[.val (.int i1), .val (.ref b1)] [(.int (1 : Int32)), (.int i1), (.ref b1)])
    refine Go.of (fun t k => XS.iushr X170.here hx rfl (hb hby d1_152) rfl k) ?_
    show Go p e below Qo T170 (mkF m 153 #[.val (.int i1), .val (.ref b1)] [(.int ((i1.toUInt32 >>> ((1 : Int32) &&& 31).toUInt32).toInt32)), (.ref b1)])
    refine Go.of (fun t k => XS.bipush X170.here hx rfl (hb hby d1_153) k) ?_
    show Go p e below Qo T170 (mkF m 155 #[.val (.int i1), .val (.ref b1)] [(.int (24 : Int32)), (.int ((i1.toUInt32 >>> ((1 : Int32) &&& 31).toUInt32).toInt32)), (.ref b1)])
    refine Go.of (fun t k => iremM X170 hx rfl (hb hby d1_155) rfl (by decide) k) ?_
    show Go p e below Qo T170 (mkF m 156 #[.val (.int i1), .val (.ref b1)] [(.int (((i1.toUInt32 >>> ((1 : Int32) &&& 31).toUInt32).toInt32) % (24 : Int32))), (.ref b1)])
    have cpo176 := q171
    obtain ⟨clo176, Aro176, qco176, So176, Mo176, Ho176, Go176⟩ := cpo176
    have hin177 : ¬ ((((i1.toUInt32 >>> ((1 : Int32) &&& 31).toUInt32).toInt32) % (24 : Int32)) < 0 ∨ clo176.slots.size ≤ (((i1.toUInt32 >>> ((1 : Int32) &&& 31).toUInt32).toInt32) % (24 : Int32)).toNatClampNeg) := (inb_of So176 (own_r24 _))
    obtain ⟨zc, hzc⟩ : ∃ z, ([(.int (nar .char (81 : Int32))), (.int (nar .char (83 : Int32))), (.int (nar .char (70 : Int32))), (.int (nar .char (80 : Int32))), (.int (nar .char (66 : Int32))), (.int (nar .char (67 : Int32))), (.int (nar .char (68 : Int32))), (.int (nar .char (69 : Int32))), (.int (nar .char (90 : Int32))), (.int (nar .char (49 : Int32))), (.int (nar .char (50 : Int32))), (.int (nar .char (51 : Int32))), (.int (nar .char (84 : Int32))), (.int (nar .char (110 : Int32))), (.int (nar .char (73 : Int32))), (.int (nar .char (115 : Int32))), (.int (nar .char (88 : Int32))), (.int (nar .char (72 : Int32))), (.int (nar .char (82 : Int32))), (.int (nar .char (78 : Int32))), (.int (nar .char (99 : Int32))), (.int (nar .char (100 : Int32))), (.int (nar .char (65 : Int32))), (.int (nar .char (116 : Int32)))] : List Value).getD (((i1.toUInt32 >>> ((1 : Int32) &&& 31).toUInt32).toInt32) % (24 : Int32)).toNatClampNeg (.int (0 : Int32)) = .int z := fit_I (Go176 _ (Nat.lt_of_not_le fun y => hin177 (Or.inr y))) (Or.inr (Or.inr (Or.inr (Or.inl rfl))))
    refine Go.of (fun t k => X170.caload hx (j := (((i1.toUInt32 >>> ((1 : Int32) &&& 31).toUInt32).toInt32) % (24 : Int32))) (v := (.int zc)) (by rw [e170]; exact Aro176.1) (State.isArrayOf_alike hZ.alike Aro176.2.1) Aro176.2.2 hin177 (Ho176.at hin177 hzc) (g := (mkF m 156 #[.val (.int i1), .val (.ref b1)] [(.int (((i1.toUInt32 >>> ((1 : Int32) &&& 31).toUInt32).toInt32) % (24 : Int32))), (.ref b1)])) rfl rfl (hb hby d1_156) t k) ?_
    show Go p e below Qo T170 (mkF m 157 #[.val (.int i1), .val (.ref b1)] [(.int zc)])
    exact own_retN X170 hx Bd.notSynchronized (t := .char) Bd.returns (by simp) (hb hby d1_157) (fun u hu hF => hQo _ _ _ ⟨zc, rfl, N174, by rw [hu, e170]; exact K173⟩ (own_mono hF (by decide) (by decide)))
  · refine Go.of (fun t k => XS.ifYes X170.here hx rfl (pc0 := 146) (pc' := 158) rfl (hb hby d1_146) rfl ((if0 _ _).trans (feq hc146_175).2) (by decide) (by decide) k) ?_
    show Go p e below Qo T170 (mkF m 158 #[.val (.int i1), .val (.ref b1)] [])
    refine Go.of (fun t k => XS.iloadN X170.here hx rfl (hb hby d1_158) rfl  k) ?_
    show Go p e below Qo T170 (mkF m 159 #[.val (.int i1), .val (.ref b1)] [(.int i1)])
    refine Go.of (fun t k => XS.iconst X170.here hx rfl (hb hby d1_159) k) ?_
    show Go p e below Qo T170 (mkF m 160 #[.val (.int i1), .val (.ref b1)] [(.int (1 : Int32)), (.int i1)])
    refine Go.of (fun t k => XS.iushr X170.here hx rfl (hb hby d1_160) rfl k) ?_
    show Go p e below Qo T170 (mkF m 161 #[.val (.int i1), .val (.ref b1)] [(.int ((i1.toUInt32 >>> ((1 : Int32) &&& 31).toUInt32).toInt32))])
    refine Go.of (fun t k => XS.i2c X170.here hx rfl (hb hby d1_161) rfl k) ?_
    show Go p e below Qo T170 (mkF m 162 #[.val (.int i1), .val (.ref b1)] [(.int (((i1.toUInt32 >>> ((1 : Int32) &&& 31).toUInt32).toInt32).toUInt32.toUInt16.toUInt32.toInt32))])
    exact own_retN X170 hx Bd.notSynchronized (t := .char) Bd.returns (by simp) (hb hby d1_162) (fun u hu hF => hQo _ _ _ ⟨(((i1.toUInt32 >>> ((1 : Int32) &&& 31).toUInt32).toInt32).toUInt32.toUInt16.toUInt32.toInt32), rfl, N174, by rw [hu, e170]; exact K173⟩ (own_mono hF (by decide) (by decide)))
theorem d2_0 : decode prog_70_method_1_code 0 = .ok (.aload_n 0, 1) := by decide +kernel
theorem d2_1 : decode prog_70_method_1_code 1 = .ok (.invokespecial 1, 3) := by decide +kernel
theorem d2_4 : decode prog_70_method_1_code 4 = .ok (.aload_n 0, 1) := by decide +kernel
theorem d2_5 : decode prog_70_method_1_code 5 = .ok (.iload_n 1, 1) := by decide +kernel
theorem d2_6 : decode prog_70_method_1_code 6 = .ok (.putfield 7, 3) := by decide +kernel
theorem d2_9 : decode prog_70_method_1_code 9 = .ok (.aload_n 0, 1) := by decide +kernel
theorem d2_10 : decode prog_70_method_1_code 10 = .ok (.aload_n 2, 1) := by decide +kernel
theorem d2_11 : decode prog_70_method_1_code 11 = .ok (.putfield 13, 3) := by decide +kernel
theorem d2_14 : decode prog_70_method_1_code 14 = .ok (.return_, 1) := by decide +kernel
theorem pn_1 : plainName "com/example/lockstep/lockstep/protocol/PgMessage" = true := by first | (simp [plainName, overriddenIn]; done) | decide +kernel
theorem ef_2 (m : MethodId) (r1 : Addr) (i1 : Int32) (r2 : Addr)  : entryFrame m #[(.ref r1), (.int i1), (.ref r2)] 3 = mkF m 0 #[.val (.ref r1), .val (.int i1), .val (.ref r2)] [] := by
  first | (simp [entryFrame, mkF, argsToLocals, Value.category]; done) | rfl
def Q2 (Z : State) (r1 : Addr) (i1 : Int32) (r2 : Addr) (u_0 : Value) (u_1 : Value) (h0 : Heap) (n0 : Nat) (v : Option Value) (h : Heap) (L : List Loc) : Prop := v = none ∧ Fr n0 L ∧ Keep h0 h [r1] ∧ Exa Z h r1 "com/example/lockstep/lockstep/protocol/PgMessage" ∧ Fld Z h r1 "com/example/lockstep/lockstep/protocol/PgMessage" "type" "C" (.int (nar .char i1)) ∧ Fld Z h r1 "com/example/lockstep/lockstep/protocol/PgMessage" "body" "[B" (.ref r2)
set_option maxRecDepth 65536 in
set_option maxHeartbeats 40000000 in
theorem rm2 (l : Launch) (Z : State) (a0 : Array Value) (hw : ∀ d ∈ tables_1, d.before a0 Z = true) (ws : List Jvm.Cond) (r1 : Addr) (i1 : Int32) (r2 : Addr) (u_0 : Value) (u_1 : Value) (h0 : Heap) (n0 : Nat) (Z0 : n0 ≤ h0.size) (f0 : Exa Z h0 r1 "com/example/lockstep/lockstep/protocol/PgMessage") (f1 : Fld Z h0 r1 "com/example/lockstep/lockstep/protocol/PgMessage" "type" "C" u_0) (f2 : Fld Z h0 r1 "com/example/lockstep/lockstep/protocol/PgMessage" "body" "[B" u_1) (g_r1 : n0 ≤ r1) :
    MetFree l (⟨"com/example/lockstep/lockstep/protocol/PgMessage", "<init>", "(C[B)V"⟩ : MethodName) (head1 (Jvm.Cond.code (⟨"com/example/lockstep/lockstep/protocol/PgMessage", "<init>", "(C[B)V"⟩ : MethodName) prog_70_method_1_code 3 none :: ws) ({ frames := 1, cells := 0, slots := 0, locals := 12 } : Room)) (fun a U => a = #[(.ref r1), (.int i1), (.ref r2)] ∧ Z.Warmed39 U.vm ∧ U.heap = h0) (fun _ _ _ _ _ => True) (fun _ U o U' => ∃ v L, o = .returned v ∧ Q2 Z r1 i1 r2 u_0 u_1 h0 n0 v U'.heap L ∧ FrameEnd U o U' L ({ frames := 1, cells := 0, slots := 0, locals := 12 } : Room).cells ({ frames := 1, cells := 0, slots := 0, locals := 12 } : Room).slots) := by
  refine MetFree.of_bodySF (plainFor_of_name pn_1) hisR ?_
  intro p e s m args below meth c s₁ Bd hml0 hP hK
  obtain ⟨rfl, hZ, hh⟩ := hP
  have hx := Bd.exec
  have hby := Bd.bytes
  have hml : c.maxLocals = 3 := hml0
  have hown : s.vm.findClass "com/example/lockstep/lockstep/protocol/PgMessage" = some m.cls := findClass_of_methodNamed Bd.named
  have hnm := (name_of_methodNamed Bd.named Bd.method).1
  have X0 : Stand p l e ({ frames := 1, cells := 0, slots := 0, locals := 12 } : Room) s m #[(.ref r1), (.int i1), (.ref r2)] below meth c s₁ [] 0 0 := Stand.of_body Bd
  have e0 : s₁.heap = h0 := by rw [← hh, Bd.state]; rfl
  have N0 := Fr.nil n0
  suffices H : ∀ Qo : Outcome → State → Prop, (∀ (v : Option Value) (u : State) (L : List Loc), Q2 Z r1 i1 r2 u_0 u_1 h0 n0 v u.heap L → FrameEnd s (.returned v) u L ({ frames := 1, cells := 0, slots := 0, locals := 12 } : Room).cells ({ frames := 1, cells := 0, slots := 0, locals := 12 } : Room).slots → Qo (.returned v) u) → Go p e below Qo s₁ (mkF m 0 #[.val (.ref r1), .val (.int i1), .val (.ref r2)] []) from
    Go.cast (ef_2 m r1 i1 r2) (H _ fun v u L h1 h2 => ⟨v, L, rfl, h1, h2⟩)
  intro Qo hQo
  show Go p e below Qo s₁ (mkF m 0 #[.val (.ref r1), .val (.int i1), .val (.ref r2)] [])
  refine Go.of (fun t k => XS.aloadN X0.here hx rfl (hb hby d2_0) rfl rfl k) ?_
  show Go p e below Qo s₁ (mkF m 1 #[.val (.ref r1), .val (.int i1), .val (.ref r2)] [(.ref r1)])
  obtain ⟨T1, X1, e1, st1⟩ := initO X0 hx hZ hown (hw _ (List.mem_of_getElem? (i := 12) rfl)) (hw _ (List.mem_of_getElem? (i := 13) rfl)) (hw _ (List.mem_of_getElem? (i := 14) rfl)) e0 (g := (mkF m 1 #[.val (.ref r1), .val (.int i1), .val (.ref r2)] [(.ref r1)])) rfl (by rw [hml]; rfl) rfl (hb hby d2_1) (by decide) (W := 0) (by show 2 * 0 + _ ≤ _; exact Nat.le_of_eq rfl) (by decide)
  refine Go.of st1 ?_
  show Go p e below Qo T1 (mkF m 4 #[.val (.ref r1), .val (.int i1), .val (.ref r2)] [])
  refine Go.of (fun t k => XS.aloadN X1.here hx rfl (hb hby d2_4) rfl rfl k) ?_
  show Go p e below Qo T1 (mkF m 5 #[.val (.ref r1), .val (.int i1), .val (.ref r2)] [(.ref r1)])
  refine Go.of (fun t k => XS.iloadN X1.here hx rfl (hb hby d2_5) rfl  k) ?_
  show Go p e below Qo T1 (mkF m 6 #[.val (.ref r1), .val (.int i1), .val (.ref r2)] [(.int i1), (.ref r1)])
  obtain ⟨T2, h2, X2, e2, W2, st2⟩ := putFN X1 hx hZ hown (hw _ (List.mem_of_getElem? (i := 15) rfl)) Via.refl e1 f1 f0 (Or.inr ⟨(hw _ (List.mem_of_getElem? (i := 16) rfl)), rfl, hnm⟩) (hw _ (List.mem_of_getElem? (i := 6) rfl)) (ty := .char) (v' := (.int (nar .char i1))) (by decide) rfl (fits_nar_char _) (g := (mkF m 6 #[.val (.ref r1), .val (.int i1), .val (.ref r2)] [(.int i1), (.ref r1)])) rfl rfl (hb hby d2_6)
  have q3 : Exa Z h2 r1 "com/example/lockstep/lockstep/protocol/PgMessage" := f0.wr W2
  have q4 : Fld Z h2 r1 "com/example/lockstep/lockstep/protocol/PgMessage" "type" "C" (.int (nar .char i1)) := f1.same W2
  have q5 : Fld Z h2 r1 "com/example/lockstep/lockstep/protocol/PgMessage" "body" "[B" u_1 := f2.other W2 (Or.inr (slot_ne (Or.inr (hw _ (List.mem_of_getElem? (i := 18) rfl))) (Or.inr (hw _ (List.mem_of_getElem? (i := 16) rfl))) (by decide) (t := (.array .byte)) (t' := .char) (by decide) (by decide)))
  have Z6 : n0 ≤ h2.size := Nat.le_trans Z0 (Keep.of_wr W2).1
  have K7 : Keep h0 h2 [r1] := (Keep.refl h0 [r1]).wr W2 (Or.inl (List.mem_of_getElem? (i := 0) rfl))
  have N8 := Fr.snoc X2 N0 g_r1
  refine Go.of st2 ?_
  show Go p e below Qo T2 (mkF m 9 #[.val (.ref r1), .val (.int i1), .val (.ref r2)] [])
  refine Go.of (fun t k => XS.aloadN X2.here hx rfl (hb hby d2_9) rfl rfl k) ?_
  show Go p e below Qo T2 (mkF m 10 #[.val (.ref r1), .val (.int i1), .val (.ref r2)] [(.ref r1)])
  refine Go.of (fun t k => XS.aloadN X2.here hx rfl (hb hby d2_10) rfl rfl k) ?_
  show Go p e below Qo T2 (mkF m 11 #[.val (.ref r1), .val (.int i1), .val (.ref r2)] [(.ref r2), (.ref r1)])
  obtain ⟨T9, h9, X9, e9, W9, st9⟩ := putF X2 hx hZ hown (host := "") (Or.inl (hw _ (List.mem_of_getElem? (i := 17) rfl))) Via.refl e2 q5 q3 (Or.inr ⟨(hw _ (List.mem_of_getElem? (i := 18) rfl)), rfl, hnm⟩) (hw _ (List.mem_of_getElem? (i := 6) rfl)) (ty := (.array .byte)) (by decide) rfl rfl (g := (mkF m 11 #[.val (.ref r1), .val (.int i1), .val (.ref r2)] [(.ref r2), (.ref r1)])) rfl rfl (hb hby d2_11)
  have q10 : Exa Z h9 r1 "com/example/lockstep/lockstep/protocol/PgMessage" := q3.wr W9
  have q11 : Fld Z h9 r1 "com/example/lockstep/lockstep/protocol/PgMessage" "type" "C" (.int (nar .char i1)) := q4.other W9 (Or.inr (slot_ne (Or.inr (hw _ (List.mem_of_getElem? (i := 16) rfl))) (Or.inr (hw _ (List.mem_of_getElem? (i := 18) rfl))) (by decide) (t := .char) (t' := (.array .byte)) (by decide) (by decide)))
  have q12 : Fld Z h9 r1 "com/example/lockstep/lockstep/protocol/PgMessage" "body" "[B" (.ref r2) := q5.same W9
  have Z13 : n0 ≤ h9.size := Nat.le_trans Z6 (Keep.of_wr W9).1
  have K14 : Keep h0 h9 [r1] := K7.wr W9 (Or.inl (List.mem_of_getElem? (i := 0) rfl))
  have N15 := Fr.snoc X9 N8 g_r1
  refine Go.of st9 ?_
  show Go p e below Qo T9 (mkF m 14 #[.val (.ref r1), .val (.int i1), .val (.ref r2)] [])
  exact own_ret0 X9 hx Bd.notSynchronized Bd.returns (hb hby d2_14) (fun u hu hF => hQo _ _ _ ⟨rfl, N15, by rw [hu, e9]; exact K14, by rw [hu, e9]; exact q10, by rw [hu, e9]; exact q11, by rw [hu, e9]; exact q12⟩ (own_mono hF (by decide) (by decide)))
theorem d4_0 : decode prog_70_method_19_code 0 = .ok (.iload_n 1, 1) := by decide +kernel
theorem d4_1 : decode prog_70_method_19_code 1 = .ok (.tableswitch 216 66 83 #[121, 138, 155, 181, 87, 216, 216, 216, 216, 216, 216, 216, 216, 216, 104, 87, 216, 87], 87) := by decide +kernel
theorem d4_88 : decode prog_70_method_19_code 88 = .ok (.aload_n 0, 1) := by decide +kernel
theorem d4_89 : decode prog_70_method_19_code 89 = .ok (.getfield 7, 3) := by decide +kernel
theorem d4_92 : decode prog_70_method_19_code 92 = .ok (.bipush 90, 2) := by decide +kernel
theorem d4_94 : decode prog_70_method_19_code 94 = .ok (.if_icmp .ne 7, 3) := by decide +kernel
theorem d4_97 : decode prog_70_method_19_code 97 = .ok (.iconst 1, 1) := by decide +kernel
theorem d4_98 : decode prog_70_method_19_code 98 = .ok (.goto 120, 3) := by decide +kernel
theorem d4_101 : decode prog_70_method_19_code 101 = .ok (.iconst 0, 1) := by decide +kernel
theorem d4_102 : decode prog_70_method_19_code 102 = .ok (.goto 116, 3) := by decide +kernel
theorem d4_105 : decode prog_70_method_19_code 105 = .ok (.aload_n 0, 1) := by decide +kernel
theorem d4_106 : decode prog_70_method_19_code 106 = .ok (.getfield 7, 3) := by decide +kernel
theorem d4_109 : decode prog_70_method_19_code 109 = .ok (.bipush 49, 2) := by decide +kernel
theorem d4_111 : decode prog_70_method_19_code 111 = .ok (.if_icmp .ne 7, 3) := by decide +kernel
theorem d4_114 : decode prog_70_method_19_code 114 = .ok (.iconst 1, 1) := by decide +kernel
theorem d4_115 : decode prog_70_method_19_code 115 = .ok (.goto 103, 3) := by decide +kernel
theorem d4_118 : decode prog_70_method_19_code 118 = .ok (.iconst 0, 1) := by decide +kernel
theorem d4_119 : decode prog_70_method_19_code 119 = .ok (.goto 99, 3) := by decide +kernel
theorem d4_122 : decode prog_70_method_19_code 122 = .ok (.aload_n 0, 1) := by decide +kernel
theorem d4_123 : decode prog_70_method_19_code 123 = .ok (.getfield 7, 3) := by decide +kernel
theorem d4_126 : decode prog_70_method_19_code 126 = .ok (.bipush 50, 2) := by decide +kernel
theorem d4_128 : decode prog_70_method_19_code 128 = .ok (.if_icmp .ne 7, 3) := by decide +kernel
theorem d4_131 : decode prog_70_method_19_code 131 = .ok (.iconst 1, 1) := by decide +kernel
theorem d4_132 : decode prog_70_method_19_code 132 = .ok (.goto 86, 3) := by decide +kernel
theorem d4_135 : decode prog_70_method_19_code 135 = .ok (.iconst 0, 1) := by decide +kernel
theorem d4_136 : decode prog_70_method_19_code 136 = .ok (.goto 82, 3) := by decide +kernel
theorem d4_139 : decode prog_70_method_19_code 139 = .ok (.aload_n 0, 1) := by decide +kernel
theorem d4_140 : decode prog_70_method_19_code 140 = .ok (.getfield 7, 3) := by decide +kernel
theorem d4_143 : decode prog_70_method_19_code 143 = .ok (.bipush 51, 2) := by decide +kernel
theorem d4_145 : decode prog_70_method_19_code 145 = .ok (.if_icmp .ne 7, 3) := by decide +kernel
theorem d4_148 : decode prog_70_method_19_code 148 = .ok (.iconst 1, 1) := by decide +kernel
theorem d4_149 : decode prog_70_method_19_code 149 = .ok (.goto 69, 3) := by decide +kernel
theorem d4_152 : decode prog_70_method_19_code 152 = .ok (.iconst 0, 1) := by decide +kernel
theorem d4_153 : decode prog_70_method_19_code 153 = .ok (.goto 65, 3) := by decide +kernel
theorem d4_156 : decode prog_70_method_19_code 156 = .ok (.aload_n 0, 1) := by decide +kernel
theorem d4_157 : decode prog_70_method_19_code 157 = .ok (.getfield 7, 3) := by decide +kernel
theorem d4_160 : decode prog_70_method_19_code 160 = .ok (.bipush 84, 2) := by decide +kernel
theorem d4_162 : decode prog_70_method_19_code 162 = .ok (.if_icmp .eq 12, 3) := by decide +kernel
theorem d4_165 : decode prog_70_method_19_code 165 = .ok (.aload_n 0, 1) := by decide +kernel
theorem d4_166 : decode prog_70_method_19_code 166 = .ok (.getfield 7, 3) := by decide +kernel
theorem d4_169 : decode prog_70_method_19_code 169 = .ok (.bipush 110, 2) := by decide +kernel
theorem d4_171 : decode prog_70_method_19_code 171 = .ok (.if_icmp .ne 7, 3) := by decide +kernel
theorem d4_174 : decode prog_70_method_19_code 174 = .ok (.iconst 1, 1) := by decide +kernel
theorem d4_175 : decode prog_70_method_19_code 175 = .ok (.goto 43, 3) := by decide +kernel
theorem d4_178 : decode prog_70_method_19_code 178 = .ok (.iconst 0, 1) := by decide +kernel
theorem d4_179 : decode prog_70_method_19_code 179 = .ok (.goto 39, 3) := by decide +kernel
theorem d4_182 : decode prog_70_method_19_code 182 = .ok (.aload_n 0, 1) := by decide +kernel
theorem d4_183 : decode prog_70_method_19_code 183 = .ok (.getfield 7, 3) := by decide +kernel
theorem d4_186 : decode prog_70_method_19_code 186 = .ok (.bipush 67, 2) := by decide +kernel
theorem d4_188 : decode prog_70_method_19_code 188 = .ok (.if_icmp .eq 21, 3) := by decide +kernel
theorem d4_191 : decode prog_70_method_19_code 191 = .ok (.aload_n 0, 1) := by decide +kernel
theorem d4_192 : decode prog_70_method_19_code 192 = .ok (.getfield 7, 3) := by decide +kernel
theorem d4_195 : decode prog_70_method_19_code 195 = .ok (.bipush 73, 2) := by decide +kernel
theorem d4_197 : decode prog_70_method_19_code 197 = .ok (.if_icmp .eq 12, 3) := by decide +kernel
theorem d4_200 : decode prog_70_method_19_code 200 = .ok (.aload_n 0, 1) := by decide +kernel
theorem d4_201 : decode prog_70_method_19_code 201 = .ok (.getfield 7, 3) := by decide +kernel
theorem d4_204 : decode prog_70_method_19_code 204 = .ok (.bipush 115, 2) := by decide +kernel
theorem d4_206 : decode prog_70_method_19_code 206 = .ok (.if_icmp .ne 7, 3) := by decide +kernel
theorem d4_209 : decode prog_70_method_19_code 209 = .ok (.iconst 1, 1) := by decide +kernel
theorem d4_210 : decode prog_70_method_19_code 210 = .ok (.goto 8, 3) := by decide +kernel
theorem d4_213 : decode prog_70_method_19_code 213 = .ok (.iconst 0, 1) := by decide +kernel
theorem d4_214 : decode prog_70_method_19_code 214 = .ok (.goto 4, 3) := by decide +kernel
theorem d4_217 : decode prog_70_method_19_code 217 = .ok (.iconst 0, 1) := by decide +kernel
theorem d4_218 : decode prog_70_method_19_code 218 = .ok (.ireturn, 1) := by decide +kernel
theorem ef_4 (m : MethodId) (r1 : Addr) (i1 : Int32)  : entryFrame m #[(.ref r1), (.int i1)] 2 = mkF m 0 #[.val (.ref r1), .val (.int i1)] [] := by
  first | (simp [entryFrame, mkF, argsToLocals, Value.category]; done) | rfl
def F4 (i1 : Int32) (w1 : Int32) : Int32 := (if i1 = (66 : Int32) then (if w1 = (50 : Int32) then (nar .boolean (1 : Int32)) else (nar .boolean (0 : Int32))) else (if i1 = (67 : Int32) then (if w1 = (51 : Int32) then (nar .boolean (1 : Int32)) else (nar .boolean (0 : Int32))) else (if i1 = (68 : Int32) then (if w1 = (84 : Int32) then (nar .boolean (1 : Int32)) else (if w1 = (110 : Int32) then (nar .boolean (1 : Int32)) else (nar .boolean (0 : Int32)))) else (if i1 = (69 : Int32) then (if w1 = (67 : Int32) then (nar .boolean (1 : Int32)) else (if w1 = (73 : Int32) then (nar .boolean (1 : Int32)) else (if w1 = (115 : Int32) then (nar .boolean (1 : Int32)) else (nar .boolean (0 : Int32))))) else (if i1 = (70 : Int32) then (if w1 = (90 : Int32) then (nar .boolean (1 : Int32)) else (nar .boolean (0 : Int32))) else (if i1 = (71 : Int32) then (nar .boolean (0 : Int32)) else (if i1 = (72 : Int32) then (nar .boolean (0 : Int32)) else (if i1 = (73 : Int32) then (nar .boolean (0 : Int32)) else (if i1 = (74 : Int32) then (nar .boolean (0 : Int32)) else (if i1 = (75 : Int32) then (nar .boolean (0 : Int32)) else (if i1 = (76 : Int32) then (nar .boolean (0 : Int32)) else (if i1 = (77 : Int32) then (nar .boolean (0 : Int32)) else (if i1 = (78 : Int32) then (nar .boolean (0 : Int32)) else (if i1 = (79 : Int32) then (nar .boolean (0 : Int32)) else (if i1 = (80 : Int32) then (if w1 = (49 : Int32) then (nar .boolean (1 : Int32)) else (nar .boolean (0 : Int32))) else (if i1 = (81 : Int32) then (if w1 = (90 : Int32) then (nar .boolean (1 : Int32)) else (nar .boolean (0 : Int32))) else (if i1 = (82 : Int32) then (nar .boolean (0 : Int32)) else (if i1 = (83 : Int32) then (if w1 = (90 : Int32) then (nar .boolean (1 : Int32)) else (nar .boolean (0 : Int32))) else (nar .boolean (0 : Int32))))))))))))))))))))
def Q4 (Z : State) (r1 : Addr) (i1 : Int32) (w1 : Int32) (h0 : Heap) (n0 : Nat) (v : Option Value) (h : Heap) (L : List Loc) : Prop := v = some (.int (F4 i1 w1)) ∧ Fr n0 L ∧ h = h0
set_option maxRecDepth 65536 in
set_option maxHeartbeats 40000000 in
theorem rm4 (l : Launch) (Z : State) (a0 : Array Value) (hw : ∀ d ∈ tables_1, d.before a0 Z = true) (ws : List Jvm.Cond) (r1 : Addr) (i1 : Int32) (w1 : Int32) (h0 : Heap) (n0 : Nat) (Z0 : n0 ≤ h0.size) (f0 : Fld Z h0 r1 "com/example/lockstep/lockstep/protocol/PgMessage" "type" "C" (.int w1)) :
    MetFree l (⟨"com/example/lockstep/lockstep/protocol/PgMessage", "endsAnswerTo", "(C)Z"⟩ : MethodName) (head1 (Jvm.Cond.code (⟨"com/example/lockstep/lockstep/protocol/PgMessage", "endsAnswerTo", "(C)Z"⟩ : MethodName) prog_70_method_19_code 2 (some .boolean) :: ws) ({ frames := 0, cells := 0, slots := 0, locals := 0 } : Room)) (fun a U => a = #[(.ref r1), (.int i1)] ∧ Z.Warmed39 U.vm ∧ U.heap = h0) (fun _ _ _ _ _ => True) (fun _ U o U' => ∃ v L, o = .returned v ∧ Q4 Z r1 i1 w1 h0 n0 v U'.heap L ∧ FrameEnd U o U' L ({ frames := 0, cells := 0, slots := 0, locals := 0 } : Room).cells ({ frames := 0, cells := 0, slots := 0, locals := 0 } : Room).slots) := by
  refine MetFree.of_bodySF (plainFor_of_name pn_1) hisR ?_
  intro p e s m args below meth c s₁ Bd hml0 hP hK
  obtain ⟨rfl, hZ, hh⟩ := hP
  have hx := Bd.exec
  have hby := Bd.bytes
  have hml : c.maxLocals = 2 := hml0
  have hown : s.vm.findClass "com/example/lockstep/lockstep/protocol/PgMessage" = some m.cls := findClass_of_methodNamed Bd.named
  have hnm := (name_of_methodNamed Bd.named Bd.method).1
  have X0 : Stand p l e ({ frames := 0, cells := 0, slots := 0, locals := 0 } : Room) s m #[(.ref r1), (.int i1)] below meth c s₁ [] 0 0 := Stand.of_body Bd
  have e0 : s₁.heap = h0 := by rw [← hh, Bd.state]; rfl
  have N0 := Fr.nil n0
  suffices H : ∀ Qo : Outcome → State → Prop, (∀ (v : Option Value) (u : State) (L : List Loc), Q4 Z r1 i1 w1 h0 n0 v u.heap L → FrameEnd s (.returned v) u L ({ frames := 0, cells := 0, slots := 0, locals := 0 } : Room).cells ({ frames := 0, cells := 0, slots := 0, locals := 0 } : Room).slots → Qo (.returned v) u) → Go p e below Qo s₁ (mkF m 0 #[.val (.ref r1), .val (.int i1)] []) from
    Go.cast (ef_4 m r1 i1) (H _ fun v u L h1 h2 => ⟨v, L, rfl, h1, h2⟩)
  intro Qo hQo
  show Go p e below Qo s₁ (mkF m 0 #[.val (.ref r1), .val (.int i1)] [])
  refine Go.of (fun t k => XS.iloadN X0.here hx rfl (hb hby d4_0) rfl  k) ?_
  show Go p e below Qo s₁ (mkF m 1 #[.val (.ref r1), .val (.int i1)] [(.int i1)])
  by_cases hc1_1 : i1 = (66 : Int32)
  · refine Go.of (fun t k => XS.tswIn X0.here hx rfl (pc0 := 1) (pc' := 122) rfl (hb hby d4_1) rfl (by rw [hc1_1]; decide) (o := 121) (by rw [hc1_1]; rfl) (by decide) (by decide) k) ?_
    show Go p e below Qo s₁ (mkF m 122 #[.val (.ref r1), .val (.int i1)] [])
    refine Go.of (fun t k => XS.aloadN X0.here hx rfl (hb hby d4_122) rfl rfl k) ?_
    show Go p e below Qo s₁ (mkF m 123 #[.val (.ref r1), .val (.int i1)] [(.ref r1)])
    obtain ⟨T2, X2, e2, st2⟩ := getF X0 hx hZ hown (host := "") (Or.inl (hw _ (List.mem_of_getElem? (i := 15) rfl))) Via.refl e0 f0 (g := (mkF m 123 #[.val (.ref r1), .val (.int i1)] [(.ref r1)])) rfl rfl (hb hby d4_123)
    refine Go.of st2 ?_
    show Go p e below Qo T2 (mkF m 126 #[.val (.ref r1), .val (.int i1)] [(.int w1)])
    refine Go.of (fun t k => XS.bipush X2.here hx rfl (hb hby d4_126) k) ?_
    show Go p e below Qo T2 (mkF m 128 #[.val (.ref r1), .val (.int i1)] [(.int (50 : Int32)), (.int w1)])
    by_cases hc128_3 : w1 = (50 : Int32)
    · refine Go.of (fun t k => XS.icmpNo X2.here hx rfl (hb hby d4_128) rfl (teq hc128_3).2 k) ?_
      show Go p e below Qo T2 (mkF m 131 #[.val (.ref r1), .val (.int i1)] [])
      refine Go.of (fun t k => XS.iconst X2.here hx rfl (hb hby d4_131) k) ?_
      show Go p e below Qo T2 (mkF m 132 #[.val (.ref r1), .val (.int i1)] [(.int (1 : Int32))])
      refine Go.of (fun t k => XS.goto X2.here hx rfl (pc0 := 132) (pc' := 218) rfl (hb hby d4_132) (by decide) (by decide) k) ?_
      show Go p e below Qo T2 (mkF m 218 #[.val (.ref r1), .val (.int i1)] [(.int (1 : Int32))])
      exact own_retN X2 hx Bd.notSynchronized (t := .boolean) Bd.returns (by simp) (hb hby d4_218) (fun u hu hF => hQo _ _ _ ⟨by rw [show (F4 i1 w1) = nar .boolean (1 : Int32) from by rw [F4, if_pos hc1_1, if_pos hc128_3]], N0, by rw [hu, e2]⟩ (own_mono hF (by decide) (by decide)))
    · refine Go.of (fun t k => XS.icmpYes X2.here hx rfl (pc0 := 128) (pc' := 135) rfl (hb hby d4_128) rfl (feq hc128_3).2 (by decide) (by decide) k) ?_
      show Go p e below Qo T2 (mkF m 135 #[.val (.ref r1), .val (.int i1)] [])
      refine Go.of (fun t k => XS.iconst X2.here hx rfl (hb hby d4_135) k) ?_
      show Go p e below Qo T2 (mkF m 136 #[.val (.ref r1), .val (.int i1)] [(.int (0 : Int32))])
      refine Go.of (fun t k => XS.goto X2.here hx rfl (pc0 := 136) (pc' := 218) rfl (hb hby d4_136) (by decide) (by decide) k) ?_
      show Go p e below Qo T2 (mkF m 218 #[.val (.ref r1), .val (.int i1)] [(.int (0 : Int32))])
      exact own_retN X2 hx Bd.notSynchronized (t := .boolean) Bd.returns (by simp) (hb hby d4_218) (fun u hu hF => hQo _ _ _ ⟨by rw [show (F4 i1 w1) = nar .boolean (0 : Int32) from by rw [F4, if_pos hc1_1, if_neg hc128_3]], N0, by rw [hu, e2]⟩ (own_mono hF (by decide) (by decide)))
  · by_cases hc1_4 : i1 = (67 : Int32)
    · refine Go.of (fun t k => XS.tswIn X0.here hx rfl (pc0 := 1) (pc' := 139) rfl (hb hby d4_1) rfl (by rw [hc1_4]; decide) (o := 138) (by rw [hc1_4]; rfl) (by decide) (by decide) k) ?_
      show Go p e below Qo s₁ (mkF m 139 #[.val (.ref r1), .val (.int i1)] [])
      refine Go.of (fun t k => XS.aloadN X0.here hx rfl (hb hby d4_139) rfl rfl k) ?_
      show Go p e below Qo s₁ (mkF m 140 #[.val (.ref r1), .val (.int i1)] [(.ref r1)])
      obtain ⟨T5, X5, e5, st5⟩ := getF X0 hx hZ hown (host := "") (Or.inl (hw _ (List.mem_of_getElem? (i := 15) rfl))) Via.refl e0 f0 (g := (mkF m 140 #[.val (.ref r1), .val (.int i1)] [(.ref r1)])) rfl rfl (hb hby d4_140)
      refine Go.of st5 ?_
      show Go p e below Qo T5 (mkF m 143 #[.val (.ref r1), .val (.int i1)] [(.int w1)])
      refine Go.of (fun t k => XS.bipush X5.here hx rfl (hb hby d4_143) k) ?_
      show Go p e below Qo T5 (mkF m 145 #[.val (.ref r1), .val (.int i1)] [(.int (51 : Int32)), (.int w1)])
      by_cases hc145_6 : w1 = (51 : Int32)
      · refine Go.of (fun t k => XS.icmpNo X5.here hx rfl (hb hby d4_145) rfl (teq hc145_6).2 k) ?_
        show Go p e below Qo T5 (mkF m 148 #[.val (.ref r1), .val (.int i1)] [])
        refine Go.of (fun t k => XS.iconst X5.here hx rfl (hb hby d4_148) k) ?_
        show Go p e below Qo T5 (mkF m 149 #[.val (.ref r1), .val (.int i1)] [(.int (1 : Int32))])
        refine Go.of (fun t k => XS.goto X5.here hx rfl (pc0 := 149) (pc' := 218) rfl (hb hby d4_149) (by decide) (by decide) k) ?_
        show Go p e below Qo T5 (mkF m 218 #[.val (.ref r1), .val (.int i1)] [(.int (1 : Int32))])
        exact own_retN X5 hx Bd.notSynchronized (t := .boolean) Bd.returns (by simp) (hb hby d4_218) (fun u hu hF => hQo _ _ _ ⟨by rw [show (F4 i1 w1) = nar .boolean (1 : Int32) from by rw [F4, if_neg hc1_1, if_pos hc1_4, if_pos hc145_6]], N0, by rw [hu, e5]⟩ (own_mono hF (by decide) (by decide)))
      · refine Go.of (fun t k => XS.icmpYes X5.here hx rfl (pc0 := 145) (pc' := 152) rfl (hb hby d4_145) rfl (feq hc145_6).2 (by decide) (by decide) k) ?_
        show Go p e below Qo T5 (mkF m 152 #[.val (.ref r1), .val (.int i1)] [])
        refine Go.of (fun t k => XS.iconst X5.here hx rfl (hb hby d4_152) k) ?_
        show Go p e below Qo T5 (mkF m 153 #[.val (.ref r1), .val (.int i1)] [(.int (0 : Int32))])
        refine Go.of (fun t k => XS.goto X5.here hx rfl (pc0 := 153) (pc' := 218) rfl (hb hby d4_153) (by decide) (by decide) k) ?_
        show Go p e below Qo T5 (mkF m 218 #[.val (.ref r1), .val (.int i1)] [(.int (0 : Int32))])
        exact own_retN X5 hx Bd.notSynchronized (t := .boolean) Bd.returns (by simp) (hb hby d4_218) (fun u hu hF => hQo _ _ _ ⟨by rw [show (F4 i1 w1) = nar .boolean (0 : Int32) from by rw [F4, if_neg hc1_1, if_pos hc1_4, if_neg hc145_6]], N0, by rw [hu, e5]⟩ (own_mono hF (by decide) (by decide)))
    · by_cases hc1_7 : i1 = (68 : Int32)
      · refine Go.of (fun t k => XS.tswIn X0.here hx rfl (pc0 := 1) (pc' := 156) rfl (hb hby d4_1) rfl (by rw [hc1_7]; decide) (o := 155) (by rw [hc1_7]; rfl) (by decide) (by decide) k) ?_
        show Go p e below Qo s₁ (mkF m 156 #[.val (.ref r1), .val (.int i1)] [])
        refine Go.of (fun t k => XS.aloadN X0.here hx rfl (hb hby d4_156) rfl rfl k) ?_
        show Go p e below Qo s₁ (mkF m 157 #[.val (.ref r1), .val (.int i1)] [(.ref r1)])
        obtain ⟨T8, X8, e8, st8⟩ := getF X0 hx hZ hown (host := "") (Or.inl (hw _ (List.mem_of_getElem? (i := 15) rfl))) Via.refl e0 f0 (g := (mkF m 157 #[.val (.ref r1), .val (.int i1)] [(.ref r1)])) rfl rfl (hb hby d4_157)
        refine Go.of st8 ?_
        show Go p e below Qo T8 (mkF m 160 #[.val (.ref r1), .val (.int i1)] [(.int w1)])
        refine Go.of (fun t k => XS.bipush X8.here hx rfl (hb hby d4_160) k) ?_
        show Go p e below Qo T8 (mkF m 162 #[.val (.ref r1), .val (.int i1)] [(.int (84 : Int32)), (.int w1)])
        by_cases hc162_9 : w1 = (84 : Int32)
        · refine Go.of (fun t k => XS.icmpYes X8.here hx rfl (pc0 := 162) (pc' := 174) rfl (hb hby d4_162) rfl (teq hc162_9).1 (by decide) (by decide) k) ?_
          show Go p e below Qo T8 (mkF m 174 #[.val (.ref r1), .val (.int i1)] [])
          refine Go.of (fun t k => XS.iconst X8.here hx rfl (hb hby d4_174) k) ?_
          show Go p e below Qo T8 (mkF m 175 #[.val (.ref r1), .val (.int i1)] [(.int (1 : Int32))])
          refine Go.of (fun t k => XS.goto X8.here hx rfl (pc0 := 175) (pc' := 218) rfl (hb hby d4_175) (by decide) (by decide) k) ?_
          show Go p e below Qo T8 (mkF m 218 #[.val (.ref r1), .val (.int i1)] [(.int (1 : Int32))])
          exact own_retN X8 hx Bd.notSynchronized (t := .boolean) Bd.returns (by simp) (hb hby d4_218) (fun u hu hF => hQo _ _ _ ⟨by rw [show (F4 i1 w1) = nar .boolean (1 : Int32) from by rw [F4, if_neg hc1_1, if_neg hc1_4, if_pos hc1_7, if_pos hc162_9]], N0, by rw [hu, e8]⟩ (own_mono hF (by decide) (by decide)))
        · refine Go.of (fun t k => XS.icmpNo X8.here hx rfl (hb hby d4_162) rfl (feq hc162_9).1 k) ?_
          show Go p e below Qo T8 (mkF m 165 #[.val (.ref r1), .val (.int i1)] [])
          refine Go.of (fun t k => XS.aloadN X8.here hx rfl (hb hby d4_165) rfl rfl k) ?_
          show Go p e below Qo T8 (mkF m 166 #[.val (.ref r1), .val (.int i1)] [(.ref r1)])
          obtain ⟨T10, X10, e10, st10⟩ := getF X8 hx hZ hown (host := "") (Or.inl (hw _ (List.mem_of_getElem? (i := 15) rfl))) Via.refl e8 f0 (g := (mkF m 166 #[.val (.ref r1), .val (.int i1)] [(.ref r1)])) rfl rfl (hb hby d4_166)
          refine Go.of st10 ?_
          show Go p e below Qo T10 (mkF m 169 #[.val (.ref r1), .val (.int i1)] [(.int w1)])
          refine Go.of (fun t k => XS.bipush X10.here hx rfl (hb hby d4_169) k) ?_
          show Go p e below Qo T10 (mkF m 171 #[.val (.ref r1), .val (.int i1)] [(.int (110 : Int32)), (.int w1)])
          by_cases hc171_11 : w1 = (110 : Int32)
          · refine Go.of (fun t k => XS.icmpNo X10.here hx rfl (hb hby d4_171) rfl (teq hc171_11).2 k) ?_
            show Go p e below Qo T10 (mkF m 174 #[.val (.ref r1), .val (.int i1)] [])
            refine Go.of (fun t k => XS.iconst X10.here hx rfl (hb hby d4_174) k) ?_
            show Go p e below Qo T10 (mkF m 175 #[.val (.ref r1), .val (.int i1)] [(.int (1 : Int32))])
            refine Go.of (fun t k => XS.goto X10.here hx rfl (pc0 := 175) (pc' := 218) rfl (hb hby d4_175) (by decide) (by decide) k) ?_
            show Go p e below Qo T10 (mkF m 218 #[.val (.ref r1), .val (.int i1)] [(.int (1 : Int32))])
            exact own_retN X10 hx Bd.notSynchronized (t := .boolean) Bd.returns (by simp) (hb hby d4_218) (fun u hu hF => hQo _ _ _ ⟨by rw [show (F4 i1 w1) = nar .boolean (1 : Int32) from by rw [F4, if_neg hc1_1, if_neg hc1_4, if_pos hc1_7, if_neg hc162_9, if_pos hc171_11]], N0, by rw [hu, e10]⟩ (own_mono hF (by decide) (by decide)))
          · refine Go.of (fun t k => XS.icmpYes X10.here hx rfl (pc0 := 171) (pc' := 178) rfl (hb hby d4_171) rfl (feq hc171_11).2 (by decide) (by decide) k) ?_
            show Go p e below Qo T10 (mkF m 178 #[.val (.ref r1), .val (.int i1)] [])
            refine Go.of (fun t k => XS.iconst X10.here hx rfl (hb hby d4_178) k) ?_
            show Go p e below Qo T10 (mkF m 179 #[.val (.ref r1), .val (.int i1)] [(.int (0 : Int32))])
            refine Go.of (fun t k => XS.goto X10.here hx rfl (pc0 := 179) (pc' := 218) rfl (hb hby d4_179) (by decide) (by decide) k) ?_
            show Go p e below Qo T10 (mkF m 218 #[.val (.ref r1), .val (.int i1)] [(.int (0 : Int32))])
            exact own_retN X10 hx Bd.notSynchronized (t := .boolean) Bd.returns (by simp) (hb hby d4_218) (fun u hu hF => hQo _ _ _ ⟨by rw [show (F4 i1 w1) = nar .boolean (0 : Int32) from by rw [F4, if_neg hc1_1, if_neg hc1_4, if_pos hc1_7, if_neg hc162_9, if_neg hc171_11]], N0, by rw [hu, e10]⟩ (own_mono hF (by decide) (by decide)))
      · by_cases hc1_12 : i1 = (69 : Int32)
        · refine Go.of (fun t k => XS.tswIn X0.here hx rfl (pc0 := 1) (pc' := 182) rfl (hb hby d4_1) rfl (by rw [hc1_12]; decide) (o := 181) (by rw [hc1_12]; rfl) (by decide) (by decide) k) ?_
          show Go p e below Qo s₁ (mkF m 182 #[.val (.ref r1), .val (.int i1)] [])
          refine Go.of (fun t k => XS.aloadN X0.here hx rfl (hb hby d4_182) rfl rfl k) ?_
          show Go p e below Qo s₁ (mkF m 183 #[.val (.ref r1), .val (.int i1)] [(.ref r1)])
          obtain ⟨T13, X13, e13, st13⟩ := getF X0 hx hZ hown (host := "") (Or.inl (hw _ (List.mem_of_getElem? (i := 15) rfl))) Via.refl e0 f0 (g := (mkF m 183 #[.val (.ref r1), .val (.int i1)] [(.ref r1)])) rfl rfl (hb hby d4_183)
          refine Go.of st13 ?_
          show Go p e below Qo T13 (mkF m 186 #[.val (.ref r1), .val (.int i1)] [(.int w1)])
          refine Go.of (fun t k => XS.bipush X13.here hx rfl (hb hby d4_186) k) ?_
          show Go p e below Qo T13 (mkF m 188 #[.val (.ref r1), .val (.int i1)] [(.int (67 : Int32)), (.int w1)])
          by_cases hc188_14 : w1 = (67 : Int32)
          · refine Go.of (fun t k => XS.icmpYes X13.here hx rfl (pc0 := 188) (pc' := 209) rfl (hb hby d4_188) rfl (teq hc188_14).1 (by decide) (by decide) k) ?_
            show Go p e below Qo T13 (mkF m 209 #[.val (.ref r1), .val (.int i1)] [])
            refine Go.of (fun t k => XS.iconst X13.here hx rfl (hb hby d4_209) k) ?_
            show Go p e below Qo T13 (mkF m 210 #[.val (.ref r1), .val (.int i1)] [(.int (1 : Int32))])
            refine Go.of (fun t k => XS.goto X13.here hx rfl (pc0 := 210) (pc' := 218) rfl (hb hby d4_210) (by decide) (by decide) k) ?_
            show Go p e below Qo T13 (mkF m 218 #[.val (.ref r1), .val (.int i1)] [(.int (1 : Int32))])
            exact own_retN X13 hx Bd.notSynchronized (t := .boolean) Bd.returns (by simp) (hb hby d4_218) (fun u hu hF => hQo _ _ _ ⟨by rw [show (F4 i1 w1) = nar .boolean (1 : Int32) from by rw [F4, if_neg hc1_1, if_neg hc1_4, if_neg hc1_7, if_pos hc1_12, if_pos hc188_14]], N0, by rw [hu, e13]⟩ (own_mono hF (by decide) (by decide)))
          · refine Go.of (fun t k => XS.icmpNo X13.here hx rfl (hb hby d4_188) rfl (feq hc188_14).1 k) ?_
            show Go p e below Qo T13 (mkF m 191 #[.val (.ref r1), .val (.int i1)] [])
            refine Go.of (fun t k => XS.aloadN X13.here hx rfl (hb hby d4_191) rfl rfl k) ?_
            show Go p e below Qo T13 (mkF m 192 #[.val (.ref r1), .val (.int i1)] [(.ref r1)])
            obtain ⟨T15, X15, e15, st15⟩ := getF X13 hx hZ hown (host := "") (Or.inl (hw _ (List.mem_of_getElem? (i := 15) rfl))) Via.refl e13 f0 (g := (mkF m 192 #[.val (.ref r1), .val (.int i1)] [(.ref r1)])) rfl rfl (hb hby d4_192)
            refine Go.of st15 ?_
            show Go p e below Qo T15 (mkF m 195 #[.val (.ref r1), .val (.int i1)] [(.int w1)])
            refine Go.of (fun t k => XS.bipush X15.here hx rfl (hb hby d4_195) k) ?_
            show Go p e below Qo T15 (mkF m 197 #[.val (.ref r1), .val (.int i1)] [(.int (73 : Int32)), (.int w1)])
            by_cases hc197_16 : w1 = (73 : Int32)
            · refine Go.of (fun t k => XS.icmpYes X15.here hx rfl (pc0 := 197) (pc' := 209) rfl (hb hby d4_197) rfl (teq hc197_16).1 (by decide) (by decide) k) ?_
              show Go p e below Qo T15 (mkF m 209 #[.val (.ref r1), .val (.int i1)] [])
              refine Go.of (fun t k => XS.iconst X15.here hx rfl (hb hby d4_209) k) ?_
              show Go p e below Qo T15 (mkF m 210 #[.val (.ref r1), .val (.int i1)] [(.int (1 : Int32))])
              refine Go.of (fun t k => XS.goto X15.here hx rfl (pc0 := 210) (pc' := 218) rfl (hb hby d4_210) (by decide) (by decide) k) ?_
              show Go p e below Qo T15 (mkF m 218 #[.val (.ref r1), .val (.int i1)] [(.int (1 : Int32))])
              exact own_retN X15 hx Bd.notSynchronized (t := .boolean) Bd.returns (by simp) (hb hby d4_218) (fun u hu hF => hQo _ _ _ ⟨by rw [show (F4 i1 w1) = nar .boolean (1 : Int32) from by rw [F4, if_neg hc1_1, if_neg hc1_4, if_neg hc1_7, if_pos hc1_12, if_neg hc188_14, if_pos hc197_16]], N0, by rw [hu, e15]⟩ (own_mono hF (by decide) (by decide)))
            · refine Go.of (fun t k => XS.icmpNo X15.here hx rfl (hb hby d4_197) rfl (feq hc197_16).1 k) ?_
              show Go p e below Qo T15 (mkF m 200 #[.val (.ref r1), .val (.int i1)] [])
              refine Go.of (fun t k => XS.aloadN X15.here hx rfl (hb hby d4_200) rfl rfl k) ?_
              show Go p e below Qo T15 (mkF m 201 #[.val (.ref r1), .val (.int i1)] [(.ref r1)])
              obtain ⟨T17, X17, e17, st17⟩ := getF X15 hx hZ hown (host := "") (Or.inl (hw _ (List.mem_of_getElem? (i := 15) rfl))) Via.refl e15 f0 (g := (mkF m 201 #[.val (.ref r1), .val (.int i1)] [(.ref r1)])) rfl rfl (hb hby d4_201)
              refine Go.of st17 ?_
              show Go p e below Qo T17 (mkF m 204 #[.val (.ref r1), .val (.int i1)] [(.int w1)])
              refine Go.of (fun t k => XS.bipush X17.here hx rfl (hb hby d4_204) k) ?_
              show Go p e below Qo T17 (mkF m 206 #[.val (.ref r1), .val (.int i1)] [(.int (115 : Int32)), (.int w1)])
              by_cases hc206_18 : w1 = (115 : Int32)
              · refine Go.of (fun t k => XS.icmpNo X17.here hx rfl (hb hby d4_206) rfl (teq hc206_18).2 k) ?_
                show Go p e below Qo T17 (mkF m 209 #[.val (.ref r1), .val (.int i1)] [])
                refine Go.of (fun t k => XS.iconst X17.here hx rfl (hb hby d4_209) k) ?_
                show Go p e below Qo T17 (mkF m 210 #[.val (.ref r1), .val (.int i1)] [(.int (1 : Int32))])
                refine Go.of (fun t k => XS.goto X17.here hx rfl (pc0 := 210) (pc' := 218) rfl (hb hby d4_210) (by decide) (by decide) k) ?_
                show Go p e below Qo T17 (mkF m 218 #[.val (.ref r1), .val (.int i1)] [(.int (1 : Int32))])
                exact own_retN X17 hx Bd.notSynchronized (t := .boolean) Bd.returns (by simp) (hb hby d4_218) (fun u hu hF => hQo _ _ _ ⟨by rw [show (F4 i1 w1) = nar .boolean (1 : Int32) from by rw [F4, if_neg hc1_1, if_neg hc1_4, if_neg hc1_7, if_pos hc1_12, if_neg hc188_14, if_neg hc197_16, if_pos hc206_18]], N0, by rw [hu, e17]⟩ (own_mono hF (by decide) (by decide)))
              · refine Go.of (fun t k => XS.icmpYes X17.here hx rfl (pc0 := 206) (pc' := 213) rfl (hb hby d4_206) rfl (feq hc206_18).2 (by decide) (by decide) k) ?_
                show Go p e below Qo T17 (mkF m 213 #[.val (.ref r1), .val (.int i1)] [])
                refine Go.of (fun t k => XS.iconst X17.here hx rfl (hb hby d4_213) k) ?_
                show Go p e below Qo T17 (mkF m 214 #[.val (.ref r1), .val (.int i1)] [(.int (0 : Int32))])
                refine Go.of (fun t k => XS.goto X17.here hx rfl (pc0 := 214) (pc' := 218) rfl (hb hby d4_214) (by decide) (by decide) k) ?_
                show Go p e below Qo T17 (mkF m 218 #[.val (.ref r1), .val (.int i1)] [(.int (0 : Int32))])
                exact own_retN X17 hx Bd.notSynchronized (t := .boolean) Bd.returns (by simp) (hb hby d4_218) (fun u hu hF => hQo _ _ _ ⟨by rw [show (F4 i1 w1) = nar .boolean (0 : Int32) from by rw [F4, if_neg hc1_1, if_neg hc1_4, if_neg hc1_7, if_pos hc1_12, if_neg hc188_14, if_neg hc197_16, if_neg hc206_18]], N0, by rw [hu, e17]⟩ (own_mono hF (by decide) (by decide)))
        · by_cases hc1_19 : i1 = (70 : Int32)
          · refine Go.of (fun t k => XS.tswIn X0.here hx rfl (pc0 := 1) (pc' := 88) rfl (hb hby d4_1) rfl (by rw [hc1_19]; decide) (o := 87) (by rw [hc1_19]; rfl) (by decide) (by decide) k) ?_
            show Go p e below Qo s₁ (mkF m 88 #[.val (.ref r1), .val (.int i1)] [])
            refine Go.of (fun t k => XS.aloadN X0.here hx rfl (hb hby d4_88) rfl rfl k) ?_
            show Go p e below Qo s₁ (mkF m 89 #[.val (.ref r1), .val (.int i1)] [(.ref r1)])
            obtain ⟨T20, X20, e20, st20⟩ := getF X0 hx hZ hown (host := "") (Or.inl (hw _ (List.mem_of_getElem? (i := 15) rfl))) Via.refl e0 f0 (g := (mkF m 89 #[.val (.ref r1), .val (.int i1)] [(.ref r1)])) rfl rfl (hb hby d4_89)
            refine Go.of st20 ?_
            show Go p e below Qo T20 (mkF m 92 #[.val (.ref r1), .val (.int i1)] [(.int w1)])
            refine Go.of (fun t k => XS.bipush X20.here hx rfl (hb hby d4_92) k) ?_
            show Go p e below Qo T20 (mkF m 94 #[.val (.ref r1), .val (.int i1)] [(.int (90 : Int32)), (.int w1)])
            by_cases hc94_21 : w1 = (90 : Int32)
            · refine Go.of (fun t k => XS.icmpNo X20.here hx rfl (hb hby d4_94) rfl (teq hc94_21).2 k) ?_
              show Go p e below Qo T20 (mkF m 97 #[.val (.ref r1), .val (.int i1)] [])
              refine Go.of (fun t k => XS.iconst X20.here hx rfl (hb hby d4_97) k) ?_
              show Go p e below Qo T20 (mkF m 98 #[.val (.ref r1), .val (.int i1)] [(.int (1 : Int32))])
              refine Go.of (fun t k => XS.goto X20.here hx rfl (pc0 := 98) (pc' := 218) rfl (hb hby d4_98) (by decide) (by decide) k) ?_
              show Go p e below Qo T20 (mkF m 218 #[.val (.ref r1), .val (.int i1)] [(.int (1 : Int32))])
              exact own_retN X20 hx Bd.notSynchronized (t := .boolean) Bd.returns (by simp) (hb hby d4_218) (fun u hu hF => hQo _ _ _ ⟨by rw [show (F4 i1 w1) = nar .boolean (1 : Int32) from by rw [F4, if_neg hc1_1, if_neg hc1_4, if_neg hc1_7, if_neg hc1_12, if_pos hc1_19, if_pos hc94_21]], N0, by rw [hu, e20]⟩ (own_mono hF (by decide) (by decide)))
            · refine Go.of (fun t k => XS.icmpYes X20.here hx rfl (pc0 := 94) (pc' := 101) rfl (hb hby d4_94) rfl (feq hc94_21).2 (by decide) (by decide) k) ?_
              show Go p e below Qo T20 (mkF m 101 #[.val (.ref r1), .val (.int i1)] [])
              refine Go.of (fun t k => XS.iconst X20.here hx rfl (hb hby d4_101) k) ?_
              show Go p e below Qo T20 (mkF m 102 #[.val (.ref r1), .val (.int i1)] [(.int (0 : Int32))])
              refine Go.of (fun t k => XS.goto X20.here hx rfl (pc0 := 102) (pc' := 218) rfl (hb hby d4_102) (by decide) (by decide) k) ?_
              show Go p e below Qo T20 (mkF m 218 #[.val (.ref r1), .val (.int i1)] [(.int (0 : Int32))])
              exact own_retN X20 hx Bd.notSynchronized (t := .boolean) Bd.returns (by simp) (hb hby d4_218) (fun u hu hF => hQo _ _ _ ⟨by rw [show (F4 i1 w1) = nar .boolean (0 : Int32) from by rw [F4, if_neg hc1_1, if_neg hc1_4, if_neg hc1_7, if_neg hc1_12, if_pos hc1_19, if_neg hc94_21]], N0, by rw [hu, e20]⟩ (own_mono hF (by decide) (by decide)))
          · by_cases hc1_22 : i1 = (71 : Int32)
            · refine Go.of (fun t k => XS.tswIn X0.here hx rfl (pc0 := 1) (pc' := 217) rfl (hb hby d4_1) rfl (by rw [hc1_22]; decide) (o := 216) (by rw [hc1_22]; rfl) (by decide) (by decide) k) ?_
              show Go p e below Qo s₁ (mkF m 217 #[.val (.ref r1), .val (.int i1)] [])
              refine Go.of (fun t k => XS.iconst X0.here hx rfl (hb hby d4_217) k) ?_
              show Go p e below Qo s₁ (mkF m 218 #[.val (.ref r1), .val (.int i1)] [(.int (0 : Int32))])
              exact own_retN X0 hx Bd.notSynchronized (t := .boolean) Bd.returns (by simp) (hb hby d4_218) (fun u hu hF => hQo _ _ _ ⟨by rw [show (F4 i1 w1) = nar .boolean (0 : Int32) from by rw [F4, if_neg hc1_1, if_neg hc1_4, if_neg hc1_7, if_neg hc1_12, if_neg hc1_19, if_pos hc1_22]], N0, by rw [hu, e0]⟩ (own_mono hF (by decide) (by decide)))
            · by_cases hc1_23 : i1 = (72 : Int32)
              · refine Go.of (fun t k => XS.tswIn X0.here hx rfl (pc0 := 1) (pc' := 217) rfl (hb hby d4_1) rfl (by rw [hc1_23]; decide) (o := 216) (by rw [hc1_23]; rfl) (by decide) (by decide) k) ?_
                show Go p e below Qo s₁ (mkF m 217 #[.val (.ref r1), .val (.int i1)] [])
                refine Go.of (fun t k => XS.iconst X0.here hx rfl (hb hby d4_217) k) ?_
                show Go p e below Qo s₁ (mkF m 218 #[.val (.ref r1), .val (.int i1)] [(.int (0 : Int32))])
                exact own_retN X0 hx Bd.notSynchronized (t := .boolean) Bd.returns (by simp) (hb hby d4_218) (fun u hu hF => hQo _ _ _ ⟨by rw [show (F4 i1 w1) = nar .boolean (0 : Int32) from by rw [F4, if_neg hc1_1, if_neg hc1_4, if_neg hc1_7, if_neg hc1_12, if_neg hc1_19, if_neg hc1_22, if_pos hc1_23]], N0, by rw [hu, e0]⟩ (own_mono hF (by decide) (by decide)))
              · by_cases hc1_24 : i1 = (73 : Int32)
                · refine Go.of (fun t k => XS.tswIn X0.here hx rfl (pc0 := 1) (pc' := 217) rfl (hb hby d4_1) rfl (by rw [hc1_24]; decide) (o := 216) (by rw [hc1_24]; rfl) (by decide) (by decide) k) ?_
                  show Go p e below Qo s₁ (mkF m 217 #[.val (.ref r1), .val (.int i1)] [])
                  refine Go.of (fun t k => XS.iconst X0.here hx rfl (hb hby d4_217) k) ?_
                  show Go p e below Qo s₁ (mkF m 218 #[.val (.ref r1), .val (.int i1)] [(.int (0 : Int32))])
                  exact own_retN X0 hx Bd.notSynchronized (t := .boolean) Bd.returns (by simp) (hb hby d4_218) (fun u hu hF => hQo _ _ _ ⟨by rw [show (F4 i1 w1) = nar .boolean (0 : Int32) from by rw [F4, if_neg hc1_1, if_neg hc1_4, if_neg hc1_7, if_neg hc1_12, if_neg hc1_19, if_neg hc1_22, if_neg hc1_23, if_pos hc1_24]], N0, by rw [hu, e0]⟩ (own_mono hF (by decide) (by decide)))
                · by_cases hc1_25 : i1 = (74 : Int32)
                  · refine Go.of (fun t k => XS.tswIn X0.here hx rfl (pc0 := 1) (pc' := 217) rfl (hb hby d4_1) rfl (by rw [hc1_25]; decide) (o := 216) (by rw [hc1_25]; rfl) (by decide) (by decide) k) ?_
                    show Go p e below Qo s₁ (mkF m 217 #[.val (.ref r1), .val (.int i1)] [])
                    refine Go.of (fun t k => XS.iconst X0.here hx rfl (hb hby d4_217) k) ?_
                    show Go p e below Qo s₁ (mkF m 218 #[.val (.ref r1), .val (.int i1)] [(.int (0 : Int32))])
                    exact own_retN X0 hx Bd.notSynchronized (t := .boolean) Bd.returns (by simp) (hb hby d4_218) (fun u hu hF => hQo _ _ _ ⟨by rw [show (F4 i1 w1) = nar .boolean (0 : Int32) from by rw [F4, if_neg hc1_1, if_neg hc1_4, if_neg hc1_7, if_neg hc1_12, if_neg hc1_19, if_neg hc1_22, if_neg hc1_23, if_neg hc1_24, if_pos hc1_25]], N0, by rw [hu, e0]⟩ (own_mono hF (by decide) (by decide)))
                  · by_cases hc1_26 : i1 = (75 : Int32)
                    · refine Go.of (fun t k => XS.tswIn X0.here hx rfl (pc0 := 1) (pc' := 217) rfl (hb hby d4_1) rfl (by rw [hc1_26]; decide) (o := 216) (by rw [hc1_26]; rfl) (by decide) (by decide) k) ?_
                      show Go p e below Qo s₁ (mkF m 217 #[.val (.ref r1), .val (.int i1)] [])
                      refine Go.of (fun t k => XS.iconst X0.here hx rfl (hb hby d4_217) k) ?_
                      show Go p e below Qo s₁ (mkF m 218 #[.val (.ref r1), .val (.int i1)] [(.int (0 : Int32))])
                      exact own_retN X0 hx Bd.notSynchronized (t := .boolean) Bd.returns (by simp) (hb hby d4_218) (fun u hu hF => hQo _ _ _ ⟨by rw [show (F4 i1 w1) = nar .boolean (0 : Int32) from by rw [F4, if_neg hc1_1, if_neg hc1_4, if_neg hc1_7, if_neg hc1_12, if_neg hc1_19, if_neg hc1_22, if_neg hc1_23, if_neg hc1_24, if_neg hc1_25, if_pos hc1_26]], N0, by rw [hu, e0]⟩ (own_mono hF (by decide) (by decide)))
                    · by_cases hc1_27 : i1 = (76 : Int32)
                      · refine Go.of (fun t k => XS.tswIn X0.here hx rfl (pc0 := 1) (pc' := 217) rfl (hb hby d4_1) rfl (by rw [hc1_27]; decide) (o := 216) (by rw [hc1_27]; rfl) (by decide) (by decide) k) ?_
                        show Go p e below Qo s₁ (mkF m 217 #[.val (.ref r1), .val (.int i1)] [])
                        refine Go.of (fun t k => XS.iconst X0.here hx rfl (hb hby d4_217) k) ?_
                        show Go p e below Qo s₁ (mkF m 218 #[.val (.ref r1), .val (.int i1)] [(.int (0 : Int32))])
                        exact own_retN X0 hx Bd.notSynchronized (t := .boolean) Bd.returns (by simp) (hb hby d4_218) (fun u hu hF => hQo _ _ _ ⟨by rw [show (F4 i1 w1) = nar .boolean (0 : Int32) from by rw [F4, if_neg hc1_1, if_neg hc1_4, if_neg hc1_7, if_neg hc1_12, if_neg hc1_19, if_neg hc1_22, if_neg hc1_23, if_neg hc1_24, if_neg hc1_25, if_neg hc1_26, if_pos hc1_27]], N0, by rw [hu, e0]⟩ (own_mono hF (by decide) (by decide)))
                      · by_cases hc1_28 : i1 = (77 : Int32)
                        · refine Go.of (fun t k => XS.tswIn X0.here hx rfl (pc0 := 1) (pc' := 217) rfl (hb hby d4_1) rfl (by rw [hc1_28]; decide) (o := 216) (by rw [hc1_28]; rfl) (by decide) (by decide) k) ?_
                          show Go p e below Qo s₁ (mkF m 217 #[.val (.ref r1), .val (.int i1)] [])
                          refine Go.of (fun t k => XS.iconst X0.here hx rfl (hb hby d4_217) k) ?_
                          show Go p e below Qo s₁ (mkF m 218 #[.val (.ref r1), .val (.int i1)] [(.int (0 : Int32))])
                          exact own_retN X0 hx Bd.notSynchronized (t := .boolean) Bd.returns (by simp) (hb hby d4_218) (fun u hu hF => hQo _ _ _ ⟨by rw [show (F4 i1 w1) = nar .boolean (0 : Int32) from by rw [F4, if_neg hc1_1, if_neg hc1_4, if_neg hc1_7, if_neg hc1_12, if_neg hc1_19, if_neg hc1_22, if_neg hc1_23, if_neg hc1_24, if_neg hc1_25, if_neg hc1_26, if_neg hc1_27, if_pos hc1_28]], N0, by rw [hu, e0]⟩ (own_mono hF (by decide) (by decide)))
                        · by_cases hc1_29 : i1 = (78 : Int32)
                          · refine Go.of (fun t k => XS.tswIn X0.here hx rfl (pc0 := 1) (pc' := 217) rfl (hb hby d4_1) rfl (by rw [hc1_29]; decide) (o := 216) (by rw [hc1_29]; rfl) (by decide) (by decide) k) ?_
                            show Go p e below Qo s₁ (mkF m 217 #[.val (.ref r1), .val (.int i1)] [])
                            refine Go.of (fun t k => XS.iconst X0.here hx rfl (hb hby d4_217) k) ?_
                            show Go p e below Qo s₁ (mkF m 218 #[.val (.ref r1), .val (.int i1)] [(.int (0 : Int32))])
                            exact own_retN X0 hx Bd.notSynchronized (t := .boolean) Bd.returns (by simp) (hb hby d4_218) (fun u hu hF => hQo _ _ _ ⟨by rw [show (F4 i1 w1) = nar .boolean (0 : Int32) from by rw [F4, if_neg hc1_1, if_neg hc1_4, if_neg hc1_7, if_neg hc1_12, if_neg hc1_19, if_neg hc1_22, if_neg hc1_23, if_neg hc1_24, if_neg hc1_25, if_neg hc1_26, if_neg hc1_27, if_neg hc1_28, if_pos hc1_29]], N0, by rw [hu, e0]⟩ (own_mono hF (by decide) (by decide)))
                          · by_cases hc1_30 : i1 = (79 : Int32)
                            · refine Go.of (fun t k => XS.tswIn X0.here hx rfl (pc0 := 1) (pc' := 217) rfl (hb hby d4_1) rfl (by rw [hc1_30]; decide) (o := 216) (by rw [hc1_30]; rfl) (by decide) (by decide) k) ?_
                              show Go p e below Qo s₁ (mkF m 217 #[.val (.ref r1), .val (.int i1)] [])
                              refine Go.of (fun t k => XS.iconst X0.here hx rfl (hb hby d4_217) k) ?_
                              show Go p e below Qo s₁ (mkF m 218 #[.val (.ref r1), .val (.int i1)] [(.int (0 : Int32))])
                              exact own_retN X0 hx Bd.notSynchronized (t := .boolean) Bd.returns (by simp) (hb hby d4_218) (fun u hu hF => hQo _ _ _ ⟨by rw [show (F4 i1 w1) = nar .boolean (0 : Int32) from by rw [F4, if_neg hc1_1, if_neg hc1_4, if_neg hc1_7, if_neg hc1_12, if_neg hc1_19, if_neg hc1_22, if_neg hc1_23, if_neg hc1_24, if_neg hc1_25, if_neg hc1_26, if_neg hc1_27, if_neg hc1_28, if_neg hc1_29, if_pos hc1_30]], N0, by rw [hu, e0]⟩ (own_mono hF (by decide) (by decide)))
                            · by_cases hc1_31 : i1 = (80 : Int32)
                              · refine Go.of (fun t k => XS.tswIn X0.here hx rfl (pc0 := 1) (pc' := 105) rfl (hb hby d4_1) rfl (by rw [hc1_31]; decide) (o := 104) (by rw [hc1_31]; rfl) (by decide) (by decide) k) ?_
                                show Go p e below Qo s₁ (mkF m 105 #[.val (.ref r1), .val (.int i1)] [])
                                refine Go.of (fun t k => XS.aloadN X0.here hx rfl (hb hby d4_105) rfl rfl k) ?_
                                show Go p e below Qo s₁ (mkF m 106 #[.val (.ref r1), .val (.int i1)] [(.ref r1)])
                                obtain ⟨T32, X32, e32, st32⟩ := getF X0 hx hZ hown (host := "") (Or.inl (hw _ (List.mem_of_getElem? (i := 15) rfl))) Via.refl e0 f0 (g := (mkF m 106 #[.val (.ref r1), .val (.int i1)] [(.ref r1)])) rfl rfl (hb hby d4_106)
                                refine Go.of st32 ?_
                                show Go p e below Qo T32 (mkF m 109 #[.val (.ref r1), .val (.int i1)] [(.int w1)])
                                refine Go.of (fun t k => XS.bipush X32.here hx rfl (hb hby d4_109) k) ?_
                                show Go p e below Qo T32 (mkF m 111 #[.val (.ref r1), .val (.int i1)] [(.int (49 : Int32)), (.int w1)])
                                by_cases hc111_33 : w1 = (49 : Int32)
                                · refine Go.of (fun t k => XS.icmpNo X32.here hx rfl (hb hby d4_111) rfl (teq hc111_33).2 k) ?_
                                  show Go p e below Qo T32 (mkF m 114 #[.val (.ref r1), .val (.int i1)] [])
                                  refine Go.of (fun t k => XS.iconst X32.here hx rfl (hb hby d4_114) k) ?_
                                  show Go p e below Qo T32 (mkF m 115 #[.val (.ref r1), .val (.int i1)] [(.int (1 : Int32))])
                                  refine Go.of (fun t k => XS.goto X32.here hx rfl (pc0 := 115) (pc' := 218) rfl (hb hby d4_115) (by decide) (by decide) k) ?_
                                  show Go p e below Qo T32 (mkF m 218 #[.val (.ref r1), .val (.int i1)] [(.int (1 : Int32))])
                                  exact own_retN X32 hx Bd.notSynchronized (t := .boolean) Bd.returns (by simp) (hb hby d4_218) (fun u hu hF => hQo _ _ _ ⟨by rw [show (F4 i1 w1) = nar .boolean (1 : Int32) from by rw [F4, if_neg hc1_1, if_neg hc1_4, if_neg hc1_7, if_neg hc1_12, if_neg hc1_19, if_neg hc1_22, if_neg hc1_23, if_neg hc1_24, if_neg hc1_25, if_neg hc1_26, if_neg hc1_27, if_neg hc1_28, if_neg hc1_29, if_neg hc1_30, if_pos hc1_31, if_pos hc111_33]], N0, by rw [hu, e32]⟩ (own_mono hF (by decide) (by decide)))
                                · refine Go.of (fun t k => XS.icmpYes X32.here hx rfl (pc0 := 111) (pc' := 118) rfl (hb hby d4_111) rfl (feq hc111_33).2 (by decide) (by decide) k) ?_
                                  show Go p e below Qo T32 (mkF m 118 #[.val (.ref r1), .val (.int i1)] [])
                                  refine Go.of (fun t k => XS.iconst X32.here hx rfl (hb hby d4_118) k) ?_
                                  show Go p e below Qo T32 (mkF m 119 #[.val (.ref r1), .val (.int i1)] [(.int (0 : Int32))])
                                  refine Go.of (fun t k => XS.goto X32.here hx rfl (pc0 := 119) (pc' := 218) rfl (hb hby d4_119) (by decide) (by decide) k) ?_
                                  show Go p e below Qo T32 (mkF m 218 #[.val (.ref r1), .val (.int i1)] [(.int (0 : Int32))])
                                  exact own_retN X32 hx Bd.notSynchronized (t := .boolean) Bd.returns (by simp) (hb hby d4_218) (fun u hu hF => hQo _ _ _ ⟨by rw [show (F4 i1 w1) = nar .boolean (0 : Int32) from by rw [F4, if_neg hc1_1, if_neg hc1_4, if_neg hc1_7, if_neg hc1_12, if_neg hc1_19, if_neg hc1_22, if_neg hc1_23, if_neg hc1_24, if_neg hc1_25, if_neg hc1_26, if_neg hc1_27, if_neg hc1_28, if_neg hc1_29, if_neg hc1_30, if_pos hc1_31, if_neg hc111_33]], N0, by rw [hu, e32]⟩ (own_mono hF (by decide) (by decide)))
                              · by_cases hc1_34 : i1 = (81 : Int32)
                                · refine Go.of (fun t k => XS.tswIn X0.here hx rfl (pc0 := 1) (pc' := 88) rfl (hb hby d4_1) rfl (by rw [hc1_34]; decide) (o := 87) (by rw [hc1_34]; rfl) (by decide) (by decide) k) ?_
                                  show Go p e below Qo s₁ (mkF m 88 #[.val (.ref r1), .val (.int i1)] [])
                                  refine Go.of (fun t k => XS.aloadN X0.here hx rfl (hb hby d4_88) rfl rfl k) ?_
                                  show Go p e below Qo s₁ (mkF m 89 #[.val (.ref r1), .val (.int i1)] [(.ref r1)])
                                  obtain ⟨T35, X35, e35, st35⟩ := getF X0 hx hZ hown (host := "") (Or.inl (hw _ (List.mem_of_getElem? (i := 15) rfl))) Via.refl e0 f0 (g := (mkF m 89 #[.val (.ref r1), .val (.int i1)] [(.ref r1)])) rfl rfl (hb hby d4_89)
                                  refine Go.of st35 ?_
                                  show Go p e below Qo T35 (mkF m 92 #[.val (.ref r1), .val (.int i1)] [(.int w1)])
                                  refine Go.of (fun t k => XS.bipush X35.here hx rfl (hb hby d4_92) k) ?_
                                  show Go p e below Qo T35 (mkF m 94 #[.val (.ref r1), .val (.int i1)] [(.int (90 : Int32)), (.int w1)])
                                  by_cases hc94_36 : w1 = (90 : Int32)
                                  · refine Go.of (fun t k => XS.icmpNo X35.here hx rfl (hb hby d4_94) rfl (teq hc94_36).2 k) ?_
                                    show Go p e below Qo T35 (mkF m 97 #[.val (.ref r1), .val (.int i1)] [])
                                    refine Go.of (fun t k => XS.iconst X35.here hx rfl (hb hby d4_97) k) ?_
                                    show Go p e below Qo T35 (mkF m 98 #[.val (.ref r1), .val (.int i1)] [(.int (1 : Int32))])
                                    refine Go.of (fun t k => XS.goto X35.here hx rfl (pc0 := 98) (pc' := 218) rfl (hb hby d4_98) (by decide) (by decide) k) ?_
                                    show Go p e below Qo T35 (mkF m 218 #[.val (.ref r1), .val (.int i1)] [(.int (1 : Int32))])
                                    exact own_retN X35 hx Bd.notSynchronized (t := .boolean) Bd.returns (by simp) (hb hby d4_218) (fun u hu hF => hQo _ _ _ ⟨by rw [show (F4 i1 w1) = nar .boolean (1 : Int32) from by rw [F4, if_neg hc1_1, if_neg hc1_4, if_neg hc1_7, if_neg hc1_12, if_neg hc1_19, if_neg hc1_22, if_neg hc1_23, if_neg hc1_24, if_neg hc1_25, if_neg hc1_26, if_neg hc1_27, if_neg hc1_28, if_neg hc1_29, if_neg hc1_30, if_neg hc1_31, if_pos hc1_34, if_pos hc94_36]], N0, by rw [hu, e35]⟩ (own_mono hF (by decide) (by decide)))
                                  · refine Go.of (fun t k => XS.icmpYes X35.here hx rfl (pc0 := 94) (pc' := 101) rfl (hb hby d4_94) rfl (feq hc94_36).2 (by decide) (by decide) k) ?_
                                    show Go p e below Qo T35 (mkF m 101 #[.val (.ref r1), .val (.int i1)] [])
                                    refine Go.of (fun t k => XS.iconst X35.here hx rfl (hb hby d4_101) k) ?_
                                    show Go p e below Qo T35 (mkF m 102 #[.val (.ref r1), .val (.int i1)] [(.int (0 : Int32))])
                                    refine Go.of (fun t k => XS.goto X35.here hx rfl (pc0 := 102) (pc' := 218) rfl (hb hby d4_102) (by decide) (by decide) k) ?_
                                    show Go p e below Qo T35 (mkF m 218 #[.val (.ref r1), .val (.int i1)] [(.int (0 : Int32))])
                                    exact own_retN X35 hx Bd.notSynchronized (t := .boolean) Bd.returns (by simp) (hb hby d4_218) (fun u hu hF => hQo _ _ _ ⟨by rw [show (F4 i1 w1) = nar .boolean (0 : Int32) from by rw [F4, if_neg hc1_1, if_neg hc1_4, if_neg hc1_7, if_neg hc1_12, if_neg hc1_19, if_neg hc1_22, if_neg hc1_23, if_neg hc1_24, if_neg hc1_25, if_neg hc1_26, if_neg hc1_27, if_neg hc1_28, if_neg hc1_29, if_neg hc1_30, if_neg hc1_31, if_pos hc1_34, if_neg hc94_36]], N0, by rw [hu, e35]⟩ (own_mono hF (by decide) (by decide)))
                                · by_cases hc1_37 : i1 = (82 : Int32)
                                  · refine Go.of (fun t k => XS.tswIn X0.here hx rfl (pc0 := 1) (pc' := 217) rfl (hb hby d4_1) rfl (by rw [hc1_37]; decide) (o := 216) (by rw [hc1_37]; rfl) (by decide) (by decide) k) ?_
                                    show Go p e below Qo s₁ (mkF m 217 #[.val (.ref r1), .val (.int i1)] [])
                                    refine Go.of (fun t k => XS.iconst X0.here hx rfl (hb hby d4_217) k) ?_
                                    show Go p e below Qo s₁ (mkF m 218 #[.val (.ref r1), .val (.int i1)] [(.int (0 : Int32))])
                                    exact own_retN X0 hx Bd.notSynchronized (t := .boolean) Bd.returns (by simp) (hb hby d4_218) (fun u hu hF => hQo _ _ _ ⟨by rw [show (F4 i1 w1) = nar .boolean (0 : Int32) from by rw [F4, if_neg hc1_1, if_neg hc1_4, if_neg hc1_7, if_neg hc1_12, if_neg hc1_19, if_neg hc1_22, if_neg hc1_23, if_neg hc1_24, if_neg hc1_25, if_neg hc1_26, if_neg hc1_27, if_neg hc1_28, if_neg hc1_29, if_neg hc1_30, if_neg hc1_31, if_neg hc1_34, if_pos hc1_37]], N0, by rw [hu, e0]⟩ (own_mono hF (by decide) (by decide)))
                                  · by_cases hc1_38 : i1 = (83 : Int32)
                                    · refine Go.of (fun t k => XS.tswIn X0.here hx rfl (pc0 := 1) (pc' := 88) rfl (hb hby d4_1) rfl (by rw [hc1_38]; decide) (o := 87) (by rw [hc1_38]; rfl) (by decide) (by decide) k) ?_
                                      show Go p e below Qo s₁ (mkF m 88 #[.val (.ref r1), .val (.int i1)] [])
                                      refine Go.of (fun t k => XS.aloadN X0.here hx rfl (hb hby d4_88) rfl rfl k) ?_
                                      show Go p e below Qo s₁ (mkF m 89 #[.val (.ref r1), .val (.int i1)] [(.ref r1)])
                                      obtain ⟨T39, X39, e39, st39⟩ := getF X0 hx hZ hown (host := "") (Or.inl (hw _ (List.mem_of_getElem? (i := 15) rfl))) Via.refl e0 f0 (g := (mkF m 89 #[.val (.ref r1), .val (.int i1)] [(.ref r1)])) rfl rfl (hb hby d4_89)
                                      refine Go.of st39 ?_
                                      show Go p e below Qo T39 (mkF m 92 #[.val (.ref r1), .val (.int i1)] [(.int w1)])
                                      refine Go.of (fun t k => XS.bipush X39.here hx rfl (hb hby d4_92) k) ?_
                                      show Go p e below Qo T39 (mkF m 94 #[.val (.ref r1), .val (.int i1)] [(.int (90 : Int32)), (.int w1)])
                                      by_cases hc94_40 : w1 = (90 : Int32)
                                      · refine Go.of (fun t k => XS.icmpNo X39.here hx rfl (hb hby d4_94) rfl (teq hc94_40).2 k) ?_
                                        show Go p e below Qo T39 (mkF m 97 #[.val (.ref r1), .val (.int i1)] [])
                                        refine Go.of (fun t k => XS.iconst X39.here hx rfl (hb hby d4_97) k) ?_
                                        show Go p e below Qo T39 (mkF m 98 #[.val (.ref r1), .val (.int i1)] [(.int (1 : Int32))])
                                        refine Go.of (fun t k => XS.goto X39.here hx rfl (pc0 := 98) (pc' := 218) rfl (hb hby d4_98) (by decide) (by decide) k) ?_
                                        show Go p e below Qo T39 (mkF m 218 #[.val (.ref r1), .val (.int i1)] [(.int (1 : Int32))])
                                        exact own_retN X39 hx Bd.notSynchronized (t := .boolean) Bd.returns (by simp) (hb hby d4_218) (fun u hu hF => hQo _ _ _ ⟨by rw [show (F4 i1 w1) = nar .boolean (1 : Int32) from by rw [F4, if_neg hc1_1, if_neg hc1_4, if_neg hc1_7, if_neg hc1_12, if_neg hc1_19, if_neg hc1_22, if_neg hc1_23, if_neg hc1_24, if_neg hc1_25, if_neg hc1_26, if_neg hc1_27, if_neg hc1_28, if_neg hc1_29, if_neg hc1_30, if_neg hc1_31, if_neg hc1_34, if_neg hc1_37, if_pos hc1_38, if_pos hc94_40]], N0, by rw [hu, e39]⟩ (own_mono hF (by decide) (by decide)))
                                      · refine Go.of (fun t k => XS.icmpYes X39.here hx rfl (pc0 := 94) (pc' := 101) rfl (hb hby d4_94) rfl (feq hc94_40).2 (by decide) (by decide) k) ?_
                                        show Go p e below Qo T39 (mkF m 101 #[.val (.ref r1), .val (.int i1)] [])
                                        refine Go.of (fun t k => XS.iconst X39.here hx rfl (hb hby d4_101) k) ?_
                                        show Go p e below Qo T39 (mkF m 102 #[.val (.ref r1), .val (.int i1)] [(.int (0 : Int32))])
                                        refine Go.of (fun t k => XS.goto X39.here hx rfl (pc0 := 102) (pc' := 218) rfl (hb hby d4_102) (by decide) (by decide) k) ?_
                                        show Go p e below Qo T39 (mkF m 218 #[.val (.ref r1), .val (.int i1)] [(.int (0 : Int32))])
                                        exact own_retN X39 hx Bd.notSynchronized (t := .boolean) Bd.returns (by simp) (hb hby d4_218) (fun u hu hF => hQo _ _ _ ⟨by rw [show (F4 i1 w1) = nar .boolean (0 : Int32) from by rw [F4, if_neg hc1_1, if_neg hc1_4, if_neg hc1_7, if_neg hc1_12, if_neg hc1_19, if_neg hc1_22, if_neg hc1_23, if_neg hc1_24, if_neg hc1_25, if_neg hc1_26, if_neg hc1_27, if_neg hc1_28, if_neg hc1_29, if_neg hc1_30, if_neg hc1_31, if_neg hc1_34, if_neg hc1_37, if_pos hc1_38, if_neg hc94_40]], N0, by rw [hu, e39]⟩ (own_mono hF (by decide) (by decide)))
                                    · have hout41 : i1.toInt < 66 ∨ i1.toInt > 83 := by
                                        have k66 : i1.toInt ≠ 66 := fun q => hc1_1 (Int32.toInt_inj.mp (q.trans (by decide)))
                                        have k67 : i1.toInt ≠ 67 := fun q => hc1_4 (Int32.toInt_inj.mp (q.trans (by decide)))
                                        have k68 : i1.toInt ≠ 68 := fun q => hc1_7 (Int32.toInt_inj.mp (q.trans (by decide)))
                                        have k69 : i1.toInt ≠ 69 := fun q => hc1_12 (Int32.toInt_inj.mp (q.trans (by decide)))
                                        have k70 : i1.toInt ≠ 70 := fun q => hc1_19 (Int32.toInt_inj.mp (q.trans (by decide)))
                                        have k71 : i1.toInt ≠ 71 := fun q => hc1_22 (Int32.toInt_inj.mp (q.trans (by decide)))
                                        have k72 : i1.toInt ≠ 72 := fun q => hc1_23 (Int32.toInt_inj.mp (q.trans (by decide)))
                                        have k73 : i1.toInt ≠ 73 := fun q => hc1_24 (Int32.toInt_inj.mp (q.trans (by decide)))
                                        have k74 : i1.toInt ≠ 74 := fun q => hc1_25 (Int32.toInt_inj.mp (q.trans (by decide)))
                                        have k75 : i1.toInt ≠ 75 := fun q => hc1_26 (Int32.toInt_inj.mp (q.trans (by decide)))
                                        have k76 : i1.toInt ≠ 76 := fun q => hc1_27 (Int32.toInt_inj.mp (q.trans (by decide)))
                                        have k77 : i1.toInt ≠ 77 := fun q => hc1_28 (Int32.toInt_inj.mp (q.trans (by decide)))
                                        have k78 : i1.toInt ≠ 78 := fun q => hc1_29 (Int32.toInt_inj.mp (q.trans (by decide)))
                                        have k79 : i1.toInt ≠ 79 := fun q => hc1_30 (Int32.toInt_inj.mp (q.trans (by decide)))
                                        have k80 : i1.toInt ≠ 80 := fun q => hc1_31 (Int32.toInt_inj.mp (q.trans (by decide)))
                                        have k81 : i1.toInt ≠ 81 := fun q => hc1_34 (Int32.toInt_inj.mp (q.trans (by decide)))
                                        have k82 : i1.toInt ≠ 82 := fun q => hc1_37 (Int32.toInt_inj.mp (q.trans (by decide)))
                                        have k83 : i1.toInt ≠ 83 := fun q => hc1_38 (Int32.toInt_inj.mp (q.trans (by decide)))
                                        generalize i1.toInt = zz42 at *
                                        omega
                                      refine Go.of (fun t k => XS.tswOut X0.here hx rfl (pc0 := 1) (pc' := 217) rfl (hb hby d4_1) rfl hout41 (by decide) (by decide) k) ?_
                                      show Go p e below Qo s₁ (mkF m 217 #[.val (.ref r1), .val (.int i1)] [])
                                      refine Go.of (fun t k => XS.iconst X0.here hx rfl (hb hby d4_217) k) ?_
                                      show Go p e below Qo s₁ (mkF m 218 #[.val (.ref r1), .val (.int i1)] [(.int (0 : Int32))])
                                      exact own_retN X0 hx Bd.notSynchronized (t := .boolean) Bd.returns (by simp) (hb hby d4_218) (fun u hu hF => hQo _ _ _ ⟨by rw [show (F4 i1 w1) = nar .boolean (0 : Int32) from by rw [F4, if_neg hc1_1, if_neg hc1_4, if_neg hc1_7, if_neg hc1_12, if_neg hc1_19, if_neg hc1_22, if_neg hc1_23, if_neg hc1_24, if_neg hc1_25, if_neg hc1_26, if_neg hc1_27, if_neg hc1_28, if_neg hc1_29, if_neg hc1_30, if_neg hc1_31, if_neg hc1_34, if_neg hc1_37, if_neg hc1_38]], N0, by rw [hu, e0]⟩ (own_mono hF (by decide) (by decide)))
theorem d5_0 : decode method_3_code 0 = .ok (.iload_n 0, 1) := by decide +kernel
theorem d5_1 : decode method_3_code 1 = .ok (.bipush 90, 2) := by decide +kernel
theorem d5_3 : decode method_3_code 3 = .ok (.if_icmp .ne 27, 3) := by decide +kernel
theorem d5_6 : decode method_3_code 6 = .ok (.iload_n 1, 1) := by decide +kernel
theorem d5_7 : decode method_3_code 7 = .ok (.bipush 81, 2) := by decide +kernel
theorem d5_9 : decode method_3_code 9 = .ok (.if_icmp .eq 15, 3) := by decide +kernel
theorem d5_12 : decode method_3_code 12 = .ok (.iload_n 1, 1) := by decide +kernel
theorem d5_13 : decode method_3_code 13 = .ok (.bipush 83, 2) := by decide +kernel
theorem d5_15 : decode method_3_code 15 = .ok (.if_icmp .eq 9, 3) := by decide +kernel
theorem d5_18 : decode method_3_code 18 = .ok (.iload_n 1, 1) := by decide +kernel
theorem d5_19 : decode method_3_code 19 = .ok (.bipush 70, 2) := by decide +kernel
theorem d5_21 : decode method_3_code 21 = .ok (.if_icmp .ne 7, 3) := by decide +kernel
theorem d5_24 : decode method_3_code 24 = .ok (.iconst 1, 1) := by decide +kernel
theorem d5_25 : decode method_3_code 25 = .ok (.goto 4, 3) := by decide +kernel
theorem d5_28 : decode method_3_code 28 = .ok (.iconst 0, 1) := by decide +kernel
theorem d5_29 : decode method_3_code 29 = .ok (.ireturn, 1) := by decide +kernel
theorem d5_30 : decode method_3_code 30 = .ok (.iload_n 0, 1) := by decide +kernel
theorem d5_31 : decode method_3_code 31 = .ok (.bipush 49, 2) := by decide +kernel
theorem d5_33 : decode method_3_code 33 = .ok (.if_icmp .ne 15, 3) := by decide +kernel
theorem d5_36 : decode method_3_code 36 = .ok (.iload_n 1, 1) := by decide +kernel
theorem d5_37 : decode method_3_code 37 = .ok (.bipush 80, 2) := by decide +kernel
theorem d5_39 : decode method_3_code 39 = .ok (.if_icmp .ne 7, 3) := by decide +kernel
theorem d5_42 : decode method_3_code 42 = .ok (.iconst 1, 1) := by decide +kernel
theorem d5_43 : decode method_3_code 43 = .ok (.goto 4, 3) := by decide +kernel
theorem d5_46 : decode method_3_code 46 = .ok (.iconst 0, 1) := by decide +kernel
theorem d5_47 : decode method_3_code 47 = .ok (.ireturn, 1) := by decide +kernel
theorem d5_48 : decode method_3_code 48 = .ok (.iload_n 0, 1) := by decide +kernel
theorem d5_49 : decode method_3_code 49 = .ok (.bipush 50, 2) := by decide +kernel
theorem d5_51 : decode method_3_code 51 = .ok (.if_icmp .ne 15, 3) := by decide +kernel
theorem d5_54 : decode method_3_code 54 = .ok (.iload_n 1, 1) := by decide +kernel
theorem d5_55 : decode method_3_code 55 = .ok (.bipush 66, 2) := by decide +kernel
theorem d5_57 : decode method_3_code 57 = .ok (.if_icmp .ne 7, 3) := by decide +kernel
theorem d5_60 : decode method_3_code 60 = .ok (.iconst 1, 1) := by decide +kernel
theorem d5_61 : decode method_3_code 61 = .ok (.goto 4, 3) := by decide +kernel
theorem d5_64 : decode method_3_code 64 = .ok (.iconst 0, 1) := by decide +kernel
theorem d5_65 : decode method_3_code 65 = .ok (.ireturn, 1) := by decide +kernel
theorem d5_66 : decode method_3_code 66 = .ok (.iload_n 0, 1) := by decide +kernel
theorem d5_67 : decode method_3_code 67 = .ok (.bipush 51, 2) := by decide +kernel
theorem d5_69 : decode method_3_code 69 = .ok (.if_icmp .ne 15, 3) := by decide +kernel
theorem d5_72 : decode method_3_code 72 = .ok (.iload_n 1, 1) := by decide +kernel
theorem d5_73 : decode method_3_code 73 = .ok (.bipush 67, 2) := by decide +kernel
theorem d5_75 : decode method_3_code 75 = .ok (.if_icmp .ne 7, 3) := by decide +kernel
theorem d5_78 : decode method_3_code 78 = .ok (.iconst 1, 1) := by decide +kernel
theorem d5_79 : decode method_3_code 79 = .ok (.goto 4, 3) := by decide +kernel
theorem d5_82 : decode method_3_code 82 = .ok (.iconst 0, 1) := by decide +kernel
theorem d5_83 : decode method_3_code 83 = .ok (.ireturn, 1) := by decide +kernel
theorem d5_84 : decode method_3_code 84 = .ok (.iload_n 0, 1) := by decide +kernel
theorem d5_85 : decode method_3_code 85 = .ok (.bipush 84, 2) := by decide +kernel
theorem d5_87 : decode method_3_code 87 = .ok (.if_icmp .eq 9, 3) := by decide +kernel
theorem d5_90 : decode method_3_code 90 = .ok (.iload_n 0, 1) := by decide +kernel
theorem d5_91 : decode method_3_code 91 = .ok (.bipush 110, 2) := by decide +kernel
theorem d5_93 : decode method_3_code 93 = .ok (.if_icmp .ne 15, 3) := by decide +kernel
theorem d5_96 : decode method_3_code 96 = .ok (.iload_n 1, 1) := by decide +kernel
theorem d5_97 : decode method_3_code 97 = .ok (.bipush 68, 2) := by decide +kernel
theorem d5_99 : decode method_3_code 99 = .ok (.if_icmp .ne 7, 3) := by decide +kernel
theorem d5_102 : decode method_3_code 102 = .ok (.iconst 1, 1) := by decide +kernel
theorem d5_103 : decode method_3_code 103 = .ok (.goto 4, 3) := by decide +kernel
theorem d5_106 : decode method_3_code 106 = .ok (.iconst 0, 1) := by decide +kernel
theorem d5_107 : decode method_3_code 107 = .ok (.ireturn, 1) := by decide +kernel
theorem d5_108 : decode method_3_code 108 = .ok (.iload_n 0, 1) := by decide +kernel
theorem d5_109 : decode method_3_code 109 = .ok (.bipush 67, 2) := by decide +kernel
theorem d5_111 : decode method_3_code 111 = .ok (.if_icmp .eq 15, 3) := by decide +kernel
theorem d5_114 : decode method_3_code 114 = .ok (.iload_n 0, 1) := by decide +kernel
theorem d5_115 : decode method_3_code 115 = .ok (.bipush 73, 2) := by decide +kernel
theorem d5_117 : decode method_3_code 117 = .ok (.if_icmp .eq 9, 3) := by decide +kernel
theorem d5_120 : decode method_3_code 120 = .ok (.iload_n 0, 1) := by decide +kernel
theorem d5_121 : decode method_3_code 121 = .ok (.bipush 115, 2) := by decide +kernel
theorem d5_123 : decode method_3_code 123 = .ok (.if_icmp .ne 15, 3) := by decide +kernel
theorem d5_126 : decode method_3_code 126 = .ok (.iload_n 1, 1) := by decide +kernel
theorem d5_127 : decode method_3_code 127 = .ok (.bipush 69, 2) := by decide +kernel
theorem d5_129 : decode method_3_code 129 = .ok (.if_icmp .ne 7, 3) := by decide +kernel
theorem d5_132 : decode method_3_code 132 = .ok (.iconst 1, 1) := by decide +kernel
theorem d5_133 : decode method_3_code 133 = .ok (.goto 4, 3) := by decide +kernel
theorem d5_136 : decode method_3_code 136 = .ok (.iconst 0, 1) := by decide +kernel
theorem d5_137 : decode method_3_code 137 = .ok (.ireturn, 1) := by decide +kernel
theorem d5_138 : decode method_3_code 138 = .ok (.iconst 0, 1) := by decide +kernel
theorem d5_139 : decode method_3_code 139 = .ok (.ireturn, 1) := by decide +kernel
theorem ef_5 (m : MethodId) (i1 : Int32) (i2 : Int32)  : entryFrame m #[(.int i1), (.int i2)] 2 = mkF m 0 #[.val (.int i1), .val (.int i2)] [] := by
  first | (simp [entryFrame, mkF, argsToLocals, Value.category]; done) | rfl
def F5 (i1 : Int32) (i2 : Int32) : Int32 := (if i1 = (90 : Int32) then (if i2 = (81 : Int32) then (nar .boolean (1 : Int32)) else (if i2 = (83 : Int32) then (nar .boolean (1 : Int32)) else (if i2 = (70 : Int32) then (nar .boolean (1 : Int32)) else (nar .boolean (0 : Int32))))) else (if i1 = (49 : Int32) then (if i2 = (80 : Int32) then (nar .boolean (1 : Int32)) else (nar .boolean (0 : Int32))) else (if i1 = (50 : Int32) then (if i2 = (66 : Int32) then (nar .boolean (1 : Int32)) else (nar .boolean (0 : Int32))) else (if i1 = (51 : Int32) then (if i2 = (67 : Int32) then (nar .boolean (1 : Int32)) else (nar .boolean (0 : Int32))) else (if i1 = (84 : Int32) then (if i2 = (68 : Int32) then (nar .boolean (1 : Int32)) else (nar .boolean (0 : Int32))) else (if i1 = (110 : Int32) then (if i2 = (68 : Int32) then (nar .boolean (1 : Int32)) else (nar .boolean (0 : Int32))) else (if i1 = (67 : Int32) then (if i2 = (69 : Int32) then (nar .boolean (1 : Int32)) else (nar .boolean (0 : Int32))) else (if i1 = (73 : Int32) then (if i2 = (69 : Int32) then (nar .boolean (1 : Int32)) else (nar .boolean (0 : Int32))) else (if i1 = (115 : Int32) then (if i2 = (69 : Int32) then (nar .boolean (1 : Int32)) else (nar .boolean (0 : Int32))) else (nar .boolean (0 : Int32)))))))))))
def Q5 (Z : State) (i1 : Int32) (i2 : Int32) (h0 : Heap) (n0 : Nat) (v : Option Value) (h : Heap) (L : List Loc) : Prop := v = some (.int (F5 i1 i2)) ∧ Fr n0 L ∧ h = h0
set_option maxRecDepth 65536 in
set_option maxHeartbeats 40000000 in
theorem rm5 (l : Launch) (Z : State) (a0 : Array Value) (hw : ∀ d ∈ tables_1, d.before a0 Z = true) (ws : List Jvm.Cond) (i1 : Int32) (i2 : Int32) (h0 : Heap) (n0 : Nat) (Z0 : n0 ≤ h0.size)  :
    MetFree l (⟨"com/example/lockstep/lockstep/protocol/PgMessageEndsAnswerToPinLaw", "expected", "(CC)Z"⟩ : MethodName) (head1 (Jvm.Cond.code (⟨"com/example/lockstep/lockstep/protocol/PgMessageEndsAnswerToPinLaw", "expected", "(CC)Z"⟩ : MethodName) method_3_code 2 (some .boolean) :: ws) ({ frames := 0, cells := 0, slots := 0, locals := 0 } : Room)) (fun a U => a = #[(.int i1), (.int i2)] ∧ Z.Warmed39 U.vm ∧ U.heap = h0) (fun _ _ _ _ _ => True) (fun _ U o U' => ∃ v L, o = .returned v ∧ Q5 Z i1 i2 h0 n0 v U'.heap L ∧ FrameEnd U o U' L ({ frames := 0, cells := 0, slots := 0, locals := 0 } : Room).cells ({ frames := 0, cells := 0, slots := 0, locals := 0 } : Room).slots) := by
  refine MetFree.of_bodySF (plainFor_of_name pn_0) hisR ?_
  intro p e s m args below meth c s₁ Bd hml0 hP hK
  obtain ⟨rfl, hZ, hh⟩ := hP
  have hx := Bd.exec
  have hby := Bd.bytes
  have hml : c.maxLocals = 2 := hml0
  have hown : s.vm.findClass "com/example/lockstep/lockstep/protocol/PgMessageEndsAnswerToPinLaw" = some m.cls := findClass_of_methodNamed Bd.named
  have hnm := (name_of_methodNamed Bd.named Bd.method).1
  have X0 : Stand p l e ({ frames := 0, cells := 0, slots := 0, locals := 0 } : Room) s m #[(.int i1), (.int i2)] below meth c s₁ [] 0 0 := Stand.of_body Bd
  have e0 : s₁.heap = h0 := by rw [← hh, Bd.state]; rfl
  have N0 := Fr.nil n0
  suffices H : ∀ Qo : Outcome → State → Prop, (∀ (v : Option Value) (u : State) (L : List Loc), Q5 Z i1 i2 h0 n0 v u.heap L → FrameEnd s (.returned v) u L ({ frames := 0, cells := 0, slots := 0, locals := 0 } : Room).cells ({ frames := 0, cells := 0, slots := 0, locals := 0 } : Room).slots → Qo (.returned v) u) → Go p e below Qo s₁ (mkF m 0 #[.val (.int i1), .val (.int i2)] []) from
    Go.cast (ef_5 m i1 i2) (H _ fun v u L h1 h2 => ⟨v, L, rfl, h1, h2⟩)
  intro Qo hQo
  show Go p e below Qo s₁ (mkF m 0 #[.val (.int i1), .val (.int i2)] [])
  refine Go.of (fun t k => XS.iloadN X0.here hx rfl (hb hby d5_0) rfl  k) ?_
  show Go p e below Qo s₁ (mkF m 1 #[.val (.int i1), .val (.int i2)] [(.int i1)])
  refine Go.of (fun t k => XS.bipush X0.here hx rfl (hb hby d5_1) k) ?_
  show Go p e below Qo s₁ (mkF m 3 #[.val (.int i1), .val (.int i2)] [(.int (90 : Int32)), (.int i1)])
  by_cases hc3_1 : i1 = (90 : Int32)
  · refine Go.of (fun t k => XS.icmpNo X0.here hx rfl (hb hby d5_3) rfl (teq hc3_1).2 k) ?_
    show Go p e below Qo s₁ (mkF m 6 #[.val (.int i1), .val (.int i2)] [])
    refine Go.of (fun t k => XS.iloadN X0.here hx rfl (hb hby d5_6) rfl  k) ?_
    show Go p e below Qo s₁ (mkF m 7 #[.val (.int i1), .val (.int i2)] [(.int i2)])
    refine Go.of (fun t k => XS.bipush X0.here hx rfl (hb hby d5_7) k) ?_
    show Go p e below Qo s₁ (mkF m 9 #[.val (.int i1), .val (.int i2)] [(.int (81 : Int32)), (.int i2)])
    by_cases hc9_2 : i2 = (81 : Int32)
    · refine Go.of (fun t k => XS.icmpYes X0.here hx rfl (pc0 := 9) (pc' := 24) rfl (hb hby d5_9) rfl (teq hc9_2).1 (by decide) (by decide) k) ?_
      show Go p e below Qo s₁ (mkF m 24 #[.val (.int i1), .val (.int i2)] [])
      refine Go.of (fun t k => XS.iconst X0.here hx rfl (hb hby d5_24) k) ?_
      show Go p e below Qo s₁ (mkF m 25 #[.val (.int i1), .val (.int i2)] [(.int (1 : Int32))])
      refine Go.of (fun t k => XS.goto X0.here hx rfl (pc0 := 25) (pc' := 29) rfl (hb hby d5_25) (by decide) (by decide) k) ?_
      show Go p e below Qo s₁ (mkF m 29 #[.val (.int i1), .val (.int i2)] [(.int (1 : Int32))])
      exact own_retN X0 hx Bd.notSynchronized (t := .boolean) Bd.returns (by simp) (hb hby d5_29) (fun u hu hF => hQo _ _ _ ⟨by rw [show (F5 i1 i2) = nar .boolean (1 : Int32) from by rw [F5, if_pos hc3_1, if_pos hc9_2]], N0, by rw [hu, e0]⟩ (own_mono hF (by decide) (by decide)))
    · refine Go.of (fun t k => XS.icmpNo X0.here hx rfl (hb hby d5_9) rfl (feq hc9_2).1 k) ?_
      show Go p e below Qo s₁ (mkF m 12 #[.val (.int i1), .val (.int i2)] [])
      refine Go.of (fun t k => XS.iloadN X0.here hx rfl (hb hby d5_12) rfl  k) ?_
      show Go p e below Qo s₁ (mkF m 13 #[.val (.int i1), .val (.int i2)] [(.int i2)])
      refine Go.of (fun t k => XS.bipush X0.here hx rfl (hb hby d5_13) k) ?_
      show Go p e below Qo s₁ (mkF m 15 #[.val (.int i1), .val (.int i2)] [(.int (83 : Int32)), (.int i2)])
      by_cases hc15_3 : i2 = (83 : Int32)
      · refine Go.of (fun t k => XS.icmpYes X0.here hx rfl (pc0 := 15) (pc' := 24) rfl (hb hby d5_15) rfl (teq hc15_3).1 (by decide) (by decide) k) ?_
        show Go p e below Qo s₁ (mkF m 24 #[.val (.int i1), .val (.int i2)] [])
        refine Go.of (fun t k => XS.iconst X0.here hx rfl (hb hby d5_24) k) ?_
        show Go p e below Qo s₁ (mkF m 25 #[.val (.int i1), .val (.int i2)] [(.int (1 : Int32))])
        refine Go.of (fun t k => XS.goto X0.here hx rfl (pc0 := 25) (pc' := 29) rfl (hb hby d5_25) (by decide) (by decide) k) ?_
        show Go p e below Qo s₁ (mkF m 29 #[.val (.int i1), .val (.int i2)] [(.int (1 : Int32))])
        exact own_retN X0 hx Bd.notSynchronized (t := .boolean) Bd.returns (by simp) (hb hby d5_29) (fun u hu hF => hQo _ _ _ ⟨by rw [show (F5 i1 i2) = nar .boolean (1 : Int32) from by rw [F5, if_pos hc3_1, if_neg hc9_2, if_pos hc15_3]], N0, by rw [hu, e0]⟩ (own_mono hF (by decide) (by decide)))
      · refine Go.of (fun t k => XS.icmpNo X0.here hx rfl (hb hby d5_15) rfl (feq hc15_3).1 k) ?_
        show Go p e below Qo s₁ (mkF m 18 #[.val (.int i1), .val (.int i2)] [])
        refine Go.of (fun t k => XS.iloadN X0.here hx rfl (hb hby d5_18) rfl  k) ?_
        show Go p e below Qo s₁ (mkF m 19 #[.val (.int i1), .val (.int i2)] [(.int i2)])
        refine Go.of (fun t k => XS.bipush X0.here hx rfl (hb hby d5_19) k) ?_
        show Go p e below Qo s₁ (mkF m 21 #[.val (.int i1), .val (.int i2)] [(.int (70 : Int32)), (.int i2)])
        by_cases hc21_4 : i2 = (70 : Int32)
        · refine Go.of (fun t k => XS.icmpNo X0.here hx rfl (hb hby d5_21) rfl (teq hc21_4).2 k) ?_
          show Go p e below Qo s₁ (mkF m 24 #[.val (.int i1), .val (.int i2)] [])
          refine Go.of (fun t k => XS.iconst X0.here hx rfl (hb hby d5_24) k) ?_
          show Go p e below Qo s₁ (mkF m 25 #[.val (.int i1), .val (.int i2)] [(.int (1 : Int32))])
          refine Go.of (fun t k => XS.goto X0.here hx rfl (pc0 := 25) (pc' := 29) rfl (hb hby d5_25) (by decide) (by decide) k) ?_
          show Go p e below Qo s₁ (mkF m 29 #[.val (.int i1), .val (.int i2)] [(.int (1 : Int32))])
          exact own_retN X0 hx Bd.notSynchronized (t := .boolean) Bd.returns (by simp) (hb hby d5_29) (fun u hu hF => hQo _ _ _ ⟨by rw [show (F5 i1 i2) = nar .boolean (1 : Int32) from by rw [F5, if_pos hc3_1, if_neg hc9_2, if_neg hc15_3, if_pos hc21_4]], N0, by rw [hu, e0]⟩ (own_mono hF (by decide) (by decide)))
        · refine Go.of (fun t k => XS.icmpYes X0.here hx rfl (pc0 := 21) (pc' := 28) rfl (hb hby d5_21) rfl (feq hc21_4).2 (by decide) (by decide) k) ?_
          show Go p e below Qo s₁ (mkF m 28 #[.val (.int i1), .val (.int i2)] [])
          refine Go.of (fun t k => XS.iconst X0.here hx rfl (hb hby d5_28) k) ?_
          show Go p e below Qo s₁ (mkF m 29 #[.val (.int i1), .val (.int i2)] [(.int (0 : Int32))])
          exact own_retN X0 hx Bd.notSynchronized (t := .boolean) Bd.returns (by simp) (hb hby d5_29) (fun u hu hF => hQo _ _ _ ⟨by rw [show (F5 i1 i2) = nar .boolean (0 : Int32) from by rw [F5, if_pos hc3_1, if_neg hc9_2, if_neg hc15_3, if_neg hc21_4]], N0, by rw [hu, e0]⟩ (own_mono hF (by decide) (by decide)))
  · refine Go.of (fun t k => XS.icmpYes X0.here hx rfl (pc0 := 3) (pc' := 30) rfl (hb hby d5_3) rfl (feq hc3_1).2 (by decide) (by decide) k) ?_
    show Go p e below Qo s₁ (mkF m 30 #[.val (.int i1), .val (.int i2)] [])
    refine Go.of (fun t k => XS.iloadN X0.here hx rfl (hb hby d5_30) rfl  k) ?_
    show Go p e below Qo s₁ (mkF m 31 #[.val (.int i1), .val (.int i2)] [(.int i1)])
    refine Go.of (fun t k => XS.bipush X0.here hx rfl (hb hby d5_31) k) ?_
    show Go p e below Qo s₁ (mkF m 33 #[.val (.int i1), .val (.int i2)] [(.int (49 : Int32)), (.int i1)])
    by_cases hc33_5 : i1 = (49 : Int32)
    · refine Go.of (fun t k => XS.icmpNo X0.here hx rfl (hb hby d5_33) rfl (teq hc33_5).2 k) ?_
      show Go p e below Qo s₁ (mkF m 36 #[.val (.int i1), .val (.int i2)] [])
      refine Go.of (fun t k => XS.iloadN X0.here hx rfl (hb hby d5_36) rfl  k) ?_
      show Go p e below Qo s₁ (mkF m 37 #[.val (.int i1), .val (.int i2)] [(.int i2)])
      refine Go.of (fun t k => XS.bipush X0.here hx rfl (hb hby d5_37) k) ?_
      show Go p e below Qo s₁ (mkF m 39 #[.val (.int i1), .val (.int i2)] [(.int (80 : Int32)), (.int i2)])
      by_cases hc39_6 : i2 = (80 : Int32)
      · refine Go.of (fun t k => XS.icmpNo X0.here hx rfl (hb hby d5_39) rfl (teq hc39_6).2 k) ?_
        show Go p e below Qo s₁ (mkF m 42 #[.val (.int i1), .val (.int i2)] [])
        refine Go.of (fun t k => XS.iconst X0.here hx rfl (hb hby d5_42) k) ?_
        show Go p e below Qo s₁ (mkF m 43 #[.val (.int i1), .val (.int i2)] [(.int (1 : Int32))])
        refine Go.of (fun t k => XS.goto X0.here hx rfl (pc0 := 43) (pc' := 47) rfl (hb hby d5_43) (by decide) (by decide) k) ?_
        show Go p e below Qo s₁ (mkF m 47 #[.val (.int i1), .val (.int i2)] [(.int (1 : Int32))])
        exact own_retN X0 hx Bd.notSynchronized (t := .boolean) Bd.returns (by simp) (hb hby d5_47) (fun u hu hF => hQo _ _ _ ⟨by rw [show (F5 i1 i2) = nar .boolean (1 : Int32) from by rw [F5, if_neg hc3_1, if_pos hc33_5, if_pos hc39_6]], N0, by rw [hu, e0]⟩ (own_mono hF (by decide) (by decide)))
      · refine Go.of (fun t k => XS.icmpYes X0.here hx rfl (pc0 := 39) (pc' := 46) rfl (hb hby d5_39) rfl (feq hc39_6).2 (by decide) (by decide) k) ?_
        show Go p e below Qo s₁ (mkF m 46 #[.val (.int i1), .val (.int i2)] [])
        refine Go.of (fun t k => XS.iconst X0.here hx rfl (hb hby d5_46) k) ?_
        show Go p e below Qo s₁ (mkF m 47 #[.val (.int i1), .val (.int i2)] [(.int (0 : Int32))])
        exact own_retN X0 hx Bd.notSynchronized (t := .boolean) Bd.returns (by simp) (hb hby d5_47) (fun u hu hF => hQo _ _ _ ⟨by rw [show (F5 i1 i2) = nar .boolean (0 : Int32) from by rw [F5, if_neg hc3_1, if_pos hc33_5, if_neg hc39_6]], N0, by rw [hu, e0]⟩ (own_mono hF (by decide) (by decide)))
    · refine Go.of (fun t k => XS.icmpYes X0.here hx rfl (pc0 := 33) (pc' := 48) rfl (hb hby d5_33) rfl (feq hc33_5).2 (by decide) (by decide) k) ?_
      show Go p e below Qo s₁ (mkF m 48 #[.val (.int i1), .val (.int i2)] [])
      refine Go.of (fun t k => XS.iloadN X0.here hx rfl (hb hby d5_48) rfl  k) ?_
      show Go p e below Qo s₁ (mkF m 49 #[.val (.int i1), .val (.int i2)] [(.int i1)])
      refine Go.of (fun t k => XS.bipush X0.here hx rfl (hb hby d5_49) k) ?_
      show Go p e below Qo s₁ (mkF m 51 #[.val (.int i1), .val (.int i2)] [(.int (50 : Int32)), (.int i1)])
      by_cases hc51_7 : i1 = (50 : Int32)
      · refine Go.of (fun t k => XS.icmpNo X0.here hx rfl (hb hby d5_51) rfl (teq hc51_7).2 k) ?_
        show Go p e below Qo s₁ (mkF m 54 #[.val (.int i1), .val (.int i2)] [])
        refine Go.of (fun t k => XS.iloadN X0.here hx rfl (hb hby d5_54) rfl  k) ?_
        show Go p e below Qo s₁ (mkF m 55 #[.val (.int i1), .val (.int i2)] [(.int i2)])
        refine Go.of (fun t k => XS.bipush X0.here hx rfl (hb hby d5_55) k) ?_
        show Go p e below Qo s₁ (mkF m 57 #[.val (.int i1), .val (.int i2)] [(.int (66 : Int32)), (.int i2)])
        by_cases hc57_8 : i2 = (66 : Int32)
        · refine Go.of (fun t k => XS.icmpNo X0.here hx rfl (hb hby d5_57) rfl (teq hc57_8).2 k) ?_
          show Go p e below Qo s₁ (mkF m 60 #[.val (.int i1), .val (.int i2)] [])
          refine Go.of (fun t k => XS.iconst X0.here hx rfl (hb hby d5_60) k) ?_
          show Go p e below Qo s₁ (mkF m 61 #[.val (.int i1), .val (.int i2)] [(.int (1 : Int32))])
          refine Go.of (fun t k => XS.goto X0.here hx rfl (pc0 := 61) (pc' := 65) rfl (hb hby d5_61) (by decide) (by decide) k) ?_
          show Go p e below Qo s₁ (mkF m 65 #[.val (.int i1), .val (.int i2)] [(.int (1 : Int32))])
          exact own_retN X0 hx Bd.notSynchronized (t := .boolean) Bd.returns (by simp) (hb hby d5_65) (fun u hu hF => hQo _ _ _ ⟨by rw [show (F5 i1 i2) = nar .boolean (1 : Int32) from by rw [F5, if_neg hc3_1, if_neg hc33_5, if_pos hc51_7, if_pos hc57_8]], N0, by rw [hu, e0]⟩ (own_mono hF (by decide) (by decide)))
        · refine Go.of (fun t k => XS.icmpYes X0.here hx rfl (pc0 := 57) (pc' := 64) rfl (hb hby d5_57) rfl (feq hc57_8).2 (by decide) (by decide) k) ?_
          show Go p e below Qo s₁ (mkF m 64 #[.val (.int i1), .val (.int i2)] [])
          refine Go.of (fun t k => XS.iconst X0.here hx rfl (hb hby d5_64) k) ?_
          show Go p e below Qo s₁ (mkF m 65 #[.val (.int i1), .val (.int i2)] [(.int (0 : Int32))])
          exact own_retN X0 hx Bd.notSynchronized (t := .boolean) Bd.returns (by simp) (hb hby d5_65) (fun u hu hF => hQo _ _ _ ⟨by rw [show (F5 i1 i2) = nar .boolean (0 : Int32) from by rw [F5, if_neg hc3_1, if_neg hc33_5, if_pos hc51_7, if_neg hc57_8]], N0, by rw [hu, e0]⟩ (own_mono hF (by decide) (by decide)))
      · refine Go.of (fun t k => XS.icmpYes X0.here hx rfl (pc0 := 51) (pc' := 66) rfl (hb hby d5_51) rfl (feq hc51_7).2 (by decide) (by decide) k) ?_
        show Go p e below Qo s₁ (mkF m 66 #[.val (.int i1), .val (.int i2)] [])
        refine Go.of (fun t k => XS.iloadN X0.here hx rfl (hb hby d5_66) rfl  k) ?_
        show Go p e below Qo s₁ (mkF m 67 #[.val (.int i1), .val (.int i2)] [(.int i1)])
        refine Go.of (fun t k => XS.bipush X0.here hx rfl (hb hby d5_67) k) ?_
        show Go p e below Qo s₁ (mkF m 69 #[.val (.int i1), .val (.int i2)] [(.int (51 : Int32)), (.int i1)])
        by_cases hc69_9 : i1 = (51 : Int32)
        · refine Go.of (fun t k => XS.icmpNo X0.here hx rfl (hb hby d5_69) rfl (teq hc69_9).2 k) ?_
          show Go p e below Qo s₁ (mkF m 72 #[.val (.int i1), .val (.int i2)] [])
          refine Go.of (fun t k => XS.iloadN X0.here hx rfl (hb hby d5_72) rfl  k) ?_
          show Go p e below Qo s₁ (mkF m 73 #[.val (.int i1), .val (.int i2)] [(.int i2)])
          refine Go.of (fun t k => XS.bipush X0.here hx rfl (hb hby d5_73) k) ?_
          show Go p e below Qo s₁ (mkF m 75 #[.val (.int i1), .val (.int i2)] [(.int (67 : Int32)), (.int i2)])
          by_cases hc75_10 : i2 = (67 : Int32)
          · refine Go.of (fun t k => XS.icmpNo X0.here hx rfl (hb hby d5_75) rfl (teq hc75_10).2 k) ?_
            show Go p e below Qo s₁ (mkF m 78 #[.val (.int i1), .val (.int i2)] [])
            refine Go.of (fun t k => XS.iconst X0.here hx rfl (hb hby d5_78) k) ?_
            show Go p e below Qo s₁ (mkF m 79 #[.val (.int i1), .val (.int i2)] [(.int (1 : Int32))])
            refine Go.of (fun t k => XS.goto X0.here hx rfl (pc0 := 79) (pc' := 83) rfl (hb hby d5_79) (by decide) (by decide) k) ?_
            show Go p e below Qo s₁ (mkF m 83 #[.val (.int i1), .val (.int i2)] [(.int (1 : Int32))])
            exact own_retN X0 hx Bd.notSynchronized (t := .boolean) Bd.returns (by simp) (hb hby d5_83) (fun u hu hF => hQo _ _ _ ⟨by rw [show (F5 i1 i2) = nar .boolean (1 : Int32) from by rw [F5, if_neg hc3_1, if_neg hc33_5, if_neg hc51_7, if_pos hc69_9, if_pos hc75_10]], N0, by rw [hu, e0]⟩ (own_mono hF (by decide) (by decide)))
          · refine Go.of (fun t k => XS.icmpYes X0.here hx rfl (pc0 := 75) (pc' := 82) rfl (hb hby d5_75) rfl (feq hc75_10).2 (by decide) (by decide) k) ?_
            show Go p e below Qo s₁ (mkF m 82 #[.val (.int i1), .val (.int i2)] [])
            refine Go.of (fun t k => XS.iconst X0.here hx rfl (hb hby d5_82) k) ?_
            show Go p e below Qo s₁ (mkF m 83 #[.val (.int i1), .val (.int i2)] [(.int (0 : Int32))])
            exact own_retN X0 hx Bd.notSynchronized (t := .boolean) Bd.returns (by simp) (hb hby d5_83) (fun u hu hF => hQo _ _ _ ⟨by rw [show (F5 i1 i2) = nar .boolean (0 : Int32) from by rw [F5, if_neg hc3_1, if_neg hc33_5, if_neg hc51_7, if_pos hc69_9, if_neg hc75_10]], N0, by rw [hu, e0]⟩ (own_mono hF (by decide) (by decide)))
        · refine Go.of (fun t k => XS.icmpYes X0.here hx rfl (pc0 := 69) (pc' := 84) rfl (hb hby d5_69) rfl (feq hc69_9).2 (by decide) (by decide) k) ?_
          show Go p e below Qo s₁ (mkF m 84 #[.val (.int i1), .val (.int i2)] [])
          refine Go.of (fun t k => XS.iloadN X0.here hx rfl (hb hby d5_84) rfl  k) ?_
          show Go p e below Qo s₁ (mkF m 85 #[.val (.int i1), .val (.int i2)] [(.int i1)])
          refine Go.of (fun t k => XS.bipush X0.here hx rfl (hb hby d5_85) k) ?_
          show Go p e below Qo s₁ (mkF m 87 #[.val (.int i1), .val (.int i2)] [(.int (84 : Int32)), (.int i1)])
          by_cases hc87_11 : i1 = (84 : Int32)
          · refine Go.of (fun t k => XS.icmpYes X0.here hx rfl (pc0 := 87) (pc' := 96) rfl (hb hby d5_87) rfl (teq hc87_11).1 (by decide) (by decide) k) ?_
            show Go p e below Qo s₁ (mkF m 96 #[.val (.int i1), .val (.int i2)] [])
            refine Go.of (fun t k => XS.iloadN X0.here hx rfl (hb hby d5_96) rfl  k) ?_
            show Go p e below Qo s₁ (mkF m 97 #[.val (.int i1), .val (.int i2)] [(.int i2)])
            refine Go.of (fun t k => XS.bipush X0.here hx rfl (hb hby d5_97) k) ?_
            show Go p e below Qo s₁ (mkF m 99 #[.val (.int i1), .val (.int i2)] [(.int (68 : Int32)), (.int i2)])
            by_cases hc99_12 : i2 = (68 : Int32)
            · refine Go.of (fun t k => XS.icmpNo X0.here hx rfl (hb hby d5_99) rfl (teq hc99_12).2 k) ?_
              show Go p e below Qo s₁ (mkF m 102 #[.val (.int i1), .val (.int i2)] [])
              refine Go.of (fun t k => XS.iconst X0.here hx rfl (hb hby d5_102) k) ?_
              show Go p e below Qo s₁ (mkF m 103 #[.val (.int i1), .val (.int i2)] [(.int (1 : Int32))])
              refine Go.of (fun t k => XS.goto X0.here hx rfl (pc0 := 103) (pc' := 107) rfl (hb hby d5_103) (by decide) (by decide) k) ?_
              show Go p e below Qo s₁ (mkF m 107 #[.val (.int i1), .val (.int i2)] [(.int (1 : Int32))])
              exact own_retN X0 hx Bd.notSynchronized (t := .boolean) Bd.returns (by simp) (hb hby d5_107) (fun u hu hF => hQo _ _ _ ⟨by rw [show (F5 i1 i2) = nar .boolean (1 : Int32) from by rw [F5, if_neg hc3_1, if_neg hc33_5, if_neg hc51_7, if_neg hc69_9, if_pos hc87_11, if_pos hc99_12]], N0, by rw [hu, e0]⟩ (own_mono hF (by decide) (by decide)))
            · refine Go.of (fun t k => XS.icmpYes X0.here hx rfl (pc0 := 99) (pc' := 106) rfl (hb hby d5_99) rfl (feq hc99_12).2 (by decide) (by decide) k) ?_
              show Go p e below Qo s₁ (mkF m 106 #[.val (.int i1), .val (.int i2)] [])
              refine Go.of (fun t k => XS.iconst X0.here hx rfl (hb hby d5_106) k) ?_
              show Go p e below Qo s₁ (mkF m 107 #[.val (.int i1), .val (.int i2)] [(.int (0 : Int32))])
              exact own_retN X0 hx Bd.notSynchronized (t := .boolean) Bd.returns (by simp) (hb hby d5_107) (fun u hu hF => hQo _ _ _ ⟨by rw [show (F5 i1 i2) = nar .boolean (0 : Int32) from by rw [F5, if_neg hc3_1, if_neg hc33_5, if_neg hc51_7, if_neg hc69_9, if_pos hc87_11, if_neg hc99_12]], N0, by rw [hu, e0]⟩ (own_mono hF (by decide) (by decide)))
          · refine Go.of (fun t k => XS.icmpNo X0.here hx rfl (hb hby d5_87) rfl (feq hc87_11).1 k) ?_
            show Go p e below Qo s₁ (mkF m 90 #[.val (.int i1), .val (.int i2)] [])
            refine Go.of (fun t k => XS.iloadN X0.here hx rfl (hb hby d5_90) rfl  k) ?_
            show Go p e below Qo s₁ (mkF m 91 #[.val (.int i1), .val (.int i2)] [(.int i1)])
            refine Go.of (fun t k => XS.bipush X0.here hx rfl (hb hby d5_91) k) ?_
            show Go p e below Qo s₁ (mkF m 93 #[.val (.int i1), .val (.int i2)] [(.int (110 : Int32)), (.int i1)])
            by_cases hc93_13 : i1 = (110 : Int32)
            · refine Go.of (fun t k => XS.icmpNo X0.here hx rfl (hb hby d5_93) rfl (teq hc93_13).2 k) ?_
              show Go p e below Qo s₁ (mkF m 96 #[.val (.int i1), .val (.int i2)] [])
              refine Go.of (fun t k => XS.iloadN X0.here hx rfl (hb hby d5_96) rfl  k) ?_
              show Go p e below Qo s₁ (mkF m 97 #[.val (.int i1), .val (.int i2)] [(.int i2)])
              refine Go.of (fun t k => XS.bipush X0.here hx rfl (hb hby d5_97) k) ?_
              show Go p e below Qo s₁ (mkF m 99 #[.val (.int i1), .val (.int i2)] [(.int (68 : Int32)), (.int i2)])
              by_cases hc99_14 : i2 = (68 : Int32)
              · refine Go.of (fun t k => XS.icmpNo X0.here hx rfl (hb hby d5_99) rfl (teq hc99_14).2 k) ?_
                show Go p e below Qo s₁ (mkF m 102 #[.val (.int i1), .val (.int i2)] [])
                refine Go.of (fun t k => XS.iconst X0.here hx rfl (hb hby d5_102) k) ?_
                show Go p e below Qo s₁ (mkF m 103 #[.val (.int i1), .val (.int i2)] [(.int (1 : Int32))])
                refine Go.of (fun t k => XS.goto X0.here hx rfl (pc0 := 103) (pc' := 107) rfl (hb hby d5_103) (by decide) (by decide) k) ?_
                show Go p e below Qo s₁ (mkF m 107 #[.val (.int i1), .val (.int i2)] [(.int (1 : Int32))])
                exact own_retN X0 hx Bd.notSynchronized (t := .boolean) Bd.returns (by simp) (hb hby d5_107) (fun u hu hF => hQo _ _ _ ⟨by rw [show (F5 i1 i2) = nar .boolean (1 : Int32) from by rw [F5, if_neg hc3_1, if_neg hc33_5, if_neg hc51_7, if_neg hc69_9, if_neg hc87_11, if_pos hc93_13, if_pos hc99_14]], N0, by rw [hu, e0]⟩ (own_mono hF (by decide) (by decide)))
              · refine Go.of (fun t k => XS.icmpYes X0.here hx rfl (pc0 := 99) (pc' := 106) rfl (hb hby d5_99) rfl (feq hc99_14).2 (by decide) (by decide) k) ?_
                show Go p e below Qo s₁ (mkF m 106 #[.val (.int i1), .val (.int i2)] [])
                refine Go.of (fun t k => XS.iconst X0.here hx rfl (hb hby d5_106) k) ?_
                show Go p e below Qo s₁ (mkF m 107 #[.val (.int i1), .val (.int i2)] [(.int (0 : Int32))])
                exact own_retN X0 hx Bd.notSynchronized (t := .boolean) Bd.returns (by simp) (hb hby d5_107) (fun u hu hF => hQo _ _ _ ⟨by rw [show (F5 i1 i2) = nar .boolean (0 : Int32) from by rw [F5, if_neg hc3_1, if_neg hc33_5, if_neg hc51_7, if_neg hc69_9, if_neg hc87_11, if_pos hc93_13, if_neg hc99_14]], N0, by rw [hu, e0]⟩ (own_mono hF (by decide) (by decide)))
            · refine Go.of (fun t k => XS.icmpYes X0.here hx rfl (pc0 := 93) (pc' := 108) rfl (hb hby d5_93) rfl (feq hc93_13).2 (by decide) (by decide) k) ?_
              show Go p e below Qo s₁ (mkF m 108 #[.val (.int i1), .val (.int i2)] [])
              refine Go.of (fun t k => XS.iloadN X0.here hx rfl (hb hby d5_108) rfl  k) ?_
              show Go p e below Qo s₁ (mkF m 109 #[.val (.int i1), .val (.int i2)] [(.int i1)])
              refine Go.of (fun t k => XS.bipush X0.here hx rfl (hb hby d5_109) k) ?_
              show Go p e below Qo s₁ (mkF m 111 #[.val (.int i1), .val (.int i2)] [(.int (67 : Int32)), (.int i1)])
              by_cases hc111_15 : i1 = (67 : Int32)
              · refine Go.of (fun t k => XS.icmpYes X0.here hx rfl (pc0 := 111) (pc' := 126) rfl (hb hby d5_111) rfl (teq hc111_15).1 (by decide) (by decide) k) ?_
                show Go p e below Qo s₁ (mkF m 126 #[.val (.int i1), .val (.int i2)] [])
                refine Go.of (fun t k => XS.iloadN X0.here hx rfl (hb hby d5_126) rfl  k) ?_
                show Go p e below Qo s₁ (mkF m 127 #[.val (.int i1), .val (.int i2)] [(.int i2)])
                refine Go.of (fun t k => XS.bipush X0.here hx rfl (hb hby d5_127) k) ?_
                show Go p e below Qo s₁ (mkF m 129 #[.val (.int i1), .val (.int i2)] [(.int (69 : Int32)), (.int i2)])
                by_cases hc129_16 : i2 = (69 : Int32)
                · refine Go.of (fun t k => XS.icmpNo X0.here hx rfl (hb hby d5_129) rfl (teq hc129_16).2 k) ?_
                  show Go p e below Qo s₁ (mkF m 132 #[.val (.int i1), .val (.int i2)] [])
                  refine Go.of (fun t k => XS.iconst X0.here hx rfl (hb hby d5_132) k) ?_
                  show Go p e below Qo s₁ (mkF m 133 #[.val (.int i1), .val (.int i2)] [(.int (1 : Int32))])
                  refine Go.of (fun t k => XS.goto X0.here hx rfl (pc0 := 133) (pc' := 137) rfl (hb hby d5_133) (by decide) (by decide) k) ?_
                  show Go p e below Qo s₁ (mkF m 137 #[.val (.int i1), .val (.int i2)] [(.int (1 : Int32))])
                  exact own_retN X0 hx Bd.notSynchronized (t := .boolean) Bd.returns (by simp) (hb hby d5_137) (fun u hu hF => hQo _ _ _ ⟨by rw [show (F5 i1 i2) = nar .boolean (1 : Int32) from by rw [F5, if_neg hc3_1, if_neg hc33_5, if_neg hc51_7, if_neg hc69_9, if_neg hc87_11, if_neg hc93_13, if_pos hc111_15, if_pos hc129_16]], N0, by rw [hu, e0]⟩ (own_mono hF (by decide) (by decide)))
                · refine Go.of (fun t k => XS.icmpYes X0.here hx rfl (pc0 := 129) (pc' := 136) rfl (hb hby d5_129) rfl (feq hc129_16).2 (by decide) (by decide) k) ?_
                  show Go p e below Qo s₁ (mkF m 136 #[.val (.int i1), .val (.int i2)] [])
                  refine Go.of (fun t k => XS.iconst X0.here hx rfl (hb hby d5_136) k) ?_
                  show Go p e below Qo s₁ (mkF m 137 #[.val (.int i1), .val (.int i2)] [(.int (0 : Int32))])
                  exact own_retN X0 hx Bd.notSynchronized (t := .boolean) Bd.returns (by simp) (hb hby d5_137) (fun u hu hF => hQo _ _ _ ⟨by rw [show (F5 i1 i2) = nar .boolean (0 : Int32) from by rw [F5, if_neg hc3_1, if_neg hc33_5, if_neg hc51_7, if_neg hc69_9, if_neg hc87_11, if_neg hc93_13, if_pos hc111_15, if_neg hc129_16]], N0, by rw [hu, e0]⟩ (own_mono hF (by decide) (by decide)))
              · refine Go.of (fun t k => XS.icmpNo X0.here hx rfl (hb hby d5_111) rfl (feq hc111_15).1 k) ?_
                show Go p e below Qo s₁ (mkF m 114 #[.val (.int i1), .val (.int i2)] [])
                refine Go.of (fun t k => XS.iloadN X0.here hx rfl (hb hby d5_114) rfl  k) ?_
                show Go p e below Qo s₁ (mkF m 115 #[.val (.int i1), .val (.int i2)] [(.int i1)])
                refine Go.of (fun t k => XS.bipush X0.here hx rfl (hb hby d5_115) k) ?_
                show Go p e below Qo s₁ (mkF m 117 #[.val (.int i1), .val (.int i2)] [(.int (73 : Int32)), (.int i1)])
                by_cases hc117_17 : i1 = (73 : Int32)
                · refine Go.of (fun t k => XS.icmpYes X0.here hx rfl (pc0 := 117) (pc' := 126) rfl (hb hby d5_117) rfl (teq hc117_17).1 (by decide) (by decide) k) ?_
                  show Go p e below Qo s₁ (mkF m 126 #[.val (.int i1), .val (.int i2)] [])
                  refine Go.of (fun t k => XS.iloadN X0.here hx rfl (hb hby d5_126) rfl  k) ?_
                  show Go p e below Qo s₁ (mkF m 127 #[.val (.int i1), .val (.int i2)] [(.int i2)])
                  refine Go.of (fun t k => XS.bipush X0.here hx rfl (hb hby d5_127) k) ?_
                  show Go p e below Qo s₁ (mkF m 129 #[.val (.int i1), .val (.int i2)] [(.int (69 : Int32)), (.int i2)])
                  by_cases hc129_18 : i2 = (69 : Int32)
                  · refine Go.of (fun t k => XS.icmpNo X0.here hx rfl (hb hby d5_129) rfl (teq hc129_18).2 k) ?_
                    show Go p e below Qo s₁ (mkF m 132 #[.val (.int i1), .val (.int i2)] [])
                    refine Go.of (fun t k => XS.iconst X0.here hx rfl (hb hby d5_132) k) ?_
                    show Go p e below Qo s₁ (mkF m 133 #[.val (.int i1), .val (.int i2)] [(.int (1 : Int32))])
                    refine Go.of (fun t k => XS.goto X0.here hx rfl (pc0 := 133) (pc' := 137) rfl (hb hby d5_133) (by decide) (by decide) k) ?_
                    show Go p e below Qo s₁ (mkF m 137 #[.val (.int i1), .val (.int i2)] [(.int (1 : Int32))])
                    exact own_retN X0 hx Bd.notSynchronized (t := .boolean) Bd.returns (by simp) (hb hby d5_137) (fun u hu hF => hQo _ _ _ ⟨by rw [show (F5 i1 i2) = nar .boolean (1 : Int32) from by rw [F5, if_neg hc3_1, if_neg hc33_5, if_neg hc51_7, if_neg hc69_9, if_neg hc87_11, if_neg hc93_13, if_neg hc111_15, if_pos hc117_17, if_pos hc129_18]], N0, by rw [hu, e0]⟩ (own_mono hF (by decide) (by decide)))
                  · refine Go.of (fun t k => XS.icmpYes X0.here hx rfl (pc0 := 129) (pc' := 136) rfl (hb hby d5_129) rfl (feq hc129_18).2 (by decide) (by decide) k) ?_
                    show Go p e below Qo s₁ (mkF m 136 #[.val (.int i1), .val (.int i2)] [])
                    refine Go.of (fun t k => XS.iconst X0.here hx rfl (hb hby d5_136) k) ?_
                    show Go p e below Qo s₁ (mkF m 137 #[.val (.int i1), .val (.int i2)] [(.int (0 : Int32))])
                    exact own_retN X0 hx Bd.notSynchronized (t := .boolean) Bd.returns (by simp) (hb hby d5_137) (fun u hu hF => hQo _ _ _ ⟨by rw [show (F5 i1 i2) = nar .boolean (0 : Int32) from by rw [F5, if_neg hc3_1, if_neg hc33_5, if_neg hc51_7, if_neg hc69_9, if_neg hc87_11, if_neg hc93_13, if_neg hc111_15, if_pos hc117_17, if_neg hc129_18]], N0, by rw [hu, e0]⟩ (own_mono hF (by decide) (by decide)))
                · refine Go.of (fun t k => XS.icmpNo X0.here hx rfl (hb hby d5_117) rfl (feq hc117_17).1 k) ?_
                  show Go p e below Qo s₁ (mkF m 120 #[.val (.int i1), .val (.int i2)] [])
                  refine Go.of (fun t k => XS.iloadN X0.here hx rfl (hb hby d5_120) rfl  k) ?_
                  show Go p e below Qo s₁ (mkF m 121 #[.val (.int i1), .val (.int i2)] [(.int i1)])
                  refine Go.of (fun t k => XS.bipush X0.here hx rfl (hb hby d5_121) k) ?_
                  show Go p e below Qo s₁ (mkF m 123 #[.val (.int i1), .val (.int i2)] [(.int (115 : Int32)), (.int i1)])
                  by_cases hc123_19 : i1 = (115 : Int32)
                  · refine Go.of (fun t k => XS.icmpNo X0.here hx rfl (hb hby d5_123) rfl (teq hc123_19).2 k) ?_
                    show Go p e below Qo s₁ (mkF m 126 #[.val (.int i1), .val (.int i2)] [])
                    refine Go.of (fun t k => XS.iloadN X0.here hx rfl (hb hby d5_126) rfl  k) ?_
                    show Go p e below Qo s₁ (mkF m 127 #[.val (.int i1), .val (.int i2)] [(.int i2)])
                    refine Go.of (fun t k => XS.bipush X0.here hx rfl (hb hby d5_127) k) ?_
                    show Go p e below Qo s₁ (mkF m 129 #[.val (.int i1), .val (.int i2)] [(.int (69 : Int32)), (.int i2)])
                    by_cases hc129_20 : i2 = (69 : Int32)
                    · refine Go.of (fun t k => XS.icmpNo X0.here hx rfl (hb hby d5_129) rfl (teq hc129_20).2 k) ?_
                      show Go p e below Qo s₁ (mkF m 132 #[.val (.int i1), .val (.int i2)] [])
                      refine Go.of (fun t k => XS.iconst X0.here hx rfl (hb hby d5_132) k) ?_
                      show Go p e below Qo s₁ (mkF m 133 #[.val (.int i1), .val (.int i2)] [(.int (1 : Int32))])
                      refine Go.of (fun t k => XS.goto X0.here hx rfl (pc0 := 133) (pc' := 137) rfl (hb hby d5_133) (by decide) (by decide) k) ?_
                      show Go p e below Qo s₁ (mkF m 137 #[.val (.int i1), .val (.int i2)] [(.int (1 : Int32))])
                      exact own_retN X0 hx Bd.notSynchronized (t := .boolean) Bd.returns (by simp) (hb hby d5_137) (fun u hu hF => hQo _ _ _ ⟨by rw [show (F5 i1 i2) = nar .boolean (1 : Int32) from by rw [F5, if_neg hc3_1, if_neg hc33_5, if_neg hc51_7, if_neg hc69_9, if_neg hc87_11, if_neg hc93_13, if_neg hc111_15, if_neg hc117_17, if_pos hc123_19, if_pos hc129_20]], N0, by rw [hu, e0]⟩ (own_mono hF (by decide) (by decide)))
                    · refine Go.of (fun t k => XS.icmpYes X0.here hx rfl (pc0 := 129) (pc' := 136) rfl (hb hby d5_129) rfl (feq hc129_20).2 (by decide) (by decide) k) ?_
                      show Go p e below Qo s₁ (mkF m 136 #[.val (.int i1), .val (.int i2)] [])
                      refine Go.of (fun t k => XS.iconst X0.here hx rfl (hb hby d5_136) k) ?_
                      show Go p e below Qo s₁ (mkF m 137 #[.val (.int i1), .val (.int i2)] [(.int (0 : Int32))])
                      exact own_retN X0 hx Bd.notSynchronized (t := .boolean) Bd.returns (by simp) (hb hby d5_137) (fun u hu hF => hQo _ _ _ ⟨by rw [show (F5 i1 i2) = nar .boolean (0 : Int32) from by rw [F5, if_neg hc3_1, if_neg hc33_5, if_neg hc51_7, if_neg hc69_9, if_neg hc87_11, if_neg hc93_13, if_neg hc111_15, if_neg hc117_17, if_pos hc123_19, if_neg hc129_20]], N0, by rw [hu, e0]⟩ (own_mono hF (by decide) (by decide)))
                  · refine Go.of (fun t k => XS.icmpYes X0.here hx rfl (pc0 := 123) (pc' := 138) rfl (hb hby d5_123) rfl (feq hc123_19).2 (by decide) (by decide) k) ?_
                    show Go p e below Qo s₁ (mkF m 138 #[.val (.int i1), .val (.int i2)] [])
                    refine Go.of (fun t k => XS.iconst X0.here hx rfl (hb hby d5_138) k) ?_
                    show Go p e below Qo s₁ (mkF m 139 #[.val (.int i1), .val (.int i2)] [(.int (0 : Int32))])
                    exact own_retN X0 hx Bd.notSynchronized (t := .boolean) Bd.returns (by simp) (hb hby d5_139) (fun u hu hF => hQo _ _ _ ⟨by rw [show (F5 i1 i2) = nar .boolean (0 : Int32) from by rw [F5, if_neg hc3_1, if_neg hc33_5, if_neg hc51_7, if_neg hc69_9, if_neg hc87_11, if_neg hc93_13, if_neg hc111_15, if_neg hc117_17, if_neg hc123_19]], N0, by rw [hu, e0]⟩ (own_mono hF (by decide) (by decide)))
theorem own_nn (z : Int32) : nar .char (nar .char z) = nar .char z := by simp only [nar, UInt32.toUInt32_toInt32, UInt16.toUInt16_toUInt32]
theorem own_r0 (t r : Int32) (k66 : ¬ r = 66) (k67 : ¬ r = 67) (k68 : ¬ r = 68) (k69 : ¬ r = 69) (k70 : ¬ r = 70) (k71 : ¬ r = 71) (k72 : ¬ r = 72) (k73 : ¬ r = 73) (k74 : ¬ r = 74) (k75 : ¬ r = 75) (k76 : ¬ r = 76) (k77 : ¬ r = 77) (k78 : ¬ r = 78) (k79 : ¬ r = 79) (k80 : ¬ r = 80) (k81 : ¬ r = 81) (k82 : ¬ r = 82) (k83 : ¬ r = 83) : F4 r t = F5 t r := by
  unfold F4 F5
  simp only [k66, k67, k68, k69, k70, k71, k72, k73, k74, k75, k76, k77, k78, k79, k80, k81, k82, k83, if_false, ite_self]
theorem own_t0 (t r : Int32) (m90 : ¬ t = 90) (m49 : ¬ t = 49) (m50 : ¬ t = 50) (m51 : ¬ t = 51) (m84 : ¬ t = 84) (m110 : ¬ t = 110) (m67 : ¬ t = 67) (m73 : ¬ t = 73) (m115 : ¬ t = 115) : F4 r t = F5 t r := by
  unfold F4 F5
  simp only [m90, m49, m50, m51, m84, m110, m67, m73, m115, if_false, ite_self]
theorem own_rt (t r : Int32) (ht : t = 90 ∨ t = 49 ∨ t = 50 ∨ t = 51 ∨ t = 84 ∨ t = 110 ∨ t = 67 ∨ t = 73 ∨ t = 115) (hr : r = 66 ∨ r = 67 ∨ r = 68 ∨ r = 69 ∨ r = 70 ∨ r = 71 ∨ r = 72 ∨ r = 73 ∨ r = 74 ∨ r = 75 ∨ r = 76 ∨ r = 77 ∨ r = 78 ∨ r = 79 ∨ r = 80 ∨ r = 81 ∨ r = 82 ∨ r = 83) : F4 r t = F5 t r := by
  rcases ht with rfl | rfl | rfl | rfl | rfl | rfl | rfl | rfl | rfl
  all_goals (rcases hr with rfl | rfl | rfl | rfl | rfl | rfl | rfl | rfl | rfl | rfl | rfl | rfl | rfl | rfl | rfl | rfl | rfl | rfl <;> decide)
theorem own_law (t r : Int32) : F4 r t = F5 t r := by
  by_cases m90 : t = 90
  · by_cases hr : r = 66 ∨ r = 67 ∨ r = 68 ∨ r = 69 ∨ r = 70 ∨ r = 71 ∨ r = 72 ∨ r = 73 ∨ r = 74 ∨ r = 75 ∨ r = 76 ∨ r = 77 ∨ r = 78 ∨ r = 79 ∨ r = 80 ∨ r = 81 ∨ r = 82 ∨ r = 83
    · exact own_rt t r (by simp [m90]) hr
    · simp only [not_or] at hr
      obtain ⟨k66, k67, k68, k69, k70, k71, k72, k73, k74, k75, k76, k77, k78, k79, k80, k81, k82, k83⟩ := hr
      exact own_r0 t r k66 k67 k68 k69 k70 k71 k72 k73 k74 k75 k76 k77 k78 k79 k80 k81 k82 k83
  by_cases m49 : t = 49
  · by_cases hr : r = 66 ∨ r = 67 ∨ r = 68 ∨ r = 69 ∨ r = 70 ∨ r = 71 ∨ r = 72 ∨ r = 73 ∨ r = 74 ∨ r = 75 ∨ r = 76 ∨ r = 77 ∨ r = 78 ∨ r = 79 ∨ r = 80 ∨ r = 81 ∨ r = 82 ∨ r = 83
    · exact own_rt t r (by simp [m49]) hr
    · simp only [not_or] at hr
      obtain ⟨k66, k67, k68, k69, k70, k71, k72, k73, k74, k75, k76, k77, k78, k79, k80, k81, k82, k83⟩ := hr
      exact own_r0 t r k66 k67 k68 k69 k70 k71 k72 k73 k74 k75 k76 k77 k78 k79 k80 k81 k82 k83
  by_cases m50 : t = 50
  · by_cases hr : r = 66 ∨ r = 67 ∨ r = 68 ∨ r = 69 ∨ r = 70 ∨ r = 71 ∨ r = 72 ∨ r = 73 ∨ r = 74 ∨ r = 75 ∨ r = 76 ∨ r = 77 ∨ r = 78 ∨ r = 79 ∨ r = 80 ∨ r = 81 ∨ r = 82 ∨ r = 83
    · exact own_rt t r (by simp [m50]) hr
    · simp only [not_or] at hr
      obtain ⟨k66, k67, k68, k69, k70, k71, k72, k73, k74, k75, k76, k77, k78, k79, k80, k81, k82, k83⟩ := hr
      exact own_r0 t r k66 k67 k68 k69 k70 k71 k72 k73 k74 k75 k76 k77 k78 k79 k80 k81 k82 k83
  by_cases m51 : t = 51
  · by_cases hr : r = 66 ∨ r = 67 ∨ r = 68 ∨ r = 69 ∨ r = 70 ∨ r = 71 ∨ r = 72 ∨ r = 73 ∨ r = 74 ∨ r = 75 ∨ r = 76 ∨ r = 77 ∨ r = 78 ∨ r = 79 ∨ r = 80 ∨ r = 81 ∨ r = 82 ∨ r = 83
    · exact own_rt t r (by simp [m51]) hr
    · simp only [not_or] at hr
      obtain ⟨k66, k67, k68, k69, k70, k71, k72, k73, k74, k75, k76, k77, k78, k79, k80, k81, k82, k83⟩ := hr
      exact own_r0 t r k66 k67 k68 k69 k70 k71 k72 k73 k74 k75 k76 k77 k78 k79 k80 k81 k82 k83
  by_cases m84 : t = 84
  · by_cases hr : r = 66 ∨ r = 67 ∨ r = 68 ∨ r = 69 ∨ r = 70 ∨ r = 71 ∨ r = 72 ∨ r = 73 ∨ r = 74 ∨ r = 75 ∨ r = 76 ∨ r = 77 ∨ r = 78 ∨ r = 79 ∨ r = 80 ∨ r = 81 ∨ r = 82 ∨ r = 83
    · exact own_rt t r (by simp [m84]) hr
    · simp only [not_or] at hr
      obtain ⟨k66, k67, k68, k69, k70, k71, k72, k73, k74, k75, k76, k77, k78, k79, k80, k81, k82, k83⟩ := hr
      exact own_r0 t r k66 k67 k68 k69 k70 k71 k72 k73 k74 k75 k76 k77 k78 k79 k80 k81 k82 k83
  by_cases m110 : t = 110
  · by_cases hr : r = 66 ∨ r = 67 ∨ r = 68 ∨ r = 69 ∨ r = 70 ∨ r = 71 ∨ r = 72 ∨ r = 73 ∨ r = 74 ∨ r = 75 ∨ r = 76 ∨ r = 77 ∨ r = 78 ∨ r = 79 ∨ r = 80 ∨ r = 81 ∨ r = 82 ∨ r = 83
    · exact own_rt t r (by simp [m110]) hr
    · simp only [not_or] at hr
      obtain ⟨k66, k67, k68, k69, k70, k71, k72, k73, k74, k75, k76, k77, k78, k79, k80, k81, k82, k83⟩ := hr
      exact own_r0 t r k66 k67 k68 k69 k70 k71 k72 k73 k74 k75 k76 k77 k78 k79 k80 k81 k82 k83
  by_cases m67 : t = 67
  · by_cases hr : r = 66 ∨ r = 67 ∨ r = 68 ∨ r = 69 ∨ r = 70 ∨ r = 71 ∨ r = 72 ∨ r = 73 ∨ r = 74 ∨ r = 75 ∨ r = 76 ∨ r = 77 ∨ r = 78 ∨ r = 79 ∨ r = 80 ∨ r = 81 ∨ r = 82 ∨ r = 83
    · exact own_rt t r (by simp [m67]) hr
    · simp only [not_or] at hr
      obtain ⟨k66, k67, k68, k69, k70, k71, k72, k73, k74, k75, k76, k77, k78, k79, k80, k81, k82, k83⟩ := hr
      exact own_r0 t r k66 k67 k68 k69 k70 k71 k72 k73 k74 k75 k76 k77 k78 k79 k80 k81 k82 k83
  by_cases m73 : t = 73
  · by_cases hr : r = 66 ∨ r = 67 ∨ r = 68 ∨ r = 69 ∨ r = 70 ∨ r = 71 ∨ r = 72 ∨ r = 73 ∨ r = 74 ∨ r = 75 ∨ r = 76 ∨ r = 77 ∨ r = 78 ∨ r = 79 ∨ r = 80 ∨ r = 81 ∨ r = 82 ∨ r = 83
    · exact own_rt t r (by simp [m73]) hr
    · simp only [not_or] at hr
      obtain ⟨k66, k67, k68, k69, k70, k71, k72, k73, k74, k75, k76, k77, k78, k79, k80, k81, k82, k83⟩ := hr
      exact own_r0 t r k66 k67 k68 k69 k70 k71 k72 k73 k74 k75 k76 k77 k78 k79 k80 k81 k82 k83
  by_cases m115 : t = 115
  · by_cases hr : r = 66 ∨ r = 67 ∨ r = 68 ∨ r = 69 ∨ r = 70 ∨ r = 71 ∨ r = 72 ∨ r = 73 ∨ r = 74 ∨ r = 75 ∨ r = 76 ∨ r = 77 ∨ r = 78 ∨ r = 79 ∨ r = 80 ∨ r = 81 ∨ r = 82 ∨ r = 83
    · exact own_rt t r (by simp [m115]) hr
    · simp only [not_or] at hr
      obtain ⟨k66, k67, k68, k69, k70, k71, k72, k73, k74, k75, k76, k77, k78, k79, k80, k81, k82, k83⟩ := hr
      exact own_r0 t r k66 k67 k68 k69 k70 k71 k72 k73 k74 k75 k76 k77 k78 k79 k80 k81 k82 k83
  exact own_t0 t r m90 m49 m50 m51 m84 m110 m67 m73 m115
theorem pd_0 : parseMethodDescriptor "(I)C" = some ⟨[.int], some .char⟩ := by decide +kernel
theorem pd_1 : parseMethodDescriptor "(C[B)V" = some ⟨[.char, (.array .byte)], none⟩ := by decide +kernel
theorem pd_2 : parseMethodDescriptor "(C)Z" = some ⟨[.char], some .boolean⟩ := by decide +kernel
theorem pd_3 : parseMethodDescriptor "(CC)Z" = some ⟨[.char, .char], some .boolean⟩ := by decide +kernel
theorem ef_0 (m : MethodId) (i1 : Int32) (i2 : Int32)  : entryFrame m #[(.int i1), (.int i2)] maxLocals = mkF m 0 #[.val (.int i1), .val (.int i2), .unset, .unset, .unset] [] := by
  first | (simp [entryFrame, mkF, argsToLocals, Value.category, maxLocals]; done) | rfl
def Q0 (Z : State) (i1 : Int32) (i2 : Int32) (h0 : Heap) (n0 : Nat) (v : Option Value) (h : Heap) (L : List Loc) : Prop := v = some (.int 1) ∧ Fr n0 L
set_option maxRecDepth 65536 in
set_option maxHeartbeats 40000000 in
theorem rm0 (l : Launch) (Z : State) (a0 : Array Value) (hw : ∀ d ∈ tables_1, d.before a0 Z = true) (ws : List Jvm.Cond) (i1 : Int32) (i2 : Int32) (h0 : Heap) (n0 : Nat) (Z0 : n0 ≤ h0.size)  :
    MetFree l x (head1 (Jvm.Cond.code x code maxLocals ret :: ws) room_1) (fun a U => a = #[(.int i1), (.int i2)] ∧ Z.Warmed39 U.vm ∧ U.heap = h0) (fun _ _ _ _ _ => True) (fun _ U o U' => ∃ v L, o = .returned v ∧ Q0 Z i1 i2 h0 n0 v U'.heap L ∧ FrameEnd U o U' L 4 50) := by
  refine MetFree.of_bodySF (plainFor_of_name pn_0) hisR ?_
  intro p e s m args below meth c s₁ Bd hml0 hP hK
  obtain ⟨rfl, hZ, hh⟩ := hP
  have hx := Bd.exec
  have hby := Bd.bytes
  have hml : c.maxLocals = 5 := hml0
  have hown : s.vm.findClass "com/example/lockstep/lockstep/protocol/PgMessageEndsAnswerToPinLaw" = some m.cls := findClass_of_methodNamed Bd.named
  have hnm := (name_of_methodNamed Bd.named Bd.method).1
  have X0 : Stand p l e room_1 s m #[(.int i1), (.int i2)] below meth c s₁ [] 0 0 := Stand.of_body Bd
  have e0 : s₁.heap = h0 := by rw [← hh, Bd.state]; rfl
  have N0 := Fr.nil n0
  suffices H : ∀ Qo : Outcome → State → Prop, (∀ (v : Option Value) (u : State) (L : List Loc), Q0 Z i1 i2 h0 n0 v u.heap L → FrameEnd s (.returned v) u L 4 50 → Qo (.returned v) u) → Go p e below Qo s₁ (mkF m 0 #[.val (.int i1), .val (.int i2), .unset, .unset, .unset] []) from
    Go.cast (ef_0 m i1 i2) (H _ fun v u L h1 h2 => ⟨v, L, rfl, h1, h2⟩)
  intro Qo hQo
  show Go p e below Qo s₁ (mkF m 0 #[.val (.int i1), .val (.int i2), .unset, .unset, .unset] [])
  refine Go.of (fun t k => XS.iloadN X0.here hx rfl (hb hby at_0) rfl  k) ?_
  show Go p e below Qo s₁ (mkF m 1 #[.val (.int i1), .val (.int i2), .unset, .unset, .unset] [(.int i1)])
  obtain ⟨_, _, ⟨T1, L1, k1, n1⟩, -, X1, ⟨Lc1, hQ1, l1, y1, z1⟩, st1⟩ := Jvm.LawKit.callS X0 hx (y := (⟨"com/example/lockstep/lockstep/protocol/PgMessageEndsAnswerToPinLaw", "pick", "(I)C"⟩ : MethodName)) hown (mvT hZ (hw _ (List.mem_of_getElem? (i := 0) rfl))) (mvT hZ (hw _ (List.mem_of_getElem? (i := 1) rfl))) (mvT hZ (hw _ (List.mem_of_getElem? (i := 2) rfl))) (mvT hZ (hw _ (List.mem_of_getElem? (i := 3) rfl))) (by decide) (backOf (W := 0) (rm1 l Z a0 hw [] i1 h0 n0 Z0 ) hZ (hw _ (List.mem_of_getElem? (i := 3) rfl)) (hw _ (List.mem_of_getElem? (i := 2) rfl)) (by decide) (by decide)) (g := (mkF m 1 #[.val (.int i1), .val (.int i2), .unset, .unset, .unset] [(.int i1)])) rfl (by rw [hml]; rfl) (argsL := [(.int i1)]) (rest := []) (lenOf pd_0 rfl) rfl (by show 2 * 0 + _ ≤ _; exact Nat.le_of_eq rfl) (hb hby at_1) (fun _ _ => ⟨rfl, e0, (by decide : 0 + 1 ≤ _), (by decide : 0 + 24 ≤ _)⟩)
  dsimp only [Pt.U, Pt.locs, Pt.cells, Pt.slots] at X1 l1 y1 z1 st1 hQ1
  subst l1 y1 z1
  obtain ⟨x3, rfl, N2, Kc4⟩ := hQ1
  have N5 := Fr.app N0 N2
  have Z6 : n0 ≤ T1.heap.size := Nat.le_trans Z0 Kc4.1
  refine Go.of st1 ?_
  show Go p e below Qo T1 (mkF m 4 #[.val (.int i1), .val (.int i2), .unset, .unset, .unset] [(.int (nar .char x3))])
  refine Go.of (fun t k => XS.istoreN X1.here hx rfl (hb hby at_4) rfl (l' := #[.val (.int i1), .val (.int i2), .val (.int (nar .char x3)), .unset, .unset]) rfl k) ?_
  show Go p e below Qo T1 (mkF m 5 #[.val (.int i1), .val (.int i2), .val (.int (nar .char x3)), .unset, .unset] [])
  refine Go.of (fun t k => XS.iloadN X1.here hx rfl (hb hby at_5) rfl  k) ?_
  show Go p e below Qo T1 (mkF m 6 #[.val (.int i1), .val (.int i2), .val (.int (nar .char x3)), .unset, .unset] [(.int i2)])
  obtain ⟨_, _, ⟨T7, L7, k7, n7⟩, -, X7, ⟨Lc7, hQ7, l7, y7, z7⟩, st7⟩ := Jvm.LawKit.callS X1 hx (y := (⟨"com/example/lockstep/lockstep/protocol/PgMessageEndsAnswerToPinLaw", "pick", "(I)C"⟩ : MethodName)) hown (mvT hZ (hw _ (List.mem_of_getElem? (i := 0) rfl))) (mvT hZ (hw _ (List.mem_of_getElem? (i := 1) rfl))) (mvT hZ (hw _ (List.mem_of_getElem? (i := 2) rfl))) (mvT hZ (hw _ (List.mem_of_getElem? (i := 3) rfl))) (by decide) (backOf (W := 0) (rm1 l Z a0 hw [] i2 T1.heap n0 Z6 ) hZ (hw _ (List.mem_of_getElem? (i := 3) rfl)) (hw _ (List.mem_of_getElem? (i := 2) rfl)) (by decide) (by decide)) (g := (mkF m 6 #[.val (.int i1), .val (.int i2), .val (.int (nar .char x3)), .unset, .unset] [(.int i2)])) rfl (by rw [hml]; rfl) (argsL := [(.int i2)]) (rest := []) (lenOf pd_0 rfl) rfl (by show 2 * 0 + _ ≤ _; exact Nat.le_of_eq rfl) (hb hby at_6) (fun _ _ => ⟨rfl, rfl, (by decide : 1 + 1 ≤ _), (by decide : 24 + 24 ≤ _)⟩)
  dsimp only [Pt.U, Pt.locs, Pt.cells, Pt.slots] at X7 l7 y7 z7 st7 hQ7
  subst l7 y7 z7
  obtain ⟨x9, rfl, N8, Kc10⟩ := hQ7
  have N11 := Fr.app N5 N8
  have Z12 : n0 ≤ T7.heap.size := Nat.le_trans Z6 Kc10.1
  refine Go.of st7 ?_
  show Go p e below Qo T7 (mkF m 9 #[.val (.int i1), .val (.int i2), .val (.int (nar .char x3)), .unset, .unset] [(.int (nar .char x9))])
  refine Go.of (fun t k => XS.istoreN X7.here hx rfl (hb hby at_9) rfl (l' := #[.val (.int i1), .val (.int i2), .val (.int (nar .char x3)), .val (.int (nar .char x9)), .unset]) rfl k) ?_
  show Go p e below Qo T7 (mkF m 10 #[.val (.int i1), .val (.int i2), .val (.int (nar .char x3)), .val (.int (nar .char x9)), .unset] [])
  obtain ⟨T13, h13, X13, e13, E13, A13, D13, -, st13⟩ := newO X7 hx hZ hown (hw _ (List.mem_of_getElem? (i := 5) rfl)) (hw _ (List.mem_of_getElem? (i := 6) rfl)) (hw _ (List.mem_of_getElem? (i := 7) rfl)) rfl (g := (mkF m 10 #[.val (.int i1), .val (.int i2), .val (.int (nar .char x3)), .val (.int (nar .char x9)), .unset] [])) rfl (hb hby at_10) (by decide) (by decide)
  obtain ⟨b13, g13⟩ : ∃ z, z = T7.heap.size := ⟨_, rfl⟩
  rw [← g13] at A13 D13 st13
  have g14 : n0 ≤ b13 := Nat.le_trans Z12 (Nat.le_of_eq g13.symm)
  have Z15 : n0 ≤ h13.size := Nat.le_trans Z12 E13.1
  have q16 : Fld Z h13 b13 "com/example/lockstep/lockstep/protocol/PgMessage" "type" "C" (.int (0 : Int32)) := D13 (Or.inr (hw _ (List.mem_of_getElem? (i := 16) rfl))) (ty := .char) (by decide)
  have q17 : Fld Z h13 b13 "com/example/lockstep/lockstep/protocol/PgMessage" "body" "[B" .null := D13 (Or.inr (hw _ (List.mem_of_getElem? (i := 18) rfl))) (ty := (.array .byte)) (by decide)
  refine Go.of st13 ?_
  show Go p e below Qo T13 (mkF m 13 #[.val (.int i1), .val (.int i2), .val (.int (nar .char x3)), .val (.int (nar .char x9)), .unset] [(.ref b13)])
  refine Go.of (fun t k => XS.dup X13.here hx rfl (hb hby at_13) rfl rfl k) ?_
  show Go p e below Qo T13 (mkF m 14 #[.val (.int i1), .val (.int i2), .val (.int (nar .char x3)), .val (.int (nar .char x9)), .unset] [(.ref b13), (.ref b13)])
  refine Go.of (fun t k => XS.iloadN X13.here hx rfl (hb hby at_14) rfl  k) ?_
  show Go p e below Qo T13 (mkF m 15 #[.val (.int i1), .val (.int i2), .val (.int (nar .char x3)), .val (.int (nar .char x9)), .unset] [(.int (nar .char x3)), (.ref b13), (.ref b13)])
  refine Go.of (fun t k => XS.iconst X13.here hx rfl (hb hby at_15) k) ?_
  show Go p e below Qo T13 (mkF m 16 #[.val (.int i1), .val (.int i2), .val (.int (nar .char x3)), .val (.int (nar .char x9)), .unset] [(.int (0 : Int32)), (.int (nar .char x3)), (.ref b13), (.ref b13)])
  obtain ⟨T18, h18, k18, X18, e18, E18, A18, st18⟩ := newP X13 hx hZ (hw _ (List.mem_of_getElem? (i := 8) rfl)) e13 (g := (mkF m 16 #[.val (.int i1), .val (.int i2), .val (.int (nar .char x3)), .val (.int (nar .char x9)), .unset] [(.int (0 : Int32)), (.int (nar .char x3)), (.ref b13), (.ref b13)])) rfl (hb hby at_16) rfl (by decide) (cap := 0) (by decide) (by decide) (by decide) (by decide)
  obtain ⟨b18, g18⟩ : ∃ z, z = h13.size := ⟨_, rfl⟩
  rw [← g18] at A18 st18
  have ne19 : b13 ≠ b18 := Nat.ne_of_lt (Nat.lt_of_lt_of_le A13.lt (Nat.le_of_eq g18.symm))
  have g20 : n0 ≤ b18 := Nat.le_trans Z15 (Nat.le_of_eq g18.symm)
  have q21 : Exa Z h18 b13 "com/example/lockstep/lockstep/protocol/PgMessage" := A13.ext E18
  have q22 : Fld Z h18 b13 "com/example/lockstep/lockstep/protocol/PgMessage" "type" "C" (.int (0 : Int32)) := q16.ext E18
  have q23 : Fld Z h18 b13 "com/example/lockstep/lockstep/protocol/PgMessage" "body" "[B" .null := q17.ext E18
  have Z24 : n0 ≤ h18.size := Nat.le_trans Z15 E18.1
  have q25 : Arv Z h18 b18 k18 .byte (0 : Int32) [] (.int (0 : Int32)) := (Arv.new A18 (by decide)).pad (pad_rep [] (.int (0 : Int32)) 0)
  refine Go.of st18 ?_
  show Go p e below Qo T18 (mkF m 18 #[.val (.int i1), .val (.int i2), .val (.int (nar .char x3)), .val (.int (nar .char x9)), .unset] [(.ref b18), (.int (nar .char x3)), (.ref b13), (.ref b13)])
  obtain ⟨_, _, ⟨T26, L26, k26, n26⟩, -, X26, ⟨Lc26, hQ26, l26, y26, z26⟩, st26⟩ := X18.specialBack hx (y := (⟨"com/example/lockstep/lockstep/protocol/PgMessage", "<init>", "(C[B)V"⟩ : MethodName)) rfl hown (mvT hZ (hw _ (List.mem_of_getElem? (i := 9) rfl))) (mvT hZ (hw _ (List.mem_of_getElem? (i := 10) rfl))) (mvT hZ (hw _ (List.mem_of_getElem? (i := 11) rfl))) (by decide) (backOf (W := 1) (rm2 l Z a0 hw [] b13 (nar .char x3) b18 (.int (0 : Int32)) .null h18 n0 Z24 q21 q22 q23 g14) hZ (hw _ (List.mem_of_getElem? (i := 11) rfl)) (hw _ (List.mem_of_getElem? (i := 7) rfl)) (by decide) (by decide)) (g := (mkF m 18 #[.val (.int i1), .val (.int i2), .val (.int (nar .char x3)), .val (.int (nar .char x9)), .unset] [(.ref b18), (.int (nar .char x3)), (.ref b13), (.ref b13)])) rfl (by rw [hml]; rfl) (Steps.refl _) (a := b13) (argsL := [(.int (nar .char x3)), (.ref b18)]) (rest := [(.ref b13)]) (lenOf pd_1 rfl) rfl (by show 2 * 0 + _ ≤ _; exact Nat.le_of_eq rfl) (hb hby at_18) (fun _ _ => ⟨rfl, e18, (by decide : 4 + 0 ≤ _), (by decide : 50 + 0 ≤ _)⟩)
  dsimp only [Pt.U, Pt.locs, Pt.cells, Pt.slots] at X26 l26 y26 z26 st26 hQ26
  subst l26 y26 z26
  obtain ⟨rfl, N27, Kc28, q29, q30, q31⟩ := hQ26
  have N32 := Fr.app N11 N27
  have q33 : Arv Z T26.heap b18 k18 .byte (0 : Int32) [] (.int (0 : Int32)) := q25.keep Kc28 (ninS (Ne.symm ne19) nin0)
  have Z34 : n0 ≤ T26.heap.size := Nat.le_trans Z24 Kc28.1
  refine Go.via st26 ?_
  show Go p e below Qo T26 (mkF m 21 #[.val (.int i1), .val (.int i2), .val (.int (nar .char x3)), .val (.int (nar .char x9)), .unset] [(.ref b13)])
  refine Go.of (fun t k => XS.astore X26.here hx rfl (hb hby at_21) rfl rfl (l' := #[.val (.int i1), .val (.int i2), .val (.int (nar .char x3)), .val (.int (nar .char x9)), .val (.ref b13)]) rfl k) ?_
  show Go p e below Qo T26 (mkF m 23 #[.val (.int i1), .val (.int i2), .val (.int (nar .char x3)), .val (.int (nar .char x9)), .val (.ref b13)] [])
  refine Go.of (fun t k => XS.aload X26.here hx rfl (hb hby at_23) rfl rfl k) ?_
  show Go p e below Qo T26 (mkF m 25 #[.val (.int i1), .val (.int i2), .val (.int (nar .char x3)), .val (.int (nar .char x9)), .val (.ref b13)] [(.ref b13)])
  refine Go.of (fun t k => XS.iloadN X26.here hx rfl (hb hby at_25) rfl  k) ?_
  show Go p e below Qo T26 (mkF m 26 #[.val (.int i1), .val (.int i2), .val (.int (nar .char x3)), .val (.int (nar .char x9)), .val (.ref b13)] [(.int (nar .char x9)), (.ref b13)])
  obtain ⟨ciq36, kiq36, iq36a, iq36b, iq36c⟩ := isOf hZ rfl q29
  obtain ⟨_, _, ⟨T35, L35, k35, n35⟩, -, X35, ⟨Lc35, hQ35, l35, y35, z35⟩, st35⟩ := X26.virtualBack hx (y := (⟨"com/example/lockstep/lockstep/protocol/PgMessage", "endsAnswerTo", "(C)Z"⟩ : MethodName)) (z := (⟨"com/example/lockstep/lockstep/protocol/PgMessage", "endsAnswerTo", "(C)Z"⟩ : MethodName)) hown (mvT hZ (hw _ (List.mem_of_getElem? (i := 19) rfl))) (mvT hZ (hw _ (List.mem_of_getElem? (i := 20) rfl))) (notFace_of_selects (args := #[]) (mvT hZ (hw _ (List.mem_of_getElem? (i := 22) rfl)))) (mvT hZ (hw _ (List.mem_of_getElem? (i := 22) rfl))) (mvT hZ (hw _ (List.mem_of_getElem? (i := 21) rfl))) (by decide) (backOf (W := 0) (rm4 l Z a0 hw [] b13 (nar .char x9) (nar .char (nar .char x3)) T26.heap n0 Z34 q30) hZ (hw _ (List.mem_of_getElem? (i := 23) rfl)) (hw _ (List.mem_of_getElem? (i := 7) rfl)) (by decide) (by decide)) iq36a iq36c (g := (mkF m 26 #[.val (.int i1), .val (.int i2), .val (.int (nar .char x3)), .val (.int (nar .char x9)), .val (.ref b13)] [(.int (nar .char x9)), (.ref b13)])) rfl (by rw [hml]; rfl) (Steps.refl _) (argsL := [(.int (nar .char x9))]) (rest := []) (lenOf pd_2 rfl) rfl (by show 2 * 0 + _ ≤ _; exact Nat.le_of_eq rfl) (hb hby at_26) (fun _ _ => ⟨rfl, rfl, (by decide : 4 + 0 ≤ _), (by decide : 50 + 0 ≤ _)⟩)
  dsimp only [Pt.U, Pt.locs, Pt.cells, Pt.slots] at X35 l35 y35 z35 st35 hQ35
  subst l35 y35 z35
  obtain ⟨rfl, N37, eh38⟩ := hQ35
  have N39 := Fr.app N32 N37
  refine Go.via st35 ?_
  show Go p e below Qo T35 (mkF m 29 #[.val (.int i1), .val (.int i2), .val (.int (nar .char x3)), .val (.int (nar .char x9)), .val (.ref b13)] [(.int (F4 (nar .char x9) (nar .char (nar .char x3))))])
  refine Go.of (fun t k => XS.iloadN X35.here hx rfl (hb hby at_29) rfl  k) ?_
  show Go p e below Qo T35 (mkF m 30 #[.val (.int i1), .val (.int i2), .val (.int (nar .char x3)), .val (.int (nar .char x9)), .val (.ref b13)] [(.int (nar .char x3)), (.int (F4 (nar .char x9) (nar .char (nar .char x3))))])
  refine Go.of (fun t k => XS.iloadN X35.here hx rfl (hb hby at_30) rfl  k) ?_
  show Go p e below Qo T35 (mkF m 31 #[.val (.int i1), .val (.int i2), .val (.int (nar .char x3)), .val (.int (nar .char x9)), .val (.ref b13)] [(.int (nar .char x9)), (.int (nar .char x3)), (.int (F4 (nar .char x9) (nar .char (nar .char x3))))])
  obtain ⟨_, _, ⟨T40, L40, k40, n40⟩, -, X40, ⟨Lc40, hQ40, l40, y40, z40⟩, st40⟩ := Jvm.LawKit.callS X35 hx (y := (⟨"com/example/lockstep/lockstep/protocol/PgMessageEndsAnswerToPinLaw", "expected", "(CC)Z"⟩ : MethodName)) hown (mvT hZ (hw _ (List.mem_of_getElem? (i := 24) rfl))) (mvT hZ (hw _ (List.mem_of_getElem? (i := 25) rfl))) (mvT hZ (hw _ (List.mem_of_getElem? (i := 2) rfl))) (mvT hZ (hw _ (List.mem_of_getElem? (i := 26) rfl))) (by decide) (backOf (W := 1) (rm5 l Z a0 hw [] (nar .char x3) (nar .char x9) T26.heap n0 Z34 ) hZ (hw _ (List.mem_of_getElem? (i := 26) rfl)) (hw _ (List.mem_of_getElem? (i := 2) rfl)) (by decide) (by decide)) (g := (mkF m 31 #[.val (.int i1), .val (.int i2), .val (.int (nar .char x3)), .val (.int (nar .char x9)), .val (.ref b13)] [(.int (nar .char x9)), (.int (nar .char x3)), (.int (F4 (nar .char x9) (nar .char (nar .char x3))))])) rfl (by rw [hml]; rfl) (argsL := [(.int (nar .char x3)), (.int (nar .char x9))]) (rest := [(.int (F4 (nar .char x9) (nar .char (nar .char x3))))]) (lenOf pd_3 rfl) rfl (by show 2 * 0 + _ ≤ _; exact Nat.le_of_eq rfl) (hb hby at_31) (fun _ _ => ⟨rfl, eh38, (by decide : 4 + 0 ≤ _), (by decide : 50 + 0 ≤ _)⟩)
  dsimp only [Pt.U, Pt.locs, Pt.cells, Pt.slots] at X40 l40 y40 z40 st40 hQ40
  subst l40 y40 z40
  obtain ⟨rfl, N41, eh42⟩ := hQ40
  have N43 := Fr.app N39 N41
  refine Go.of st40 ?_
  show Go p e below Qo T40 (mkF m 34 #[.val (.int i1), .val (.int i2), .val (.int (nar .char x3)), .val (.int (nar .char x9)), .val (.ref b13)] [(.int (F5 (nar .char x3) (nar .char x9))), (.int (F4 (nar .char x9) (nar .char (nar .char x3))))])
  have J34_46 : ∀ (v34_45 : Int32), v34_45 = (if (F4 (nar .char x9) (nar .char (nar .char x3))) = (F5 (nar .char x3) (nar .char x9)) then (1 : Int32) else (0 : Int32)) → Go p e below Qo T40 (mkF m 42 #[.val (.int i1), .val (.int i2), .val (.int (nar .char x3)), .val (.int (nar .char x9)), .val (.ref b13)] [(.int v34_45)]) := by
    intro v34_45 hv34_45
    show Go p e below Qo T40 (mkF m 42 #[.val (.int i1), .val (.int i2), .val (.int (nar .char x3)), .val (.int (nar .char x9)), .val (.ref b13)] [(.int v34_45)])
    have hfin : v34_45 = 1 := by
      exact hv34_45.trans (if_pos (by rw [own_nn]; exact own_law _ _))
    exact own_retN X40 hx Bd.notSynchronized (t := .boolean) Bd.returns (by simp) (hb hby at_42) (fun u hu hF => hQo _ _ _ ⟨by rw [hfin]; rfl, N43⟩ (own_mono hF (by decide) (by decide)))
  by_cases hc34_47 : (F4 (nar .char x9) (nar .char (nar .char x3))) = (F5 (nar .char x3) (nar .char x9))
  · refine Go.of (fun t k => XS.icmpNo X40.here hx rfl (hb hby at_34) rfl (teq hc34_47).2 k) ?_
    show Go p e below Qo T40 (mkF m 37 #[.val (.int i1), .val (.int i2), .val (.int (nar .char x3)), .val (.int (nar .char x9)), .val (.ref b13)] [])
    refine Go.of (fun t k => XS.iconst X40.here hx rfl (hb hby at_37) k) ?_
    show Go p e below Qo T40 (mkF m 38 #[.val (.int i1), .val (.int i2), .val (.int (nar .char x3)), .val (.int (nar .char x9)), .val (.ref b13)] [(.int (1 : Int32))])
    refine Go.of (fun t k => XS.goto X40.here hx rfl (pc0 := 38) (pc' := 42) rfl (hb hby at_38) (by decide) (by decide) k) ?_
    show Go p e below Qo T40 (mkF m 42 #[.val (.int i1), .val (.int i2), .val (.int (nar .char x3)), .val (.int (nar .char x9)), .val (.ref b13)] [(.int (1 : Int32))])
    exact J34_46 _ (by first | rfl | (rw [if_pos hc34_47]) | (simp only [hc34_47, if_true, if_false]; done) | simp [hc34_47])
  · refine Go.of (fun t k => XS.icmpYes X40.here hx rfl (pc0 := 34) (pc' := 41) rfl (hb hby at_34) rfl (feq hc34_47).2 (by decide) (by decide) k) ?_
    show Go p e below Qo T40 (mkF m 41 #[.val (.int i1), .val (.int i2), .val (.int (nar .char x3)), .val (.int (nar .char x9)), .val (.ref b13)] [])
    refine Go.of (fun t k => XS.iconst X40.here hx rfl (hb hby at_41) k) ?_
    show Go p e below Qo T40 (mkF m 42 #[.val (.int i1), .val (.int i2), .val (.int (nar .char x3)), .val (.int (nar .char x9)), .val (.ref b13)] [(.int (0 : Int32))])
    exact J34_46 _ (by first | rfl | (rw [if_neg hc34_47]) | (simp only [hc34_47, if_true, if_false]; done) | simp [hc34_47])
set_option maxRecDepth 65536 in
set_option maxHeartbeats 40000000 in
theorem comes_1 {Post : Tables → Env → Array Value → State → Outcome → State → Prop} (hpost : ∀ tb e args s v u, (limb_1_1.after args s (.returned v) u = true ∧ limb_1_2.after args s (.returned v) u = true ∧ True) → FrameEnd s (.returned v) u (Jvm.fieldLocs frame_1_writes args s ++ Jvm.arrayLocs frame_1_arrays args s ++ Jvm.staticLocs frame_1_statics s) 16 192 → Post tb e args s (.returned v) u) :
    ArmFor flags0 classFile x code maxLocals ret World_1 tables_1 room_1 Calls_1 rest_1 Pre_1 Post := by
  intro l hfl _ _ p e ha hc hk s m args below hf hA hF happ hP
  obtain ⟨hcalls, hrest, hpre⟩ := hP
  obtain ⟨-, -, -, hnamed, -, -, -, hat⟩ := (Spec.applies_iff hf).mp happ
  obtain ⟨hg, hn⟩ := and_e (Cond.before_iff.mp (show (Jvm.Cond.and given_1 narrow_1).before args s = true from hpre))
  obtain ⟨hg0, hgr0⟩ := and_e hg
  obtain ⟨ha0, hgr1⟩ := and_e hgr0
  obtain ⟨w0, w1, rfl⟩ : ∃ w0 w1 : Value, args = #[w0, w1] := by
    have hs : args.size = 2 := by simpa [Cond.value, given_1] using hg0
    obtain ⟨L⟩ := args
    match L, hs with
    | [w0, w1], _ => exact ⟨w0, w1, rfl⟩
  have hw := fun d (hd : d ∈ tables_1) => atoms_spec (ws := Jvm.Cond.code x code maxLocals ret :: tables_1) hat d (List.mem_cons_of_mem _ hd)
  have hfit : Fit s := fun {y c} hc i hi => by
    obtain ⟨ha, rfl⟩ := Array.getElem?_eq_some_iff.mp hc
    have q := List.all_eq_true.mp ((Array.all_eq_true_iff_forall_mem.mp hF) _ (Array.getElem_mem ha)) i (List.mem_range.mpr hi)
    simpa [Array.getElem?_eq_getElem hi] using q
  obtain ⟨i0, ei0⟩ := is_v ha0
  obtain rfl : w0 = (.int i0) := Option.some.inj ei0
  obtain ⟨i1, ei1⟩ := is_v hgr1
  obtain rfl : w1 = (.int i1) := Option.some.inj ei1
  obtain ⟨n, o, h1, h2, h3, _, L, rfl, ⟨rfl, N⟩, hq⟩ := rm0 l s _ hw tables_1 i0 i1  s.heap s.heap.size (Nat.le_refl _)  p e ha hc hk s m _ below hf ((Spec.applies_iff_loose hf).mp happ).1 ⟨rfl, State.Warmed39.refl s, rfl⟩ trivial
  refine ⟨n, _, h1, h2, h3, hpost _ _ _ _ _ _ ⟨Cond.after_iff.mpr rfl, Cond.after_iff.mpr (eq_i res_at (Term.int_eval (1)) rfl), trivial⟩ ⟨hq.1, hq.2.1, (hq.2.2.sift fun y hy => Or.inr (N y hy)).mono (by decide) (by decide)⟩⟩
theorem main_1_1 : Claimed_1_1 := comes_1 fun _ _ _ _ _ _ h hF => ⟨h.1, hF⟩
theorem main_1_2 : Claimed_1_2 := comes_1 fun _ _ _ _ _ _ h hF => ⟨h.2.1, hF⟩
end Jvm.Pilot.@@N@@
namespace Jvm.Pilot.@@N@@
open Jvm Jvm.ClassFile Sem Op Lib Jvm.Free Jvm.Stand Jvm.Pilot.@@N@@.Jvm.D
/-! MADE BY PROGRAM (witnessworld.py) out of the Statement's table words and the real class files: 11 classes; the members and pool entries that the words name. The judged class is class 1, her method 3. -/
namespace start1
open Jvm.ClassFile
def u (s : String) : CpInfo := .utf8 (stringToUtf16 s)
/-- a pool by its gaps: so many unusable entries, then the entry; so many at the end -/
def gap : Nat → List CpInfo → List CpInfo
  | 0, r => r
  | n + 1, r => .unusable :: gap n r
def poolList (es : List (Nat × CpInfo)) (last : Nat) : List CpInfo := es.foldr (fun e r => gap e.1 (e.2 :: r)) (gap last [])
def pool (es : List (Nat × CpInfo)) (last : Nat) : Array CpInfo := ⟨poolList es last⟩
def fileOf (pool : Array CpInfo) (this : Nat) (attrs : Array Attribute := #[]) (ms : Array MethodInfo := #[]) (fl : Nat := 33) (sup : Nat := 0) (ifs : Array Nat := #[]) (fds : Array FieldInfo := #[]) : ClassFile where
  minorVersion := 0
  majorVersion := 65
  constantPool := pool
  accessFlags := fl
  thisClass := this
  superClass := sup
  interfaces := ifs
  fields := fds
  methods := ms
  attributes := attrs
def plain (name : String) (sup : Option ClassId) : Class where
  name := name
  kind := .ordinary
  loader := none
  accessFlags := 33
  super := sup
  interfaces := #[]
  cf := none
  fields := #[]
  methods := #[]
  instanceTypes := #[]
  staticTypes := #[]
  resolved := #[]
  callSites := []
  init := .initialized
  statics := none
  mirror := none

def pool0 : Array CpInfo := pool [(5, u "<init>"), (0, u "()V"), (1, .class_ 10), (1, u "java/lang/Object")] 113

def k0c0 : Code := { maxStack := 0, maxLocals := 1, code := object_method_1_code, exceptionTable := #[], attributes := #[] }
def k0m0 : Method := { name := "<init>", desc := "()V", sig := { parameters := [], returnType := none }, accessFlags := 1, code := some k0c0 }
/-- java/lang/Object -/
def k0 : Class := { plain "java/lang/Object" none with
  accessFlags := 33
  interfaces := #[]
  cf := some (fileOf pool0 8 #[] #[{ accessFlags := 1, nameIndex := 5, descriptorIndex := 6, attributes := #[] }] 33 0 #[] #[])
  fields := #[]
  methods := #[k0m0]
  instanceTypes := #[]
  staticTypes := #[]
  resolved := Array.replicate 124 none
  statics := none }

def pool1 : Array CpInfo := pool [(2, .class_ 4), (1, u "java/lang/Object"), (0, u "<init>"), (0, u "()V"), (0, .methodref 8 9), (0, .class_ 10), (0, .nameAndType 11 12), (0, u "com/example/lockstep/lockstep/protocol/PgMessageEndsAnswerToPinLaw"), (0, u "pick"), (0, u "(I)C"), (0, .class_ 14), (0, u "com/example/lockstep/lockstep/protocol/PgMessage"), (0, .methodref 13 16), (0, .nameAndType 5 17), (0, u "(C[B)V"), (0, .methodref 13 19), (0, .nameAndType 20 21), (0, u "endsAnswerTo"), (0, u "(C)Z"), (0, .methodref 8 23), (0, .nameAndType 24 25), (0, u "expected"), (0, u "(CC)Z"), (5, u "law"), (0, u "(II)Z")] 2

def k1m0 : Method := { name := "<init>", desc := "()V", sig := { parameters := [], returnType := none }, accessFlags := 1, code := none }
def k1c1 : Code := { maxStack := 4, maxLocals := 2, code := method_2_code, exceptionTable := #[], attributes := #[] }
def k1m1 : Method := { name := "pick", desc := "(I)C", sig := { parameters := [.int], returnType := some .char }, accessFlags := 10, code := some k1c1 }
def k1c2 : Code := { maxStack := 2, maxLocals := 2, code := method_3_code, exceptionTable := #[], attributes := #[] }
def k1m2 : Method := { name := "expected", desc := "(CC)Z", sig := { parameters := [.char, .char], returnType := some .boolean }, accessFlags := 10, code := some k1c2 }
def k1c3 : Code := { maxStack := 4, maxLocals := 5, code := code, exceptionTable := #[], attributes := #[] }
def k1m3 : Method := { name := "law", desc := "(II)Z", sig := { parameters := [.int, .int], returnType := some .boolean }, accessFlags := 9, code := some k1c3 }
/-- com/example/lockstep/lockstep/protocol/PgMessageEndsAnswerToPinLaw -/
def k1 : Class := { plain "com/example/lockstep/lockstep/protocol/PgMessageEndsAnswerToPinLaw" (some 0) with
  accessFlags := 49
  interfaces := #[]
  cf := some (fileOf pool1 8 #[] #[{ accessFlags := 1, nameIndex := 5, descriptorIndex := 6, attributes := #[] }, { accessFlags := 10, nameIndex := 11, descriptorIndex := 12, attributes := #[] }, { accessFlags := 10, nameIndex := 24, descriptorIndex := 25, attributes := #[] }, { accessFlags := 9, nameIndex := 31, descriptorIndex := 32, attributes := #[] }] 49 2 #[] #[])
  fields := #[]
  methods := #[k1m0, k1m1, k1m2, k1m3]
  instanceTypes := #[]
  staticTypes := #[]
  resolved := Array.replicate 35 none
  statics := none }

def pool2 : Array CpInfo := pool [(1, .methodref 2 3), (0, .class_ 4), (0, .nameAndType 5 6), (0, u "java/lang/Object"), (0, u "<init>"), (0, u "()V"), (0, .fieldref 8 9), (0, .class_ 10), (0, .nameAndType 11 12), (0, u "com/example/lockstep/lockstep/protocol/PgMessage"), (0, u "type"), (0, u "C"), (0, .fieldref 8 14), (0, .nameAndType 15 16), (0, u "body"), (0, u "[B"), (25, u "(C[B)V"), (131, u "QUERY"), (2, u "TERMINATE"), (1, u "SYNC"), (1, u "FUNCTION_CALL"), (1, u "PARSE"), (1, u "BIND"), (1, u "DESCRIBE"), (1, u "EXECUTE"), (1, u "CLOSE"), (1, u "FLUSH"), (1, u "COPY_DATA"), (1, u "COPY_DONE"), (1, u "COPY_FAIL"), (1, u "AUTHENTICATION"), (1, u "ERROR_RESPONSE"), (0, u "NOTICE_RESPONSE"), (1, u "NOTIFICATION_RESPONSE"), (1, u "PARAMETER_STATUS"), (0, u "BACKEND_KEY_DATA"), (1, u "DATA_ROW"), (0, u "COMMAND_COMPLETE"), (0, u "COPY_IN_RESPONSE"), (1, u "COPY_BOTH_RESPONSE"), (1, u "COPY_OUT_RESPONSE"), (0, u "PARSE_COMPLETE"), (1, u "BIND_COMPLETE"), (1, u "CLOSE_COMPLETE"), (1, u "PARAMETER_DESCRIPTION"), (1, u "ROW_DESCRIPTION"), (1, u "NO_DATA"), (1, u "EMPTY_QUERY_RESPONSE"), (1, u "PORTAL_SUSPENDED"), (1, u "READY_FOR_QUERY"), (1, u "IDLE"), (0, u "IN_TRANSACTION"), (0, u "FAILED"), (0, u "MAX_BODY"), (0, u "I"), (27, u "endsAnswerTo"), (0, u "(C)Z")] 36

def k2c0 : Code := { maxStack := 2, maxLocals := 3, code := prog_70_method_1_code, exceptionTable := #[], attributes := #[] }
def k2m0 : Method := { name := "<init>", desc := "(C[B)V", sig := { parameters := [.char, (.array .byte)], returnType := none }, accessFlags := 1, code := some k2c0 }
def k2c1 : Code := { maxStack := 2, maxLocals := 2, code := prog_70_method_19_code, exceptionTable := #[], attributes := #[] }
def k2m1 : Method := { name := "endsAnswerTo", desc := "(C)Z", sig := { parameters := [.char], returnType := some .boolean }, accessFlags := 1, code := some k2c1 }
/-- com/example/lockstep/lockstep/protocol/PgMessage -/
def k2 : Class := { plain "com/example/lockstep/lockstep/protocol/PgMessage" (some 0) with
  accessFlags := 49
  interfaces := #[]
  cf := some (fileOf pool2 8 #[] #[{ accessFlags := 1, nameIndex := 5, descriptorIndex := 42, attributes := #[] }, { accessFlags := 1, nameIndex := 268, descriptorIndex := 269, attributes := #[] }] 49 2 #[] #[{ accessFlags := 25, nameIndex := 174, descriptorIndex := 12, attributes := #[] }, { accessFlags := 25, nameIndex := 177, descriptorIndex := 12, attributes := #[] }, { accessFlags := 25, nameIndex := 179, descriptorIndex := 12, attributes := #[] }, { accessFlags := 25, nameIndex := 181, descriptorIndex := 12, attributes := #[] }, { accessFlags := 25, nameIndex := 183, descriptorIndex := 12, attributes := #[] }, { accessFlags := 25, nameIndex := 185, descriptorIndex := 12, attributes := #[] }, { accessFlags := 25, nameIndex := 187, descriptorIndex := 12, attributes := #[] }, { accessFlags := 25, nameIndex := 189, descriptorIndex := 12, attributes := #[] }, { accessFlags := 25, nameIndex := 191, descriptorIndex := 12, attributes := #[] }, { accessFlags := 25, nameIndex := 193, descriptorIndex := 12, attributes := #[] }, { accessFlags := 25, nameIndex := 195, descriptorIndex := 12, attributes := #[] }, { accessFlags := 25, nameIndex := 197, descriptorIndex := 12, attributes := #[] }, { accessFlags := 25, nameIndex := 199, descriptorIndex := 12, attributes := #[] }, { accessFlags := 25, nameIndex := 201, descriptorIndex := 12, attributes := #[] }, { accessFlags := 25, nameIndex := 203, descriptorIndex := 12, attributes := #[] }, { accessFlags := 25, nameIndex := 204, descriptorIndex := 12, attributes := #[] }, { accessFlags := 25, nameIndex := 206, descriptorIndex := 12, attributes := #[] }, { accessFlags := 25, nameIndex := 208, descriptorIndex := 12, attributes := #[] }, { accessFlags := 25, nameIndex := 209, descriptorIndex := 12, attributes := #[] }, { accessFlags := 25, nameIndex := 211, descriptorIndex := 12, attributes := #[] }, { accessFlags := 25, nameIndex := 212, descriptorIndex := 12, attributes := #[] }, { accessFlags := 25, nameIndex := 213, descriptorIndex := 12, attributes := #[] }, { accessFlags := 25, nameIndex := 215, descriptorIndex := 12, attributes := #[] }, { accessFlags := 25, nameIndex := 217, descriptorIndex := 12, attributes := #[] }, { accessFlags := 25, nameIndex := 218, descriptorIndex := 12, attributes := #[] }, { accessFlags := 25, nameIndex := 220, descriptorIndex := 12, attributes := #[] }, { accessFlags := 25, nameIndex := 222, descriptorIndex := 12, attributes := #[] }, { accessFlags := 25, nameIndex := 224, descriptorIndex := 12, attributes := #[] }, { accessFlags := 25, nameIndex := 226, descriptorIndex := 12, attributes := #[] }, { accessFlags := 25, nameIndex := 228, descriptorIndex := 12, attributes := #[] }, { accessFlags := 25, nameIndex := 230, descriptorIndex := 12, attributes := #[] }, { accessFlags := 25, nameIndex := 232, descriptorIndex := 12, attributes := #[] }, { accessFlags := 25, nameIndex := 234, descriptorIndex := 12, attributes := #[] }, { accessFlags := 25, nameIndex := 236, descriptorIndex := 12, attributes := #[] }, { accessFlags := 25, nameIndex := 237, descriptorIndex := 12, attributes := #[] }, { accessFlags := 25, nameIndex := 238, descriptorIndex := 12, attributes := #[] }, { accessFlags := 26, nameIndex := 239, descriptorIndex := 240, attributes := #[] }, { accessFlags := 18, nameIndex := 11, descriptorIndex := 12, attributes := #[] }, { accessFlags := 18, nameIndex := 15, descriptorIndex := 16, attributes := #[] }])
  fields := #[{ name := "QUERY", type := .char, accessFlags := 25, slot := 0, constantValue := 0 }, { name := "TERMINATE", type := .char, accessFlags := 25, slot := 1, constantValue := 0 }, { name := "SYNC", type := .char, accessFlags := 25, slot := 2, constantValue := 0 }, { name := "FUNCTION_CALL", type := .char, accessFlags := 25, slot := 3, constantValue := 0 }, { name := "PARSE", type := .char, accessFlags := 25, slot := 4, constantValue := 0 }, { name := "BIND", type := .char, accessFlags := 25, slot := 5, constantValue := 0 }, { name := "DESCRIBE", type := .char, accessFlags := 25, slot := 6, constantValue := 0 }, { name := "EXECUTE", type := .char, accessFlags := 25, slot := 7, constantValue := 0 }, { name := "CLOSE", type := .char, accessFlags := 25, slot := 8, constantValue := 0 }, { name := "FLUSH", type := .char, accessFlags := 25, slot := 9, constantValue := 0 }, { name := "COPY_DATA", type := .char, accessFlags := 25, slot := 10, constantValue := 0 }, { name := "COPY_DONE", type := .char, accessFlags := 25, slot := 11, constantValue := 0 }, { name := "COPY_FAIL", type := .char, accessFlags := 25, slot := 12, constantValue := 0 }, { name := "AUTHENTICATION", type := .char, accessFlags := 25, slot := 13, constantValue := 0 }, { name := "ERROR_RESPONSE", type := .char, accessFlags := 25, slot := 14, constantValue := 0 }, { name := "NOTICE_RESPONSE", type := .char, accessFlags := 25, slot := 15, constantValue := 0 }, { name := "NOTIFICATION_RESPONSE", type := .char, accessFlags := 25, slot := 16, constantValue := 0 }, { name := "PARAMETER_STATUS", type := .char, accessFlags := 25, slot := 17, constantValue := 0 }, { name := "BACKEND_KEY_DATA", type := .char, accessFlags := 25, slot := 18, constantValue := 0 }, { name := "DATA_ROW", type := .char, accessFlags := 25, slot := 19, constantValue := 0 }, { name := "COMMAND_COMPLETE", type := .char, accessFlags := 25, slot := 20, constantValue := 0 }, { name := "COPY_IN_RESPONSE", type := .char, accessFlags := 25, slot := 21, constantValue := 0 }, { name := "COPY_BOTH_RESPONSE", type := .char, accessFlags := 25, slot := 22, constantValue := 0 }, { name := "COPY_OUT_RESPONSE", type := .char, accessFlags := 25, slot := 23, constantValue := 0 }, { name := "PARSE_COMPLETE", type := .char, accessFlags := 25, slot := 24, constantValue := 0 }, { name := "BIND_COMPLETE", type := .char, accessFlags := 25, slot := 25, constantValue := 0 }, { name := "CLOSE_COMPLETE", type := .char, accessFlags := 25, slot := 26, constantValue := 0 }, { name := "PARAMETER_DESCRIPTION", type := .char, accessFlags := 25, slot := 27, constantValue := 0 }, { name := "ROW_DESCRIPTION", type := .char, accessFlags := 25, slot := 28, constantValue := 0 }, { name := "NO_DATA", type := .char, accessFlags := 25, slot := 29, constantValue := 0 }, { name := "EMPTY_QUERY_RESPONSE", type := .char, accessFlags := 25, slot := 30, constantValue := 0 }, { name := "PORTAL_SUSPENDED", type := .char, accessFlags := 25, slot := 31, constantValue := 0 }, { name := "READY_FOR_QUERY", type := .char, accessFlags := 25, slot := 32, constantValue := 0 }, { name := "IDLE", type := .char, accessFlags := 25, slot := 33, constantValue := 0 }, { name := "IN_TRANSACTION", type := .char, accessFlags := 25, slot := 34, constantValue := 0 }, { name := "FAILED", type := .char, accessFlags := 25, slot := 35, constantValue := 0 }, { name := "MAX_BODY", type := .int, accessFlags := 26, slot := 36, constantValue := 0 }, { name := "type", type := .char, accessFlags := 18, slot := 0, constantValue := 0 }, { name := "body", type := (.array .byte), accessFlags := 18, slot := 1, constantValue := 0 }]
  methods := #[k2m0, k2m1]
  instanceTypes := #[.char, (.array .byte)]
  staticTypes := #[.char, .char, .char, .char, .char, .char, .char, .char, .char, .char, .char, .char, .char, .char, .char, .char, .char, .char, .char, .char, .char, .char, .char, .char, .char, .char, .char, .char, .char, .char, .char, .char, .char, .char, .char, .char, .int]
  resolved := Array.replicate 306 none
  statics := none }

def pool3 : Array CpInfo := pool [(1, u "java/lang/Cloneable"), (0, .class_ 1), (0, u "java/lang/Object"), (0, .class_ 3)] 3

/-- java/lang/Cloneable -/
def k3 : Class := { plain "java/lang/Cloneable" (some 0) with
  accessFlags := 1537
  interfaces := #[]
  cf := some (fileOf pool3 2 #[] #[] 1537 4 #[] #[])
  fields := #[]
  methods := #[]
  instanceTypes := #[]
  staticTypes := #[]
  resolved := Array.replicate 8 none
  statics := none }

def pool4 : Array CpInfo := pool [(1, u "java/io/Serializable"), (0, .class_ 1), (0, u "java/lang/Object"), (0, .class_ 3)] 3

/-- java/io/Serializable -/
def k4 : Class := { plain "java/io/Serializable" (some 0) with
  accessFlags := 1537
  interfaces := #[]
  cf := some (fileOf pool4 2 #[] #[] 1537 4 #[] #[])
  fields := #[]
  methods := #[]
  instanceTypes := #[]
  staticTypes := #[]
  resolved := Array.replicate 8 none
  statics := none }

/-- the primitive byte -/
def k5 : Class := { plain "byte" none with kind := .primitive 'B', accessFlags := 0x411 }
/-- [B -/
def k6 : Class := { plain "[B" (some 0) with kind := .array 5 .byte, interfaces := #[3, 4], accessFlags := 1041 }

/-- the primitive char -/
def k7 : Class := { plain "char" none with kind := .primitive 'C', accessFlags := 0x411 }
/-- [C -/
def k8 : Class := { plain "[C" (some 0) with kind := .array 7 .char, interfaces := #[3, 4], accessFlags := 1041 }

/-- the primitive int -/
def k9 : Class := { plain "int" none with kind := .primitive 'I', accessFlags := 0x411 }
/-- [I -/
def k10 : Class := { plain "[I" (some 0) with kind := .array 9 .int, interfaces := #[3, 4], accessFlags := 1041 }

def heap : Heap := #[]
def classes : Array Class := #[k0, k1, k2, k3, k4, k5, k6, k7, k8, k9, k10]
def interned : List (Array UInt16 × Addr) := []
def slotsUsed : Nat := 0
def theMethod : MethodId := ⟨1, 3⟩
def args0 : Array Value := #[.int 5, .int 7]
def aboutOver (below : List Frame) : State where
  vm := { classes := classes, interned := interned.toArray }
  heap := heap
  slotsUsed := slotsUsed
  threads := #[{ frames := .invoking theMethod args0 :: below }]
def below0 : List Frame := [.native { method := ⟨0, 0⟩, args := #[] }]
def about1 : State := aboutOver below0
def p0 : Program := .bare "" "" ""
def e0 : Env := launch0.env 0 0 0
theorem w_frames : about1.frames = Frame.invoking theMethod args0 :: below0 := rfl
set_option maxRecDepth 65536 in
theorem w_args : argsFit about1.vm theMethod args0 = true := by decide +kernel
set_option maxRecDepth 65536 in
theorem w_heap : heapFits about1 = true := by decide +kernel
set_option maxRecDepth 65536 in
theorem w_runnable : about1.curStatus? = some .runnable := by decide +kernel
set_option maxRecDepth 65536 in
theorem w_alone : about1.alone = true := by decide +kernel
set_option maxRecDepth 65536 in
theorem w_named : about1.methodNamed? x = some theMethod := by decide +kernel
set_option maxRecDepth 65536 in
theorem w_hears : about1.hears theMethod below0 = true := by decide +kernel
set_option maxRecDepth 65536 in
theorem w_ripe : about1.ripe theMethod args0 below0 = true := by decide +kernel
theorem w_running : about1.status = .running := rfl
set_option maxRecDepth 65536 in
theorem w_room : about1.hasRoom e0.platform room_1 = true :=
  launch0.hasRoom_least _ room_1 (by decide +kernel) (by decide +kernel) (by decide +kernel) (by decide +kernel) (by decide +kernel) (by decide +kernel)
theorem allAtoms_all (ts : List Jvm.Cond) (a : Array Jvm.Value) (st : Jvm.State) : (allAtoms ts).before a st = ts.all (fun c => c.before a st) := by
  induction ts with
  | nil => rfl
  | cons c t ih =>
    show (Jvm.Cond.and c (allAtoms t)).before a st = _
    rw [Jvm.Cond.before_and, ih, List.all_cons]
def words1 : List Jvm.Cond := Jvm.Cond.code x code maxLocals ret :: tables_1
/-- a 'code' word, met by the world's own term for the bytes: nothing is compared byte by byte -/
theorem code_word {y : MethodName} {bytes : ByteArray} {mx : Nat} {rt : Option FieldType} {a : Array Value} {s : State} {m : MethodId} {meth : Method} {c : Code} (h1 : s.methodNamed? y = some m) (h2 : s.vm.method? m = some meth) (h3 : meth.code = some c) (h4 : c.code = bytes)
    (h5 : (c.maxLocals == mx && c.exceptionTable.isEmpty && decide (c.maxStack ≤ mostOperands) && decide (meth.sig.returnType = rt) && !meth.locks && decide (parseMethodDescriptor y.desc = some meth.sig)) = true) : (Jvm.Cond.code y bytes mx rt).before a s = true := by
  simp only [Bool.and_eq_true, beq_iff_eq, Bool.not_eq_true', decide_eq_true_eq] at h5
  obtain ⟨⟨⟨⟨⟨g1, g2⟩, g3⟩, g4⟩, g5⟩, g6⟩ := h5
  simp [Cond.before, Cond.holds, Cond.value, h1, h2, h3, h4, g1, g2, g3, g4, g5, g6]
def isCode : Jvm.Cond → Bool
  | .code _ _ _ _ => true
  | _ => false
theorem all_split {L : List Jvm.Cond} {P : Jvm.Cond → Bool} (h1 : L.all (fun c => isCode c || P c) = true) (h2 : ∀ c ∈ L.filter isCode, P c = true) : L.all P = true := by
  refine List.all_eq_true.mpr fun c hc => ?_
  have h := List.all_eq_true.mp h1 c hc
  rcases Bool.eq_false_or_eq_true (isCode c) with hi | hi
  · exact h2 c (List.mem_filter.mpr ⟨hc, hi⟩)
  · simpa [hi] using h
set_option maxRecDepth 65536 in
theorem w_c0 : (Jvm.Cond.code x code maxLocals ret).before args0 about1 = true := code_word (m := ⟨1, 3⟩) (meth := k1m3) (c := k1c3) (by decide +kernel) rfl rfl rfl (by decide +kernel)
set_option maxRecDepth 65536 in
theorem w_c1 : (Jvm.Cond.code ({ cls := "com/example/lockstep/lockstep/protocol/PgMessageEndsAnswerToPinLaw", name := "pick", desc := "(I)C" } : Jvm.MethodName) method_2_code (2 : Nat) (Option.some Jvm.ClassFile.FieldType.char)).before args0 about1 = true := code_word (m := ⟨1, 1⟩) (meth := k1m1) (c := k1c1) (by decide +kernel) rfl rfl rfl (by decide +kernel)
set_option maxRecDepth 65536 in
theorem w_c2 : (Jvm.Cond.code ({ cls := "com/example/lockstep/lockstep/protocol/PgMessage", name := "<init>", desc := "(C[B)V" } : Jvm.MethodName) prog_70_method_1_code (3 : Nat) (Option.none : Option Jvm.ClassFile.FieldType)).before args0 about1 = true := code_word (m := ⟨2, 0⟩) (meth := k2m0) (c := k2c0) (by decide +kernel) rfl rfl rfl (by decide +kernel)
set_option maxRecDepth 65536 in
theorem w_c3 : (Jvm.Cond.code ({ cls := "java/lang/Object", name := "<init>", desc := "()V" } : Jvm.MethodName) object_method_1_code (1 : Nat) (Option.none : Option Jvm.ClassFile.FieldType)).before args0 about1 = true := code_word (m := ⟨0, 0⟩) (meth := k0m0) (c := k0c0) (by decide +kernel) rfl rfl rfl (by decide +kernel)
set_option maxRecDepth 65536 in
theorem w_c4 : (Jvm.Cond.code ({ cls := "com/example/lockstep/lockstep/protocol/PgMessage", name := "endsAnswerTo", desc := "(C)Z" } : Jvm.MethodName) prog_70_method_19_code (2 : Nat) (Option.some Jvm.ClassFile.FieldType.boolean)).before args0 about1 = true := code_word (m := ⟨2, 1⟩) (meth := k2m1) (c := k2c1) (by decide +kernel) rfl rfl rfl (by decide +kernel)
set_option maxRecDepth 65536 in
theorem w_c5 : (Jvm.Cond.code ({ cls := "com/example/lockstep/lockstep/protocol/PgMessageEndsAnswerToPinLaw", name := "expected", desc := "(CC)Z" } : Jvm.MethodName) method_3_code (2 : Nat) (Option.some Jvm.ClassFile.FieldType.boolean)).before args0 about1 = true := code_word (m := ⟨1, 2⟩) (meth := k1m2) (c := k1c2) (by decide +kernel) rfl rfl rfl (by decide +kernel)
def codes1 : List Jvm.Cond := [Jvm.Cond.code x code maxLocals ret, Jvm.Cond.code ({ cls := "com/example/lockstep/lockstep/protocol/PgMessageEndsAnswerToPinLaw", name := "pick", desc := "(I)C" } : Jvm.MethodName) method_2_code (2 : Nat) (Option.some Jvm.ClassFile.FieldType.char), Jvm.Cond.code ({ cls := "com/example/lockstep/lockstep/protocol/PgMessage", name := "<init>", desc := "(C[B)V" } : Jvm.MethodName) prog_70_method_1_code (3 : Nat) (Option.none : Option Jvm.ClassFile.FieldType), Jvm.Cond.code ({ cls := "java/lang/Object", name := "<init>", desc := "()V" } : Jvm.MethodName) object_method_1_code (1 : Nat) (Option.none : Option Jvm.ClassFile.FieldType), Jvm.Cond.code ({ cls := "com/example/lockstep/lockstep/protocol/PgMessage", name := "endsAnswerTo", desc := "(C)Z" } : Jvm.MethodName) prog_70_method_19_code (2 : Nat) (Option.some Jvm.ClassFile.FieldType.boolean), Jvm.Cond.code ({ cls := "com/example/lockstep/lockstep/protocol/PgMessageEndsAnswerToPinLaw", name := "expected", desc := "(CC)Z" } : Jvm.MethodName) method_3_code (2 : Nat) (Option.some Jvm.ClassFile.FieldType.boolean)]
set_option maxRecDepth 65536 in
theorem codes_eq : words1.filter isCode = codes1 := rfl
theorem w_codes : ∀ c ∈ words1.filter isCode, c.before args0 about1 = true := by
  rw [codes_eq]
  intro c hc
  simp only [codes1, List.mem_cons, List.not_mem_nil, or_false] at hc
  rcases hc with rfl | rfl | rfl | rfl | rfl | rfl
  · exact w_c0
  · exact w_c1
  · exact w_c2
  · exact w_c3
  · exact w_c4
  · exact w_c5
set_option maxRecDepth 65536 in
theorem w_t1 : (words1.take 24).all (fun c => isCode c || c.before args0 about1) = true := by decide +kernel
set_option maxRecDepth 65536 in
theorem w_t2 : (words1.drop 24).all (fun c => isCode c || c.before args0 about1) = true := by decide +kernel
theorem w_tables : (allAtoms (Jvm.Cond.code x code maxLocals ret :: tables_1)).before args0 about1 = true := by
  rw [allAtoms_all]
  show words1.all (fun c => c.before args0 about1) = true
  refine all_split ?_ w_codes
  rw [← List.take_append_drop 24 words1, List.all_append, w_t1, w_t2]
  rfl
set_option maxRecDepth 65536 in
theorem w_case : (Jvm.Cond.and given_1 narrow_1).before args0 about1 = true := by decide +kernel
theorem w_applies : (headSpec (Jvm.Cond.code x code maxLocals ret :: tables_1) room_1).applies x e0.platform about1 = true :=
  (Spec.applies_iff w_frames).mpr ⟨w_running, w_runnable, w_alone, w_named, w_hears, w_ripe, w_room, w_tables⟩
theorem atStart : AtStart classFile x code maxLocals ret World_1 tables_1 room_1 Calls_1 rest_1 Pre_1 launch0 p0 e0 about1 theMethod args0 below0 :=
  ⟨lists_1, trivial, launch0.admits_env _ _ _, launch0.least_env, fairChoices_fair.cas, fairChoices_fair.clock, w_frames, w_args, w_heap, w_applies, trivial, trivial, w_case⟩
end start1
theorem witness_1 : WitnessClaimed_1 := ⟨start1.p0, start1.e0, start1.about1, start1.theMethod, start1.args0, start1.below0, start1.atStart⟩
end Jvm.Pilot.@@N@@
