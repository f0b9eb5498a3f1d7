import JvmDerived
import JvmDerived.Pilot.@@N@@Statement
import JvmDerived.Pilot.@@N@@Code
set_option linter.unusedVariables false
set_option linter.unusedSimpArgs false
namespace Jvm.Pilot.@@N@@
open Jvm Jvm.ClassFile Sem Op Lib Jvm.Free Jvm.Stand Jvm.LawKit Jvm.RoadKit Bundle Jvm.Pilot.@@N@@.Jvm.D
/-! the run comes to an end that answers Q -/
def Go (p : Program) (e : Env) (below : List Frame) (Q : Outcome → State → Prop) (T : State) (g : JFrame) : Prop :=
  ∃ s₂ o, Steps p.tables e below (T.setTop g) s₂ ∧ s₂.status = .running ∧ Ended s₂ below o ∧ Q o s₂
section Own
variable {p : Program} {l : Launch} {e : Env} {R : Room} {s : State} {m : MethodId} {args : Array Value} {below : List Frame} {meth : Method} {c : Code} {T T' : State} {locs : List Loc} {cells slots : Nat} {Q : Outcome → State → Prop} {g g' : JFrame}
theorem Go.of (k : ∀ t, Steps p.tables e below (T'.setTop g') t → Steps p.tables e below (T.setTop g) t) (h : Go p e below Q T' g') : Go p e below Q T g := by
  obtain ⟨u, o, h1, h2⟩ := h
  exact ⟨u, o, k _ h1, h2⟩
theorem Go.via (k : Steps p.tables e below (T.setTop g) (T'.setTop g')) (h : Go p e below Q T' g') : Go p e below Q T g := by
  obtain ⟨u, o, h1, h2⟩ := h
  exact ⟨u, o, k.trans h1, h2⟩
theorem Go.cast (q : g = g') (h : Go p e below Q T g') : Go p e below Q T g := q ▸ h
theorem own_out (X : Stand p l e R s m args below meth c T locs cells slots) {v : Option Value} (hv : meth.sig.returnType = none → v = none) (hlocks : meth.locks = false)
    (k : ∀ fs : List Frame, (∀ (f : JFrame) (acts : List Action), f.method = m → f.locked = none → f.entered = [] → (doReturn e (T.setTop f) acts v).1 = T.setFrames fs) → Steps p.tables e below (T.setTop g) (T.setFrames fs))
    (hQ : ∀ u : State, u.heap = T.heap → FrameEnd s (.returned v) u locs cells slots → Q (.returned v) u) : Go p e below Q T g := by
  obtain ⟨fs, hr, hrun, hended, hW, hsame⟩ := X.leave hv hlocks
  exact ⟨_, _, k fs hr, hrun, hended, hQ _ rfl ⟨⟨_, rfl⟩, hW, hsame⟩⟩
theorem own_retN (X : Stand p l e R s m args below meth c T locs cells slots) (hx : p.tables.exec = Jvm.exec) (hlocks : meth.locks = false) {pc : Nat} {Ls : Array Slot} {z : Int32} {t : FieldType} {rest : List Value} (hret : meth.sig.returnType = some t) (ht : t = .boolean ∨ t = .byte ∨ t = .char ∨ t = .short)
    (hd : decode c.code pc = .ok (.ireturn, 1)) (hQ : ∀ u : State, u.heap = T.heap → FrameEnd s (.returned (some (.int (nar t z)))) u locs cells slots → Q (.returned (some (.int (nar t z)))) u) : Go p e below Q T (mkF m pc Ls (.int z :: rest)) :=
  own_out X (fun h => by rw [hret] at h; cases h) hlocks (fun fs hr => retN X hx hret ht hd hr) hQ
theorem own_retW (X : Stand p l e R s m args below meth c T locs cells slots) (hx : p.tables.exec = Jvm.exec) (hlocks : meth.locks = false) {pc : Nat} {Ls : Array Slot} {w : Value} {t : FieldType} {i : Instr} {rest : List Value} (hret : meth.sig.returnType = some t) (hn : narrow t w = w)
    (hi : (i = .ireturn ∧ (t = .int ∨ t = .boolean ∨ t = .byte ∨ t = .char ∨ t = .short) ∧ ∃ z, w = .int z) ∨ (i = .lreturn ∧ t = .long ∧ ∃ z, w = .long z) ∨ (i = .dreturn ∧ t = .double ∧ ∃ z, w = .double z) ∨ (i = .freturn ∧ t = .float ∧ ∃ z, w = .float z) ∨ (i = .areturn ∧ t.isReference = true ∧ w.isRef = true))
    (hd : decode c.code pc = .ok (i, 1)) (hQ : ∀ u : State, u.heap = T.heap → FrameEnd s (.returned (some w)) u locs cells slots → Q (.returned (some w)) u) : Go p e below Q T (mkF m pc Ls (w :: rest)) :=
  own_out X (fun h => by rw [hret] at h; cases h) hlocks (fun fs hr => retOut X hx hret hn hi hd hr) hQ
theorem own_ret0 (X : Stand p l e R s m args below meth c T locs cells slots) (hx : p.tables.exec = Jvm.exec) (hlocks : meth.locks = false) {pc : Nat} {Ls : Array Slot} (hret : meth.sig.returnType = none)
    (hd : decode c.code pc = .ok (.return_, 1)) (hQ : ∀ u : State, u.heap = T.heap → FrameEnd s (.returned none) u locs cells slots → Q (.returned none) u) : Go p e below Q T (mkF m pc Ls []) :=
  own_out X (fun _ => rfl) hlocks (fun fs hr => X.returnOut hx hret hd hr) hQ
theorem own_mono {o : Outcome} {u : State} {k n k' n' : Nat} (h : FrameEnd s o u locs k n) (hk : k ≤ k') (hn : n ≤ n') : FrameEnd s o u locs k' n' := ⟨h.1, h.2.1, h.2.2.mono hk hn⟩
end Own
theorem d10_0 : decode prog_12_method_39_code 0 = .ok (.aload_n 0, 1) := by decide +kernel
theorem d10_1 : decode prog_12_method_39_code 1 = .ok (.iload_n 1, 1) := by decide +kernel
theorem d10_2 : decode prog_12_method_39_code 2 = .ok (.baload, 1) := by decide +kernel
theorem d10_3 : decode prog_12_method_39_code 3 = .ok (.sipush 255, 3) := by decide +kernel
theorem d10_6 : decode prog_12_method_39_code 6 = .ok (.iand, 1) := by decide +kernel
theorem d10_7 : decode prog_12_method_39_code 7 = .ok (.aload_n 0, 1) := by decide +kernel
theorem d10_8 : decode prog_12_method_39_code 8 = .ok (.iload_n 1, 1) := by decide +kernel
theorem d10_9 : decode prog_12_method_39_code 9 = .ok (.iconst 1, 1) := by decide +kernel
theorem d10_10 : decode prog_12_method_39_code 10 = .ok (.iadd, 1) := by decide +kernel
theorem d10_11 : decode prog_12_method_39_code 11 = .ok (.baload, 1) := by decide +kernel
theorem d10_12 : decode prog_12_method_39_code 12 = .ok (.sipush 255, 3) := by decide +kernel
theorem d10_15 : decode prog_12_method_39_code 15 = .ok (.iand, 1) := by decide +kernel
theorem d10_16 : decode prog_12_method_39_code 16 = .ok (.bipush 8, 2) := by decide +kernel
theorem d10_18 : decode prog_12_method_39_code 18 = .ok (.ishl, 1) := by decide +kernel
theorem d10_19 : decode prog_12_method_39_code 19 = .ok (.ior, 1) := by decide +kernel
theorem d10_20 : decode prog_12_method_39_code 20 = .ok (.aload_n 0, 1) := by decide +kernel
theorem d10_21 : decode prog_12_method_39_code 21 = .ok (.iload_n 1, 1) := by decide +kernel
theorem d10_22 : decode prog_12_method_39_code 22 = .ok (.iconst 2, 1) := by decide +kernel
theorem d10_23 : decode prog_12_method_39_code 23 = .ok (.iadd, 1) := by decide +kernel
theorem d10_24 : decode prog_12_method_39_code 24 = .ok (.baload, 1) := by decide +kernel
theorem d10_25 : decode prog_12_method_39_code 25 = .ok (.sipush 255, 3) := by decide +kernel
theorem d10_28 : decode prog_12_method_39_code 28 = .ok (.iand, 1) := by decide +kernel
theorem d10_29 : decode prog_12_method_39_code 29 = .ok (.bipush 16, 2) := by decide +kernel
theorem d10_31 : decode prog_12_method_39_code 31 = .ok (.ishl, 1) := by decide +kernel
theorem d10_32 : decode prog_12_method_39_code 32 = .ok (.ior, 1) := by decide +kernel
theorem d10_33 : decode prog_12_method_39_code 33 = .ok (.aload_n 0, 1) := by decide +kernel
theorem d10_34 : decode prog_12_method_39_code 34 = .ok (.iload_n 1, 1) := by decide +kernel
theorem d10_35 : decode prog_12_method_39_code 35 = .ok (.iconst 3, 1) := by decide +kernel
theorem d10_36 : decode prog_12_method_39_code 36 = .ok (.iadd, 1) := by decide +kernel
theorem d10_37 : decode prog_12_method_39_code 37 = .ok (.baload, 1) := by decide +kernel
theorem d10_38 : decode prog_12_method_39_code 38 = .ok (.sipush 255, 3) := by decide +kernel
theorem d10_41 : decode prog_12_method_39_code 41 = .ok (.iand, 1) := by decide +kernel
theorem d10_42 : decode prog_12_method_39_code 42 = .ok (.bipush 24, 2) := by decide +kernel
theorem d10_44 : decode prog_12_method_39_code 44 = .ok (.ishl, 1) := by decide +kernel
theorem d10_45 : decode prog_12_method_39_code 45 = .ok (.ior, 1) := by decide +kernel
theorem d10_46 : decode prog_12_method_39_code 46 = .ok (.ireturn, 1) := by decide +kernel
theorem pn_0 : plainName "com/example/mimosa/mimosa/bson/BsonDocument" = true := by first | (simp [plainName, overriddenIn]; done) | decide +kernel
theorem ef_10 (m : MethodId) (r1 : Addr) (i1 : Int32)  : entryFrame m #[(.ref r1), (.int i1)] 2 = mkF m 0 #[.val (.ref r1), .val (.int i1)] [] := by
  first | (simp [entryFrame, mkF, argsToLocals, Value.category]; done) | rfl
def F10 (x0 : Int32) (x1 : Int32) (x2 : Int32) (x3 : Int32) : Int32 := ((((x0 &&& (255 : Int32)) ||| ((x1 &&& (255 : Int32)) <<< ((8 : Int32) &&& 31))) ||| ((x2 &&& (255 : Int32)) <<< ((16 : Int32) &&& 31))) ||| ((x3 &&& (255 : Int32)) <<< ((24 : Int32) &&& 31)))
def Q10 (Z : State) (r1 : Addr) (i1 : Int32) (k_1 : ClassId) (x0 : Int32) (x1 : Int32) (x2 : Int32) (x3 : Int32) (x4 : Int32) (x5 : Int32) (x6 : Int32) (x7 : Int32) (h0 : Heap) (n0 : Nat) (v : Option Value) (h : Heap) (L : List Loc) : Prop := v = some (.int (F10 x0 x1 x2 x3)) ∧ Fr n0 L ∧ h = h0
set_option maxRecDepth 65536 in
set_option maxHeartbeats 40000000 in
theorem rm10 (l : Launch) (Z : State) (a0 : Array Value) (hw : ∀ d ∈ tables_1, d.before a0 Z = true) (ws : List Jvm.Cond) (r1 : Addr) (i1 : Int32) (k_1 : ClassId) (x0 : Int32) (x1 : Int32) (x2 : Int32) (x3 : Int32) (x4 : Int32) (x5 : Int32) (x6 : Int32) (x7 : Int32) (h0 : Heap) (n0 : Nat) (Z0 : n0 ≤ h0.size) (f0 : Arv Z h0 r1 k_1 .byte (8 : Int32) [(.int x0), (.int x1), (.int x2), (.int x3), (.int x4), (.int x5), (.int x6), (.int x7)] (.int (0 : Int32))) (ho : i1 = (0 : Int32)) :
    MetFree l (⟨"com/example/mimosa/mimosa/bson/BsonDocument", "readInt32", "([BI)I"⟩ : MethodName) (head1 (Jvm.Cond.code (⟨"com/example/mimosa/mimosa/bson/BsonDocument", "readInt32", "([BI)I"⟩ : MethodName) prog_12_method_39_code 2 (some .int) :: ws) ({ frames := 0, cells := 0, slots := 0, locals := 0 } : Room)) (fun a U => a = #[(.ref r1), (.int i1)] ∧ Z.Warmed39 U.vm ∧ U.heap = h0) (fun _ _ _ _ _ => True) (fun _ U o U' => ∃ v L, o = .returned v ∧ Q10 Z r1 i1 k_1 x0 x1 x2 x3 x4 x5 x6 x7 h0 n0 v U'.heap L ∧ FrameEnd U o U' L ({ frames := 0, cells := 0, slots := 0, locals := 0 } : Room).cells ({ frames := 0, cells := 0, slots := 0, locals := 0 } : Room).slots) := by
  refine MetFree.of_bodySF (plainFor_of_name pn_0) hisR ?_
  intro p e s m args below meth c s₁ Bd hml0 hP hK
  obtain ⟨rfl, hZ, hh⟩ := hP
  have hx := Bd.exec
  have hby := Bd.bytes
  have hml : c.maxLocals = 2 := hml0
  have hown : s.vm.findClass "com/example/mimosa/mimosa/bson/BsonDocument" = some m.cls := findClass_of_methodNamed Bd.named
  have hnm := (name_of_methodNamed Bd.named Bd.method).1
  have X0 : Stand p l e ({ frames := 0, cells := 0, slots := 0, locals := 0 } : Room) s m #[(.ref r1), (.int i1)] below meth c s₁ [] 0 0 := Stand.of_body Bd
  have e0 : s₁.heap = h0 := by rw [← hh, Bd.state]; rfl
  have N0 := Fr.nil n0
  suffices H : ∀ Qo : Outcome → State → Prop, (∀ (v : Option Value) (u : State) (L : List Loc), Q10 Z r1 i1 k_1 x0 x1 x2 x3 x4 x5 x6 x7 h0 n0 v u.heap L → FrameEnd s (.returned v) u L ({ frames := 0, cells := 0, slots := 0, locals := 0 } : Room).cells ({ frames := 0, cells := 0, slots := 0, locals := 0 } : Room).slots → Qo (.returned v) u) → Go p e below Qo s₁ (mkF m 0 #[.val (.ref r1), .val (.int i1)] []) from
    Go.cast (ef_10 m r1 i1) (H _ fun v u L h1 h2 => ⟨v, L, rfl, h1, h2⟩)
  intro Qo hQo
  subst ho
  show Go p e below Qo s₁ (mkF m 0 #[.val (.ref r1), .val (.int (0 : Int32))] [])
  refine Go.of (fun t k => XS.aloadN X0.here hx rfl (hb hby d10_0) rfl rfl k) ?_
  show Go p e below Qo s₁ (mkF m 1 #[.val (.ref r1), .val (.int (0 : Int32))] [(.ref r1)])
  refine Go.of (fun t k => XS.iloadN X0.here hx rfl (hb hby d10_1) rfl  k) ?_
  show Go p e below Qo s₁ (mkF m 2 #[.val (.ref r1), .val (.int (0 : Int32))] [(.int (0 : Int32)), (.ref r1)])
  have cpo1 := f0
  obtain ⟨clo1, Aro1, qco1, So1, Mo1, Ho1, Go1⟩ := cpo1
  have hin2 : ¬ ((0 : Int32) < 0 ∨ clo1.slots.size ≤ (0 : Int32).toNatClampNeg) := (inb_of So1 ⟨by decide, by decide⟩)
  refine Go.of (fun t k => X0.baloadBytes hx (j := (0 : Int32)) (v := (.int x0)) (by rw [e0]; exact Aro1.1) (State.isArrayOf_alike hZ.alike Aro1.2.1) Aro1.2.2 hin2 (Ho1.at hin2 rfl) (g := (mkF m 2 #[.val (.ref r1), .val (.int (0 : Int32))] [(.int (0 : Int32)), (.ref r1)])) rfl rfl (hb hby d10_2) t k) ?_
  show Go p e below Qo s₁ (mkF m 3 #[.val (.ref r1), .val (.int (0 : Int32))] [(.int x0)])
  refine Go.of (fun t k => XS.sipush X0.here hx rfl (hb hby d10_3) k) ?_
  show Go p e below Qo s₁ (mkF m 6 #[.val (.ref r1), .val (.int (0 : Int32))] [(.int (255 : Int32)), (.int x0)])
  refine Go.of (fun t k => XS.iand X0.here hx rfl (hb hby d10_6) rfl k) ?_
  show Go p e below Qo s₁ (mkF m 7 #[.val (.ref r1), .val (.int (0 : Int32))] [(.int (x0 &&& (255 : Int32)))])
  refine Go.of (fun t k => XS.aloadN X0.here hx rfl (hb hby d10_7) rfl rfl k) ?_
  show Go p e below Qo s₁ (mkF m 8 #[.val (.ref r1), .val (.int (0 : Int32))] [(.ref r1), (.int (x0 &&& (255 : Int32)))])
  refine Go.of (fun t k => XS.iloadN X0.here hx rfl (hb hby d10_8) rfl  k) ?_
  show Go p e below Qo s₁ (mkF m 9 #[.val (.ref r1), .val (.int (0 : Int32))] [(.int (0 : Int32)), (.ref r1), (.int (x0 &&& (255 : Int32)))])
  refine Go.of (fun t k => XS.iconst X0.here hx rfl (hb hby d10_9) k) ?_
  show Go p e below Qo s₁ (mkF m 10 #[.val (.ref r1), .val (.int (0 : Int32))] [(.int (1 : Int32)), (.int (0 : Int32)), (.ref r1), (.int (x0 &&& (255 : Int32)))])
  refine Go.of (fun t k => XS.iadd X0.here hx rfl (hb hby d10_10) rfl k) ?_
  show Go p e below Qo s₁ (mkF m 11 #[.val (.ref r1), .val (.int (0 : Int32))] [(.int (1 : Int32)), (.ref r1), (.int (x0 &&& (255 : Int32)))])
  have cpo3 := f0
  obtain ⟨clo3, Aro3, qco3, So3, Mo3, Ho3, Go3⟩ := cpo3
  have hin4 : ¬ ((1 : Int32) < 0 ∨ clo3.slots.size ≤ (1 : Int32).toNatClampNeg) := (inb_of So3 ⟨by decide, by decide⟩)
  refine Go.of (fun t k => X0.baloadBytes hx (j := (1 : Int32)) (v := (.int x1)) (by rw [e0]; exact Aro3.1) (State.isArrayOf_alike hZ.alike Aro3.2.1) Aro3.2.2 hin4 (Ho3.at hin4 rfl) (g := (mkF m 11 #[.val (.ref r1), .val (.int (0 : Int32))] [(.int (1 : Int32)), (.ref r1), (.int (x0 &&& (255 : Int32)))])) rfl rfl (hb hby d10_11) t k) ?_
  show Go p e below Qo s₁ (mkF m 12 #[.val (.ref r1), .val (.int (0 : Int32))] [(.int x1), (.int (x0 &&& (255 : Int32)))])
  refine Go.of (fun t k => XS.sipush X0.here hx rfl (hb hby d10_12) k) ?_
  show Go p e below Qo s₁ (mkF m 15 #[.val (.ref r1), .val (.int (0 : Int32))] [(.int (255 : Int32)), (.int x1), (.int (x0 &&& (255 : Int32)))])
  refine Go.of (fun t k => XS.iand X0.here hx rfl (hb hby d10_15) rfl k) ?_
  show Go p e below Qo s₁ (mkF m 16 #[.val (.ref r1), .val (.int (0 : Int32))] [(.int (x1 &&& (255 : Int32))), (.int (x0 &&& (255 : Int32)))])
  refine Go.of (fun t k => XS.bipush X0.here hx rfl (hb hby d10_16) k) ?_
  show Go p e below Qo s₁ (mkF m 18 #[.val (.ref r1), .val (.int (0 : Int32))] [(.int (8 : Int32)), (.int (x1 &&& (255 : Int32))), (.int (x0 &&& (255 : Int32)))])
  refine Go.of (fun t k => XS.ishl X0.here hx rfl (hb hby d10_18) rfl k) ?_
  show Go p e below Qo s₁ (mkF m 19 #[.val (.ref r1), .val (.int (0 : Int32))] [(.int ((x1 &&& (255 : Int32)) <<< ((8 : Int32) &&& 31))), (.int (x0 &&& (255 : Int32)))])
  refine Go.of (fun t k => XS.ior X0.here hx rfl (hb hby d10_19) rfl k) ?_
  show Go p e below Qo s₁ (mkF m 20 #[.val (.ref r1), .val (.int (0 : Int32))] [(.int ((x0 &&& (255 : Int32)) ||| ((x1 &&& (255 : Int32)) <<< ((8 : Int32) &&& 31))))])
  refine Go.of (fun t k => XS.aloadN X0.here hx rfl (hb hby d10_20) rfl rfl k) ?_
  show Go p e below Qo s₁ (mkF m 21 #[.val (.ref r1), .val (.int (0 : Int32))] [(.ref r1), (.int ((x0 &&& (255 : Int32)) ||| ((x1 &&& (255 : Int32)) <<< ((8 : Int32) &&& 31))))])
  refine Go.of (fun t k => XS.iloadN X0.here hx rfl (hb hby d10_21) rfl  k) ?_
  show Go p e below Qo s₁ (mkF m 22 #[.val (.ref r1), .val (.int (0 : Int32))] [(.int (0 : Int32)), (.ref r1), (.int ((x0 &&& (255 : Int32)) ||| ((x1 &&& (255 : Int32)) <<< ((8 : Int32) &&& 31))))])
  refine Go.of (fun t k => XS.iconst X0.here hx rfl (hb hby d10_22) k) ?_
  show Go p e below Qo s₁ (mkF m 23 #[.val (.ref r1), .val (.int (0 : Int32))] [(.int (2 : Int32)), (.int (0 : Int32)), (.ref r1), (.int ((x0 &&& (255 : Int32)) ||| ((x1 &&& (255 : Int32)) <<< ((8 : Int32) &&& 31))))])
  refine Go.of (fun t k => XS.iadd X0.here hx rfl (hb hby d10_23) rfl k) ?_
  show Go p e below Qo s₁ (mkF m 24 #[.val (.ref r1), .val (.int (0 : Int32))] [(.int (2 : Int32)), (.ref r1), (.int ((x0 &&& (255 : Int32)) ||| ((x1 &&& (255 : Int32)) <<< ((8 : Int32) &&& 31))))])
  have cpo5 := f0
  obtain ⟨clo5, Aro5, qco5, So5, Mo5, Ho5, Go5⟩ := cpo5
  have hin6 : ¬ ((2 : Int32) < 0 ∨ clo5.slots.size ≤ (2 : Int32).toNatClampNeg) := (inb_of So5 ⟨by decide, by decide⟩)
  refine Go.of (fun t k => X0.baloadBytes hx (j := (2 : Int32)) (v := (.int x2)) (by rw [e0]; exact Aro5.1) (State.isArrayOf_alike hZ.alike Aro5.2.1) Aro5.2.2 hin6 (Ho5.at hin6 rfl) (g := (mkF m 24 #[.val (.ref r1), .val (.int (0 : Int32))] [(.int (2 : Int32)), (.ref r1), (.int ((x0 &&& (255 : Int32)) ||| ((x1 &&& (255 : Int32)) <<< ((8 : Int32) &&& 31))))])) rfl rfl (hb hby d10_24) t k) ?_
  show Go p e below Qo s₁ (mkF m 25 #[.val (.ref r1), .val (.int (0 : Int32))] [(.int x2), (.int ((x0 &&& (255 : Int32)) ||| ((x1 &&& (255 : Int32)) <<< ((8 : Int32) &&& 31))))])
  refine Go.of (fun t k => XS.sipush X0.here hx rfl (hb hby d10_25) k) ?_
  show Go p e below Qo s₁ (mkF m 28 #[.val (.ref r1), .val (.int (0 : Int32))] [(.int (255 : Int32)), (.int x2), (.int ((x0 &&& (255 : Int32)) ||| ((x1 &&& (255 : Int32)) <<< ((8 : Int32) &&& 31))))])
  refine Go.of (fun t k => XS.iand X0.here hx rfl (hb hby d10_28) rfl k) ?_
  show Go p e below Qo s₁ (mkF m 29 #[.val (.ref r1), .val (.int (0 : Int32))] [(.int (x2 &&& (255 : Int32))), (.int ((x0 &&& (255 : Int32)) ||| ((x1 &&& (255 : Int32)) <<< ((8 : Int32) &&& 31))))])
  refine Go.of (fun t k => XS.bipush X0.here hx rfl (hb hby d10_29) k) ?_
  show Go p e below Qo s₁ (mkF m 31 #[.val (.ref r1), .val (.int (0 : Int32))] [(.int (16 : Int32)), (.int (x2 &&& (255 : Int32))), (.int ((x0 &&& (255 : Int32)) ||| ((x1 &&& (255 : Int32)) <<< ((8 : Int32) &&& 31))))])
  refine Go.of (fun t k => XS.ishl X0.here hx rfl (hb hby d10_31) rfl k) ?_
  show Go p e below Qo s₁ (mkF m 32 #[.val (.ref r1), .val (.int (0 : Int32))] [(.int ((x2 &&& (255 : Int32)) <<< ((16 : Int32) &&& 31))), (.int ((x0 &&& (255 : Int32)) ||| ((x1 &&& (255 : Int32)) <<< ((8 : Int32) &&& 31))))])
  refine Go.of (fun t k => XS.ior X0.here hx rfl (hb hby d10_32) rfl k) ?_
  show Go p e below Qo s₁ (mkF m 33 #[.val (.ref r1), .val (.int (0 : Int32))] [(.int (((x0 &&& (255 : Int32)) ||| ((x1 &&& (255 : Int32)) <<< ((8 : Int32) &&& 31))) ||| ((x2 &&& (255 : Int32)) <<< ((16 : Int32) &&& 31))))])
  refine Go.of (fun t k => XS.aloadN X0.here hx rfl (hb hby d10_33) rfl rfl k) ?_
  show Go p e below Qo s₁ (mkF m 34 #[.val (.ref r1), .val (.int (0 : Int32))] [(.ref r1), (.int (((x0 &&& (255 : Int32)) ||| ((x1 &&& (255 : Int32)) <<< ((8 : Int32) &&& 31))) ||| ((x2 &&& (255 : Int32)) <<< ((16 : Int32) &&& 31))))])
  refine Go.of (fun t k => XS.iloadN X0.here hx rfl (hb hby d10_34) rfl  k) ?_
  show Go p e below Qo s₁ (mkF m 35 #[.val (.ref r1), .val (.int (0 : Int32))] [(.int (0 : Int32)), (.ref r1), (.int (((x0 &&& (255 : Int32)) ||| ((x1 &&& (255 : Int32)) <<< ((8 : Int32) &&& 31))) ||| ((x2 &&& (255 : Int32)) <<< ((16 : Int32) &&& 31))))])
  refine Go.of (fun t k => XS.iconst X0.here hx rfl (hb hby d10_35) k) ?_
  show Go p e below Qo s₁ (mkF m 36 #[.val (.ref r1), .val (.int (0 : Int32))] [(.int (3 : Int32)), (.int (0 : Int32)), (.ref r1), (.int (((x0 &&& (255 : Int32)) ||| ((x1 &&& (255 : Int32)) <<< ((8 : Int32) &&& 31))) ||| ((x2 &&& (255 : Int32)) <<< ((16 : Int32) &&& 31))))])
  refine Go.of (fun t k => XS.iadd X0.here hx rfl (hb hby d10_36) rfl k) ?_
  show Go p e below Qo s₁ (mkF m 37 #[.val (.ref r1), .val (.int (0 : Int32))] [(.int (3 : Int32)), (.ref r1), (.int (((x0 &&& (255 : Int32)) ||| ((x1 &&& (255 : Int32)) <<< ((8 : Int32) &&& 31))) ||| ((x2 &&& (255 : Int32)) <<< ((16 : Int32) &&& 31))))])
  have cpo7 := f0
  obtain ⟨clo7, Aro7, qco7, So7, Mo7, Ho7, Go7⟩ := cpo7
  have hin8 : ¬ ((3 : Int32) < 0 ∨ clo7.slots.size ≤ (3 : Int32).toNatClampNeg) := (inb_of So7 ⟨by decide, by decide⟩)
  refine Go.of (fun t k => X0.baloadBytes hx (j := (3 : Int32)) (v := (.int x3)) (by rw [e0]; exact Aro7.1) (State.isArrayOf_alike hZ.alike Aro7.2.1) Aro7.2.2 hin8 (Ho7.at hin8 rfl) (g := (mkF m 37 #[.val (.ref r1), .val (.int (0 : Int32))] [(.int (3 : Int32)), (.ref r1), (.int (((x0 &&& (255 : Int32)) ||| ((x1 &&& (255 : Int32)) <<< ((8 : Int32) &&& 31))) ||| ((x2 &&& (255 : Int32)) <<< ((16 : Int32) &&& 31))))])) rfl rfl (hb hby d10_37) t k) ?_
  show Go p e below Qo s₁ (mkF m 38 #[.val (.ref r1), .val (.int (0 : Int32))] [(.int x3), (.int (((x0 &&& (255 : Int32)) ||| ((x1 &&& (255 : Int32)) <<< ((8 : Int32) &&& 31))) ||| ((x2 &&& (255 : Int32)) <<< ((16 : Int32) &&& 31))))])
  refine Go.of (fun t k => XS.sipush X0.here hx rfl (hb hby d10_38) k) ?_
  show Go p e below Qo s₁ (mkF m 41 #[.val (.ref r1), .val (.int (0 : Int32))] [(.int (255 : Int32)), (.int x3), (.int (((x0 &&& (255 : Int32)) ||| ((x1 &&& (255 : Int32)) <<< ((8 : Int32) &&& 31))) ||| ((x2 &&& (255 : Int32)) <<< ((16 : Int32) &&& 31))))])
  refine Go.of (fun t k => XS.iand X0.here hx rfl (hb hby d10_41) rfl k) ?_
  show Go p e below Qo s₁ (mkF m 42 #[.val (.ref r1), .val (.int (0 : Int32))] [(.int (x3 &&& (255 : Int32))), (.int (((x0 &&& (255 : Int32)) ||| ((x1 &&& (255 : Int32)) <<< ((8 : Int32) &&& 31))) ||| ((x2 &&& (255 : Int32)) <<< ((16 : Int32) &&& 31))))])
  refine Go.of (fun t k => XS.bipush X0.here hx rfl (hb hby d10_42) k) ?_
  show Go p e below Qo s₁ (mkF m 44 #[.val (.ref r1), .val (.int (0 : Int32))] [(.int (24 : Int32)), (.int (x3 &&& (255 : Int32))), (.int (((x0 &&& (255 : Int32)) ||| ((x1 &&& (255 : Int32)) <<< ((8 : Int32) &&& 31))) ||| ((x2 &&& (255 : Int32)) <<< ((16 : Int32) &&& 31))))])
  refine Go.of (fun t k => XS.ishl X0.here hx rfl (hb hby d10_44) rfl k) ?_
  show Go p e below Qo s₁ (mkF m 45 #[.val (.ref r1), .val (.int (0 : Int32))] [(.int ((x3 &&& (255 : Int32)) <<< ((24 : Int32) &&& 31))), (.int (((x0 &&& (255 : Int32)) ||| ((x1 &&& (255 : Int32)) <<< ((8 : Int32) &&& 31))) ||| ((x2 &&& (255 : Int32)) <<< ((16 : Int32) &&& 31))))])
  refine Go.of (fun t k => XS.ior X0.here hx rfl (hb hby d10_45) rfl k) ?_
  show Go p e below Qo s₁ (mkF m 46 #[.val (.ref r1), .val (.int (0 : Int32))] [(.int ((((x0 &&& (255 : Int32)) ||| ((x1 &&& (255 : Int32)) <<< ((8 : Int32) &&& 31))) ||| ((x2 &&& (255 : Int32)) <<< ((16 : Int32) &&& 31))) ||| ((x3 &&& (255 : Int32)) <<< ((24 : Int32) &&& 31))))])
  exact own_retW X0 hx Bd.notSynchronized Bd.returns rfl (Or.inl ⟨rfl, Or.inl rfl, _, rfl⟩) (hb hby d10_46) (fun u hu hF => hQo _ _ _ ⟨by rw [show (F10 x0 x1 x2 x3) = ((((x0 &&& (255 : Int32)) ||| ((x1 &&& (255 : Int32)) <<< ((8 : Int32) &&& 31))) ||| ((x2 &&& (255 : Int32)) <<< ((16 : Int32) &&& 31))) ||| ((x3 &&& (255 : Int32)) <<< ((24 : Int32) &&& 31))) from by rfl], N0, by rw [hu, e0]⟩ (own_mono hF (by decide) (by decide)))
theorem d11_0 : decode prog_12_method_39_code 0 = .ok (.aload_n 0, 1) := by decide +kernel
theorem d11_1 : decode prog_12_method_39_code 1 = .ok (.iload_n 1, 1) := by decide +kernel
theorem d11_2 : decode prog_12_method_39_code 2 = .ok (.baload, 1) := by decide +kernel
theorem d11_3 : decode prog_12_method_39_code 3 = .ok (.sipush 255, 3) := by decide +kernel
theorem d11_6 : decode prog_12_method_39_code 6 = .ok (.iand, 1) := by decide +kernel
theorem d11_7 : decode prog_12_method_39_code 7 = .ok (.aload_n 0, 1) := by decide +kernel
theorem d11_8 : decode prog_12_method_39_code 8 = .ok (.iload_n 1, 1) := by decide +kernel
theorem d11_9 : decode prog_12_method_39_code 9 = .ok (.iconst 1, 1) := by decide +kernel
theorem d11_10 : decode prog_12_method_39_code 10 = .ok (.iadd, 1) := by decide +kernel
theorem d11_11 : decode prog_12_method_39_code 11 = .ok (.baload, 1) := by decide +kernel
theorem d11_12 : decode prog_12_method_39_code 12 = .ok (.sipush 255, 3) := by decide +kernel
theorem d11_15 : decode prog_12_method_39_code 15 = .ok (.iand, 1) := by decide +kernel
theorem d11_16 : decode prog_12_method_39_code 16 = .ok (.bipush 8, 2) := by decide +kernel
theorem d11_18 : decode prog_12_method_39_code 18 = .ok (.ishl, 1) := by decide +kernel
theorem d11_19 : decode prog_12_method_39_code 19 = .ok (.ior, 1) := by decide +kernel
theorem d11_20 : decode prog_12_method_39_code 20 = .ok (.aload_n 0, 1) := by decide +kernel
theorem d11_21 : decode prog_12_method_39_code 21 = .ok (.iload_n 1, 1) := by decide +kernel
theorem d11_22 : decode prog_12_method_39_code 22 = .ok (.iconst 2, 1) := by decide +kernel
theorem d11_23 : decode prog_12_method_39_code 23 = .ok (.iadd, 1) := by decide +kernel
theorem d11_24 : decode prog_12_method_39_code 24 = .ok (.baload, 1) := by decide +kernel
theorem d11_25 : decode prog_12_method_39_code 25 = .ok (.sipush 255, 3) := by decide +kernel
theorem d11_28 : decode prog_12_method_39_code 28 = .ok (.iand, 1) := by decide +kernel
theorem d11_29 : decode prog_12_method_39_code 29 = .ok (.bipush 16, 2) := by decide +kernel
theorem d11_31 : decode prog_12_method_39_code 31 = .ok (.ishl, 1) := by decide +kernel
theorem d11_32 : decode prog_12_method_39_code 32 = .ok (.ior, 1) := by decide +kernel
theorem d11_33 : decode prog_12_method_39_code 33 = .ok (.aload_n 0, 1) := by decide +kernel
theorem d11_34 : decode prog_12_method_39_code 34 = .ok (.iload_n 1, 1) := by decide +kernel
theorem d11_35 : decode prog_12_method_39_code 35 = .ok (.iconst 3, 1) := by decide +kernel
theorem d11_36 : decode prog_12_method_39_code 36 = .ok (.iadd, 1) := by decide +kernel
theorem d11_37 : decode prog_12_method_39_code 37 = .ok (.baload, 1) := by decide +kernel
theorem d11_38 : decode prog_12_method_39_code 38 = .ok (.sipush 255, 3) := by decide +kernel
theorem d11_41 : decode prog_12_method_39_code 41 = .ok (.iand, 1) := by decide +kernel
theorem d11_42 : decode prog_12_method_39_code 42 = .ok (.bipush 24, 2) := by decide +kernel
theorem d11_44 : decode prog_12_method_39_code 44 = .ok (.ishl, 1) := by decide +kernel
theorem d11_45 : decode prog_12_method_39_code 45 = .ok (.ior, 1) := by decide +kernel
theorem d11_46 : decode prog_12_method_39_code 46 = .ok (.ireturn, 1) := by decide +kernel
theorem ef_11 (m : MethodId) (r1 : Addr) (i1 : Int32)  : entryFrame m #[(.ref r1), (.int i1)] 2 = mkF m 0 #[.val (.ref r1), .val (.int i1)] [] := by
  first | (simp [entryFrame, mkF, argsToLocals, Value.category]; done) | rfl
def F11 (x1 : Int32) (x2 : Int32) (x3 : Int32) (x4 : Int32) : Int32 := ((((x1 &&& (255 : Int32)) ||| ((x2 &&& (255 : Int32)) <<< ((8 : Int32) &&& 31))) ||| ((x3 &&& (255 : Int32)) <<< ((16 : Int32) &&& 31))) ||| ((x4 &&& (255 : Int32)) <<< ((24 : Int32) &&& 31)))
def Q11 (Z : State) (r1 : Addr) (i1 : Int32) (k_1 : ClassId) (x0 : Int32) (x1 : Int32) (x2 : Int32) (x3 : Int32) (x4 : Int32) (x5 : Int32) (x6 : Int32) (x7 : Int32) (h0 : Heap) (n0 : Nat) (v : Option Value) (h : Heap) (L : List Loc) : Prop := v = some (.int (F11 x1 x2 x3 x4)) ∧ Fr n0 L ∧ h = h0
set_option maxRecDepth 65536 in
set_option maxHeartbeats 40000000 in
theorem rm11 (l : Launch) (Z : State) (a0 : Array Value) (hw : ∀ d ∈ tables_1, d.before a0 Z = true) (ws : List Jvm.Cond) (r1 : Addr) (i1 : Int32) (k_1 : ClassId) (x0 : Int32) (x1 : Int32) (x2 : Int32) (x3 : Int32) (x4 : Int32) (x5 : Int32) (x6 : Int32) (x7 : Int32) (h0 : Heap) (n0 : Nat) (Z0 : n0 ≤ h0.size) (f0 : Arv Z h0 r1 k_1 .byte (8 : Int32) [(.int x0), (.int x1), (.int x2), (.int x3), (.int x4), (.int x5), (.int x6), (.int x7)] (.int (0 : Int32))) (ho : i1 = (1 : Int32)) :
    MetFree l (⟨"com/example/mimosa/mimosa/bson/BsonDocument", "readInt32", "([BI)I"⟩ : MethodName) (head1 (Jvm.Cond.code (⟨"com/example/mimosa/mimosa/bson/BsonDocument", "readInt32", "([BI)I"⟩ : MethodName) prog_12_method_39_code 2 (some .int) :: ws) ({ frames := 0, cells := 0, slots := 0, locals := 0 } : Room)) (fun a U => a = #[(.ref r1), (.int i1)] ∧ Z.Warmed39 U.vm ∧ U.heap = h0) (fun _ _ _ _ _ => True) (fun _ U o U' => ∃ v L, o = .returned v ∧ Q11 Z r1 i1 k_1 x0 x1 x2 x3 x4 x5 x6 x7 h0 n0 v U'.heap L ∧ FrameEnd U o U' L ({ frames := 0, cells := 0, slots := 0, locals := 0 } : Room).cells ({ frames := 0, cells := 0, slots := 0, locals := 0 } : Room).slots) := by
  refine MetFree.of_bodySF (plainFor_of_name pn_0) hisR ?_
  intro p e s m args below meth c s₁ Bd hml0 hP hK
  obtain ⟨rfl, hZ, hh⟩ := hP
  have hx := Bd.exec
  have hby := Bd.bytes
  have hml : c.maxLocals = 2 := hml0
  have hown : s.vm.findClass "com/example/mimosa/mimosa/bson/BsonDocument" = some m.cls := findClass_of_methodNamed Bd.named
  have hnm := (name_of_methodNamed Bd.named Bd.method).1
  have X0 : Stand p l e ({ frames := 0, cells := 0, slots := 0, locals := 0 } : Room) s m #[(.ref r1), (.int i1)] below meth c s₁ [] 0 0 := Stand.of_body Bd
  have e0 : s₁.heap = h0 := by rw [← hh, Bd.state]; rfl
  have N0 := Fr.nil n0
  suffices H : ∀ Qo : Outcome → State → Prop, (∀ (v : Option Value) (u : State) (L : List Loc), Q11 Z r1 i1 k_1 x0 x1 x2 x3 x4 x5 x6 x7 h0 n0 v u.heap L → FrameEnd s (.returned v) u L ({ frames := 0, cells := 0, slots := 0, locals := 0 } : Room).cells ({ frames := 0, cells := 0, slots := 0, locals := 0 } : Room).slots → Qo (.returned v) u) → Go p e below Qo s₁ (mkF m 0 #[.val (.ref r1), .val (.int i1)] []) from
    Go.cast (ef_11 m r1 i1) (H _ fun v u L h1 h2 => ⟨v, L, rfl, h1, h2⟩)
  intro Qo hQo
  subst ho
  show Go p e below Qo s₁ (mkF m 0 #[.val (.ref r1), .val (.int (1 : Int32))] [])
  refine Go.of (fun t k => XS.aloadN X0.here hx rfl (hb hby d11_0) rfl rfl k) ?_
  show Go p e below Qo s₁ (mkF m 1 #[.val (.ref r1), .val (.int (1 : Int32))] [(.ref r1)])
  refine Go.of (fun t k => XS.iloadN X0.here hx rfl (hb hby d11_1) rfl  k) ?_
  show Go p e below Qo s₁ (mkF m 2 #[.val (.ref r1), .val (.int (1 : Int32))] [(.int (1 : Int32)), (.ref r1)])
  have cpo1 := f0
  obtain ⟨clo1, Aro1, qco1, So1, Mo1, Ho1, Go1⟩ := cpo1
  have hin2 : ¬ ((1 : Int32) < 0 ∨ clo1.slots.size ≤ (1 : Int32).toNatClampNeg) := (inb_of So1 ⟨by decide, by decide⟩)
  refine Go.of (fun t k => X0.baloadBytes hx (j := (1 : Int32)) (v := (.int x1)) (by rw [e0]; exact Aro1.1) (State.isArrayOf_alike hZ.alike Aro1.2.1) Aro1.2.2 hin2 (Ho1.at hin2 rfl) (g := (mkF m 2 #[.val (.ref r1), .val (.int (1 : Int32))] [(.int (1 : Int32)), (.ref r1)])) rfl rfl (hb hby d11_2) t k) ?_
  show Go p e below Qo s₁ (mkF m 3 #[.val (.ref r1), .val (.int (1 : Int32))] [(.int x1)])
  refine Go.of (fun t k => XS.sipush X0.here hx rfl (hb hby d11_3) k) ?_
  show Go p e below Qo s₁ (mkF m 6 #[.val (.ref r1), .val (.int (1 : Int32))] [(.int (255 : Int32)), (.int x1)])
  refine Go.of (fun t k => XS.iand X0.here hx rfl (hb hby d11_6) rfl k) ?_
  show Go p e below Qo s₁ (mkF m 7 #[.val (.ref r1), .val (.int (1 : Int32))] [(.int (x1 &&& (255 : Int32)))])
  refine Go.of (fun t k => XS.aloadN X0.here hx rfl (hb hby d11_7) rfl rfl k) ?_
  show Go p e below Qo s₁ (mkF m 8 #[.val (.ref r1), .val (.int (1 : Int32))] [(.ref r1), (.int (x1 &&& (255 : Int32)))])
  refine Go.of (fun t k => XS.iloadN X0.here hx rfl (hb hby d11_8) rfl  k) ?_
  show Go p e below Qo s₁ (mkF m 9 #[.val (.ref r1), .val (.int (1 : Int32))] [(.int (1 : Int32)), (.ref r1), (.int (x1 &&& (255 : Int32)))])
  refine Go.of (fun t k => XS.iconst X0.here hx rfl (hb hby d11_9) k) ?_
  show Go p e below Qo s₁ (mkF m 10 #[.val (.ref r1), .val (.int (1 : Int32))] [(.int (1 : Int32)), (.int (1 : Int32)), (.ref r1), (.int (x1 &&& (255 : Int32)))])
  refine Go.of (fun t k => XS.iadd X0.here hx rfl (hb hby d11_10) rfl k) ?_
  show Go p e below Qo s₁ (mkF m 11 #[.val (.ref r1), .val (.int (1 : Int32))] [(.int (2 : Int32)), (.ref r1), (.int (x1 &&& (255 : Int32)))])
  have cpo3 := f0
  obtain ⟨clo3, Aro3, qco3, So3, Mo3, Ho3, Go3⟩ := cpo3
  have hin4 : ¬ ((2 : Int32) < 0 ∨ clo3.slots.size ≤ (2 : Int32).toNatClampNeg) := (inb_of So3 ⟨by decide, by decide⟩)
  refine Go.of (fun t k => X0.baloadBytes hx (j := (2 : Int32)) (v := (.int x2)) (by rw [e0]; exact Aro3.1) (State.isArrayOf_alike hZ.alike Aro3.2.1) Aro3.2.2 hin4 (Ho3.at hin4 rfl) (g := (mkF m 11 #[.val (.ref r1), .val (.int (1 : Int32))] [(.int (2 : Int32)), (.ref r1), (.int (x1 &&& (255 : Int32)))])) rfl rfl (hb hby d11_11) t k) ?_
  show Go p e below Qo s₁ (mkF m 12 #[.val (.ref r1), .val (.int (1 : Int32))] [(.int x2), (.int (x1 &&& (255 : Int32)))])
  refine Go.of (fun t k => XS.sipush X0.here hx rfl (hb hby d11_12) k) ?_
  show Go p e below Qo s₁ (mkF m 15 #[.val (.ref r1), .val (.int (1 : Int32))] [(.int (255 : Int32)), (.int x2), (.int (x1 &&& (255 : Int32)))])
  refine Go.of (fun t k => XS.iand X0.here hx rfl (hb hby d11_15) rfl k) ?_
  show Go p e below Qo s₁ (mkF m 16 #[.val (.ref r1), .val (.int (1 : Int32))] [(.int (x2 &&& (255 : Int32))), (.int (x1 &&& (255 : Int32)))])
  refine Go.of (fun t k => XS.bipush X0.here hx rfl (hb hby d11_16) k) ?_
  show Go p e below Qo s₁ (mkF m 18 #[.val (.ref r1), .val (.int (1 : Int32))] [(.int (8 : Int32)), (.int (x2 &&& (255 : Int32))), (.int (x1 &&& (255 : Int32)))])
  refine Go.of (fun t k => XS.ishl X0.here hx rfl (hb hby d11_18) rfl k) ?_
  show Go p e below Qo s₁ (mkF m 19 #[.val (.ref r1), .val (.int (1 : Int32))] [(.int ((x2 &&& (255 : Int32)) <<< ((8 : Int32) &&& 31))), (.int (x1 &&& (255 : Int32)))])
  refine Go.of (fun t k => XS.ior X0.here hx rfl (hb hby d11_19) rfl k) ?_
  show Go p e below Qo s₁ (mkF m 20 #[.val (.ref r1), .val (.int (1 : Int32))] [(.int ((x1 &&& (255 : Int32)) ||| ((x2 &&& (255 : Int32)) <<< ((8 : Int32) &&& 31))))])
  refine Go.of (fun t k => XS.aloadN X0.here hx rfl (hb hby d11_20) rfl rfl k) ?_
  show Go p e below Qo s₁ (mkF m 21 #[.val (.ref r1), .val (.int (1 : Int32))] [(.ref r1), (.int ((x1 &&& (255 : Int32)) ||| ((x2 &&& (255 : Int32)) <<< ((8 : Int32) &&& 31))))])
  refine Go.of (fun t k => XS.iloadN X0.here hx rfl (hb hby d11_21) rfl  k) ?_
  show Go p e below Qo s₁ (mkF m 22 #[.val (.ref r1), .val (.int (1 : Int32))] [(.int (1 : Int32)), (.ref r1), (.int ((x1 &&& (255 : Int32)) ||| ((x2 &&& (255 : Int32)) <<< ((8 : Int32) &&& 31))))])
  refine Go.of (fun t k => XS.iconst X0.here hx rfl (hb hby d11_22) k) ?_
  show Go p e below Qo s₁ (mkF m 23 #[.val (.ref r1), .val (.int (1 : Int32))] [(.int (2 : Int32)), (.int (1 : Int32)), (.ref r1), (.int ((x1 &&& (255 : Int32)) ||| ((x2 &&& (255 : Int32)) <<< ((8 : Int32) &&& 31))))])
  refine Go.of (fun t k => XS.iadd X0.here hx rfl (hb hby d11_23) rfl k) ?_
  show Go p e below Qo s₁ (mkF m 24 #[.val (.ref r1), .val (.int (1 : Int32))] [(.int (3 : Int32)), (.ref r1), (.int ((x1 &&& (255 : Int32)) ||| ((x2 &&& (255 : Int32)) <<< ((8 : Int32) &&& 31))))])
  have cpo5 := f0
  obtain ⟨clo5, Aro5, qco5, So5, Mo5, Ho5, Go5⟩ := cpo5
  have hin6 : ¬ ((3 : Int32) < 0 ∨ clo5.slots.size ≤ (3 : Int32).toNatClampNeg) := (inb_of So5 ⟨by decide, by decide⟩)
  refine Go.of (fun t k => X0.baloadBytes hx (j := (3 : Int32)) (v := (.int x3)) (by rw [e0]; exact Aro5.1) (State.isArrayOf_alike hZ.alike Aro5.2.1) Aro5.2.2 hin6 (Ho5.at hin6 rfl) (g := (mkF m 24 #[.val (.ref r1), .val (.int (1 : Int32))] [(.int (3 : Int32)), (.ref r1), (.int ((x1 &&& (255 : Int32)) ||| ((x2 &&& (255 : Int32)) <<< ((8 : Int32) &&& 31))))])) rfl rfl (hb hby d11_24) t k) ?_
  show Go p e below Qo s₁ (mkF m 25 #[.val (.ref r1), .val (.int (1 : Int32))] [(.int x3), (.int ((x1 &&& (255 : Int32)) ||| ((x2 &&& (255 : Int32)) <<< ((8 : Int32) &&& 31))))])
  refine Go.of (fun t k => XS.sipush X0.here hx rfl (hb hby d11_25) k) ?_
  show Go p e below Qo s₁ (mkF m 28 #[.val (.ref r1), .val (.int (1 : Int32))] [(.int (255 : Int32)), (.int x3), (.int ((x1 &&& (255 : Int32)) ||| ((x2 &&& (255 : Int32)) <<< ((8 : Int32) &&& 31))))])
  refine Go.of (fun t k => XS.iand X0.here hx rfl (hb hby d11_28) rfl k) ?_
  show Go p e below Qo s₁ (mkF m 29 #[.val (.ref r1), .val (.int (1 : Int32))] [(.int (x3 &&& (255 : Int32))), (.int ((x1 &&& (255 : Int32)) ||| ((x2 &&& (255 : Int32)) <<< ((8 : Int32) &&& 31))))])
  refine Go.of (fun t k => XS.bipush X0.here hx rfl (hb hby d11_29) k) ?_
  show Go p e below Qo s₁ (mkF m 31 #[.val (.ref r1), .val (.int (1 : Int32))] [(.int (16 : Int32)), (.int (x3 &&& (255 : Int32))), (.int ((x1 &&& (255 : Int32)) ||| ((x2 &&& (255 : Int32)) <<< ((8 : Int32) &&& 31))))])
  refine Go.of (fun t k => XS.ishl X0.here hx rfl (hb hby d11_31) rfl k) ?_
  show Go p e below Qo s₁ (mkF m 32 #[.val (.ref r1), .val (.int (1 : Int32))] [(.int ((x3 &&& (255 : Int32)) <<< ((16 : Int32) &&& 31))), (.int ((x1 &&& (255 : Int32)) ||| ((x2 &&& (255 : Int32)) <<< ((8 : Int32) &&& 31))))])
  refine Go.of (fun t k => XS.ior X0.here hx rfl (hb hby d11_32) rfl k) ?_
  show Go p e below Qo s₁ (mkF m 33 #[.val (.ref r1), .val (.int (1 : Int32))] [(.int (((x1 &&& (255 : Int32)) ||| ((x2 &&& (255 : Int32)) <<< ((8 : Int32) &&& 31))) ||| ((x3 &&& (255 : Int32)) <<< ((16 : Int32) &&& 31))))])
  refine Go.of (fun t k => XS.aloadN X0.here hx rfl (hb hby d11_33) rfl rfl k) ?_
  show Go p e below Qo s₁ (mkF m 34 #[.val (.ref r1), .val (.int (1 : Int32))] [(.ref r1), (.int (((x1 &&& (255 : Int32)) ||| ((x2 &&& (255 : Int32)) <<< ((8 : Int32) &&& 31))) ||| ((x3 &&& (255 : Int32)) <<< ((16 : Int32) &&& 31))))])
  refine Go.of (fun t k => XS.iloadN X0.here hx rfl (hb hby d11_34) rfl  k) ?_
  show Go p e below Qo s₁ (mkF m 35 #[.val (.ref r1), .val (.int (1 : Int32))] [(.int (1 : Int32)), (.ref r1), (.int (((x1 &&& (255 : Int32)) ||| ((x2 &&& (255 : Int32)) <<< ((8 : Int32) &&& 31))) ||| ((x3 &&& (255 : Int32)) <<< ((16 : Int32) &&& 31))))])
  refine Go.of (fun t k => XS.iconst X0.here hx rfl (hb hby d11_35) k) ?_
  show Go p e below Qo s₁ (mkF m 36 #[.val (.ref r1), .val (.int (1 : Int32))] [(.int (3 : Int32)), (.int (1 : Int32)), (.ref r1), (.int (((x1 &&& (255 : Int32)) ||| ((x2 &&& (255 : Int32)) <<< ((8 : Int32) &&& 31))) ||| ((x3 &&& (255 : Int32)) <<< ((16 : Int32) &&& 31))))])
  refine Go.of (fun t k => XS.iadd X0.here hx rfl (hb hby d11_36) rfl k) ?_
  show Go p e below Qo s₁ (mkF m 37 #[.val (.ref r1), .val (.int (1 : Int32))] [(.int (4 : Int32)), (.ref r1), (.int (((x1 &&& (255 : Int32)) ||| ((x2 &&& (255 : Int32)) <<< ((8 : Int32) &&& 31))) ||| ((x3 &&& (255 : Int32)) <<< ((16 : Int32) &&& 31))))])
  have cpo7 := f0
  obtain ⟨clo7, Aro7, qco7, So7, Mo7, Ho7, Go7⟩ := cpo7
  have hin8 : ¬ ((4 : Int32) < 0 ∨ clo7.slots.size ≤ (4 : Int32).toNatClampNeg) := (inb_of So7 ⟨by decide, by decide⟩)
  refine Go.of (fun t k => X0.baloadBytes hx (j := (4 : Int32)) (v := (.int x4)) (by rw [e0]; exact Aro7.1) (State.isArrayOf_alike hZ.alike Aro7.2.1) Aro7.2.2 hin8 (Ho7.at hin8 rfl) (g := (mkF m 37 #[.val (.ref r1), .val (.int (1 : Int32))] [(.int (4 : Int32)), (.ref r1), (.int (((x1 &&& (255 : Int32)) ||| ((x2 &&& (255 : Int32)) <<< ((8 : Int32) &&& 31))) ||| ((x3 &&& (255 : Int32)) <<< ((16 : Int32) &&& 31))))])) rfl rfl (hb hby d11_37) t k) ?_
  show Go p e below Qo s₁ (mkF m 38 #[.val (.ref r1), .val (.int (1 : Int32))] [(.int x4), (.int (((x1 &&& (255 : Int32)) ||| ((x2 &&& (255 : Int32)) <<< ((8 : Int32) &&& 31))) ||| ((x3 &&& (255 : Int32)) <<< ((16 : Int32) &&& 31))))])
  refine Go.of (fun t k => XS.sipush X0.here hx rfl (hb hby d11_38) k) ?_
  show Go p e below Qo s₁ (mkF m 41 #[.val (.ref r1), .val (.int (1 : Int32))] [(.int (255 : Int32)), (.int x4), (.int (((x1 &&& (255 : Int32)) ||| ((x2 &&& (255 : Int32)) <<< ((8 : Int32) &&& 31))) ||| ((x3 &&& (255 : Int32)) <<< ((16 : Int32) &&& 31))))])
  refine Go.of (fun t k => XS.iand X0.here hx rfl (hb hby d11_41) rfl k) ?_
  show Go p e below Qo s₁ (mkF m 42 #[.val (.ref r1), .val (.int (1 : Int32))] [(.int (x4 &&& (255 : Int32))), (.int (((x1 &&& (255 : Int32)) ||| ((x2 &&& (255 : Int32)) <<< ((8 : Int32) &&& 31))) ||| ((x3 &&& (255 : Int32)) <<< ((16 : Int32) &&& 31))))])
  refine Go.of (fun t k => XS.bipush X0.here hx rfl (hb hby d11_42) k) ?_
  show Go p e below Qo s₁ (mkF m 44 #[.val (.ref r1), .val (.int (1 : Int32))] [(.int (24 : Int32)), (.int (x4 &&& (255 : Int32))), (.int (((x1 &&& (255 : Int32)) ||| ((x2 &&& (255 : Int32)) <<< ((8 : Int32) &&& 31))) ||| ((x3 &&& (255 : Int32)) <<< ((16 : Int32) &&& 31))))])
  refine Go.of (fun t k => XS.ishl X0.here hx rfl (hb hby d11_44) rfl k) ?_
  show Go p e below Qo s₁ (mkF m 45 #[.val (.ref r1), .val (.int (1 : Int32))] [(.int ((x4 &&& (255 : Int32)) <<< ((24 : Int32) &&& 31))), (.int (((x1 &&& (255 : Int32)) ||| ((x2 &&& (255 : Int32)) <<< ((8 : Int32) &&& 31))) ||| ((x3 &&& (255 : Int32)) <<< ((16 : Int32) &&& 31))))])
  refine Go.of (fun t k => XS.ior X0.here hx rfl (hb hby d11_45) rfl k) ?_
  show Go p e below Qo s₁ (mkF m 46 #[.val (.ref r1), .val (.int (1 : Int32))] [(.int ((((x1 &&& (255 : Int32)) ||| ((x2 &&& (255 : Int32)) <<< ((8 : Int32) &&& 31))) ||| ((x3 &&& (255 : Int32)) <<< ((16 : Int32) &&& 31))) ||| ((x4 &&& (255 : Int32)) <<< ((24 : Int32) &&& 31))))])
  exact own_retW X0 hx Bd.notSynchronized Bd.returns rfl (Or.inl ⟨rfl, Or.inl rfl, _, rfl⟩) (hb hby d11_46) (fun u hu hF => hQo _ _ _ ⟨by rw [show (F11 x1 x2 x3 x4) = ((((x1 &&& (255 : Int32)) ||| ((x2 &&& (255 : Int32)) <<< ((8 : Int32) &&& 31))) ||| ((x3 &&& (255 : Int32)) <<< ((16 : Int32) &&& 31))) ||| ((x4 &&& (255 : Int32)) <<< ((24 : Int32) &&& 31))) from by rfl], N0, by rw [hu, e0]⟩ (own_mono hF (by decide) (by decide)))
theorem d12_0 : decode prog_12_method_39_code 0 = .ok (.aload_n 0, 1) := by decide +kernel
theorem d12_1 : decode prog_12_method_39_code 1 = .ok (.iload_n 1, 1) := by decide +kernel
theorem d12_2 : decode prog_12_method_39_code 2 = .ok (.baload, 1) := by decide +kernel
theorem d12_3 : decode prog_12_method_39_code 3 = .ok (.sipush 255, 3) := by decide +kernel
theorem d12_6 : decode prog_12_method_39_code 6 = .ok (.iand, 1) := by decide +kernel
theorem d12_7 : decode prog_12_method_39_code 7 = .ok (.aload_n 0, 1) := by decide +kernel
theorem d12_8 : decode prog_12_method_39_code 8 = .ok (.iload_n 1, 1) := by decide +kernel
theorem d12_9 : decode prog_12_method_39_code 9 = .ok (.iconst 1, 1) := by decide +kernel
theorem d12_10 : decode prog_12_method_39_code 10 = .ok (.iadd, 1) := by decide +kernel
theorem d12_11 : decode prog_12_method_39_code 11 = .ok (.baload, 1) := by decide +kernel
theorem d12_12 : decode prog_12_method_39_code 12 = .ok (.sipush 255, 3) := by decide +kernel
theorem d12_15 : decode prog_12_method_39_code 15 = .ok (.iand, 1) := by decide +kernel
theorem d12_16 : decode prog_12_method_39_code 16 = .ok (.bipush 8, 2) := by decide +kernel
theorem d12_18 : decode prog_12_method_39_code 18 = .ok (.ishl, 1) := by decide +kernel
theorem d12_19 : decode prog_12_method_39_code 19 = .ok (.ior, 1) := by decide +kernel
theorem d12_20 : decode prog_12_method_39_code 20 = .ok (.aload_n 0, 1) := by decide +kernel
theorem d12_21 : decode prog_12_method_39_code 21 = .ok (.iload_n 1, 1) := by decide +kernel
theorem d12_22 : decode prog_12_method_39_code 22 = .ok (.iconst 2, 1) := by decide +kernel
theorem d12_23 : decode prog_12_method_39_code 23 = .ok (.iadd, 1) := by decide +kernel
theorem d12_24 : decode prog_12_method_39_code 24 = .ok (.baload, 1) := by decide +kernel
theorem d12_25 : decode prog_12_method_39_code 25 = .ok (.sipush 255, 3) := by decide +kernel
theorem d12_28 : decode prog_12_method_39_code 28 = .ok (.iand, 1) := by decide +kernel
theorem d12_29 : decode prog_12_method_39_code 29 = .ok (.bipush 16, 2) := by decide +kernel
theorem d12_31 : decode prog_12_method_39_code 31 = .ok (.ishl, 1) := by decide +kernel
theorem d12_32 : decode prog_12_method_39_code 32 = .ok (.ior, 1) := by decide +kernel
theorem d12_33 : decode prog_12_method_39_code 33 = .ok (.aload_n 0, 1) := by decide +kernel
theorem d12_34 : decode prog_12_method_39_code 34 = .ok (.iload_n 1, 1) := by decide +kernel
theorem d12_35 : decode prog_12_method_39_code 35 = .ok (.iconst 3, 1) := by decide +kernel
theorem d12_36 : decode prog_12_method_39_code 36 = .ok (.iadd, 1) := by decide +kernel
theorem d12_37 : decode prog_12_method_39_code 37 = .ok (.baload, 1) := by decide +kernel
theorem d12_38 : decode prog_12_method_39_code 38 = .ok (.sipush 255, 3) := by decide +kernel
theorem d12_41 : decode prog_12_method_39_code 41 = .ok (.iand, 1) := by decide +kernel
theorem d12_42 : decode prog_12_method_39_code 42 = .ok (.bipush 24, 2) := by decide +kernel
theorem d12_44 : decode prog_12_method_39_code 44 = .ok (.ishl, 1) := by decide +kernel
theorem d12_45 : decode prog_12_method_39_code 45 = .ok (.ior, 1) := by decide +kernel
theorem d12_46 : decode prog_12_method_39_code 46 = .ok (.ireturn, 1) := by decide +kernel
theorem ef_12 (m : MethodId) (r1 : Addr) (i1 : Int32)  : entryFrame m #[(.ref r1), (.int i1)] 2 = mkF m 0 #[.val (.ref r1), .val (.int i1)] [] := by
  first | (simp [entryFrame, mkF, argsToLocals, Value.category]; done) | rfl
def F12 (x2 : Int32) (x3 : Int32) (x4 : Int32) (x5 : Int32) : Int32 := ((((x2 &&& (255 : Int32)) ||| ((x3 &&& (255 : Int32)) <<< ((8 : Int32) &&& 31))) ||| ((x4 &&& (255 : Int32)) <<< ((16 : Int32) &&& 31))) ||| ((x5 &&& (255 : Int32)) <<< ((24 : Int32) &&& 31)))
def Q12 (Z : State) (r1 : Addr) (i1 : Int32) (k_1 : ClassId) (x0 : Int32) (x1 : Int32) (x2 : Int32) (x3 : Int32) (x4 : Int32) (x5 : Int32) (x6 : Int32) (x7 : Int32) (h0 : Heap) (n0 : Nat) (v : Option Value) (h : Heap) (L : List Loc) : Prop := v = some (.int (F12 x2 x3 x4 x5)) ∧ Fr n0 L ∧ h = h0
set_option maxRecDepth 65536 in
set_option maxHeartbeats 40000000 in
theorem rm12 (l : Launch) (Z : State) (a0 : Array Value) (hw : ∀ d ∈ tables_1, d.before a0 Z = true) (ws : List Jvm.Cond) (r1 : Addr) (i1 : Int32) (k_1 : ClassId) (x0 : Int32) (x1 : Int32) (x2 : Int32) (x3 : Int32) (x4 : Int32) (x5 : Int32) (x6 : Int32) (x7 : Int32) (h0 : Heap) (n0 : Nat) (Z0 : n0 ≤ h0.size) (f0 : Arv Z h0 r1 k_1 .byte (8 : Int32) [(.int x0), (.int x1), (.int x2), (.int x3), (.int x4), (.int x5), (.int x6), (.int x7)] (.int (0 : Int32))) (ho : i1 = (2 : Int32)) :
    MetFree l (⟨"com/example/mimosa/mimosa/bson/BsonDocument", "readInt32", "([BI)I"⟩ : MethodName) (head1 (Jvm.Cond.code (⟨"com/example/mimosa/mimosa/bson/BsonDocument", "readInt32", "([BI)I"⟩ : MethodName) prog_12_method_39_code 2 (some .int) :: ws) ({ frames := 0, cells := 0, slots := 0, locals := 0 } : Room)) (fun a U => a = #[(.ref r1), (.int i1)] ∧ Z.Warmed39 U.vm ∧ U.heap = h0) (fun _ _ _ _ _ => True) (fun _ U o U' => ∃ v L, o = .returned v ∧ Q12 Z r1 i1 k_1 x0 x1 x2 x3 x4 x5 x6 x7 h0 n0 v U'.heap L ∧ FrameEnd U o U' L ({ frames := 0, cells := 0, slots := 0, locals := 0 } : Room).cells ({ frames := 0, cells := 0, slots := 0, locals := 0 } : Room).slots) := by
  refine MetFree.of_bodySF (plainFor_of_name pn_0) hisR ?_
  intro p e s m args below meth c s₁ Bd hml0 hP hK
  obtain ⟨rfl, hZ, hh⟩ := hP
  have hx := Bd.exec
  have hby := Bd.bytes
  have hml : c.maxLocals = 2 := hml0
  have hown : s.vm.findClass "com/example/mimosa/mimosa/bson/BsonDocument" = some m.cls := findClass_of_methodNamed Bd.named
  have hnm := (name_of_methodNamed Bd.named Bd.method).1
  have X0 : Stand p l e ({ frames := 0, cells := 0, slots := 0, locals := 0 } : Room) s m #[(.ref r1), (.int i1)] below meth c s₁ [] 0 0 := Stand.of_body Bd
  have e0 : s₁.heap = h0 := by rw [← hh, Bd.state]; rfl
  have N0 := Fr.nil n0
  suffices H : ∀ Qo : Outcome → State → Prop, (∀ (v : Option Value) (u : State) (L : List Loc), Q12 Z r1 i1 k_1 x0 x1 x2 x3 x4 x5 x6 x7 h0 n0 v u.heap L → FrameEnd s (.returned v) u L ({ frames := 0, cells := 0, slots := 0, locals := 0 } : Room).cells ({ frames := 0, cells := 0, slots := 0, locals := 0 } : Room).slots → Qo (.returned v) u) → Go p e below Qo s₁ (mkF m 0 #[.val (.ref r1), .val (.int i1)] []) from
    Go.cast (ef_12 m r1 i1) (H _ fun v u L h1 h2 => ⟨v, L, rfl, h1, h2⟩)
  intro Qo hQo
  subst ho
  show Go p e below Qo s₁ (mkF m 0 #[.val (.ref r1), .val (.int (2 : Int32))] [])
  refine Go.of (fun t k => XS.aloadN X0.here hx rfl (hb hby d12_0) rfl rfl k) ?_
  show Go p e below Qo s₁ (mkF m 1 #[.val (.ref r1), .val (.int (2 : Int32))] [(.ref r1)])
  refine Go.of (fun t k => XS.iloadN X0.here hx rfl (hb hby d12_1) rfl  k) ?_
  show Go p e below Qo s₁ (mkF m 2 #[.val (.ref r1), .val (.int (2 : Int32))] [(.int (2 : Int32)), (.ref r1)])
  have cpo1 := f0
  obtain ⟨clo1, Aro1, qco1, So1, Mo1, Ho1, Go1⟩ := cpo1
  have hin2 : ¬ ((2 : Int32) < 0 ∨ clo1.slots.size ≤ (2 : Int32).toNatClampNeg) := (inb_of So1 ⟨by decide, by decide⟩)
  refine Go.of (fun t k => X0.baloadBytes hx (j := (2 : Int32)) (v := (.int x2)) (by rw [e0]; exact Aro1.1) (State.isArrayOf_alike hZ.alike Aro1.2.1) Aro1.2.2 hin2 (Ho1.at hin2 rfl) (g := (mkF m 2 #[.val (.ref r1), .val (.int (2 : Int32))] [(.int (2 : Int32)), (.ref r1)])) rfl rfl (hb hby d12_2) t k) ?_
  show Go p e below Qo s₁ (mkF m 3 #[.val (.ref r1), .val (.int (2 : Int32))] [(.int x2)])
  refine Go.of (fun t k => XS.sipush X0.here hx rfl (hb hby d12_3) k) ?_
  show Go p e below Qo s₁ (mkF m 6 #[.val (.ref r1), .val (.int (2 : Int32))] [(.int (255 : Int32)), (.int x2)])
  refine Go.of (fun t k => XS.iand X0.here hx rfl (hb hby d12_6) rfl k) ?_
  show Go p e below Qo s₁ (mkF m 7 #[.val (.ref r1), .val (.int (2 : Int32))] [(.int (x2 &&& (255 : Int32)))])
  refine Go.of (fun t k => XS.aloadN X0.here hx rfl (hb hby d12_7) rfl rfl k) ?_
  show Go p e below Qo s₁ (mkF m 8 #[.val (.ref r1), .val (.int (2 : Int32))] [(.ref r1), (.int (x2 &&& (255 : Int32)))])
  refine Go.of (fun t k => XS.iloadN X0.here hx rfl (hb hby d12_8) rfl  k) ?_
  show Go p e below Qo s₁ (mkF m 9 #[.val (.ref r1), .val (.int (2 : Int32))] [(.int (2 : Int32)), (.ref r1), (.int (x2 &&& (255 : Int32)))])
  refine Go.of (fun t k => XS.iconst X0.here hx rfl (hb hby d12_9) k) ?_
  show Go p e below Qo s₁ (mkF m 10 #[.val (.ref r1), .val (.int (2 : Int32))] [(.int (1 : Int32)), (.int (2 : Int32)), (.ref r1), (.int (x2 &&& (255 : Int32)))])
  refine Go.of (fun t k => XS.iadd X0.here hx rfl (hb hby d12_10) rfl k) ?_
  show Go p e below Qo s₁ (mkF m 11 #[.val (.ref r1), .val (.int (2 : Int32))] [(.int (3 : Int32)), (.ref r1), (.int (x2 &&& (255 : Int32)))])
  have cpo3 := f0
  obtain ⟨clo3, Aro3, qco3, So3, Mo3, Ho3, Go3⟩ := cpo3
  have hin4 : ¬ ((3 : Int32) < 0 ∨ clo3.slots.size ≤ (3 : Int32).toNatClampNeg) := (inb_of So3 ⟨by decide, by decide⟩)
  refine Go.of (fun t k => X0.baloadBytes hx (j := (3 : Int32)) (v := (.int x3)) (by rw [e0]; exact Aro3.1) (State.isArrayOf_alike hZ.alike Aro3.2.1) Aro3.2.2 hin4 (Ho3.at hin4 rfl) (g := (mkF m 11 #[.val (.ref r1), .val (.int (2 : Int32))] [(.int (3 : Int32)), (.ref r1), (.int (x2 &&& (255 : Int32)))])) rfl rfl (hb hby d12_11) t k) ?_
  show Go p e below Qo s₁ (mkF m 12 #[.val (.ref r1), .val (.int (2 : Int32))] [(.int x3), (.int (x2 &&& (255 : Int32)))])
  refine Go.of (fun t k => XS.sipush X0.here hx rfl (hb hby d12_12) k) ?_
  show Go p e below Qo s₁ (mkF m 15 #[.val (.ref r1), .val (.int (2 : Int32))] [(.int (255 : Int32)), (.int x3), (.int (x2 &&& (255 : Int32)))])
  refine Go.of (fun t k => XS.iand X0.here hx rfl (hb hby d12_15) rfl k) ?_
  show Go p e below Qo s₁ (mkF m 16 #[.val (.ref r1), .val (.int (2 : Int32))] [(.int (x3 &&& (255 : Int32))), (.int (x2 &&& (255 : Int32)))])
  refine Go.of (fun t k => XS.bipush X0.here hx rfl (hb hby d12_16) k) ?_
  show Go p e below Qo s₁ (mkF m 18 #[.val (.ref r1), .val (.int (2 : Int32))] [(.int (8 : Int32)), (.int (x3 &&& (255 : Int32))), (.int (x2 &&& (255 : Int32)))])
  refine Go.of (fun t k => XS.ishl X0.here hx rfl (hb hby d12_18) rfl k) ?_
  show Go p e below Qo s₁ (mkF m 19 #[.val (.ref r1), .val (.int (2 : Int32))] [(.int ((x3 &&& (255 : Int32)) <<< ((8 : Int32) &&& 31))), (.int (x2 &&& (255 : Int32)))])
  refine Go.of (fun t k => XS.ior X0.here hx rfl (hb hby d12_19) rfl k) ?_
  show Go p e below Qo s₁ (mkF m 20 #[.val (.ref r1), .val (.int (2 : Int32))] [(.int ((x2 &&& (255 : Int32)) ||| ((x3 &&& (255 : Int32)) <<< ((8 : Int32) &&& 31))))])
  refine Go.of (fun t k => XS.aloadN X0.here hx rfl (hb hby d12_20) rfl rfl k) ?_
  show Go p e below Qo s₁ (mkF m 21 #[.val (.ref r1), .val (.int (2 : Int32))] [(.ref r1), (.int ((x2 &&& (255 : Int32)) ||| ((x3 &&& (255 : Int32)) <<< ((8 : Int32) &&& 31))))])
  refine Go.of (fun t k => XS.iloadN X0.here hx rfl (hb hby d12_21) rfl  k) ?_
  show Go p e below Qo s₁ (mkF m 22 #[.val (.ref r1), .val (.int (2 : Int32))] [(.int (2 : Int32)), (.ref r1), (.int ((x2 &&& (255 : Int32)) ||| ((x3 &&& (255 : Int32)) <<< ((8 : Int32) &&& 31))))])
  refine Go.of (fun t k => XS.iconst X0.here hx rfl (hb hby d12_22) k) ?_
  show Go p e below Qo s₁ (mkF m 23 #[.val (.ref r1), .val (.int (2 : Int32))] [(.int (2 : Int32)), (.int (2 : Int32)), (.ref r1), (.int ((x2 &&& (255 : Int32)) ||| ((x3 &&& (255 : Int32)) <<< ((8 : Int32) &&& 31))))])
  refine Go.of (fun t k => XS.iadd X0.here hx rfl (hb hby d12_23) rfl k) ?_
  show Go p e below Qo s₁ (mkF m 24 #[.val (.ref r1), .val (.int (2 : Int32))] [(.int (4 : Int32)), (.ref r1), (.int ((x2 &&& (255 : Int32)) ||| ((x3 &&& (255 : Int32)) <<< ((8 : Int32) &&& 31))))])
  have cpo5 := f0
  obtain ⟨clo5, Aro5, qco5, So5, Mo5, Ho5, Go5⟩ := cpo5
  have hin6 : ¬ ((4 : Int32) < 0 ∨ clo5.slots.size ≤ (4 : Int32).toNatClampNeg) := (inb_of So5 ⟨by decide, by decide⟩)
  refine Go.of (fun t k => X0.baloadBytes hx (j := (4 : Int32)) (v := (.int x4)) (by rw [e0]; exact Aro5.1) (State.isArrayOf_alike hZ.alike Aro5.2.1) Aro5.2.2 hin6 (Ho5.at hin6 rfl) (g := (mkF m 24 #[.val (.ref r1), .val (.int (2 : Int32))] [(.int (4 : Int32)), (.ref r1), (.int ((x2 &&& (255 : Int32)) ||| ((x3 &&& (255 : Int32)) <<< ((8 : Int32) &&& 31))))])) rfl rfl (hb hby d12_24) t k) ?_
  show Go p e below Qo s₁ (mkF m 25 #[.val (.ref r1), .val (.int (2 : Int32))] [(.int x4), (.int ((x2 &&& (255 : Int32)) ||| ((x3 &&& (255 : Int32)) <<< ((8 : Int32) &&& 31))))])
  refine Go.of (fun t k => XS.sipush X0.here hx rfl (hb hby d12_25) k) ?_
  show Go p e below Qo s₁ (mkF m 28 #[.val (.ref r1), .val (.int (2 : Int32))] [(.int (255 : Int32)), (.int x4), (.int ((x2 &&& (255 : Int32)) ||| ((x3 &&& (255 : Int32)) <<< ((8 : Int32) &&& 31))))])
  refine Go.of (fun t k => XS.iand X0.here hx rfl (hb hby d12_28) rfl k) ?_
  show Go p e below Qo s₁ (mkF m 29 #[.val (.ref r1), .val (.int (2 : Int32))] [(.int (x4 &&& (255 : Int32))), (.int ((x2 &&& (255 : Int32)) ||| ((x3 &&& (255 : Int32)) <<< ((8 : Int32) &&& 31))))])
  refine Go.of (fun t k => XS.bipush X0.here hx rfl (hb hby d12_29) k) ?_
  show Go p e below Qo s₁ (mkF m 31 #[.val (.ref r1), .val (.int (2 : Int32))] [(.int (16 : Int32)), (.int (x4 &&& (255 : Int32))), (.int ((x2 &&& (255 : Int32)) ||| ((x3 &&& (255 : Int32)) <<< ((8 : Int32) &&& 31))))])
  refine Go.of (fun t k => XS.ishl X0.here hx rfl (hb hby d12_31) rfl k) ?_
  show Go p e below Qo s₁ (mkF m 32 #[.val (.ref r1), .val (.int (2 : Int32))] [(.int ((x4 &&& (255 : Int32)) <<< ((16 : Int32) &&& 31))), (.int ((x2 &&& (255 : Int32)) ||| ((x3 &&& (255 : Int32)) <<< ((8 : Int32) &&& 31))))])
  refine Go.of (fun t k => XS.ior X0.here hx rfl (hb hby d12_32) rfl k) ?_
  show Go p e below Qo s₁ (mkF m 33 #[.val (.ref r1), .val (.int (2 : Int32))] [(.int (((x2 &&& (255 : Int32)) ||| ((x3 &&& (255 : Int32)) <<< ((8 : Int32) &&& 31))) ||| ((x4 &&& (255 : Int32)) <<< ((16 : Int32) &&& 31))))])
  refine Go.of (fun t k => XS.aloadN X0.here hx rfl (hb hby d12_33) rfl rfl k) ?_
  show Go p e below Qo s₁ (mkF m 34 #[.val (.ref r1), .val (.int (2 : Int32))] [(.ref r1), (.int (((x2 &&& (255 : Int32)) ||| ((x3 &&& (255 : Int32)) <<< ((8 : Int32) &&& 31))) ||| ((x4 &&& (255 : Int32)) <<< ((16 : Int32) &&& 31))))])
  refine Go.of (fun t k => XS.iloadN X0.here hx rfl (hb hby d12_34) rfl  k) ?_
  show Go p e below Qo s₁ (mkF m 35 #[.val (.ref r1), .val (.int (2 : Int32))] [(.int (2 : Int32)), (.ref r1), (.int (((x2 &&& (255 : Int32)) ||| ((x3 &&& (255 : Int32)) <<< ((8 : Int32) &&& 31))) ||| ((x4 &&& (255 : Int32)) <<< ((16 : Int32) &&& 31))))])
  refine Go.of (fun t k => XS.iconst X0.here hx rfl (hb hby d12_35) k) ?_
  show Go p e below Qo s₁ (mkF m 36 #[.val (.ref r1), .val (.int (2 : Int32))] [(.int (3 : Int32)), (.int (2 : Int32)), (.ref r1), (.int (((x2 &&& (255 : Int32)) ||| ((x3 &&& (255 : Int32)) <<< ((8 : Int32) &&& 31))) ||| ((x4 &&& (255 : Int32)) <<< ((16 : Int32) &&& 31))))])
  refine Go.of (fun t k => XS.iadd X0.here hx rfl (hb hby d12_36) rfl k) ?_
  show Go p e below Qo s₁ (mkF m 37 #[.val (.ref r1), .val (.int (2 : Int32))] [(.int (5 : Int32)), (.ref r1), (.int (((x2 &&& (255 : Int32)) ||| ((x3 &&& (255 : Int32)) <<< ((8 : Int32) &&& 31))) ||| ((x4 &&& (255 : Int32)) <<< ((16 : Int32) &&& 31))))])
  have cpo7 := f0
  obtain ⟨clo7, Aro7, qco7, So7, Mo7, Ho7, Go7⟩ := cpo7
  have hin8 : ¬ ((5 : Int32) < 0 ∨ clo7.slots.size ≤ (5 : Int32).toNatClampNeg) := (inb_of So7 ⟨by decide, by decide⟩)
  refine Go.of (fun t k => X0.baloadBytes hx (j := (5 : Int32)) (v := (.int x5)) (by rw [e0]; exact Aro7.1) (State.isArrayOf_alike hZ.alike Aro7.2.1) Aro7.2.2 hin8 (Ho7.at hin8 rfl) (g := (mkF m 37 #[.val (.ref r1), .val (.int (2 : Int32))] [(.int (5 : Int32)), (.ref r1), (.int (((x2 &&& (255 : Int32)) ||| ((x3 &&& (255 : Int32)) <<< ((8 : Int32) &&& 31))) ||| ((x4 &&& (255 : Int32)) <<< ((16 : Int32) &&& 31))))])) rfl rfl (hb hby d12_37) t k) ?_
  show Go p e below Qo s₁ (mkF m 38 #[.val (.ref r1), .val (.int (2 : Int32))] [(.int x5), (.int (((x2 &&& (255 : Int32)) ||| ((x3 &&& (255 : Int32)) <<< ((8 : Int32) &&& 31))) ||| ((x4 &&& (255 : Int32)) <<< ((16 : Int32) &&& 31))))])
  refine Go.of (fun t k => XS.sipush X0.here hx rfl (hb hby d12_38) k) ?_
  show Go p e below Qo s₁ (mkF m 41 #[.val (.ref r1), .val (.int (2 : Int32))] [(.int (255 : Int32)), (.int x5), (.int (((x2 &&& (255 : Int32)) ||| ((x3 &&& (255 : Int32)) <<< ((8 : Int32) &&& 31))) ||| ((x4 &&& (255 : Int32)) <<< ((16 : Int32) &&& 31))))])
  refine Go.of (fun t k => XS.iand X0.here hx rfl (hb hby d12_41) rfl k) ?_
  show Go p e below Qo s₁ (mkF m 42 #[.val (.ref r1), .val (.int (2 : Int32))] [(.int (x5 &&& (255 : Int32))), (.int (((x2 &&& (255 : Int32)) ||| ((x3 &&& (255 : Int32)) <<< ((8 : Int32) &&& 31))) ||| ((x4 &&& (255 : Int32)) <<< ((16 : Int32) &&& 31))))])
  refine Go.of (fun t k => XS.bipush X0.here hx rfl (hb hby d12_42) k) ?_
  show Go p e below Qo s₁ (mkF m 44 #[.val (.ref r1), .val (.int (2 : Int32))] [(.int (24 : Int32)), (.int (x5 &&& (255 : Int32))), (.int (((x2 &&& (255 : Int32)) ||| ((x3 &&& (255 : Int32)) <<< ((8 : Int32) &&& 31))) ||| ((x4 &&& (255 : Int32)) <<< ((16 : Int32) &&& 31))))])
  refine Go.of (fun t k => XS.ishl X0.here hx rfl (hb hby d12_44) rfl k) ?_
  show Go p e below Qo s₁ (mkF m 45 #[.val (.ref r1), .val (.int (2 : Int32))] [(.int ((x5 &&& (255 : Int32)) <<< ((24 : Int32) &&& 31))), (.int (((x2 &&& (255 : Int32)) ||| ((x3 &&& (255 : Int32)) <<< ((8 : Int32) &&& 31))) ||| ((x4 &&& (255 : Int32)) <<< ((16 : Int32) &&& 31))))])
  refine Go.of (fun t k => XS.ior X0.here hx rfl (hb hby d12_45) rfl k) ?_
  show Go p e below Qo s₁ (mkF m 46 #[.val (.ref r1), .val (.int (2 : Int32))] [(.int ((((x2 &&& (255 : Int32)) ||| ((x3 &&& (255 : Int32)) <<< ((8 : Int32) &&& 31))) ||| ((x4 &&& (255 : Int32)) <<< ((16 : Int32) &&& 31))) ||| ((x5 &&& (255 : Int32)) <<< ((24 : Int32) &&& 31))))])
  exact own_retW X0 hx Bd.notSynchronized Bd.returns rfl (Or.inl ⟨rfl, Or.inl rfl, _, rfl⟩) (hb hby d12_46) (fun u hu hF => hQo _ _ _ ⟨by rw [show (F12 x2 x3 x4 x5) = ((((x2 &&& (255 : Int32)) ||| ((x3 &&& (255 : Int32)) <<< ((8 : Int32) &&& 31))) ||| ((x4 &&& (255 : Int32)) <<< ((16 : Int32) &&& 31))) ||| ((x5 &&& (255 : Int32)) <<< ((24 : Int32) &&& 31))) from by rfl], N0, by rw [hu, e0]⟩ (own_mono hF (by decide) (by decide)))
theorem d13_0 : decode prog_12_method_39_code 0 = .ok (.aload_n 0, 1) := by decide +kernel
theorem d13_1 : decode prog_12_method_39_code 1 = .ok (.iload_n 1, 1) := by decide +kernel
theorem d13_2 : decode prog_12_method_39_code 2 = .ok (.baload, 1) := by decide +kernel
theorem d13_3 : decode prog_12_method_39_code 3 = .ok (.sipush 255, 3) := by decide +kernel
theorem d13_6 : decode prog_12_method_39_code 6 = .ok (.iand, 1) := by decide +kernel
theorem d13_7 : decode prog_12_method_39_code 7 = .ok (.aload_n 0, 1) := by decide +kernel
theorem d13_8 : decode prog_12_method_39_code 8 = .ok (.iload_n 1, 1) := by decide +kernel
theorem d13_9 : decode prog_12_method_39_code 9 = .ok (.iconst 1, 1) := by decide +kernel
theorem d13_10 : decode prog_12_method_39_code 10 = .ok (.iadd, 1) := by decide +kernel
theorem d13_11 : decode prog_12_method_39_code 11 = .ok (.baload, 1) := by decide +kernel
theorem d13_12 : decode prog_12_method_39_code 12 = .ok (.sipush 255, 3) := by decide +kernel
theorem d13_15 : decode prog_12_method_39_code 15 = .ok (.iand, 1) := by decide +kernel
theorem d13_16 : decode prog_12_method_39_code 16 = .ok (.bipush 8, 2) := by decide +kernel
theorem d13_18 : decode prog_12_method_39_code 18 = .ok (.ishl, 1) := by decide +kernel
theorem d13_19 : decode prog_12_method_39_code 19 = .ok (.ior, 1) := by decide +kernel
theorem d13_20 : decode prog_12_method_39_code 20 = .ok (.aload_n 0, 1) := by decide +kernel
theorem d13_21 : decode prog_12_method_39_code 21 = .ok (.iload_n 1, 1) := by decide +kernel
theorem d13_22 : decode prog_12_method_39_code 22 = .ok (.iconst 2, 1) := by decide +kernel
theorem d13_23 : decode prog_12_method_39_code 23 = .ok (.iadd, 1) := by decide +kernel
theorem d13_24 : decode prog_12_method_39_code 24 = .ok (.baload, 1) := by decide +kernel
theorem d13_25 : decode prog_12_method_39_code 25 = .ok (.sipush 255, 3) := by decide +kernel
theorem d13_28 : decode prog_12_method_39_code 28 = .ok (.iand, 1) := by decide +kernel
theorem d13_29 : decode prog_12_method_39_code 29 = .ok (.bipush 16, 2) := by decide +kernel
theorem d13_31 : decode prog_12_method_39_code 31 = .ok (.ishl, 1) := by decide +kernel
theorem d13_32 : decode prog_12_method_39_code 32 = .ok (.ior, 1) := by decide +kernel
theorem d13_33 : decode prog_12_method_39_code 33 = .ok (.aload_n 0, 1) := by decide +kernel
theorem d13_34 : decode prog_12_method_39_code 34 = .ok (.iload_n 1, 1) := by decide +kernel
theorem d13_35 : decode prog_12_method_39_code 35 = .ok (.iconst 3, 1) := by decide +kernel
theorem d13_36 : decode prog_12_method_39_code 36 = .ok (.iadd, 1) := by decide +kernel
theorem d13_37 : decode prog_12_method_39_code 37 = .ok (.baload, 1) := by decide +kernel
theorem d13_38 : decode prog_12_method_39_code 38 = .ok (.sipush 255, 3) := by decide +kernel
theorem d13_41 : decode prog_12_method_39_code 41 = .ok (.iand, 1) := by decide +kernel
theorem d13_42 : decode prog_12_method_39_code 42 = .ok (.bipush 24, 2) := by decide +kernel
theorem d13_44 : decode prog_12_method_39_code 44 = .ok (.ishl, 1) := by decide +kernel
theorem d13_45 : decode prog_12_method_39_code 45 = .ok (.ior, 1) := by decide +kernel
theorem d13_46 : decode prog_12_method_39_code 46 = .ok (.ireturn, 1) := by decide +kernel
theorem ef_13 (m : MethodId) (r1 : Addr) (i1 : Int32)  : entryFrame m #[(.ref r1), (.int i1)] 2 = mkF m 0 #[.val (.ref r1), .val (.int i1)] [] := by
  first | (simp [entryFrame, mkF, argsToLocals, Value.category]; done) | rfl
def F13 (x3 : Int32) (x4 : Int32) (x5 : Int32) (x6 : Int32) : Int32 := ((((x3 &&& (255 : Int32)) ||| ((x4 &&& (255 : Int32)) <<< ((8 : Int32) &&& 31))) ||| ((x5 &&& (255 : Int32)) <<< ((16 : Int32) &&& 31))) ||| ((x6 &&& (255 : Int32)) <<< ((24 : Int32) &&& 31)))
def Q13 (Z : State) (r1 : Addr) (i1 : Int32) (k_1 : ClassId) (x0 : Int32) (x1 : Int32) (x2 : Int32) (x3 : Int32) (x4 : Int32) (x5 : Int32) (x6 : Int32) (x7 : Int32) (h0 : Heap) (n0 : Nat) (v : Option Value) (h : Heap) (L : List Loc) : Prop := v = some (.int (F13 x3 x4 x5 x6)) ∧ Fr n0 L ∧ h = h0
set_option maxRecDepth 65536 in
set_option maxHeartbeats 40000000 in
theorem rm13 (l : Launch) (Z : State) (a0 : Array Value) (hw : ∀ d ∈ tables_1, d.before a0 Z = true) (ws : List Jvm.Cond) (r1 : Addr) (i1 : Int32) (k_1 : ClassId) (x0 : Int32) (x1 : Int32) (x2 : Int32) (x3 : Int32) (x4 : Int32) (x5 : Int32) (x6 : Int32) (x7 : Int32) (h0 : Heap) (n0 : Nat) (Z0 : n0 ≤ h0.size) (f0 : Arv Z h0 r1 k_1 .byte (8 : Int32) [(.int x0), (.int x1), (.int x2), (.int x3), (.int x4), (.int x5), (.int x6), (.int x7)] (.int (0 : Int32))) (ho : i1 = (3 : Int32)) :
    MetFree l (⟨"com/example/mimosa/mimosa/bson/BsonDocument", "readInt32", "([BI)I"⟩ : MethodName) (head1 (Jvm.Cond.code (⟨"com/example/mimosa/mimosa/bson/BsonDocument", "readInt32", "([BI)I"⟩ : MethodName) prog_12_method_39_code 2 (some .int) :: ws) ({ frames := 0, cells := 0, slots := 0, locals := 0 } : Room)) (fun a U => a = #[(.ref r1), (.int i1)] ∧ Z.Warmed39 U.vm ∧ U.heap = h0) (fun _ _ _ _ _ => True) (fun _ U o U' => ∃ v L, o = .returned v ∧ Q13 Z r1 i1 k_1 x0 x1 x2 x3 x4 x5 x6 x7 h0 n0 v U'.heap L ∧ FrameEnd U o U' L ({ frames := 0, cells := 0, slots := 0, locals := 0 } : Room).cells ({ frames := 0, cells := 0, slots := 0, locals := 0 } : Room).slots) := by
  refine MetFree.of_bodySF (plainFor_of_name pn_0) hisR ?_
  intro p e s m args below meth c s₁ Bd hml0 hP hK
  obtain ⟨rfl, hZ, hh⟩ := hP
  have hx := Bd.exec
  have hby := Bd.bytes
  have hml : c.maxLocals = 2 := hml0
  have hown : s.vm.findClass "com/example/mimosa/mimosa/bson/BsonDocument" = some m.cls := findClass_of_methodNamed Bd.named
  have hnm := (name_of_methodNamed Bd.named Bd.method).1
  have X0 : Stand p l e ({ frames := 0, cells := 0, slots := 0, locals := 0 } : Room) s m #[(.ref r1), (.int i1)] below meth c s₁ [] 0 0 := Stand.of_body Bd
  have e0 : s₁.heap = h0 := by rw [← hh, Bd.state]; rfl
  have N0 := Fr.nil n0
  suffices H : ∀ Qo : Outcome → State → Prop, (∀ (v : Option Value) (u : State) (L : List Loc), Q13 Z r1 i1 k_1 x0 x1 x2 x3 x4 x5 x6 x7 h0 n0 v u.heap L → FrameEnd s (.returned v) u L ({ frames := 0, cells := 0, slots := 0, locals := 0 } : Room).cells ({ frames := 0, cells := 0, slots := 0, locals := 0 } : Room).slots → Qo (.returned v) u) → Go p e below Qo s₁ (mkF m 0 #[.val (.ref r1), .val (.int i1)] []) from
    Go.cast (ef_13 m r1 i1) (H _ fun v u L h1 h2 => ⟨v, L, rfl, h1, h2⟩)
  intro Qo hQo
  subst ho
  show Go p e below Qo s₁ (mkF m 0 #[.val (.ref r1), .val (.int (3 : Int32))] [])
  refine Go.of (fun t k => XS.aloadN X0.here hx rfl (hb hby d13_0) rfl rfl k) ?_
  show Go p e below Qo s₁ (mkF m 1 #[.val (.ref r1), .val (.int (3 : Int32))] [(.ref r1)])
  refine Go.of (fun t k => XS.iloadN X0.here hx rfl (hb hby d13_1) rfl  k) ?_
  show Go p e below Qo s₁ (mkF m 2 #[.val (.ref r1), .val (.int (3 : Int32))] [(.int (3 : Int32)), (.ref r1)])
  have cpo1 := f0
  obtain ⟨clo1, Aro1, qco1, So1, Mo1, Ho1, Go1⟩ := cpo1
  have hin2 : ¬ ((3 : Int32) < 0 ∨ clo1.slots.size ≤ (3 : Int32).toNatClampNeg) := (inb_of So1 ⟨by decide, by decide⟩)
  refine Go.of (fun t k => X0.baloadBytes hx (j := (3 : Int32)) (v := (.int x3)) (by rw [e0]; exact Aro1.1) (State.isArrayOf_alike hZ.alike Aro1.2.1) Aro1.2.2 hin2 (Ho1.at hin2 rfl) (g := (mkF m 2 #[.val (.ref r1), .val (.int (3 : Int32))] [(.int (3 : Int32)), (.ref r1)])) rfl rfl (hb hby d13_2) t k) ?_
  show Go p e below Qo s₁ (mkF m 3 #[.val (.ref r1), .val (.int (3 : Int32))] [(.int x3)])
  refine Go.of (fun t k => XS.sipush X0.here hx rfl (hb hby d13_3) k) ?_
  show Go p e below Qo s₁ (mkF m 6 #[.val (.ref r1), .val (.int (3 : Int32))] [(.int (255 : Int32)), (.int x3)])
  refine Go.of (fun t k => XS.iand X0.here hx rfl (hb hby d13_6) rfl k) ?_
  show Go p e below Qo s₁ (mkF m 7 #[.val (.ref r1), .val (.int (3 : Int32))] [(.int (x3 &&& (255 : Int32)))])
  refine Go.of (fun t k => XS.aloadN X0.here hx rfl (hb hby d13_7) rfl rfl k) ?_
  show Go p e below Qo s₁ (mkF m 8 #[.val (.ref r1), .val (.int (3 : Int32))] [(.ref r1), (.int (x3 &&& (255 : Int32)))])
  refine Go.of (fun t k => XS.iloadN X0.here hx rfl (hb hby d13_8) rfl  k) ?_
  show Go p e below Qo s₁ (mkF m 9 #[.val (.ref r1), .val (.int (3 : Int32))] [(.int (3 : Int32)), (.ref r1), (.int (x3 &&& (255 : Int32)))])
  refine Go.of (fun t k => XS.iconst X0.here hx rfl (hb hby d13_9) k) ?_
  show Go p e below Qo s₁ (mkF m 10 #[.val (.ref r1), .val (.int (3 : Int32))] [(.int (1 : Int32)), (.int (3 : Int32)), (.ref r1), (.int (x3 &&& (255 : Int32)))])
  refine Go.of (fun t k => XS.iadd X0.here hx rfl (hb hby d13_10) rfl k) ?_
  show Go p e below Qo s₁ (mkF m 11 #[.val (.ref r1), .val (.int (3 : Int32))] [(.int (4 : Int32)), (.ref r1), (.int (x3 &&& (255 : Int32)))])
  have cpo3 := f0
  obtain ⟨clo3, Aro3, qco3, So3, Mo3, Ho3, Go3⟩ := cpo3
  have hin4 : ¬ ((4 : Int32) < 0 ∨ clo3.slots.size ≤ (4 : Int32).toNatClampNeg) := (inb_of So3 ⟨by decide, by decide⟩)
  refine Go.of (fun t k => X0.baloadBytes hx (j := (4 : Int32)) (v := (.int x4)) (by rw [e0]; exact Aro3.1) (State.isArrayOf_alike hZ.alike Aro3.2.1) Aro3.2.2 hin4 (Ho3.at hin4 rfl) (g := (mkF m 11 #[.val (.ref r1), .val (.int (3 : Int32))] [(.int (4 : Int32)), (.ref r1), (.int (x3 &&& (255 : Int32)))])) rfl rfl (hb hby d13_11) t k) ?_
  show Go p e below Qo s₁ (mkF m 12 #[.val (.ref r1), .val (.int (3 : Int32))] [(.int x4), (.int (x3 &&& (255 : Int32)))])
  refine Go.of (fun t k => XS.sipush X0.here hx rfl (hb hby d13_12) k) ?_
  show Go p e below Qo s₁ (mkF m 15 #[.val (.ref r1), .val (.int (3 : Int32))] [(.int (255 : Int32)), (.int x4), (.int (x3 &&& (255 : Int32)))])
  refine Go.of (fun t k => XS.iand X0.here hx rfl (hb hby d13_15) rfl k) ?_
  show Go p e below Qo s₁ (mkF m 16 #[.val (.ref r1), .val (.int (3 : Int32))] [(.int (x4 &&& (255 : Int32))), (.int (x3 &&& (255 : Int32)))])
  refine Go.of (fun t k => XS.bipush X0.here hx rfl (hb hby d13_16) k) ?_
  show Go p e below Qo s₁ (mkF m 18 #[.val (.ref r1), .val (.int (3 : Int32))] [(.int (8 : Int32)), (.int (x4 &&& (255 : Int32))), (.int (x3 &&& (255 : Int32)))])
  refine Go.of (fun t k => XS.ishl X0.here hx rfl (hb hby d13_18) rfl k) ?_
  show Go p e below Qo s₁ (mkF m 19 #[.val (.ref r1), .val (.int (3 : Int32))] [(.int ((x4 &&& (255 : Int32)) <<< ((8 : Int32) &&& 31))), (.int (x3 &&& (255 : Int32)))])
  refine Go.of (fun t k => XS.ior X0.here hx rfl (hb hby d13_19) rfl k) ?_
  show Go p e below Qo s₁ (mkF m 20 #[.val (.ref r1), .val (.int (3 : Int32))] [(.int ((x3 &&& (255 : Int32)) ||| ((x4 &&& (255 : Int32)) <<< ((8 : Int32) &&& 31))))])
  refine Go.of (fun t k => XS.aloadN X0.here hx rfl (hb hby d13_20) rfl rfl k) ?_
  show Go p e below Qo s₁ (mkF m 21 #[.val (.ref r1), .val (.int (3 : Int32))] [(.ref r1), (.int ((x3 &&& (255 : Int32)) ||| ((x4 &&& (255 : Int32)) <<< ((8 : Int32) &&& 31))))])
  refine Go.of (fun t k => XS.iloadN X0.here hx rfl (hb hby d13_21) rfl  k) ?_
  show Go p e below Qo s₁ (mkF m 22 #[.val (.ref r1), .val (.int (3 : Int32))] [(.int (3 : Int32)), (.ref r1), (.int ((x3 &&& (255 : Int32)) ||| ((x4 &&& (255 : Int32)) <<< ((8 : Int32) &&& 31))))])
  refine Go.of (fun t k => XS.iconst X0.here hx rfl (hb hby d13_22) k) ?_
  show Go p e below Qo s₁ (mkF m 23 #[.val (.ref r1), .val (.int (3 : Int32))] [(.int (2 : Int32)), (.int (3 : Int32)), (.ref r1), (.int ((x3 &&& (255 : Int32)) ||| ((x4 &&& (255 : Int32)) <<< ((8 : Int32) &&& 31))))])
  refine Go.of (fun t k => XS.iadd X0.here hx rfl (hb hby d13_23) rfl k) ?_
  show Go p e below Qo s₁ (mkF m 24 #[.val (.ref r1), .val (.int (3 : Int32))] [(.int (5 : Int32)), (.ref r1), (.int ((x3 &&& (255 : Int32)) ||| ((x4 &&& (255 : Int32)) <<< ((8 : Int32) &&& 31))))])
  have cpo5 := f0
  obtain ⟨clo5, Aro5, qco5, So5, Mo5, Ho5, Go5⟩ := cpo5
  have hin6 : ¬ ((5 : Int32) < 0 ∨ clo5.slots.size ≤ (5 : Int32).toNatClampNeg) := (inb_of So5 ⟨by decide, by decide⟩)
  refine Go.of (fun t k => X0.baloadBytes hx (j := (5 : Int32)) (v := (.int x5)) (by rw [e0]; exact Aro5.1) (State.isArrayOf_alike hZ.alike Aro5.2.1) Aro5.2.2 hin6 (Ho5.at hin6 rfl) (g := (mkF m 24 #[.val (.ref r1), .val (.int (3 : Int32))] [(.int (5 : Int32)), (.ref r1), (.int ((x3 &&& (255 : Int32)) ||| ((x4 &&& (255 : Int32)) <<< ((8 : Int32) &&& 31))))])) rfl rfl (hb hby d13_24) t k) ?_
  show Go p e below Qo s₁ (mkF m 25 #[.val (.ref r1), .val (.int (3 : Int32))] [(.int x5), (.int ((x3 &&& (255 : Int32)) ||| ((x4 &&& (255 : Int32)) <<< ((8 : Int32) &&& 31))))])
  refine Go.of (fun t k => XS.sipush X0.here hx rfl (hb hby d13_25) k) ?_
  show Go p e below Qo s₁ (mkF m 28 #[.val (.ref r1), .val (.int (3 : Int32))] [(.int (255 : Int32)), (.int x5), (.int ((x3 &&& (255 : Int32)) ||| ((x4 &&& (255 : Int32)) <<< ((8 : Int32) &&& 31))))])
  refine Go.of (fun t k => XS.iand X0.here hx rfl (hb hby d13_28) rfl k) ?_
  show Go p e below Qo s₁ (mkF m 29 #[.val (.ref r1), .val (.int (3 : Int32))] [(.int (x5 &&& (255 : Int32))), (.int ((x3 &&& (255 : Int32)) ||| ((x4 &&& (255 : Int32)) <<< ((8 : Int32) &&& 31))))])
  refine Go.of (fun t k => XS.bipush X0.here hx rfl (hb hby d13_29) k) ?_
  show Go p e below Qo s₁ (mkF m 31 #[.val (.ref r1), .val (.int (3 : Int32))] [(.int (16 : Int32)), (.int (x5 &&& (255 : Int32))), (.int ((x3 &&& (255 : Int32)) ||| ((x4 &&& (255 : Int32)) <<< ((8 : Int32) &&& 31))))])
  refine Go.of (fun t k => XS.ishl X0.here hx rfl (hb hby d13_31) rfl k) ?_
  show Go p e below Qo s₁ (mkF m 32 #[.val (.ref r1), .val (.int (3 : Int32))] [(.int ((x5 &&& (255 : Int32)) <<< ((16 : Int32) &&& 31))), (.int ((x3 &&& (255 : Int32)) ||| ((x4 &&& (255 : Int32)) <<< ((8 : Int32) &&& 31))))])
  refine Go.of (fun t k => XS.ior X0.here hx rfl (hb hby d13_32) rfl k) ?_
  show Go p e below Qo s₁ (mkF m 33 #[.val (.ref r1), .val (.int (3 : Int32))] [(.int (((x3 &&& (255 : Int32)) ||| ((x4 &&& (255 : Int32)) <<< ((8 : Int32) &&& 31))) ||| ((x5 &&& (255 : Int32)) <<< ((16 : Int32) &&& 31))))])
  refine Go.of (fun t k => XS.aloadN X0.here hx rfl (hb hby d13_33) rfl rfl k) ?_
  show Go p e below Qo s₁ (mkF m 34 #[.val (.ref r1), .val (.int (3 : Int32))] [(.ref r1), (.int (((x3 &&& (255 : Int32)) ||| ((x4 &&& (255 : Int32)) <<< ((8 : Int32) &&& 31))) ||| ((x5 &&& (255 : Int32)) <<< ((16 : Int32) &&& 31))))])
  refine Go.of (fun t k => XS.iloadN X0.here hx rfl (hb hby d13_34) rfl  k) ?_
  show Go p e below Qo s₁ (mkF m 35 #[.val (.ref r1), .val (.int (3 : Int32))] [(.int (3 : Int32)), (.ref r1), (.int (((x3 &&& (255 : Int32)) ||| ((x4 &&& (255 : Int32)) <<< ((8 : Int32) &&& 31))) ||| ((x5 &&& (255 : Int32)) <<< ((16 : Int32) &&& 31))))])
  refine Go.of (fun t k => XS.iconst X0.here hx rfl (hb hby d13_35) k) ?_
  show Go p e below Qo s₁ (mkF m 36 #[.val (.ref r1), .val (.int (3 : Int32))] [(.int (3 : Int32)), (.int (3 : Int32)), (.ref r1), (.int (((x3 &&& (255 : Int32)) ||| ((x4 &&& (255 : Int32)) <<< ((8 : Int32) &&& 31))) ||| ((x5 &&& (255 : Int32)) <<< ((16 : Int32) &&& 31))))])
  refine Go.of (fun t k => XS.iadd X0.here hx rfl (hb hby d13_36) rfl k) ?_
  show Go p e below Qo s₁ (mkF m 37 #[.val (.ref r1), .val (.int (3 : Int32))] [(.int (6 : Int32)), (.ref r1), (.int (((x3 &&& (255 : Int32)) ||| ((x4 &&& (255 : Int32)) <<< ((8 : Int32) &&& 31))) ||| ((x5 &&& (255 : Int32)) <<< ((16 : Int32) &&& 31))))])
  have cpo7 := f0
  obtain ⟨clo7, Aro7, qco7, So7, Mo7, Ho7, Go7⟩ := cpo7
  have hin8 : ¬ ((6 : Int32) < 0 ∨ clo7.slots.size ≤ (6 : Int32).toNatClampNeg) := (inb_of So7 ⟨by decide, by decide⟩)
  refine Go.of (fun t k => X0.baloadBytes hx (j := (6 : Int32)) (v := (.int x6)) (by rw [e0]; exact Aro7.1) (State.isArrayOf_alike hZ.alike Aro7.2.1) Aro7.2.2 hin8 (Ho7.at hin8 rfl) (g := (mkF m 37 #[.val (.ref r1), .val (.int (3 : Int32))] [(.int (6 : Int32)), (.ref r1), (.int (((x3 &&& (255 : Int32)) ||| ((x4 &&& (255 : Int32)) <<< ((8 : Int32) &&& 31))) ||| ((x5 &&& (255 : Int32)) <<< ((16 : Int32) &&& 31))))])) rfl rfl (hb hby d13_37) t k) ?_
  show Go p e below Qo s₁ (mkF m 38 #[.val (.ref r1), .val (.int (3 : Int32))] [(.int x6), (.int (((x3 &&& (255 : Int32)) ||| ((x4 &&& (255 : Int32)) <<< ((8 : Int32) &&& 31))) ||| ((x5 &&& (255 : Int32)) <<< ((16 : Int32) &&& 31))))])
  refine Go.of (fun t k => XS.sipush X0.here hx rfl (hb hby d13_38) k) ?_
  show Go p e below Qo s₁ (mkF m 41 #[.val (.ref r1), .val (.int (3 : Int32))] [(.int (255 : Int32)), (.int x6), (.int (((x3 &&& (255 : Int32)) ||| ((x4 &&& (255 : Int32)) <<< ((8 : Int32) &&& 31))) ||| ((x5 &&& (255 : Int32)) <<< ((16 : Int32) &&& 31))))])
  refine Go.of (fun t k => XS.iand X0.here hx rfl (hb hby d13_41) rfl k) ?_
  show Go p e below Qo s₁ (mkF m 42 #[.val (.ref r1), .val (.int (3 : Int32))] [(.int (x6 &&& (255 : Int32))), (.int (((x3 &&& (255 : Int32)) ||| ((x4 &&& (255 : Int32)) <<< ((8 : Int32) &&& 31))) ||| ((x5 &&& (255 : Int32)) <<< ((16 : Int32) &&& 31))))])
  refine Go.of (fun t k => XS.bipush X0.here hx rfl (hb hby d13_42) k) ?_
  show Go p e below Qo s₁ (mkF m 44 #[.val (.ref r1), .val (.int (3 : Int32))] [(.int (24 : Int32)), (.int (x6 &&& (255 : Int32))), (.int (((x3 &&& (255 : Int32)) ||| ((x4 &&& (255 : Int32)) <<< ((8 : Int32) &&& 31))) ||| ((x5 &&& (255 : Int32)) <<< ((16 : Int32) &&& 31))))])
  refine Go.of (fun t k => XS.ishl X0.here hx rfl (hb hby d13_44) rfl k) ?_
  show Go p e below Qo s₁ (mkF m 45 #[.val (.ref r1), .val (.int (3 : Int32))] [(.int ((x6 &&& (255 : Int32)) <<< ((24 : Int32) &&& 31))), (.int (((x3 &&& (255 : Int32)) ||| ((x4 &&& (255 : Int32)) <<< ((8 : Int32) &&& 31))) ||| ((x5 &&& (255 : Int32)) <<< ((16 : Int32) &&& 31))))])
  refine Go.of (fun t k => XS.ior X0.here hx rfl (hb hby d13_45) rfl k) ?_
  show Go p e below Qo s₁ (mkF m 46 #[.val (.ref r1), .val (.int (3 : Int32))] [(.int ((((x3 &&& (255 : Int32)) ||| ((x4 &&& (255 : Int32)) <<< ((8 : Int32) &&& 31))) ||| ((x5 &&& (255 : Int32)) <<< ((16 : Int32) &&& 31))) ||| ((x6 &&& (255 : Int32)) <<< ((24 : Int32) &&& 31))))])
  exact own_retW X0 hx Bd.notSynchronized Bd.returns rfl (Or.inl ⟨rfl, Or.inl rfl, _, rfl⟩) (hb hby d13_46) (fun u hu hF => hQo _ _ _ ⟨by rw [show (F13 x3 x4 x5 x6) = ((((x3 &&& (255 : Int32)) ||| ((x4 &&& (255 : Int32)) <<< ((8 : Int32) &&& 31))) ||| ((x5 &&& (255 : Int32)) <<< ((16 : Int32) &&& 31))) ||| ((x6 &&& (255 : Int32)) <<< ((24 : Int32) &&& 31))) from by rfl], N0, by rw [hu, e0]⟩ (own_mono hF (by decide) (by decide)))
theorem own_four (x : Int32) : (x &&& (3 : Int32)) = 0 ∨ (x &&& (3 : Int32)) = 1 ∨ (x &&& (3 : Int32)) = 2 ∨ (x &&& (3 : Int32)) = 3 := by
  have h := c_and x 3 (by decide)
  have e3 : (3 : Int32).toInt = 3 := by decide
  have e0 : (0 : Int32).toInt = 0 := by decide
  have e1 : (1 : Int32).toInt = 1 := by decide
  have e2 : (2 : Int32).toInt = 2 := by decide
  simp only [← Int32.toInt_inj]
  omega
theorem own_byte (x : Int32) (z : Int) (h : (x.toInt - z) % 256 = 0) : (nar .byte (x.toInt8.toInt32) &&& (255 : Int32)).toInt = z % 256 := by
  have h1 := c_i2b x
  have h2 := c_i2b (x.toInt8.toInt32)
  have h3 := c_mask (nar .byte (x.toInt8.toInt32)) 255 8 (by decide) (by decide)
  rw [h3]
  show (x.toInt8.toInt32.toInt8.toInt32).toInt % 256 = _
  omega
theorem own_shl (x : Int32) (k : Nat) (q : Int32) (hk : q.toBitVec.toNat % 32 = k) : ((x <<< (q &&& 31)).toInt - x.toInt * (2 ^ k : Nat)) % 4294967296 = 0 := c_ishl x q k hk
theorem own_law (v : Int32) : F10 (nar .byte (v.toInt8.toInt32)) (nar .byte (((v.toUInt32 >>> ((8 : Int32) &&& 31).toUInt32).toInt32).toInt8.toInt32)) (nar .byte (((v.toUInt32 >>> ((16 : Int32) &&& 31).toUInt32).toInt32).toInt8.toInt32)) (nar .byte (((v.toUInt32 >>> ((24 : Int32) &&& 31).toUInt32).toInt32).toInt8.toInt32)) = v := by
  unfold F10
  have r := rng32 v
  have y1 := c_iushr v 8 8 (by decide) (by decide)
  have y2 := c_iushr v 16 16 (by decide) (by decide)
  have y3 := c_iushr v 24 24 (by decide) (by decide)
  generalize ((v.toUInt32 >>> ((8 : Int32) &&& 31).toUInt32).toInt32) = w1 at *
  generalize ((v.toUInt32 >>> ((16 : Int32) &&& 31).toUInt32).toInt32) = w2 at *
  generalize ((v.toUInt32 >>> ((24 : Int32) &&& 31).toUInt32).toInt32) = w3 at *
  have m0 := own_byte v v.toInt (by omega)
  have m1 := own_byte w1 w1.toInt (by omega)
  have m2 := own_byte w2 w2.toInt (by omega)
  have m3 := own_byte w3 w3.toInt (by omega)
  generalize (nar .byte (v.toInt8.toInt32) &&& (255 : Int32)) = a0 at *
  generalize (nar .byte (w1.toInt8.toInt32) &&& (255 : Int32)) = a1 at *
  generalize (nar .byte (w2.toInt8.toInt32) &&& (255 : Int32)) = a2 at *
  generalize (nar .byte (w3.toInt8.toInt32) &&& (255 : Int32)) = a3 at *
  have s1 := own_shl a1 8 8 (by decide)
  have s2 := own_shl a2 16 16 (by decide)
  have s3 := own_shl a3 24 24 (by decide)
  generalize a1 <<< ((8 : Int32) &&& 31) = b1 at *
  generalize a2 <<< ((16 : Int32) &&& 31) = b2 at *
  generalize a3 <<< ((24 : Int32) &&& 31) = b3 at *
  have q1 := rng32 b1
  have q2 := rng32 b2
  have q3 := rng32 b3
  have t1 := c_or' a0 b1 8 (by decide) 256 rfl (by omega) (by omega) (by omega)
  have p1 := rng32 (a0 ||| b1)
  generalize (a0 ||| b1) = d1 at *
  have t2 := c_or' d1 b2 16 (by decide) 65536 rfl (by omega) (by omega) (by omega)
  have p2 := rng32 (d1 ||| b2)
  generalize (d1 ||| b2) = d2 at *
  have t3 := c_or' d2 b3 24 (by decide) 16777216 rfl (by omega) (by omega) (by omega)
  have p3 := rng32 (d2 ||| b3)
  generalize (d2 ||| b3) = d3 at *
  rw [← Int32.toInt_inj]
  omega
theorem own_same1 (a b d e : Int32) : F11 a b d e = F10 a b d e := rfl
theorem own_same2 (a b d e : Int32) : F12 a b d e = F10 a b d e := rfl
theorem own_same3 (a b d e : Int32) : F13 a b d e = F10 a b d e := rfl
theorem pd_0 : parseMethodDescriptor "([BI)I" = some ⟨[(.array .byte), .int], some .int⟩ := by decide +kernel
theorem pn_1 : plainName "com/example/mimosa/mimosa/bson/BsonDocumentReadInt32PinLaw" = true := by first | (simp [plainName, overriddenIn]; done) | decide +kernel
theorem ef_0 (m : MethodId) (i1 : Int32) (i2 : Int32) (j1 : Int64)  : entryFrame m #[(.int i1), (.int i2), (.long j1)] maxLocals = mkF m 0 #[.val (.int i1), .val (.int i2), .val (.long j1), .second, .unset, .unset] [] := by
  first | (simp [entryFrame, mkF, argsToLocals, Value.category, maxLocals]; done) | rfl
def Q0 (Z : State) (i1 : Int32) (i2 : Int32) (j1 : Int64) (h0 : Heap) (n0 : Nat) (v : Option Value) (h : Heap) (L : List Loc) : Prop := v = some (.int 1) ∧ Fr n0 L
set_option maxRecDepth 65536 in
set_option maxHeartbeats 40000000 in
theorem rm0 (l : Launch) (Z : State) (a0 : Array Value) (hw : ∀ d ∈ tables_1, d.before a0 Z = true) (ws : List Jvm.Cond) (i1 : Int32) (i2 : Int32) (j1 : Int64) (h0 : Heap) (n0 : Nat) (Z0 : n0 ≤ h0.size)  :
    MetFree l x (head1 (Jvm.Cond.code x code maxLocals ret :: ws) room_1) (fun a U => a = #[(.int i1), (.int i2), (.long j1)] ∧ Z.Warmed39 U.vm ∧ U.heap = h0) (fun _ _ _ _ _ => True) (fun _ U o U' => ∃ v L, o = .returned v ∧ Q0 Z i1 i2 j1 h0 n0 v U'.heap L ∧ FrameEnd U o U' L 1 8) := by
  refine MetFree.of_bodySF (plainFor_of_name pn_1) hisR ?_
  intro p e s m args below meth c s₁ Bd hml0 hP hK
  obtain ⟨rfl, hZ, hh⟩ := hP
  have hx := Bd.exec
  have hby := Bd.bytes
  have hml : c.maxLocals = 6 := hml0
  have hown : s.vm.findClass "com/example/mimosa/mimosa/bson/BsonDocumentReadInt32PinLaw" = some m.cls := findClass_of_methodNamed Bd.named
  have hnm := (name_of_methodNamed Bd.named Bd.method).1
  have X0 : Stand p l e room_1 s m #[(.int i1), (.int i2), (.long j1)] below meth c s₁ [] 0 0 := Stand.of_body Bd
  have e0 : s₁.heap = h0 := by rw [← hh, Bd.state]; rfl
  have N0 := Fr.nil n0
  suffices H : ∀ Qo : Outcome → State → Prop, (∀ (v : Option Value) (u : State) (L : List Loc), Q0 Z i1 i2 j1 h0 n0 v u.heap L → FrameEnd s (.returned v) u L 1 8 → Qo (.returned v) u) → Go p e below Qo s₁ (mkF m 0 #[.val (.int i1), .val (.int i2), .val (.long j1), .second, .unset, .unset] []) from
    Go.cast (ef_0 m i1 i2 j1) (H _ fun v u L h1 h2 => ⟨v, L, rfl, h1, h2⟩)
  intro Qo hQo
  show Go p e below Qo s₁ (mkF m 0 #[.val (.int i1), .val (.int i2), .val (.long j1), .second, .unset, .unset] [])
  refine Go.of (fun t k => XS.iloadN X0.here hx rfl (hb hby at_0) rfl  k) ?_
  show Go p e below Qo s₁ (mkF m 1 #[.val (.int i1), .val (.int i2), .val (.long j1), .second, .unset, .unset] [(.int i2)])
  refine Go.of (fun t k => XS.iconst X0.here hx rfl (hb hby at_1) k) ?_
  show Go p e below Qo s₁ (mkF m 2 #[.val (.int i1), .val (.int i2), .val (.long j1), .second, .unset, .unset] [(.int (3 : Int32)), (.int i2)])
  refine Go.of (fun t k => XS.iand X0.here hx rfl (hb hby at_2) rfl k) ?_
  show Go p e below Qo s₁ (mkF m 3 #[.val (.int i1), .val (.int i2), .val (.long j1), .second, .unset, .unset] [(.int (i2 &&& (3 : Int32)))])
  refine Go.of (fun t k => XS.istore X0.here hx rfl (hb hby at_3) rfl (l' := #[.val (.int i1), .val (.int i2), .val (.long j1), .second, .val (.int (i2 &&& (3 : Int32))), .unset]) rfl k) ?_
  show Go p e below Qo s₁ (mkF m 5 #[.val (.int i1), .val (.int i2), .val (.long j1), .second, .val (.int (i2 &&& (3 : Int32))), .unset] [])
  refine Go.of (fun t k => XS.bipush X0.here hx rfl (hb hby at_5) k) ?_
  show Go p e below Qo s₁ (mkF m 7 #[.val (.int i1), .val (.int i2), .val (.long j1), .second, .val (.int (i2 &&& (3 : Int32))), .unset] [(.int (8 : Int32))])
  obtain ⟨T1, h1, k1, X1, e1, E1, A1, st1⟩ := newP X0 hx hZ (hw _ (List.mem_of_getElem? (i := 0) rfl)) e0 (g := (mkF m 7 #[.val (.int i1), .val (.int i2), .val (.long j1), .second, .val (.int (i2 &&& (3 : Int32))), .unset] [(.int (8 : Int32))])) rfl (hb hby at_7) rfl (by decide) (cap := 8) (by decide) (by decide) (by decide) (by decide)
  obtain ⟨b1, g1⟩ : ∃ z, z = h0.size := ⟨_, rfl⟩
  rw [← g1] at A1 st1
  have g2 : n0 ≤ b1 := Nat.le_trans Z0 (Nat.le_of_eq g1.symm)
  have Z3 : n0 ≤ h1.size := Nat.le_trans Z0 E1.1
  have q4 : Arv Z h1 b1 k1 .byte (8 : Int32) [(.int (0 : Int32)), (.int (0 : Int32)), (.int (0 : Int32)), (.int (0 : Int32)), (.int (0 : Int32)), (.int (0 : Int32)), (.int (0 : Int32)), (.int (0 : Int32))] (.int (0 : Int32)) := (Arv.new A1 (by decide)).pad (pad_rep [] (.int (0 : Int32)) 8)
  refine Go.of st1 ?_
  show Go p e below Qo T1 (mkF m 9 #[.val (.int i1), .val (.int i2), .val (.long j1), .second, .val (.int (i2 &&& (3 : Int32))), .unset] [(.ref b1)])
  refine Go.of (fun t k => XS.astore X1.here hx rfl (hb hby at_9) rfl rfl (l' := #[.val (.int i1), .val (.int i2), .val (.long j1), .second, .val (.int (i2 &&& (3 : Int32))), .val (.ref b1)]) rfl k) ?_
  show Go p e below Qo T1 (mkF m 11 #[.val (.int i1), .val (.int i2), .val (.long j1), .second, .val (.int (i2 &&& (3 : Int32))), .val (.ref b1)] [])
  refine Go.of (fun t k => XS.aload X1.here hx rfl (hb hby at_11) rfl rfl k) ?_
  show Go p e below Qo T1 (mkF m 13 #[.val (.int i1), .val (.int i2), .val (.long j1), .second, .val (.int (i2 &&& (3 : Int32))), .val (.ref b1)] [(.ref b1)])
  refine Go.of (fun t k => XS.iconst X1.here hx rfl (hb hby at_13) k) ?_
  show Go p e below Qo T1 (mkF m 14 #[.val (.int i1), .val (.int i2), .val (.long j1), .second, .val (.int (i2 &&& (3 : Int32))), .val (.ref b1)] [(.int (0 : Int32)), (.ref b1)])
  refine Go.of (fun t k => XS.lloadN X1.here hx rfl (hb hby at_14) rfl  k) ?_
  show Go p e below Qo T1 (mkF m 15 #[.val (.int i1), .val (.int i2), .val (.long j1), .second, .val (.int (i2 &&& (3 : Int32))), .val (.ref b1)] [(.long j1), (.int (0 : Int32)), (.ref b1)])
  refine Go.of (fun t k => XS.l2i X1.here hx rfl (hb hby at_15) rfl k) ?_
  show Go p e below Qo T1 (mkF m 16 #[.val (.int i1), .val (.int i2), .val (.long j1), .second, .val (.int (i2 &&& (3 : Int32))), .val (.ref b1)] [(.int (j1.toInt32)), (.int (0 : Int32)), (.ref b1)])
  refine Go.of (fun t k => XS.i2b X1.here hx rfl (hb hby at_16) rfl k) ?_
  show Go p e below Qo T1 (mkF m 17 #[.val (.int i1), .val (.int i2), .val (.long j1), .second, .val (.int (i2 &&& (3 : Int32))), .val (.ref b1)] [(.int ((j1.toInt32).toInt8.toInt32)), (.int (0 : Int32)), (.ref b1)])
  have cpo5 := q4
  obtain ⟨clo5, Aro5, qco5, So5, Mo5, Ho5, Go5⟩ := cpo5
  have hin6 : ¬ ((0 : Int32) < 0 ∨ clo5.slots.size ≤ (0 : Int32).toNatClampNeg) := (inb_of So5 ⟨by decide, by decide⟩)
  obtain ⟨T7, h7, X7, e7, W7, st7⟩ := stB X1 hx hZ e1 Aro5 (j := (0 : Int32)) hin6 (g := (mkF m 17 #[.val (.int i1), .val (.int i2), .val (.long j1), .second, .val (.int (i2 &&& (3 : Int32))), .val (.ref b1)] [(.int ((j1.toInt32).toInt8.toInt32)), (.int (0 : Int32)), (.ref b1)])) rfl rfl (hb hby at_17)
  have q8 : Arv Z h7 b1 k1 .byte (8 : Int32) [(.int (nar .byte ((j1.toInt32).toInt8.toInt32))), (.int (0 : Int32)), (.int (0 : Int32)), (.int (0 : Int32)), (.int (0 : Int32)), (.int (0 : Int32)), (.int (0 : Int32)), (.int (0 : Int32))] (.int (0 : Int32)) := Arv.set Aro5 qco5 So5 Mo5 Ho5 Go5 (fits_nar_byte _) W7 0 rfl (Nat.le_of_ble_eq_true rfl)
  have Z9 : n0 ≤ h7.size := Nat.le_trans Z3 (Keep.of_wr W7).1
  have N10 := Fr.snoc X7 N0 g2
  refine Go.of st7 ?_
  show Go p e below Qo T7 (mkF m 18 #[.val (.int i1), .val (.int i2), .val (.long j1), .second, .val (.int (i2 &&& (3 : Int32))), .val (.ref b1)] [])
  refine Go.of (fun t k => XS.aload X7.here hx rfl (hb hby at_18) rfl rfl k) ?_
  show Go p e below Qo T7 (mkF m 20 #[.val (.int i1), .val (.int i2), .val (.long j1), .second, .val (.int (i2 &&& (3 : Int32))), .val (.ref b1)] [(.ref b1)])
  refine Go.of (fun t k => XS.iconst X7.here hx rfl (hb hby at_20) k) ?_
  show Go p e below Qo T7 (mkF m 21 #[.val (.int i1), .val (.int i2), .val (.long j1), .second, .val (.int (i2 &&& (3 : Int32))), .val (.ref b1)] [(.int (1 : Int32)), (.ref b1)])
  refine Go.of (fun t k => XS.lloadN X7.here hx rfl (hb hby at_21) rfl  k) ?_
  show Go p e below Qo T7 (mkF m 22 #[.val (.int i1), .val (.int i2), .val (.long j1), .second, .val (.int (i2 &&& (3 : Int32))), .val (.ref b1)] [(.long j1), (.int (1 : Int32)), (.ref b1)])
  refine Go.of (fun t k => XS.bipush X7.here hx rfl (hb hby at_22) k) ?_
  show Go p e below Qo T7 (mkF m 24 #[.val (.int i1), .val (.int i2), .val (.long j1), .second, .val (.int (i2 &&& (3 : Int32))), .val (.ref b1)] [(.int (8 : Int32)), (.long j1), (.int (1 : Int32)), (.ref b1)])
  refine Go.of (fun t k => XS.lushr X7.here hx rfl (hb hby at_24) rfl k) ?_
  show Go p e below Qo T7 (mkF m 25 #[.val (.int i1), .val (.int i2), .val (.long j1), .second, .val (.int (i2 &&& (3 : Int32))), .val (.ref b1)] [(.long ((j1.toUInt64 >>> ((8 : Int32) &&& 0x3f).toInt64.toUInt64).toInt64)), (.int (1 : Int32)), (.ref b1)])
  refine Go.of (fun t k => XS.l2i X7.here hx rfl (hb hby at_25) rfl k) ?_
  show Go p e below Qo T7 (mkF m 26 #[.val (.int i1), .val (.int i2), .val (.long j1), .second, .val (.int (i2 &&& (3 : Int32))), .val (.ref b1)] [(.int (((j1.toUInt64 >>> ((8 : Int32) &&& 0x3f).toInt64.toUInt64).toInt64).toInt32)), (.int (1 : Int32)), (.ref b1)])
  refine Go.of (fun t k => XS.i2b X7.here hx rfl (hb hby at_26) rfl k) ?_
  show Go p e below Qo T7 (mkF m 27 #[.val (.int i1), .val (.int i2), .val (.long j1), .second, .val (.int (i2 &&& (3 : Int32))), .val (.ref b1)] [(.int ((((j1.toUInt64 >>> ((8 : Int32) &&& 0x3f).toInt64.toUInt64).toInt64).toInt32).toInt8.toInt32)), (.int (1 : Int32)), (.ref b1)])
  have cpo11 := q8
  obtain ⟨clo11, Aro11, qco11, So11, Mo11, Ho11, Go11⟩ := cpo11
  have hin12 : ¬ ((1 : Int32) < 0 ∨ clo11.slots.size ≤ (1 : Int32).toNatClampNeg) := (inb_of So11 ⟨by decide, by decide⟩)
  obtain ⟨T13, h13, X13, e13, W13, st13⟩ := stB X7 hx hZ e7 Aro11 (j := (1 : Int32)) hin12 (g := (mkF m 27 #[.val (.int i1), .val (.int i2), .val (.long j1), .second, .val (.int (i2 &&& (3 : Int32))), .val (.ref b1)] [(.int ((((j1.toUInt64 >>> ((8 : Int32) &&& 0x3f).toInt64.toUInt64).toInt64).toInt32).toInt8.toInt32)), (.int (1 : Int32)), (.ref b1)])) rfl rfl (hb hby at_27)
  have q14 : Arv Z h13 b1 k1 .byte (8 : Int32) [(.int (nar .byte ((j1.toInt32).toInt8.toInt32))), (.int (nar .byte ((((j1.toUInt64 >>> ((8 : Int32) &&& 0x3f).toInt64.toUInt64).toInt64).toInt32).toInt8.toInt32))), (.int (0 : Int32)), (.int (0 : Int32)), (.int (0 : Int32)), (.int (0 : Int32)), (.int (0 : Int32)), (.int (0 : Int32))] (.int (0 : Int32)) := Arv.set Aro11 qco11 So11 Mo11 Ho11 Go11 (fits_nar_byte _) W13 1 rfl (Nat.le_of_ble_eq_true rfl)
  have Z15 : n0 ≤ h13.size := Nat.le_trans Z9 (Keep.of_wr W13).1
  have N16 := Fr.snoc X13 N10 g2
  refine Go.of st13 ?_
  show Go p e below Qo T13 (mkF m 28 #[.val (.int i1), .val (.int i2), .val (.long j1), .second, .val (.int (i2 &&& (3 : Int32))), .val (.ref b1)] [])
  refine Go.of (fun t k => XS.aload X13.here hx rfl (hb hby at_28) rfl rfl k) ?_
  show Go p e below Qo T13 (mkF m 30 #[.val (.int i1), .val (.int i2), .val (.long j1), .second, .val (.int (i2 &&& (3 : Int32))), .val (.ref b1)] [(.ref b1)])
  refine Go.of (fun t k => XS.iconst X13.here hx rfl (hb hby at_30) k) ?_
  show Go p e below Qo T13 (mkF m 31 #[.val (.int i1), .val (.int i2), .val (.long j1), .second, .val (.int (i2 &&& (3 : Int32))), .val (.ref b1)] [(.int (2 : Int32)), (.ref b1)])
  refine Go.of (fun t k => XS.lloadN X13.here hx rfl (hb hby at_31) rfl  k) ?_
  show Go p e below Qo T13 (mkF m 32 #[.val (.int i1), .val (.int i2), .val (.long j1), .second, .val (.int (i2 &&& (3 : Int32))), .val (.ref b1)] [(.long j1), (.int (2 : Int32)), (.ref b1)])
  refine Go.of (fun t k => XS.bipush X13.here hx rfl (hb hby at_32) k) ?_
  show Go p e below Qo T13 (mkF m 34 #[.val (.int i1), .val (.int i2), .val (.long j1), .second, .val (.int (i2 &&& (3 : Int32))), .val (.ref b1)] [(.int (16 : Int32)), (.long j1), (.int (2 : Int32)), (.ref b1)])
  refine Go.of (fun t k => XS.lushr X13.here hx rfl (hb hby at_34) rfl k) ?_
  show Go p e below Qo T13 (mkF m 35 #[.val (.int i1), .val (.int i2), .val (.long j1), .second, .val (.int (i2 &&& (3 : Int32))), .val (.ref b1)] [(.long ((j1.toUInt64 >>> ((16 : Int32) &&& 0x3f).toInt64.toUInt64).toInt64)), (.int (2 : Int32)), (.ref b1)])
  refine Go.of (fun t k => XS.l2i X13.here hx rfl (hb hby at_35) rfl k) ?_
  show Go p e below Qo T13 (mkF m 36 #[.val (.int i1), .val (.int i2), .val (.long j1), .second, .val (.int (i2 &&& (3 : Int32))), .val (.ref b1)] [(.int (((j1.toUInt64 >>> ((16 : Int32) &&& 0x3f).toInt64.toUInt64).toInt64).toInt32)), (.int (2 : Int32)), (.ref b1)])
  refine Go.of (fun t k => XS.i2b X13.here hx rfl (hb hby at_36) rfl k) ?_
  show Go p e below Qo T13 (mkF m 37 #[.val (.int i1), .val (.int i2), .val (.long j1), .second, .val (.int (i2 &&& (3 : Int32))), .val (.ref b1)] [(.int ((((j1.toUInt64 >>> ((16 : Int32) &&& 0x3f).toInt64.toUInt64).toInt64).toInt32).toInt8.toInt32)), (.int (2 : Int32)), (.ref b1)])
  have cpo17 := q14
  obtain ⟨clo17, Aro17, qco17, So17, Mo17, Ho17, Go17⟩ := cpo17
  have hin18 : ¬ ((2 : Int32) < 0 ∨ clo17.slots.size ≤ (2 : Int32).toNatClampNeg) := (inb_of So17 ⟨by decide, by decide⟩)
  obtain ⟨T19, h19, X19, e19, W19, st19⟩ := stB X13 hx hZ e13 Aro17 (j := (2 : Int32)) hin18 (g := (mkF m 37 #[.val (.int i1), .val (.int i2), .val (.long j1), .second, .val (.int (i2 &&& (3 : Int32))), .val (.ref b1)] [(.int ((((j1.toUInt64 >>> ((16 : Int32) &&& 0x3f).toInt64.toUInt64).toInt64).toInt32).toInt8.toInt32)), (.int (2 : Int32)), (.ref b1)])) rfl rfl (hb hby at_37)
  have q20 : Arv Z h19 b1 k1 .byte (8 : Int32) [(.int (nar .byte ((j1.toInt32).toInt8.toInt32))), (.int (nar .byte ((((j1.toUInt64 >>> ((8 : Int32) &&& 0x3f).toInt64.toUInt64).toInt64).toInt32).toInt8.toInt32))), (.int (nar .byte ((((j1.toUInt64 >>> ((16 : Int32) &&& 0x3f).toInt64.toUInt64).toInt64).toInt32).toInt8.toInt32))), (.int (0 : Int32)), (.int (0 : Int32)), (.int (0 : Int32)), (.int (0 : Int32)), (.int (0 : Int32))] (.int (0 : Int32)) := Arv.set Aro17 qco17 So17 Mo17 Ho17 Go17 (fits_nar_byte _) W19 2 rfl (Nat.le_of_ble_eq_true rfl)
  have Z21 : n0 ≤ h19.size := Nat.le_trans Z15 (Keep.of_wr W19).1
  have N22 := Fr.snoc X19 N16 g2
  refine Go.of st19 ?_
  show Go p e below Qo T19 (mkF m 38 #[.val (.int i1), .val (.int i2), .val (.long j1), .second, .val (.int (i2 &&& (3 : Int32))), .val (.ref b1)] [])
  refine Go.of (fun t k => XS.aload X19.here hx rfl (hb hby at_38) rfl rfl k) ?_
  show Go p e below Qo T19 (mkF m 40 #[.val (.int i1), .val (.int i2), .val (.long j1), .second, .val (.int (i2 &&& (3 : Int32))), .val (.ref b1)] [(.ref b1)])
  refine Go.of (fun t k => XS.iconst X19.here hx rfl (hb hby at_40) k) ?_
  show Go p e below Qo T19 (mkF m 41 #[.val (.int i1), .val (.int i2), .val (.long j1), .second, .val (.int (i2 &&& (3 : Int32))), .val (.ref b1)] [(.int (3 : Int32)), (.ref b1)])
  refine Go.of (fun t k => XS.lloadN X19.here hx rfl (hb hby at_41) rfl  k) ?_
  show Go p e below Qo T19 (mkF m 42 #[.val (.int i1), .val (.int i2), .val (.long j1), .second, .val (.int (i2 &&& (3 : Int32))), .val (.ref b1)] [(.long j1), (.int (3 : Int32)), (.ref b1)])
  refine Go.of (fun t k => XS.bipush X19.here hx rfl (hb hby at_42) k) ?_
  show Go p e below Qo T19 (mkF m 44 #[.val (.int i1), .val (.int i2), .val (.long j1), .second, .val (.int (i2 &&& (3 : Int32))), .val (.ref b1)] [(.int (24 : Int32)), (.long j1), (.int (3 : Int32)), (.ref b1)])
  refine Go.of (fun t k => XS.lushr X19.here hx rfl (hb hby at_44) rfl k) ?_
  show Go p e below Qo T19 (mkF m 45 #[.val (.int i1), .val (.int i2), .val (.long j1), .second, .val (.int (i2 &&& (3 : Int32))), .val (.ref b1)] [(.long ((j1.toUInt64 >>> ((24 : Int32) &&& 0x3f).toInt64.toUInt64).toInt64)), (.int (3 : Int32)), (.ref b1)])
  refine Go.of (fun t k => XS.l2i X19.here hx rfl (hb hby at_45) rfl k) ?_
  show Go p e below Qo T19 (mkF m 46 #[.val (.int i1), .val (.int i2), .val (.long j1), .second, .val (.int (i2 &&& (3 : Int32))), .val (.ref b1)] [(.int (((j1.toUInt64 >>> ((24 : Int32) &&& 0x3f).toInt64.toUInt64).toInt64).toInt32)), (.int (3 : Int32)), (.ref b1)])
  refine Go.of (fun t k => XS.i2b X19.here hx rfl (hb hby at_46) rfl k) ?_
  show Go p e below Qo T19 (mkF m 47 #[.val (.int i1), .val (.int i2), .val (.long j1), .second, .val (.int (i2 &&& (3 : Int32))), .val (.ref b1)] [(.int ((((j1.toUInt64 >>> ((24 : Int32) &&& 0x3f).toInt64.toUInt64).toInt64).toInt32).toInt8.toInt32)), (.int (3 : Int32)), (.ref b1)])
  have cpo23 := q20
  obtain ⟨clo23, Aro23, qco23, So23, Mo23, Ho23, Go23⟩ := cpo23
  have hin24 : ¬ ((3 : Int32) < 0 ∨ clo23.slots.size ≤ (3 : Int32).toNatClampNeg) := (inb_of So23 ⟨by decide, by decide⟩)
  obtain ⟨T25, h25, X25, e25, W25, st25⟩ := stB X19 hx hZ e19 Aro23 (j := (3 : Int32)) hin24 (g := (mkF m 47 #[.val (.int i1), .val (.int i2), .val (.long j1), .second, .val (.int (i2 &&& (3 : Int32))), .val (.ref b1)] [(.int ((((j1.toUInt64 >>> ((24 : Int32) &&& 0x3f).toInt64.toUInt64).toInt64).toInt32).toInt8.toInt32)), (.int (3 : Int32)), (.ref b1)])) rfl rfl (hb hby at_47)
  have q26 : Arv Z h25 b1 k1 .byte (8 : Int32) [(.int (nar .byte ((j1.toInt32).toInt8.toInt32))), (.int (nar .byte ((((j1.toUInt64 >>> ((8 : Int32) &&& 0x3f).toInt64.toUInt64).toInt64).toInt32).toInt8.toInt32))), (.int (nar .byte ((((j1.toUInt64 >>> ((16 : Int32) &&& 0x3f).toInt64.toUInt64).toInt64).toInt32).toInt8.toInt32))), (.int (nar .byte ((((j1.toUInt64 >>> ((24 : Int32) &&& 0x3f).toInt64.toUInt64).toInt64).toInt32).toInt8.toInt32))), (.int (0 : Int32)), (.int (0 : Int32)), (.int (0 : Int32)), (.int (0 : Int32))] (.int (0 : Int32)) := Arv.set Aro23 qco23 So23 Mo23 Ho23 Go23 (fits_nar_byte _) W25 3 rfl (Nat.le_of_ble_eq_true rfl)
  have Z27 : n0 ≤ h25.size := Nat.le_trans Z21 (Keep.of_wr W25).1
  have N28 := Fr.snoc X25 N22 g2
  refine Go.of st25 ?_
  show Go p e below Qo T25 (mkF m 48 #[.val (.int i1), .val (.int i2), .val (.long j1), .second, .val (.int (i2 &&& (3 : Int32))), .val (.ref b1)] [])
  refine Go.of (fun t k => XS.aload X25.here hx rfl (hb hby at_48) rfl rfl k) ?_
  show Go p e below Qo T25 (mkF m 50 #[.val (.int i1), .val (.int i2), .val (.long j1), .second, .val (.int (i2 &&& (3 : Int32))), .val (.ref b1)] [(.ref b1)])
  refine Go.of (fun t k => XS.iconst X25.here hx rfl (hb hby at_50) k) ?_
  show Go p e below Qo T25 (mkF m 51 #[.val (.int i1), .val (.int i2), .val (.long j1), .second, .val (.int (i2 &&& (3 : Int32))), .val (.ref b1)] [(.int (4 : Int32)), (.ref b1)])
  refine Go.of (fun t k => XS.lloadN X25.here hx rfl (hb hby at_51) rfl  k) ?_
  show Go p e below Qo T25 (mkF m 52 #[.val (.int i1), .val (.int i2), .val (.long j1), .second, .val (.int (i2 &&& (3 : Int32))), .val (.ref b1)] [(.long j1), (.int (4 : Int32)), (.ref b1)])
  refine Go.of (fun t k => XS.bipush X25.here hx rfl (hb hby at_52) k) ?_
  show Go p e below Qo T25 (mkF m 54 #[.val (.int i1), .val (.int i2), .val (.long j1), .second, .val (.int (i2 &&& (3 : Int32))), .val (.ref b1)] [(.int (32 : Int32)), (.long j1), (.int (4 : Int32)), (.ref b1)])
  refine Go.of (fun t k => XS.lushr X25.here hx rfl (hb hby at_54) rfl k) ?_
  show Go p e below Qo T25 (mkF m 55 #[.val (.int i1), .val (.int i2), .val (.long j1), .second, .val (.int (i2 &&& (3 : Int32))), .val (.ref b1)] [(.long ((j1.toUInt64 >>> ((32 : Int32) &&& 0x3f).toInt64.toUInt64).toInt64)), (.int (4 : Int32)), (.ref b1)])
  refine Go.of (fun t k => XS.l2i X25.here hx rfl (hb hby at_55) rfl k) ?_
  show Go p e below Qo T25 (mkF m 56 #[.val (.int i1), .val (.int i2), .val (.long j1), .second, .val (.int (i2 &&& (3 : Int32))), .val (.ref b1)] [(.int (((j1.toUInt64 >>> ((32 : Int32) &&& 0x3f).toInt64.toUInt64).toInt64).toInt32)), (.int (4 : Int32)), (.ref b1)])
  refine Go.of (fun t k => XS.i2b X25.here hx rfl (hb hby at_56) rfl k) ?_
  show Go p e below Qo T25 (mkF m 57 #[.val (.int i1), .val (.int i2), .val (.long j1), .second, .val (.int (i2 &&& (3 : Int32))), .val (.ref b1)] [(.int ((((j1.toUInt64 >>> ((32 : Int32) &&& 0x3f).toInt64.toUInt64).toInt64).toInt32).toInt8.toInt32)), (.int (4 : Int32)), (.ref b1)])
  have cpo29 := q26
  obtain ⟨clo29, Aro29, qco29, So29, Mo29, Ho29, Go29⟩ := cpo29
  have hin30 : ¬ ((4 : Int32) < 0 ∨ clo29.slots.size ≤ (4 : Int32).toNatClampNeg) := (inb_of So29 ⟨by decide, by decide⟩)
  obtain ⟨T31, h31, X31, e31, W31, st31⟩ := stB X25 hx hZ e25 Aro29 (j := (4 : Int32)) hin30 (g := (mkF m 57 #[.val (.int i1), .val (.int i2), .val (.long j1), .second, .val (.int (i2 &&& (3 : Int32))), .val (.ref b1)] [(.int ((((j1.toUInt64 >>> ((32 : Int32) &&& 0x3f).toInt64.toUInt64).toInt64).toInt32).toInt8.toInt32)), (.int (4 : Int32)), (.ref b1)])) rfl rfl (hb hby at_57)
  have q32 : Arv Z h31 b1 k1 .byte (8 : Int32) [(.int (nar .byte ((j1.toInt32).toInt8.toInt32))), (.int (nar .byte ((((j1.toUInt64 >>> ((8 : Int32) &&& 0x3f).toInt64.toUInt64).toInt64).toInt32).toInt8.toInt32))), (.int (nar .byte ((((j1.toUInt64 >>> ((16 : Int32) &&& 0x3f).toInt64.toUInt64).toInt64).toInt32).toInt8.toInt32))), (.int (nar .byte ((((j1.toUInt64 >>> ((24 : Int32) &&& 0x3f).toInt64.toUInt64).toInt64).toInt32).toInt8.toInt32))), (.int (nar .byte ((((j1.toUInt64 >>> ((32 : Int32) &&& 0x3f).toInt64.toUInt64).toInt64).toInt32).toInt8.toInt32))), (.int (0 : Int32)), (.int (0 : Int32)), (.int (0 : Int32))] (.int (0 : Int32)) := Arv.set Aro29 qco29 So29 Mo29 Ho29 Go29 (fits_nar_byte _) W31 4 rfl (Nat.le_of_ble_eq_true rfl)
  have Z33 : n0 ≤ h31.size := Nat.le_trans Z27 (Keep.of_wr W31).1
  have N34 := Fr.snoc X31 N28 g2
  refine Go.of st31 ?_
  show Go p e below Qo T31 (mkF m 58 #[.val (.int i1), .val (.int i2), .val (.long j1), .second, .val (.int (i2 &&& (3 : Int32))), .val (.ref b1)] [])
  refine Go.of (fun t k => XS.aload X31.here hx rfl (hb hby at_58) rfl rfl k) ?_
  show Go p e below Qo T31 (mkF m 60 #[.val (.int i1), .val (.int i2), .val (.long j1), .second, .val (.int (i2 &&& (3 : Int32))), .val (.ref b1)] [(.ref b1)])
  refine Go.of (fun t k => XS.iconst X31.here hx rfl (hb hby at_60) k) ?_
  show Go p e below Qo T31 (mkF m 61 #[.val (.int i1), .val (.int i2), .val (.long j1), .second, .val (.int (i2 &&& (3 : Int32))), .val (.ref b1)] [(.int (5 : Int32)), (.ref b1)])
  refine Go.of (fun t k => XS.lloadN X31.here hx rfl (hb hby at_61) rfl  k) ?_
  show Go p e below Qo T31 (mkF m 62 #[.val (.int i1), .val (.int i2), .val (.long j1), .second, .val (.int (i2 &&& (3 : Int32))), .val (.ref b1)] [(.long j1), (.int (5 : Int32)), (.ref b1)])
  refine Go.of (fun t k => XS.bipush X31.here hx rfl (hb hby at_62) k) ?_
  show Go p e below Qo T31 (mkF m 64 #[.val (.int i1), .val (.int i2), .val (.long j1), .second, .val (.int (i2 &&& (3 : Int32))), .val (.ref b1)] [(.int (40 : Int32)), (.long j1), (.int (5 : Int32)), (.ref b1)])
  refine Go.of (fun t k => XS.lushr X31.here hx rfl (hb hby at_64) rfl k) ?_
  show Go p e below Qo T31 (mkF m 65 #[.val (.int i1), .val (.int i2), .val (.long j1), .second, .val (.int (i2 &&& (3 : Int32))), .val (.ref b1)] [(.long ((j1.toUInt64 >>> ((40 : Int32) &&& 0x3f).toInt64.toUInt64).toInt64)), (.int (5 : Int32)), (.ref b1)])
  refine Go.of (fun t k => XS.l2i X31.here hx rfl (hb hby at_65) rfl k) ?_
  show Go p e below Qo T31 (mkF m 66 #[.val (.int i1), .val (.int i2), .val (.long j1), .second, .val (.int (i2 &&& (3 : Int32))), .val (.ref b1)] [(.int (((j1.toUInt64 >>> ((40 : Int32) &&& 0x3f).toInt64.toUInt64).toInt64).toInt32)), (.int (5 : Int32)), (.ref b1)])
  refine Go.of (fun t k => XS.i2b X31.here hx rfl (hb hby at_66) rfl k) ?_
  show Go p e below Qo T31 (mkF m 67 #[.val (.int i1), .val (.int i2), .val (.long j1), .second, .val (.int (i2 &&& (3 : Int32))), .val (.ref b1)] [(.int ((((j1.toUInt64 >>> ((40 : Int32) &&& 0x3f).toInt64.toUInt64).toInt64).toInt32).toInt8.toInt32)), (.int (5 : Int32)), (.ref b1)])
  have cpo35 := q32
  obtain ⟨clo35, Aro35, qco35, So35, Mo35, Ho35, Go35⟩ := cpo35
  have hin36 : ¬ ((5 : Int32) < 0 ∨ clo35.slots.size ≤ (5 : Int32).toNatClampNeg) := (inb_of So35 ⟨by decide, by decide⟩)
  obtain ⟨T37, h37, X37, e37, W37, st37⟩ := stB X31 hx hZ e31 Aro35 (j := (5 : Int32)) hin36 (g := (mkF m 67 #[.val (.int i1), .val (.int i2), .val (.long j1), .second, .val (.int (i2 &&& (3 : Int32))), .val (.ref b1)] [(.int ((((j1.toUInt64 >>> ((40 : Int32) &&& 0x3f).toInt64.toUInt64).toInt64).toInt32).toInt8.toInt32)), (.int (5 : Int32)), (.ref b1)])) rfl rfl (hb hby at_67)
  have q38 : Arv Z h37 b1 k1 .byte (8 : Int32) [(.int (nar .byte ((j1.toInt32).toInt8.toInt32))), (.int (nar .byte ((((j1.toUInt64 >>> ((8 : Int32) &&& 0x3f).toInt64.toUInt64).toInt64).toInt32).toInt8.toInt32))), (.int (nar .byte ((((j1.toUInt64 >>> ((16 : Int32) &&& 0x3f).toInt64.toUInt64).toInt64).toInt32).toInt8.toInt32))), (.int (nar .byte ((((j1.toUInt64 >>> ((24 : Int32) &&& 0x3f).toInt64.toUInt64).toInt64).toInt32).toInt8.toInt32))), (.int (nar .byte ((((j1.toUInt64 >>> ((32 : Int32) &&& 0x3f).toInt64.toUInt64).toInt64).toInt32).toInt8.toInt32))), (.int (nar .byte ((((j1.toUInt64 >>> ((40 : Int32) &&& 0x3f).toInt64.toUInt64).toInt64).toInt32).toInt8.toInt32))), (.int (0 : Int32)), (.int (0 : Int32))] (.int (0 : Int32)) := Arv.set Aro35 qco35 So35 Mo35 Ho35 Go35 (fits_nar_byte _) W37 5 rfl (Nat.le_of_ble_eq_true rfl)
  have Z39 : n0 ≤ h37.size := Nat.le_trans Z33 (Keep.of_wr W37).1
  have N40 := Fr.snoc X37 N34 g2
  refine Go.of st37 ?_
  show Go p e below Qo T37 (mkF m 68 #[.val (.int i1), .val (.int i2), .val (.long j1), .second, .val (.int (i2 &&& (3 : Int32))), .val (.ref b1)] [])
  refine Go.of (fun t k => XS.aload X37.here hx rfl (hb hby at_68) rfl rfl k) ?_
  show Go p e below Qo T37 (mkF m 70 #[.val (.int i1), .val (.int i2), .val (.long j1), .second, .val (.int (i2 &&& (3 : Int32))), .val (.ref b1)] [(.ref b1)])
  refine Go.of (fun t k => XS.bipush X37.here hx rfl (hb hby at_70) k) ?_
  show Go p e below Qo T37 (mkF m 72 #[.val (.int i1), .val (.int i2), .val (.long j1), .second, .val (.int (i2 &&& (3 : Int32))), .val (.ref b1)] [(.int (6 : Int32)), (.ref b1)])
  refine Go.of (fun t k => XS.lloadN X37.here hx rfl (hb hby at_72) rfl  k) ?_
  show Go p e below Qo T37 (mkF m 73 #[.val (.int i1), .val (.int i2), .val (.long j1), .second, .val (.int (i2 &&& (3 : Int32))), .val (.ref b1)] [(.long j1), (.int (6 : Int32)), (.ref b1)])
  refine Go.of (fun t k => XS.bipush X37.here hx rfl (hb hby at_73) k) ?_
  show Go p e below Qo T37 (mkF m 75 #[.val (.int i1), .val (.int i2), .val (.long j1), .second, .val (.int (i2 &&& (3 : Int32))), .val (.ref b1)] [(.int (48 : Int32)), (.long j1), (.int (6 : Int32)), (.ref b1)])
  refine Go.of (fun t k => XS.lushr X37.here hx rfl (hb hby at_75) rfl k) ?_
  show Go p e below Qo T37 (mkF m 76 #[.val (.int i1), .val (.int i2), .val (.long j1), .second, .val (.int (i2 &&& (3 : Int32))), .val (.ref b1)] [(.long ((j1.toUInt64 >>> ((48 : Int32) &&& 0x3f).toInt64.toUInt64).toInt64)), (.int (6 : Int32)), (.ref b1)])
  refine Go.of (fun t k => XS.l2i X37.here hx rfl (hb hby at_76) rfl k) ?_
  show Go p e below Qo T37 (mkF m 77 #[.val (.int i1), .val (.int i2), .val (.long j1), .second, .val (.int (i2 &&& (3 : Int32))), .val (.ref b1)] [(.int (((j1.toUInt64 >>> ((48 : Int32) &&& 0x3f).toInt64.toUInt64).toInt64).toInt32)), (.int (6 : Int32)), (.ref b1)])
  refine Go.of (fun t k => XS.i2b X37.here hx rfl (hb hby at_77) rfl k) ?_
  show Go p e below Qo T37 (mkF m 78 #[.val (.int i1), .val (.int i2), .val (.long j1), .second, .val (.int (i2 &&& (3 : Int32))), .val (.ref b1)] [(.int ((((j1.toUInt64 >>> ((48 : Int32) &&& 0x3f).toInt64.toUInt64).toInt64).toInt32).toInt8.toInt32)), (.int (6 : Int32)), (.ref b1)])
  have cpo41 := q38
  obtain ⟨clo41, Aro41, qco41, So41, Mo41, Ho41, Go41⟩ := cpo41
  have hin42 : ¬ ((6 : Int32) < 0 ∨ clo41.slots.size ≤ (6 : Int32).toNatClampNeg) := (inb_of So41 ⟨by decide, by decide⟩)
  obtain ⟨T43, h43, X43, e43, W43, st43⟩ := stB X37 hx hZ e37 Aro41 (j := (6 : Int32)) hin42 (g := (mkF m 78 #[.val (.int i1), .val (.int i2), .val (.long j1), .second, .val (.int (i2 &&& (3 : Int32))), .val (.ref b1)] [(.int ((((j1.toUInt64 >>> ((48 : Int32) &&& 0x3f).toInt64.toUInt64).toInt64).toInt32).toInt8.toInt32)), (.int (6 : Int32)), (.ref b1)])) rfl rfl (hb hby at_78)
  have q44 : Arv Z h43 b1 k1 .byte (8 : Int32) [(.int (nar .byte ((j1.toInt32).toInt8.toInt32))), (.int (nar .byte ((((j1.toUInt64 >>> ((8 : Int32) &&& 0x3f).toInt64.toUInt64).toInt64).toInt32).toInt8.toInt32))), (.int (nar .byte ((((j1.toUInt64 >>> ((16 : Int32) &&& 0x3f).toInt64.toUInt64).toInt64).toInt32).toInt8.toInt32))), (.int (nar .byte ((((j1.toUInt64 >>> ((24 : Int32) &&& 0x3f).toInt64.toUInt64).toInt64).toInt32).toInt8.toInt32))), (.int (nar .byte ((((j1.toUInt64 >>> ((32 : Int32) &&& 0x3f).toInt64.toUInt64).toInt64).toInt32).toInt8.toInt32))), (.int (nar .byte ((((j1.toUInt64 >>> ((40 : Int32) &&& 0x3f).toInt64.toUInt64).toInt64).toInt32).toInt8.toInt32))), (.int (nar .byte ((((j1.toUInt64 >>> ((48 : Int32) &&& 0x3f).toInt64.toUInt64).toInt64).toInt32).toInt8.toInt32))), (.int (0 : Int32))] (.int (0 : Int32)) := Arv.set Aro41 qco41 So41 Mo41 Ho41 Go41 (fits_nar_byte _) W43 6 rfl (Nat.le_of_ble_eq_true rfl)
  have Z45 : n0 ≤ h43.size := Nat.le_trans Z39 (Keep.of_wr W43).1
  have N46 := Fr.snoc X43 N40 g2
  refine Go.of st43 ?_
  show Go p e below Qo T43 (mkF m 79 #[.val (.int i1), .val (.int i2), .val (.long j1), .second, .val (.int (i2 &&& (3 : Int32))), .val (.ref b1)] [])
  refine Go.of (fun t k => XS.aload X43.here hx rfl (hb hby at_79) rfl rfl k) ?_
  show Go p e below Qo T43 (mkF m 81 #[.val (.int i1), .val (.int i2), .val (.long j1), .second, .val (.int (i2 &&& (3 : Int32))), .val (.ref b1)] [(.ref b1)])
  refine Go.of (fun t k => XS.bipush X43.here hx rfl (hb hby at_81) k) ?_
  show Go p e below Qo T43 (mkF m 83 #[.val (.int i1), .val (.int i2), .val (.long j1), .second, .val (.int (i2 &&& (3 : Int32))), .val (.ref b1)] [(.int (7 : Int32)), (.ref b1)])
  refine Go.of (fun t k => XS.lloadN X43.here hx rfl (hb hby at_83) rfl  k) ?_
  show Go p e below Qo T43 (mkF m 84 #[.val (.int i1), .val (.int i2), .val (.long j1), .second, .val (.int (i2 &&& (3 : Int32))), .val (.ref b1)] [(.long j1), (.int (7 : Int32)), (.ref b1)])
  refine Go.of (fun t k => XS.bipush X43.here hx rfl (hb hby at_84) k) ?_
  show Go p e below Qo T43 (mkF m 86 #[.val (.int i1), .val (.int i2), .val (.long j1), .second, .val (.int (i2 &&& (3 : Int32))), .val (.ref b1)] [(.int (56 : Int32)), (.long j1), (.int (7 : Int32)), (.ref b1)])
  refine Go.of (fun t k => XS.lushr X43.here hx rfl (hb hby at_86) rfl k) ?_
  show Go p e below Qo T43 (mkF m 87 #[.val (.int i1), .val (.int i2), .val (.long j1), .second, .val (.int (i2 &&& (3 : Int32))), .val (.ref b1)] [(.long ((j1.toUInt64 >>> ((56 : Int32) &&& 0x3f).toInt64.toUInt64).toInt64)), (.int (7 : Int32)), (.ref b1)])
  refine Go.of (fun t k => XS.l2i X43.here hx rfl (hb hby at_87) rfl k) ?_
  show Go p e below Qo T43 (mkF m 88 #[.val (.int i1), .val (.int i2), .val (.long j1), .second, .val (.int (i2 &&& (3 : Int32))), .val (.ref b1)] [(.int (((j1.toUInt64 >>> ((56 : Int32) &&& 0x3f).toInt64.toUInt64).toInt64).toInt32)), (.int (7 : Int32)), (.ref b1)])
  refine Go.of (fun t k => XS.i2b X43.here hx rfl (hb hby at_88) rfl k) ?_
  show Go p e below Qo T43 (mkF m 89 #[.val (.int i1), .val (.int i2), .val (.long j1), .second, .val (.int (i2 &&& (3 : Int32))), .val (.ref b1)] [(.int ((((j1.toUInt64 >>> ((56 : Int32) &&& 0x3f).toInt64.toUInt64).toInt64).toInt32).toInt8.toInt32)), (.int (7 : Int32)), (.ref b1)])
  have cpo47 := q44
  obtain ⟨clo47, Aro47, qco47, So47, Mo47, Ho47, Go47⟩ := cpo47
  have hin48 : ¬ ((7 : Int32) < 0 ∨ clo47.slots.size ≤ (7 : Int32).toNatClampNeg) := (inb_of So47 ⟨by decide, by decide⟩)
  obtain ⟨T49, h49, X49, e49, W49, st49⟩ := stB X43 hx hZ e43 Aro47 (j := (7 : Int32)) hin48 (g := (mkF m 89 #[.val (.int i1), .val (.int i2), .val (.long j1), .second, .val (.int (i2 &&& (3 : Int32))), .val (.ref b1)] [(.int ((((j1.toUInt64 >>> ((56 : Int32) &&& 0x3f).toInt64.toUInt64).toInt64).toInt32).toInt8.toInt32)), (.int (7 : Int32)), (.ref b1)])) rfl rfl (hb hby at_89)
  have q50 : Arv Z h49 b1 k1 .byte (8 : Int32) [(.int (nar .byte ((j1.toInt32).toInt8.toInt32))), (.int (nar .byte ((((j1.toUInt64 >>> ((8 : Int32) &&& 0x3f).toInt64.toUInt64).toInt64).toInt32).toInt8.toInt32))), (.int (nar .byte ((((j1.toUInt64 >>> ((16 : Int32) &&& 0x3f).toInt64.toUInt64).toInt64).toInt32).toInt8.toInt32))), (.int (nar .byte ((((j1.toUInt64 >>> ((24 : Int32) &&& 0x3f).toInt64.toUInt64).toInt64).toInt32).toInt8.toInt32))), (.int (nar .byte ((((j1.toUInt64 >>> ((32 : Int32) &&& 0x3f).toInt64.toUInt64).toInt64).toInt32).toInt8.toInt32))), (.int (nar .byte ((((j1.toUInt64 >>> ((40 : Int32) &&& 0x3f).toInt64.toUInt64).toInt64).toInt32).toInt8.toInt32))), (.int (nar .byte ((((j1.toUInt64 >>> ((48 : Int32) &&& 0x3f).toInt64.toUInt64).toInt64).toInt32).toInt8.toInt32))), (.int (nar .byte ((((j1.toUInt64 >>> ((56 : Int32) &&& 0x3f).toInt64.toUInt64).toInt64).toInt32).toInt8.toInt32)))] (.int (0 : Int32)) := Arv.set Aro47 qco47 So47 Mo47 Ho47 Go47 (fits_nar_byte _) W49 7 rfl (Nat.le_of_ble_eq_true rfl)
  have Z51 : n0 ≤ h49.size := Nat.le_trans Z45 (Keep.of_wr W49).1
  have N52 := Fr.snoc X49 N46 g2
  refine Go.of st49 ?_
  show Go p e below Qo T49 (mkF m 90 #[.val (.int i1), .val (.int i2), .val (.long j1), .second, .val (.int (i2 &&& (3 : Int32))), .val (.ref b1)] [])
  rcases own_four i2 with qv53 | qv53 | qv53 | qv53
  · rw [qv53]
    show Go p e below Qo T49 (mkF m 90 #[.val (.int i1), .val (.int i2), .val (.long j1), .second, .val (.int (0 : Int32)), .val (.ref b1)] [])
    refine Go.of (fun t k => XS.aload X49.here hx rfl (hb hby at_90) rfl rfl k) ?_
    show Go p e below Qo T49 (mkF m 92 #[.val (.int i1), .val (.int i2), .val (.long j1), .second, .val (.int (0 : Int32)), .val (.ref b1)] [(.ref b1)])
    refine Go.of (fun t k => XS.iload X49.here hx rfl (hb hby at_92) rfl  k) ?_
    show Go p e below Qo T49 (mkF m 94 #[.val (.int i1), .val (.int i2), .val (.long j1), .second, .val (.int (0 : Int32)), .val (.ref b1)] [(.int (0 : Int32)), (.ref b1)])
    refine Go.of (fun t k => XS.iloadN X49.here hx rfl (hb hby at_94) rfl  k) ?_
    show Go p e below Qo T49 (mkF m 95 #[.val (.int i1), .val (.int i2), .val (.long j1), .second, .val (.int (0 : Int32)), .val (.ref b1)] [(.int i1), (.int (0 : Int32)), (.ref b1)])
    refine Go.of (fun t k => XS.i2b X49.here hx rfl (hb hby at_95) rfl k) ?_
    show Go p e below Qo T49 (mkF m 96 #[.val (.int i1), .val (.int i2), .val (.long j1), .second, .val (.int (0 : Int32)), .val (.ref b1)] [(.int (i1.toInt8.toInt32)), (.int (0 : Int32)), (.ref b1)])
    have cpo54 := q50
    obtain ⟨clo54, Aro54, qco54, So54, Mo54, Ho54, Go54⟩ := cpo54
    have hin55 : ¬ ((0 : Int32) < 0 ∨ clo54.slots.size ≤ (0 : Int32).toNatClampNeg) := (inb_of So54 ⟨by decide, by decide⟩)
    obtain ⟨T56, h56, X56, e56, W56, st56⟩ := stB X49 hx hZ e49 Aro54 (j := (0 : Int32)) hin55 (g := (mkF m 96 #[.val (.int i1), .val (.int i2), .val (.long j1), .second, .val (.int (0 : Int32)), .val (.ref b1)] [(.int (i1.toInt8.toInt32)), (.int (0 : Int32)), (.ref b1)])) rfl rfl (hb hby at_96)
    have q57 : Arv Z h56 b1 k1 .byte (8 : Int32) [(.int (nar .byte (i1.toInt8.toInt32))), (.int (nar .byte ((((j1.toUInt64 >>> ((8 : Int32) &&& 0x3f).toInt64.toUInt64).toInt64).toInt32).toInt8.toInt32))), (.int (nar .byte ((((j1.toUInt64 >>> ((16 : Int32) &&& 0x3f).toInt64.toUInt64).toInt64).toInt32).toInt8.toInt32))), (.int (nar .byte ((((j1.toUInt64 >>> ((24 : Int32) &&& 0x3f).toInt64.toUInt64).toInt64).toInt32).toInt8.toInt32))), (.int (nar .byte ((((j1.toUInt64 >>> ((32 : Int32) &&& 0x3f).toInt64.toUInt64).toInt64).toInt32).toInt8.toInt32))), (.int (nar .byte ((((j1.toUInt64 >>> ((40 : Int32) &&& 0x3f).toInt64.toUInt64).toInt64).toInt32).toInt8.toInt32))), (.int (nar .byte ((((j1.toUInt64 >>> ((48 : Int32) &&& 0x3f).toInt64.toUInt64).toInt64).toInt32).toInt8.toInt32))), (.int (nar .byte ((((j1.toUInt64 >>> ((56 : Int32) &&& 0x3f).toInt64.toUInt64).toInt64).toInt32).toInt8.toInt32)))] (.int (0 : Int32)) := Arv.set Aro54 qco54 So54 Mo54 Ho54 Go54 (fits_nar_byte _) W56 0 rfl (Nat.le_of_ble_eq_true rfl)
    have Z58 : n0 ≤ h56.size := Nat.le_trans Z51 (Keep.of_wr W56).1
    have N59 := Fr.snoc X56 N52 g2
    refine Go.of st56 ?_
    show Go p e below Qo T56 (mkF m 97 #[.val (.int i1), .val (.int i2), .val (.long j1), .second, .val (.int (0 : Int32)), .val (.ref b1)] [])
    refine Go.of (fun t k => XS.aload X56.here hx rfl (hb hby at_97) rfl rfl k) ?_
    show Go p e below Qo T56 (mkF m 99 #[.val (.int i1), .val (.int i2), .val (.long j1), .second, .val (.int (0 : Int32)), .val (.ref b1)] [(.ref b1)])
    refine Go.of (fun t k => XS.iload X56.here hx rfl (hb hby at_99) rfl  k) ?_
    show Go p e below Qo T56 (mkF m 101 #[.val (.int i1), .val (.int i2), .val (.long j1), .second, .val (.int (0 : Int32)), .val (.ref b1)] [(.int (0 : Int32)), (.ref b1)])
    refine Go.of (fun t k => XS.iconst X56.here hx rfl (hb hby at_101) k) ?_
    show Go p e below Qo T56 (mkF m 102 #[.val (.int i1), .val (.int i2), .val (.long j1), .second, .val (.int (0 : Int32)), .val (.ref b1)] [(.int (1 : Int32)), (.int (0 : Int32)), (.ref b1)])
    refine Go.of (fun t k => XS.iadd X56.here hx rfl (hb hby at_102) rfl k) ?_
    show Go p e below Qo T56 (mkF m 103 #[.val (.int i1), .val (.int i2), .val (.long j1), .second, .val (.int (0 : Int32)), .val (.ref b1)] [(.int (1 : Int32)), (.ref b1)])
    refine Go.of (fun t k => XS.iloadN X56.here hx rfl (hb hby at_103) rfl  k) ?_
    show Go p e below Qo T56 (mkF m 104 #[.val (.int i1), .val (.int i2), .val (.long j1), .second, .val (.int (0 : Int32)), .val (.ref b1)] [(.int i1), (.int (1 : Int32)), (.ref b1)])
    refine Go.of (fun t k => XS.bipush X56.here hx rfl (hb hby at_104) k) ?_
    show Go p e below Qo T56 (mkF m 106 #[.val (.int i1), .val (.int i2), .val (.long j1), .second, .val (.int (0 : Int32)), .val (.ref b1)] [(.int (8 : Int32)), (.int i1), (.int (1 : Int32)), (.ref b1)])
    refine Go.of (fun t k => XS.iushr X56.here hx rfl (hb hby at_106) rfl k) ?_
    show Go p e below Qo T56 (mkF m 107 #[.val (.int i1), .val (.int i2), .val (.long j1), .second, .val (.int (0 : Int32)), .val (.ref b1)] [(.int ((i1.toUInt32 >>> ((8 : Int32) &&& 31).toUInt32).toInt32)), (.int (1 : Int32)), (.ref b1)])
    refine Go.of (fun t k => XS.i2b X56.here hx rfl (hb hby at_107) rfl k) ?_
    show Go p e below Qo T56 (mkF m 108 #[.val (.int i1), .val (.int i2), .val (.long j1), .second, .val (.int (0 : Int32)), .val (.ref b1)] [(.int (((i1.toUInt32 >>> ((8 : Int32) &&& 31).toUInt32).toInt32).toInt8.toInt32)), (.int (1 : Int32)), (.ref b1)])
    have cpo60 := q57
    obtain ⟨clo60, Aro60, qco60, So60, Mo60, Ho60, Go60⟩ := cpo60
    have hin61 : ¬ ((1 : Int32) < 0 ∨ clo60.slots.size ≤ (1 : Int32).toNatClampNeg) := (inb_of So60 ⟨by decide, by decide⟩)
    obtain ⟨T62, h62, X62, e62, W62, st62⟩ := stB X56 hx hZ e56 Aro60 (j := (1 : Int32)) hin61 (g := (mkF m 108 #[.val (.int i1), .val (.int i2), .val (.long j1), .second, .val (.int (0 : Int32)), .val (.ref b1)] [(.int (((i1.toUInt32 >>> ((8 : Int32) &&& 31).toUInt32).toInt32).toInt8.toInt32)), (.int (1 : Int32)), (.ref b1)])) rfl rfl (hb hby at_108)
    have q63 : Arv Z h62 b1 k1 .byte (8 : Int32) [(.int (nar .byte (i1.toInt8.toInt32))), (.int (nar .byte (((i1.toUInt32 >>> ((8 : Int32) &&& 31).toUInt32).toInt32).toInt8.toInt32))), (.int (nar .byte ((((j1.toUInt64 >>> ((16 : Int32) &&& 0x3f).toInt64.toUInt64).toInt64).toInt32).toInt8.toInt32))), (.int (nar .byte ((((j1.toUInt64 >>> ((24 : Int32) &&& 0x3f).toInt64.toUInt64).toInt64).toInt32).toInt8.toInt32))), (.int (nar .byte ((((j1.toUInt64 >>> ((32 : Int32) &&& 0x3f).toInt64.toUInt64).toInt64).toInt32).toInt8.toInt32))), (.int (nar .byte ((((j1.toUInt64 >>> ((40 : Int32) &&& 0x3f).toInt64.toUInt64).toInt64).toInt32).toInt8.toInt32))), (.int (nar .byte ((((j1.toUInt64 >>> ((48 : Int32) &&& 0x3f).toInt64.toUInt64).toInt64).toInt32).toInt8.toInt32))), (.int (nar .byte ((((j1.toUInt64 >>> ((56 : Int32) &&& 0x3f).toInt64.toUInt64).toInt64).toInt32).toInt8.toInt32)))] (.int (0 : Int32)) := Arv.set Aro60 qco60 So60 Mo60 Ho60 Go60 (fits_nar_byte _) W62 1 rfl (Nat.le_of_ble_eq_true rfl)
    have Z64 : n0 ≤ h62.size := Nat.le_trans Z58 (Keep.of_wr W62).1
    have N65 := Fr.snoc X62 N59 g2
    refine Go.of st62 ?_
    show Go p e below Qo T62 (mkF m 109 #[.val (.int i1), .val (.int i2), .val (.long j1), .second, .val (.int (0 : Int32)), .val (.ref b1)] [])
    refine Go.of (fun t k => XS.aload X62.here hx rfl (hb hby at_109) rfl rfl k) ?_
    show Go p e below Qo T62 (mkF m 111 #[.val (.int i1), .val (.int i2), .val (.long j1), .second, .val (.int (0 : Int32)), .val (.ref b1)] [(.ref b1)])
    refine Go.of (fun t k => XS.iload X62.here hx rfl (hb hby at_111) rfl  k) ?_
    show Go p e below Qo T62 (mkF m 113 #[.val (.int i1), .val (.int i2), .val (.long j1), .second, .val (.int (0 : Int32)), .val (.ref b1)] [(.int (0 : Int32)), (.ref b1)])
    refine Go.of (fun t k => XS.iconst X62.here hx rfl (hb hby at_113) k) ?_
    show Go p e below Qo T62 (mkF m 114 #[.val (.int i1), .val (.int i2), .val (.long j1), .second, .val (.int (0 : Int32)), .val (.ref b1)] [(.int (2 : Int32)), (.int (0 : Int32)), (.ref b1)])
    refine Go.of (fun t k => XS.iadd X62.here hx rfl (hb hby at_114) rfl k) ?_
    show Go p e below Qo T62 (mkF m 115 #[.val (.int i1), .val (.int i2), .val (.long j1), .second, .val (.int (0 : Int32)), .val (.ref b1)] [(.int (2 : Int32)), (.ref b1)])
    refine Go.of (fun t k => XS.iloadN X62.here hx rfl (hb hby at_115) rfl  k) ?_
    show Go p e below Qo T62 (mkF m 116 #[.val (.int i1), .val (.int i2), .val (.long j1), .second, .val (.int (0 : Int32)), .val (.ref b1)] [(.int i1), (.int (2 : Int32)), (.ref b1)])
    refine Go.of (fun t k => XS.bipush X62.here hx rfl (hb hby at_116) k) ?_
    show Go p e below Qo T62 (mkF m 118 #[.val (.int i1), .val (.int i2), .val (.long j1), .second, .val (.int (0 : Int32)), .val (.ref b1)] [(.int (16 : Int32)), (.int i1), (.int (2 : Int32)), (.ref b1)])
    refine Go.of (fun t k => XS.iushr X62.here hx rfl (hb hby at_118) rfl k) ?_
    show Go p e below Qo T62 (mkF m 119 #[.val (.int i1), .val (.int i2), .val (.long j1), .second, .val (.int (0 : Int32)), .val (.ref b1)] [(.int ((i1.toUInt32 >>> ((16 : Int32) &&& 31).toUInt32).toInt32)), (.int (2 : Int32)), (.ref b1)])
    refine Go.of (fun t k => XS.i2b X62.here hx rfl (hb hby at_119) rfl k) ?_
    show Go p e below Qo T62 (mkF m 120 #[.val (.int i1), .val (.int i2), .val (.long j1), .second, .val (.int (0 : Int32)), .val (.ref b1)] [(.int (((i1.toUInt32 >>> ((16 : Int32) &&& 31).toUInt32).toInt32).toInt8.toInt32)), (.int (2 : Int32)), (.ref b1)])
    have cpo66 := q63
    obtain ⟨clo66, Aro66, qco66, So66, Mo66, Ho66, Go66⟩ := cpo66
    have hin67 : ¬ ((2 : Int32) < 0 ∨ clo66.slots.size ≤ (2 : Int32).toNatClampNeg) := (inb_of So66 ⟨by decide, by decide⟩)
    obtain ⟨T68, h68, X68, e68, W68, st68⟩ := stB X62 hx hZ e62 Aro66 (j := (2 : Int32)) hin67 (g := (mkF m 120 #[.val (.int i1), .val (.int i2), .val (.long j1), .second, .val (.int (0 : Int32)), .val (.ref b1)] [(.int (((i1.toUInt32 >>> ((16 : Int32) &&& 31).toUInt32).toInt32).toInt8.toInt32)), (.int (2 : Int32)), (.ref b1)])) rfl rfl (hb hby at_120)
    have q69 : Arv Z h68 b1 k1 .byte (8 : Int32) [(.int (nar .byte (i1.toInt8.toInt32))), (.int (nar .byte (((i1.toUInt32 >>> ((8 : Int32) &&& 31).toUInt32).toInt32).toInt8.toInt32))), (.int (nar .byte (((i1.toUInt32 >>> ((16 : Int32) &&& 31).toUInt32).toInt32).toInt8.toInt32))), (.int (nar .byte ((((j1.toUInt64 >>> ((24 : Int32) &&& 0x3f).toInt64.toUInt64).toInt64).toInt32).toInt8.toInt32))), (.int (nar .byte ((((j1.toUInt64 >>> ((32 : Int32) &&& 0x3f).toInt64.toUInt64).toInt64).toInt32).toInt8.toInt32))), (.int (nar .byte ((((j1.toUInt64 >>> ((40 : Int32) &&& 0x3f).toInt64.toUInt64).toInt64).toInt32).toInt8.toInt32))), (.int (nar .byte ((((j1.toUInt64 >>> ((48 : Int32) &&& 0x3f).toInt64.toUInt64).toInt64).toInt32).toInt8.toInt32))), (.int (nar .byte ((((j1.toUInt64 >>> ((56 : Int32) &&& 0x3f).toInt64.toUInt64).toInt64).toInt32).toInt8.toInt32)))] (.int (0 : Int32)) := Arv.set Aro66 qco66 So66 Mo66 Ho66 Go66 (fits_nar_byte _) W68 2 rfl (Nat.le_of_ble_eq_true rfl)
    have Z70 : n0 ≤ h68.size := Nat.le_trans Z64 (Keep.of_wr W68).1
    have N71 := Fr.snoc X68 N65 g2
    refine Go.of st68 ?_
    show Go p e below Qo T68 (mkF m 121 #[.val (.int i1), .val (.int i2), .val (.long j1), .second, .val (.int (0 : Int32)), .val (.ref b1)] [])
    refine Go.of (fun t k => XS.aload X68.here hx rfl (hb hby at_121) rfl rfl k) ?_
    show Go p e below Qo T68 (mkF m 123 #[.val (.int i1), .val (.int i2), .val (.long j1), .second, .val (.int (0 : Int32)), .val (.ref b1)] [(.ref b1)])
    refine Go.of (fun t k => XS.iload X68.here hx rfl (hb hby at_123) rfl  k) ?_
    show Go p e below Qo T68 (mkF m 125 #[.val (.int i1), .val (.int i2), .val (.long j1), .second, .val (.int (0 : Int32)), .val (.ref b1)] [(.int (0 : Int32)), (.ref b1)])
    refine Go.of (fun t k => XS.iconst X68.here hx rfl (hb hby at_125) k) ?_
    show Go p e below Qo T68 (mkF m 126 #[.val (.int i1), .val (.int i2), .val (.long j1), .second, .val (.int (0 : Int32)), .val (.ref b1)] [(.int (3 : Int32)), (.int (0 : Int32)), (.ref b1)])
    refine Go.of (fun t k => XS.iadd X68.here hx rfl (hb hby at_126) rfl k) ?_
    show Go p e below Qo T68 (mkF m 127 #[.val (.int i1), .val (.int i2), .val (.long j1), .second, .val (.int (0 : Int32)), .val (.ref b1)] [(.int (3 : Int32)), (.ref b1)])
    refine Go.of (fun t k => XS.iloadN X68.here hx rfl (hb hby at_127) rfl  k) ?_
    show Go p e below Qo T68 (mkF m 128 #[.val (.int i1), .val (.int i2), .val (.long j1), .second, .val (.int (0 : Int32)), .val (.ref b1)] [(.int i1), (.int (3 : Int32)), (.ref b1)])
    refine Go.of (fun t k => XS.bipush X68.here hx rfl (hb hby at_128) k) ?_
    show Go p e below Qo T68 (mkF m 130 #[.val (.int i1), .val (.int i2), .val (.long j1), .second, .val (.int (0 : Int32)), .val (.ref b1)] [(.int (24 : Int32)), (.int i1), (.int (3 : Int32)), (.ref b1)])
    refine Go.of (fun t k => XS.iushr X68.here hx rfl (hb hby at_130) rfl k) ?_
    show Go p e below Qo T68 (mkF m 131 #[.val (.int i1), .val (.int i2), .val (.long j1), .second, .val (.int (0 : Int32)), .val (.ref b1)] [(.int ((i1.toUInt32 >>> ((24 : Int32) &&& 31).toUInt32).toInt32)), (.int (3 : Int32)), (.ref b1)])
    refine Go.of (fun t k => XS.i2b X68.here hx rfl (hb hby at_131) rfl k) ?_
    show Go p e below Qo T68 (mkF m 132 #[.val (.int i1), .val (.int i2), .val (.long j1), .second, .val (.int (0 : Int32)), .val (.ref b1)] [(.int (((i1.toUInt32 >>> ((24 : Int32) &&& 31).toUInt32).toInt32).toInt8.toInt32)), (.int (3 : Int32)), (.ref b1)])
    have cpo72 := q69
    obtain ⟨clo72, Aro72, qco72, So72, Mo72, Ho72, Go72⟩ := cpo72
    have hin73 : ¬ ((3 : Int32) < 0 ∨ clo72.slots.size ≤ (3 : Int32).toNatClampNeg) := (inb_of So72 ⟨by decide, by decide⟩)
    obtain ⟨T74, h74, X74, e74, W74, st74⟩ := stB X68 hx hZ e68 Aro72 (j := (3 : Int32)) hin73 (g := (mkF m 132 #[.val (.int i1), .val (.int i2), .val (.long j1), .second, .val (.int (0 : Int32)), .val (.ref b1)] [(.int (((i1.toUInt32 >>> ((24 : Int32) &&& 31).toUInt32).toInt32).toInt8.toInt32)), (.int (3 : Int32)), (.ref b1)])) rfl rfl (hb hby at_132)
    have q75 : Arv Z h74 b1 k1 .byte (8 : Int32) [(.int (nar .byte (i1.toInt8.toInt32))), (.int (nar .byte (((i1.toUInt32 >>> ((8 : Int32) &&& 31).toUInt32).toInt32).toInt8.toInt32))), (.int (nar .byte (((i1.toUInt32 >>> ((16 : Int32) &&& 31).toUInt32).toInt32).toInt8.toInt32))), (.int (nar .byte (((i1.toUInt32 >>> ((24 : Int32) &&& 31).toUInt32).toInt32).toInt8.toInt32))), (.int (nar .byte ((((j1.toUInt64 >>> ((32 : Int32) &&& 0x3f).toInt64.toUInt64).toInt64).toInt32).toInt8.toInt32))), (.int (nar .byte ((((j1.toUInt64 >>> ((40 : Int32) &&& 0x3f).toInt64.toUInt64).toInt64).toInt32).toInt8.toInt32))), (.int (nar .byte ((((j1.toUInt64 >>> ((48 : Int32) &&& 0x3f).toInt64.toUInt64).toInt64).toInt32).toInt8.toInt32))), (.int (nar .byte ((((j1.toUInt64 >>> ((56 : Int32) &&& 0x3f).toInt64.toUInt64).toInt64).toInt32).toInt8.toInt32)))] (.int (0 : Int32)) := Arv.set Aro72 qco72 So72 Mo72 Ho72 Go72 (fits_nar_byte _) W74 3 rfl (Nat.le_of_ble_eq_true rfl)
    have Z76 : n0 ≤ h74.size := Nat.le_trans Z70 (Keep.of_wr W74).1
    have N77 := Fr.snoc X74 N71 g2
    refine Go.of st74 ?_
    show Go p e below Qo T74 (mkF m 133 #[.val (.int i1), .val (.int i2), .val (.long j1), .second, .val (.int (0 : Int32)), .val (.ref b1)] [])
    refine Go.of (fun t k => XS.aload X74.here hx rfl (hb hby at_133) rfl rfl k) ?_
    show Go p e below Qo T74 (mkF m 135 #[.val (.int i1), .val (.int i2), .val (.long j1), .second, .val (.int (0 : Int32)), .val (.ref b1)] [(.ref b1)])
    refine Go.of (fun t k => XS.iload X74.here hx rfl (hb hby at_135) rfl  k) ?_
    show Go p e below Qo T74 (mkF m 137 #[.val (.int i1), .val (.int i2), .val (.long j1), .second, .val (.int (0 : Int32)), .val (.ref b1)] [(.int (0 : Int32)), (.ref b1)])
    obtain ⟨_, _, ⟨T78, L78, k78, n78⟩, -, X78, ⟨Lc78, hQ78, l78, y78, z78⟩, st78⟩ := Jvm.LawKit.callS X74 hx (y := (⟨"com/example/mimosa/mimosa/bson/BsonDocument", "readInt32", "([BI)I"⟩ : MethodName)) hown (mvT hZ (hw _ (List.mem_of_getElem? (i := 1) rfl))) (mvT hZ (hw _ (List.mem_of_getElem? (i := 2) rfl))) (mvT hZ (hw _ (List.mem_of_getElem? (i := 3) rfl))) (mvT hZ (hw _ (List.mem_of_getElem? (i := 4) rfl))) (by decide) (backOf (W := 0) (rm10 l Z a0 hw [] b1 (0 : Int32) k1 (nar .byte (i1.toInt8.toInt32)) (nar .byte (((i1.toUInt32 >>> ((8 : Int32) &&& 31).toUInt32).toInt32).toInt8.toInt32)) (nar .byte (((i1.toUInt32 >>> ((16 : Int32) &&& 31).toUInt32).toInt32).toInt8.toInt32)) (nar .byte (((i1.toUInt32 >>> ((24 : Int32) &&& 31).toUInt32).toInt32).toInt8.toInt32)) (nar .byte ((((j1.toUInt64 >>> ((32 : Int32) &&& 0x3f).toInt64.toUInt64).toInt64).toInt32).toInt8.toInt32)) (nar .byte ((((j1.toUInt64 >>> ((40 : Int32) &&& 0x3f).toInt64.toUInt64).toInt64).toInt32).toInt8.toInt32)) (nar .byte ((((j1.toUInt64 >>> ((48 : Int32) &&& 0x3f).toInt64.toUInt64).toInt64).toInt32).toInt8.toInt32)) (nar .byte ((((j1.toUInt64 >>> ((56 : Int32) &&& 0x3f).toInt64.toUInt64).toInt64).toInt32).toInt8.toInt32)) h74 n0 Z76 q75 (by first | rfl | assumption | decide)) hZ (hw _ (List.mem_of_getElem? (i := 4) rfl)) (hw _ (List.mem_of_getElem? (i := 3) rfl)) (by decide) (by decide)) (g := (mkF m 137 #[.val (.int i1), .val (.int i2), .val (.long j1), .second, .val (.int (0 : Int32)), .val (.ref b1)] [(.int (0 : Int32)), (.ref b1)])) rfl (by rw [hml]; rfl) (argsL := [(.ref b1), (.int (0 : Int32))]) (rest := []) (lenOf pd_0 rfl) rfl (by show 2 * 0 + _ ≤ _; exact Nat.le_of_eq rfl) (hb hby at_137) (fun _ _ => ⟨rfl, e74, (by decide : 1 + 0 ≤ _), (by decide : 8 + 0 ≤ _)⟩)
    dsimp only [Pt.U, Pt.locs, Pt.cells, Pt.slots] at X78 l78 y78 z78 st78 hQ78
    subst l78 y78 z78
    obtain ⟨rfl, N79, eh80⟩ := hQ78
    have N81 := Fr.app N77 N79
    refine Go.of st78 ?_
    show Go p e below Qo T78 (mkF m 140 #[.val (.int i1), .val (.int i2), .val (.long j1), .second, .val (.int (0 : Int32)), .val (.ref b1)] [(.int (F10 (nar .byte (i1.toInt8.toInt32)) (nar .byte (((i1.toUInt32 >>> ((8 : Int32) &&& 31).toUInt32).toInt32).toInt8.toInt32)) (nar .byte (((i1.toUInt32 >>> ((16 : Int32) &&& 31).toUInt32).toInt32).toInt8.toInt32)) (nar .byte (((i1.toUInt32 >>> ((24 : Int32) &&& 31).toUInt32).toInt32).toInt8.toInt32))))])
    refine Go.of (fun t k => XS.iloadN X78.here hx rfl (hb hby at_140) rfl  k) ?_
    show Go p e below Qo T78 (mkF m 141 #[.val (.int i1), .val (.int i2), .val (.long j1), .second, .val (.int (0 : Int32)), .val (.ref b1)] [(.int i1), (.int (F10 (nar .byte (i1.toInt8.toInt32)) (nar .byte (((i1.toUInt32 >>> ((8 : Int32) &&& 31).toUInt32).toInt32).toInt8.toInt32)) (nar .byte (((i1.toUInt32 >>> ((16 : Int32) &&& 31).toUInt32).toInt32).toInt8.toInt32)) (nar .byte (((i1.toUInt32 >>> ((24 : Int32) &&& 31).toUInt32).toInt32).toInt8.toInt32))))])
    have J141_84 : ∀ (v141_83 : Int32), v141_83 = (if (F10 (nar .byte (i1.toInt8.toInt32)) (nar .byte (((i1.toUInt32 >>> ((8 : Int32) &&& 31).toUInt32).toInt32).toInt8.toInt32)) (nar .byte (((i1.toUInt32 >>> ((16 : Int32) &&& 31).toUInt32).toInt32).toInt8.toInt32)) (nar .byte (((i1.toUInt32 >>> ((24 : Int32) &&& 31).toUInt32).toInt32).toInt8.toInt32))) = i1 then (1 : Int32) else (0 : Int32)) → Go p e below Qo T78 (mkF m 149 #[.val (.int i1), .val (.int i2), .val (.long j1), .second, .val (.int (0 : Int32)), .val (.ref b1)] [(.int v141_83)]) := by
      intro v141_83 hv141_83
      show Go p e below Qo T78 (mkF m 149 #[.val (.int i1), .val (.int i2), .val (.long j1), .second, .val (.int (0 : Int32)), .val (.ref b1)] [(.int v141_83)])
      have hfin : v141_83 = 1 := by
        exact hv141_83.trans (if_pos ((own_law _)))
      exact own_retN X78 hx Bd.notSynchronized (t := .boolean) Bd.returns (by simp) (hb hby at_149) (fun u hu hF => hQo _ _ _ ⟨by rw [hfin]; rfl, N81⟩ (own_mono hF (by decide) (by decide)))
    by_cases hc141_85 : (F10 (nar .byte (i1.toInt8.toInt32)) (nar .byte (((i1.toUInt32 >>> ((8 : Int32) &&& 31).toUInt32).toInt32).toInt8.toInt32)) (nar .byte (((i1.toUInt32 >>> ((16 : Int32) &&& 31).toUInt32).toInt32).toInt8.toInt32)) (nar .byte (((i1.toUInt32 >>> ((24 : Int32) &&& 31).toUInt32).toInt32).toInt8.toInt32))) = i1
    · refine Go.of (fun t k => XS.icmpNo X78.here hx rfl (hb hby at_141) rfl (teq hc141_85).2 k) ?_
      show Go p e below Qo T78 (mkF m 144 #[.val (.int i1), .val (.int i2), .val (.long j1), .second, .val (.int (0 : Int32)), .val (.ref b1)] [])
      refine Go.of (fun t k => XS.iconst X78.here hx rfl (hb hby at_144) k) ?_
      show Go p e below Qo T78 (mkF m 145 #[.val (.int i1), .val (.int i2), .val (.long j1), .second, .val (.int (0 : Int32)), .val (.ref b1)] [(.int (1 : Int32))])
      refine Go.of (fun t k => XS.goto X78.here hx rfl (pc0 := 145) (pc' := 149) rfl (hb hby at_145) (by decide) (by decide) k) ?_
      show Go p e below Qo T78 (mkF m 149 #[.val (.int i1), .val (.int i2), .val (.long j1), .second, .val (.int (0 : Int32)), .val (.ref b1)] [(.int (1 : Int32))])
      exact J141_84 _ (by first | rfl | (rw [if_pos hc141_85]) | (simp only [hc141_85, if_true, if_false]; done) | simp [hc141_85])
    · refine Go.of (fun t k => XS.icmpYes X78.here hx rfl (pc0 := 141) (pc' := 148) rfl (hb hby at_141) rfl (feq hc141_85).2 (by decide) (by decide) k) ?_
      show Go p e below Qo T78 (mkF m 148 #[.val (.int i1), .val (.int i2), .val (.long j1), .second, .val (.int (0 : Int32)), .val (.ref b1)] [])
      refine Go.of (fun t k => XS.iconst X78.here hx rfl (hb hby at_148) k) ?_
      show Go p e below Qo T78 (mkF m 149 #[.val (.int i1), .val (.int i2), .val (.long j1), .second, .val (.int (0 : Int32)), .val (.ref b1)] [(.int (0 : Int32))])
      exact J141_84 _ (by first | rfl | (rw [if_neg hc141_85]) | (simp only [hc141_85, if_true, if_false]; done) | simp [hc141_85])
  · rw [qv53]
    show Go p e below Qo T49 (mkF m 90 #[.val (.int i1), .val (.int i2), .val (.long j1), .second, .val (.int (1 : Int32)), .val (.ref b1)] [])
    refine Go.of (fun t k => XS.aload X49.here hx rfl (hb hby at_90) rfl rfl k) ?_
    show Go p e below Qo T49 (mkF m 92 #[.val (.int i1), .val (.int i2), .val (.long j1), .second, .val (.int (1 : Int32)), .val (.ref b1)] [(.ref b1)])
    refine Go.of (fun t k => XS.iload X49.here hx rfl (hb hby at_92) rfl  k) ?_
    show Go p e below Qo T49 (mkF m 94 #[.val (.int i1), .val (.int i2), .val (.long j1), .second, .val (.int (1 : Int32)), .val (.ref b1)] [(.int (1 : Int32)), (.ref b1)])
    refine Go.of (fun t k => XS.iloadN X49.here hx rfl (hb hby at_94) rfl  k) ?_
    show Go p e below Qo T49 (mkF m 95 #[.val (.int i1), .val (.int i2), .val (.long j1), .second, .val (.int (1 : Int32)), .val (.ref b1)] [(.int i1), (.int (1 : Int32)), (.ref b1)])
    refine Go.of (fun t k => XS.i2b X49.here hx rfl (hb hby at_95) rfl k) ?_
    show Go p e below Qo T49 (mkF m 96 #[.val (.int i1), .val (.int i2), .val (.long j1), .second, .val (.int (1 : Int32)), .val (.ref b1)] [(.int (i1.toInt8.toInt32)), (.int (1 : Int32)), (.ref b1)])
    have cpo86 := q50
    obtain ⟨clo86, Aro86, qco86, So86, Mo86, Ho86, Go86⟩ := cpo86
    have hin87 : ¬ ((1 : Int32) < 0 ∨ clo86.slots.size ≤ (1 : Int32).toNatClampNeg) := (inb_of So86 ⟨by decide, by decide⟩)
    obtain ⟨T88, h88, X88, e88, W88, st88⟩ := stB X49 hx hZ e49 Aro86 (j := (1 : Int32)) hin87 (g := (mkF m 96 #[.val (.int i1), .val (.int i2), .val (.long j1), .second, .val (.int (1 : Int32)), .val (.ref b1)] [(.int (i1.toInt8.toInt32)), (.int (1 : Int32)), (.ref b1)])) rfl rfl (hb hby at_96)
    have q89 : Arv Z h88 b1 k1 .byte (8 : Int32) [(.int (nar .byte ((j1.toInt32).toInt8.toInt32))), (.int (nar .byte (i1.toInt8.toInt32))), (.int (nar .byte ((((j1.toUInt64 >>> ((16 : Int32) &&& 0x3f).toInt64.toUInt64).toInt64).toInt32).toInt8.toInt32))), (.int (nar .byte ((((j1.toUInt64 >>> ((24 : Int32) &&& 0x3f).toInt64.toUInt64).toInt64).toInt32).toInt8.toInt32))), (.int (nar .byte ((((j1.toUInt64 >>> ((32 : Int32) &&& 0x3f).toInt64.toUInt64).toInt64).toInt32).toInt8.toInt32))), (.int (nar .byte ((((j1.toUInt64 >>> ((40 : Int32) &&& 0x3f).toInt64.toUInt64).toInt64).toInt32).toInt8.toInt32))), (.int (nar .byte ((((j1.toUInt64 >>> ((48 : Int32) &&& 0x3f).toInt64.toUInt64).toInt64).toInt32).toInt8.toInt32))), (.int (nar .byte ((((j1.toUInt64 >>> ((56 : Int32) &&& 0x3f).toInt64.toUInt64).toInt64).toInt32).toInt8.toInt32)))] (.int (0 : Int32)) := Arv.set Aro86 qco86 So86 Mo86 Ho86 Go86 (fits_nar_byte _) W88 1 rfl (Nat.le_of_ble_eq_true rfl)
    have Z90 : n0 ≤ h88.size := Nat.le_trans Z51 (Keep.of_wr W88).1
    have N91 := Fr.snoc X88 N52 g2
    refine Go.of st88 ?_
    show Go p e below Qo T88 (mkF m 97 #[.val (.int i1), .val (.int i2), .val (.long j1), .second, .val (.int (1 : Int32)), .val (.ref b1)] [])
    refine Go.of (fun t k => XS.aload X88.here hx rfl (hb hby at_97) rfl rfl k) ?_
    show Go p e below Qo T88 (mkF m 99 #[.val (.int i1), .val (.int i2), .val (.long j1), .second, .val (.int (1 : Int32)), .val (.ref b1)] [(.ref b1)])
    refine Go.of (fun t k => XS.iload X88.here hx rfl (hb hby at_99) rfl  k) ?_
    show Go p e below Qo T88 (mkF m 101 #[.val (.int i1), .val (.int i2), .val (.long j1), .second, .val (.int (1 : Int32)), .val (.ref b1)] [(.int (1 : Int32)), (.ref b1)])
    refine Go.of (fun t k => XS.iconst X88.here hx rfl (hb hby at_101) k) ?_
    show Go p e below Qo T88 (mkF m 102 #[.val (.int i1), .val (.int i2), .val (.long j1), .second, .val (.int (1 : Int32)), .val (.ref b1)] [(.int (1 : Int32)), (.int (1 : Int32)), (.ref b1)])
    refine Go.of (fun t k => XS.iadd X88.here hx rfl (hb hby at_102) rfl k) ?_
    show Go p e below Qo T88 (mkF m 103 #[.val (.int i1), .val (.int i2), .val (.long j1), .second, .val (.int (1 : Int32)), .val (.ref b1)] [(.int (2 : Int32)), (.ref b1)])
    refine Go.of (fun t k => XS.iloadN X88.here hx rfl (hb hby at_103) rfl  k) ?_
    show Go p e below Qo T88 (mkF m 104 #[.val (.int i1), .val (.int i2), .val (.long j1), .second, .val (.int (1 : Int32)), .val (.ref b1)] [(.int i1), (.int (2 : Int32)), (.ref b1)])
    refine Go.of (fun t k => XS.bipush X88.here hx rfl (hb hby at_104) k) ?_
    show Go p e below Qo T88 (mkF m 106 #[.val (.int i1), .val (.int i2), .val (.long j1), .second, .val (.int (1 : Int32)), .val (.ref b1)] [(.int (8 : Int32)), (.int i1), (.int (2 : Int32)), (.ref b1)])
    refine Go.of (fun t k => XS.iushr X88.here hx rfl (hb hby at_106) rfl k) ?_
    show Go p e below Qo T88 (mkF m 107 #[.val (.int i1), .val (.int i2), .val (.long j1), .second, .val (.int (1 : Int32)), .val (.ref b1)] [(.int ((i1.toUInt32 >>> ((8 : Int32) &&& 31).toUInt32).toInt32)), (.int (2 : Int32)), (.ref b1)])
    refine Go.of (fun t k => XS.i2b X88.here hx rfl (hb hby at_107) rfl k) ?_
    show Go p e below Qo T88 (mkF m 108 #[.val (.int i1), .val (.int i2), .val (.long j1), .second, .val (.int (1 : Int32)), .val (.ref b1)] [(.int (((i1.toUInt32 >>> ((8 : Int32) &&& 31).toUInt32).toInt32).toInt8.toInt32)), (.int (2 : Int32)), (.ref b1)])
    have cpo92 := q89
    obtain ⟨clo92, Aro92, qco92, So92, Mo92, Ho92, Go92⟩ := cpo92
    have hin93 : ¬ ((2 : Int32) < 0 ∨ clo92.slots.size ≤ (2 : Int32).toNatClampNeg) := (inb_of So92 ⟨by decide, by decide⟩)
    obtain ⟨T94, h94, X94, e94, W94, st94⟩ := stB X88 hx hZ e88 Aro92 (j := (2 : Int32)) hin93 (g := (mkF m 108 #[.val (.int i1), .val (.int i2), .val (.long j1), .second, .val (.int (1 : Int32)), .val (.ref b1)] [(.int (((i1.toUInt32 >>> ((8 : Int32) &&& 31).toUInt32).toInt32).toInt8.toInt32)), (.int (2 : Int32)), (.ref b1)])) rfl rfl (hb hby at_108)
    have q95 : Arv Z h94 b1 k1 .byte (8 : Int32) [(.int (nar .byte ((j1.toInt32).toInt8.toInt32))), (.int (nar .byte (i1.toInt8.toInt32))), (.int (nar .byte (((i1.toUInt32 >>> ((8 : Int32) &&& 31).toUInt32).toInt32).toInt8.toInt32))), (.int (nar .byte ((((j1.toUInt64 >>> ((24 : Int32) &&& 0x3f).toInt64.toUInt64).toInt64).toInt32).toInt8.toInt32))), (.int (nar .byte ((((j1.toUInt64 >>> ((32 : Int32) &&& 0x3f).toInt64.toUInt64).toInt64).toInt32).toInt8.toInt32))), (.int (nar .byte ((((j1.toUInt64 >>> ((40 : Int32) &&& 0x3f).toInt64.toUInt64).toInt64).toInt32).toInt8.toInt32))), (.int (nar .byte ((((j1.toUInt64 >>> ((48 : Int32) &&& 0x3f).toInt64.toUInt64).toInt64).toInt32).toInt8.toInt32))), (.int (nar .byte ((((j1.toUInt64 >>> ((56 : Int32) &&& 0x3f).toInt64.toUInt64).toInt64).toInt32).toInt8.toInt32)))] (.int (0 : Int32)) := Arv.set Aro92 qco92 So92 Mo92 Ho92 Go92 (fits_nar_byte _) W94 2 rfl (Nat.le_of_ble_eq_true rfl)
    have Z96 : n0 ≤ h94.size := Nat.le_trans Z90 (Keep.of_wr W94).1
    have N97 := Fr.snoc X94 N91 g2
    refine Go.of st94 ?_
    show Go p e below Qo T94 (mkF m 109 #[.val (.int i1), .val (.int i2), .val (.long j1), .second, .val (.int (1 : Int32)), .val (.ref b1)] [])
    refine Go.of (fun t k => XS.aload X94.here hx rfl (hb hby at_109) rfl rfl k) ?_
    show Go p e below Qo T94 (mkF m 111 #[.val (.int i1), .val (.int i2), .val (.long j1), .second, .val (.int (1 : Int32)), .val (.ref b1)] [(.ref b1)])
    refine Go.of (fun t k => XS.iload X94.here hx rfl (hb hby at_111) rfl  k) ?_
    show Go p e below Qo T94 (mkF m 113 #[.val (.int i1), .val (.int i2), .val (.long j1), .second, .val (.int (1 : Int32)), .val (.ref b1)] [(.int (1 : Int32)), (.ref b1)])
    refine Go.of (fun t k => XS.iconst X94.here hx rfl (hb hby at_113) k) ?_
    show Go p e below Qo T94 (mkF m 114 #[.val (.int i1), .val (.int i2), .val (.long j1), .second, .val (.int (1 : Int32)), .val (.ref b1)] [(.int (2 : Int32)), (.int (1 : Int32)), (.ref b1)])
    refine Go.of (fun t k => XS.iadd X94.here hx rfl (hb hby at_114) rfl k) ?_
    show Go p e below Qo T94 (mkF m 115 #[.val (.int i1), .val (.int i2), .val (.long j1), .second, .val (.int (1 : Int32)), .val (.ref b1)] [(.int (3 : Int32)), (.ref b1)])
    refine Go.of (fun t k => XS.iloadN X94.here hx rfl (hb hby at_115) rfl  k) ?_
    show Go p e below Qo T94 (mkF m 116 #[.val (.int i1), .val (.int i2), .val (.long j1), .second, .val (.int (1 : Int32)), .val (.ref b1)] [(.int i1), (.int (3 : Int32)), (.ref b1)])
    refine Go.of (fun t k => XS.bipush X94.here hx rfl (hb hby at_116) k) ?_
    show Go p e below Qo T94 (mkF m 118 #[.val (.int i1), .val (.int i2), .val (.long j1), .second, .val (.int (1 : Int32)), .val (.ref b1)] [(.int (16 : Int32)), (.int i1), (.int (3 : Int32)), (.ref b1)])
    refine Go.of (fun t k => XS.iushr X94.here hx rfl (hb hby at_118) rfl k) ?_
    show Go p e below Qo T94 (mkF m 119 #[.val (.int i1), .val (.int i2), .val (.long j1), .second, .val (.int (1 : Int32)), .val (.ref b1)] [(.int ((i1.toUInt32 >>> ((16 : Int32) &&& 31).toUInt32).toInt32)), (.int (3 : Int32)), (.ref b1)])
    refine Go.of (fun t k => XS.i2b X94.here hx rfl (hb hby at_119) rfl k) ?_
    show Go p e below Qo T94 (mkF m 120 #[.val (.int i1), .val (.int i2), .val (.long j1), .second, .val (.int (1 : Int32)), .val (.ref b1)] [(.int (((i1.toUInt32 >>> ((16 : Int32) &&& 31).toUInt32).toInt32).toInt8.toInt32)), (.int (3 : Int32)), (.ref b1)])
    have cpo98 := q95
    obtain ⟨clo98, Aro98, qco98, So98, Mo98, Ho98, Go98⟩ := cpo98
    have hin99 : ¬ ((3 : Int32) < 0 ∨ clo98.slots.size ≤ (3 : Int32).toNatClampNeg) := (inb_of So98 ⟨by decide, by decide⟩)
    obtain ⟨T100, h100, X100, e100, W100, st100⟩ := stB X94 hx hZ e94 Aro98 (j := (3 : Int32)) hin99 (g := (mkF m 120 #[.val (.int i1), .val (.int i2), .val (.long j1), .second, .val (.int (1 : Int32)), .val (.ref b1)] [(.int (((i1.toUInt32 >>> ((16 : Int32) &&& 31).toUInt32).toInt32).toInt8.toInt32)), (.int (3 : Int32)), (.ref b1)])) rfl rfl (hb hby at_120)
    have q101 : Arv Z h100 b1 k1 .byte (8 : Int32) [(.int (nar .byte ((j1.toInt32).toInt8.toInt32))), (.int (nar .byte (i1.toInt8.toInt32))), (.int (nar .byte (((i1.toUInt32 >>> ((8 : Int32) &&& 31).toUInt32).toInt32).toInt8.toInt32))), (.int (nar .byte (((i1.toUInt32 >>> ((16 : Int32) &&& 31).toUInt32).toInt32).toInt8.toInt32))), (.int (nar .byte ((((j1.toUInt64 >>> ((32 : Int32) &&& 0x3f).toInt64.toUInt64).toInt64).toInt32).toInt8.toInt32))), (.int (nar .byte ((((j1.toUInt64 >>> ((40 : Int32) &&& 0x3f).toInt64.toUInt64).toInt64).toInt32).toInt8.toInt32))), (.int (nar .byte ((((j1.toUInt64 >>> ((48 : Int32) &&& 0x3f).toInt64.toUInt64).toInt64).toInt32).toInt8.toInt32))), (.int (nar .byte ((((j1.toUInt64 >>> ((56 : Int32) &&& 0x3f).toInt64.toUInt64).toInt64).toInt32).toInt8.toInt32)))] (.int (0 : Int32)) := Arv.set Aro98 qco98 So98 Mo98 Ho98 Go98 (fits_nar_byte _) W100 3 rfl (Nat.le_of_ble_eq_true rfl)
    have Z102 : n0 ≤ h100.size := Nat.le_trans Z96 (Keep.of_wr W100).1
    have N103 := Fr.snoc X100 N97 g2
    refine Go.of st100 ?_
    show Go p e below Qo T100 (mkF m 121 #[.val (.int i1), .val (.int i2), .val (.long j1), .second, .val (.int (1 : Int32)), .val (.ref b1)] [])
    refine Go.of (fun t k => XS.aload X100.here hx rfl (hb hby at_121) rfl rfl k) ?_
    show Go p e below Qo T100 (mkF m 123 #[.val (.int i1), .val (.int i2), .val (.long j1), .second, .val (.int (1 : Int32)), .val (.ref b1)] [(.ref b1)])
    refine Go.of (fun t k => XS.iload X100.here hx rfl (hb hby at_123) rfl  k) ?_
    show Go p e below Qo T100 (mkF m 125 #[.val (.int i1), .val (.int i2), .val (.long j1), .second, .val (.int (1 : Int32)), .val (.ref b1)] [(.int (1 : Int32)), (.ref b1)])
    refine Go.of (fun t k => XS.iconst X100.here hx rfl (hb hby at_125) k) ?_
    show Go p e below Qo T100 (mkF m 126 #[.val (.int i1), .val (.int i2), .val (.long j1), .second, .val (.int (1 : Int32)), .val (.ref b1)] [(.int (3 : Int32)), (.int (1 : Int32)), (.ref b1)])
    refine Go.of (fun t k => XS.iadd X100.here hx rfl (hb hby at_126) rfl k) ?_
    show Go p e below Qo T100 (mkF m 127 #[.val (.int i1), .val (.int i2), .val (.long j1), .second, .val (.int (1 : Int32)), .val (.ref b1)] [(.int (4 : Int32)), (.ref b1)])
    refine Go.of (fun t k => XS.iloadN X100.here hx rfl (hb hby at_127) rfl  k) ?_
    show Go p e below Qo T100 (mkF m 128 #[.val (.int i1), .val (.int i2), .val (.long j1), .second, .val (.int (1 : Int32)), .val (.ref b1)] [(.int i1), (.int (4 : Int32)), (.ref b1)])
    refine Go.of (fun t k => XS.bipush X100.here hx rfl (hb hby at_128) k) ?_
    show Go p e below Qo T100 (mkF m 130 #[.val (.int i1), .val (.int i2), .val (.long j1), .second, .val (.int (1 : Int32)), .val (.ref b1)] [(.int (24 : Int32)), (.int i1), (.int (4 : Int32)), (.ref b1)])
    refine Go.of (fun t k => XS.iushr X100.here hx rfl (hb hby at_130) rfl k) ?_
    show Go p e below Qo T100 (mkF m 131 #[.val (.int i1), .val (.int i2), .val (.long j1), .second, .val (.int (1 : Int32)), .val (.ref b1)] [(.int ((i1.toUInt32 >>> ((24 : Int32) &&& 31).toUInt32).toInt32)), (.int (4 : Int32)), (.ref b1)])
    refine Go.of (fun t k => XS.i2b X100.here hx rfl (hb hby at_131) rfl k) ?_
    show Go p e below Qo T100 (mkF m 132 #[.val (.int i1), .val (.int i2), .val (.long j1), .second, .val (.int (1 : Int32)), .val (.ref b1)] [(.int (((i1.toUInt32 >>> ((24 : Int32) &&& 31).toUInt32).toInt32).toInt8.toInt32)), (.int (4 : Int32)), (.ref b1)])
    have cpo104 := q101
    obtain ⟨clo104, Aro104, qco104, So104, Mo104, Ho104, Go104⟩ := cpo104
    have hin105 : ¬ ((4 : Int32) < 0 ∨ clo104.slots.size ≤ (4 : Int32).toNatClampNeg) := (inb_of So104 ⟨by decide, by decide⟩)
    obtain ⟨T106, h106, X106, e106, W106, st106⟩ := stB X100 hx hZ e100 Aro104 (j := (4 : Int32)) hin105 (g := (mkF m 132 #[.val (.int i1), .val (.int i2), .val (.long j1), .second, .val (.int (1 : Int32)), .val (.ref b1)] [(.int (((i1.toUInt32 >>> ((24 : Int32) &&& 31).toUInt32).toInt32).toInt8.toInt32)), (.int (4 : Int32)), (.ref b1)])) rfl rfl (hb hby at_132)
    have q107 : Arv Z h106 b1 k1 .byte (8 : Int32) [(.int (nar .byte ((j1.toInt32).toInt8.toInt32))), (.int (nar .byte (i1.toInt8.toInt32))), (.int (nar .byte (((i1.toUInt32 >>> ((8 : Int32) &&& 31).toUInt32).toInt32).toInt8.toInt32))), (.int (nar .byte (((i1.toUInt32 >>> ((16 : Int32) &&& 31).toUInt32).toInt32).toInt8.toInt32))), (.int (nar .byte (((i1.toUInt32 >>> ((24 : Int32) &&& 31).toUInt32).toInt32).toInt8.toInt32))), (.int (nar .byte ((((j1.toUInt64 >>> ((40 : Int32) &&& 0x3f).toInt64.toUInt64).toInt64).toInt32).toInt8.toInt32))), (.int (nar .byte ((((j1.toUInt64 >>> ((48 : Int32) &&& 0x3f).toInt64.toUInt64).toInt64).toInt32).toInt8.toInt32))), (.int (nar .byte ((((j1.toUInt64 >>> ((56 : Int32) &&& 0x3f).toInt64.toUInt64).toInt64).toInt32).toInt8.toInt32)))] (.int (0 : Int32)) := Arv.set Aro104 qco104 So104 Mo104 Ho104 Go104 (fits_nar_byte _) W106 4 rfl (Nat.le_of_ble_eq_true rfl)
    have Z108 : n0 ≤ h106.size := Nat.le_trans Z102 (Keep.of_wr W106).1
    have N109 := Fr.snoc X106 N103 g2
    refine Go.of st106 ?_
    show Go p e below Qo T106 (mkF m 133 #[.val (.int i1), .val (.int i2), .val (.long j1), .second, .val (.int (1 : Int32)), .val (.ref b1)] [])
    refine Go.of (fun t k => XS.aload X106.here hx rfl (hb hby at_133) rfl rfl k) ?_
    show Go p e below Qo T106 (mkF m 135 #[.val (.int i1), .val (.int i2), .val (.long j1), .second, .val (.int (1 : Int32)), .val (.ref b1)] [(.ref b1)])
    refine Go.of (fun t k => XS.iload X106.here hx rfl (hb hby at_135) rfl  k) ?_
    show Go p e below Qo T106 (mkF m 137 #[.val (.int i1), .val (.int i2), .val (.long j1), .second, .val (.int (1 : Int32)), .val (.ref b1)] [(.int (1 : Int32)), (.ref b1)])
    obtain ⟨_, _, ⟨T110, L110, k110, n110⟩, -, X110, ⟨Lc110, hQ110, l110, y110, z110⟩, st110⟩ := Jvm.LawKit.callS X106 hx (y := (⟨"com/example/mimosa/mimosa/bson/BsonDocument", "readInt32", "([BI)I"⟩ : MethodName)) hown (mvT hZ (hw _ (List.mem_of_getElem? (i := 1) rfl))) (mvT hZ (hw _ (List.mem_of_getElem? (i := 2) rfl))) (mvT hZ (hw _ (List.mem_of_getElem? (i := 3) rfl))) (mvT hZ (hw _ (List.mem_of_getElem? (i := 4) rfl))) (by decide) (backOf (W := 0) (rm11 l Z a0 hw [] b1 (1 : Int32) k1 (nar .byte ((j1.toInt32).toInt8.toInt32)) (nar .byte (i1.toInt8.toInt32)) (nar .byte (((i1.toUInt32 >>> ((8 : Int32) &&& 31).toUInt32).toInt32).toInt8.toInt32)) (nar .byte (((i1.toUInt32 >>> ((16 : Int32) &&& 31).toUInt32).toInt32).toInt8.toInt32)) (nar .byte (((i1.toUInt32 >>> ((24 : Int32) &&& 31).toUInt32).toInt32).toInt8.toInt32)) (nar .byte ((((j1.toUInt64 >>> ((40 : Int32) &&& 0x3f).toInt64.toUInt64).toInt64).toInt32).toInt8.toInt32)) (nar .byte ((((j1.toUInt64 >>> ((48 : Int32) &&& 0x3f).toInt64.toUInt64).toInt64).toInt32).toInt8.toInt32)) (nar .byte ((((j1.toUInt64 >>> ((56 : Int32) &&& 0x3f).toInt64.toUInt64).toInt64).toInt32).toInt8.toInt32)) h106 n0 Z108 q107 (by first | rfl | assumption | decide)) hZ (hw _ (List.mem_of_getElem? (i := 4) rfl)) (hw _ (List.mem_of_getElem? (i := 3) rfl)) (by decide) (by decide)) (g := (mkF m 137 #[.val (.int i1), .val (.int i2), .val (.long j1), .second, .val (.int (1 : Int32)), .val (.ref b1)] [(.int (1 : Int32)), (.ref b1)])) rfl (by rw [hml]; rfl) (argsL := [(.ref b1), (.int (1 : Int32))]) (rest := []) (lenOf pd_0 rfl) rfl (by show 2 * 0 + _ ≤ _; exact Nat.le_of_eq rfl) (hb hby at_137) (fun _ _ => ⟨rfl, e106, (by decide : 1 + 0 ≤ _), (by decide : 8 + 0 ≤ _)⟩)
    dsimp only [Pt.U, Pt.locs, Pt.cells, Pt.slots] at X110 l110 y110 z110 st110 hQ110
    subst l110 y110 z110
    obtain ⟨rfl, N111, eh112⟩ := hQ110
    have N113 := Fr.app N109 N111
    refine Go.of st110 ?_
    show Go p e below Qo T110 (mkF m 140 #[.val (.int i1), .val (.int i2), .val (.long j1), .second, .val (.int (1 : Int32)), .val (.ref b1)] [(.int (F11 (nar .byte (i1.toInt8.toInt32)) (nar .byte (((i1.toUInt32 >>> ((8 : Int32) &&& 31).toUInt32).toInt32).toInt8.toInt32)) (nar .byte (((i1.toUInt32 >>> ((16 : Int32) &&& 31).toUInt32).toInt32).toInt8.toInt32)) (nar .byte (((i1.toUInt32 >>> ((24 : Int32) &&& 31).toUInt32).toInt32).toInt8.toInt32))))])
    refine Go.of (fun t k => XS.iloadN X110.here hx rfl (hb hby at_140) rfl  k) ?_
    show Go p e below Qo T110 (mkF m 141 #[.val (.int i1), .val (.int i2), .val (.long j1), .second, .val (.int (1 : Int32)), .val (.ref b1)] [(.int i1), (.int (F11 (nar .byte (i1.toInt8.toInt32)) (nar .byte (((i1.toUInt32 >>> ((8 : Int32) &&& 31).toUInt32).toInt32).toInt8.toInt32)) (nar .byte (((i1.toUInt32 >>> ((16 : Int32) &&& 31).toUInt32).toInt32).toInt8.toInt32)) (nar .byte (((i1.toUInt32 >>> ((24 : Int32) &&& 31).toUInt32).toInt32).toInt8.toInt32))))])
    have J141_116 : ∀ (v141_115 : Int32), v141_115 = (if (F11 (nar .byte (i1.toInt8.toInt32)) (nar .byte (((i1.toUInt32 >>> ((8 : Int32) &&& 31).toUInt32).toInt32).toInt8.toInt32)) (nar .byte (((i1.toUInt32 >>> ((16 : Int32) &&& 31).toUInt32).toInt32).toInt8.toInt32)) (nar .byte (((i1.toUInt32 >>> ((24 : Int32) &&& 31).toUInt32).toInt32).toInt8.toInt32))) = i1 then (1 : Int32) else (0 : Int32)) → Go p e below Qo T110 (mkF m 149 #[.val (.int i1), .val (.int i2), .val (.long j1), .second, .val (.int (1 : Int32)), .val (.ref b1)] [(.int v141_115)]) := by
      intro v141_115 hv141_115
      show Go p e below Qo T110 (mkF m 149 #[.val (.int i1), .val (.int i2), .val (.long j1), .second, .val (.int (1 : Int32)), .val (.ref b1)] [(.int v141_115)])
      have hfin : v141_115 = 1 := by
        exact hv141_115.trans (if_pos ((own_same1 _ _ _ _).trans (own_law _)))
      exact own_retN X110 hx Bd.notSynchronized (t := .boolean) Bd.returns (by simp) (hb hby at_149) (fun u hu hF => hQo _ _ _ ⟨by rw [hfin]; rfl, N113⟩ (own_mono hF (by decide) (by decide)))
    by_cases hc141_117 : (F11 (nar .byte (i1.toInt8.toInt32)) (nar .byte (((i1.toUInt32 >>> ((8 : Int32) &&& 31).toUInt32).toInt32).toInt8.toInt32)) (nar .byte (((i1.toUInt32 >>> ((16 : Int32) &&& 31).toUInt32).toInt32).toInt8.toInt32)) (nar .byte (((i1.toUInt32 >>> ((24 : Int32) &&& 31).toUInt32).toInt32).toInt8.toInt32))) = i1
    · refine Go.of (fun t k => XS.icmpNo X110.here hx rfl (hb hby at_141) rfl (teq hc141_117).2 k) ?_
      show Go p e below Qo T110 (mkF m 144 #[.val (.int i1), .val (.int i2), .val (.long j1), .second, .val (.int (1 : Int32)), .val (.ref b1)] [])
      refine Go.of (fun t k => XS.iconst X110.here hx rfl (hb hby at_144) k) ?_
      show Go p e below Qo T110 (mkF m 145 #[.val (.int i1), .val (.int i2), .val (.long j1), .second, .val (.int (1 : Int32)), .val (.ref b1)] [(.int (1 : Int32))])
      refine Go.of (fun t k => XS.goto X110.here hx rfl (pc0 := 145) (pc' := 149) rfl (hb hby at_145) (by decide) (by decide) k) ?_
      show Go p e below Qo T110 (mkF m 149 #[.val (.int i1), .val (.int i2), .val (.long j1), .second, .val (.int (1 : Int32)), .val (.ref b1)] [(.int (1 : Int32))])
      exact J141_116 _ (by first | rfl | (rw [if_pos hc141_117]) | (simp only [hc141_117, if_true, if_false]; done) | simp [hc141_117])
    · refine Go.of (fun t k => XS.icmpYes X110.here hx rfl (pc0 := 141) (pc' := 148) rfl (hb hby at_141) rfl (feq hc141_117).2 (by decide) (by decide) k) ?_
      show Go p e below Qo T110 (mkF m 148 #[.val (.int i1), .val (.int i2), .val (.long j1), .second, .val (.int (1 : Int32)), .val (.ref b1)] [])
      refine Go.of (fun t k => XS.iconst X110.here hx rfl (hb hby at_148) k) ?_
      show Go p e below Qo T110 (mkF m 149 #[.val (.int i1), .val (.int i2), .val (.long j1), .second, .val (.int (1 : Int32)), .val (.ref b1)] [(.int (0 : Int32))])
      exact J141_116 _ (by first | rfl | (rw [if_neg hc141_117]) | (simp only [hc141_117, if_true, if_false]; done) | simp [hc141_117])
  · rw [qv53]
    show Go p e below Qo T49 (mkF m 90 #[.val (.int i1), .val (.int i2), .val (.long j1), .second, .val (.int (2 : Int32)), .val (.ref b1)] [])
    refine Go.of (fun t k => XS.aload X49.here hx rfl (hb hby at_90) rfl rfl k) ?_
    show Go p e below Qo T49 (mkF m 92 #[.val (.int i1), .val (.int i2), .val (.long j1), .second, .val (.int (2 : Int32)), .val (.ref b1)] [(.ref b1)])
    refine Go.of (fun t k => XS.iload X49.here hx rfl (hb hby at_92) rfl  k) ?_
    show Go p e below Qo T49 (mkF m 94 #[.val (.int i1), .val (.int i2), .val (.long j1), .second, .val (.int (2 : Int32)), .val (.ref b1)] [(.int (2 : Int32)), (.ref b1)])
    refine Go.of (fun t k => XS.iloadN X49.here hx rfl (hb hby at_94) rfl  k) ?_
    show Go p e below Qo T49 (mkF m 95 #[.val (.int i1), .val (.int i2), .val (.long j1), .second, .val (.int (2 : Int32)), .val (.ref b1)] [(.int i1), (.int (2 : Int32)), (.ref b1)])
    refine Go.of (fun t k => XS.i2b X49.here hx rfl (hb hby at_95) rfl k) ?_
    show Go p e below Qo T49 (mkF m 96 #[.val (.int i1), .val (.int i2), .val (.long j1), .second, .val (.int (2 : Int32)), .val (.ref b1)] [(.int (i1.toInt8.toInt32)), (.int (2 : Int32)), (.ref b1)])
    have cpo118 := q50
    obtain ⟨clo118, Aro118, qco118, So118, Mo118, Ho118, Go118⟩ := cpo118
    have hin119 : ¬ ((2 : Int32) < 0 ∨ clo118.slots.size ≤ (2 : Int32).toNatClampNeg) := (inb_of So118 ⟨by decide, by decide⟩)
    obtain ⟨T120, h120, X120, e120, W120, st120⟩ := stB X49 hx hZ e49 Aro118 (j := (2 : Int32)) hin119 (g := (mkF m 96 #[.val (.int i1), .val (.int i2), .val (.long j1), .second, .val (.int (2 : Int32)), .val (.ref b1)] [(.int (i1.toInt8.toInt32)), (.int (2 : Int32)), (.ref b1)])) rfl rfl (hb hby at_96)
    have q121 : Arv Z h120 b1 k1 .byte (8 : Int32) [(.int (nar .byte ((j1.toInt32).toInt8.toInt32))), (.int (nar .byte ((((j1.toUInt64 >>> ((8 : Int32) &&& 0x3f).toInt64.toUInt64).toInt64).toInt32).toInt8.toInt32))), (.int (nar .byte (i1.toInt8.toInt32))), (.int (nar .byte ((((j1.toUInt64 >>> ((24 : Int32) &&& 0x3f).toInt64.toUInt64).toInt64).toInt32).toInt8.toInt32))), (.int (nar .byte ((((j1.toUInt64 >>> ((32 : Int32) &&& 0x3f).toInt64.toUInt64).toInt64).toInt32).toInt8.toInt32))), (.int (nar .byte ((((j1.toUInt64 >>> ((40 : Int32) &&& 0x3f).toInt64.toUInt64).toInt64).toInt32).toInt8.toInt32))), (.int (nar .byte ((((j1.toUInt64 >>> ((48 : Int32) &&& 0x3f).toInt64.toUInt64).toInt64).toInt32).toInt8.toInt32))), (.int (nar .byte ((((j1.toUInt64 >>> ((56 : Int32) &&& 0x3f).toInt64.toUInt64).toInt64).toInt32).toInt8.toInt32)))] (.int (0 : Int32)) := Arv.set Aro118 qco118 So118 Mo118 Ho118 Go118 (fits_nar_byte _) W120 2 rfl (Nat.le_of_ble_eq_true rfl)
    have Z122 : n0 ≤ h120.size := Nat.le_trans Z51 (Keep.of_wr W120).1
    have N123 := Fr.snoc X120 N52 g2
    refine Go.of st120 ?_
    show Go p e below Qo T120 (mkF m 97 #[.val (.int i1), .val (.int i2), .val (.long j1), .second, .val (.int (2 : Int32)), .val (.ref b1)] [])
    refine Go.of (fun t k => XS.aload X120.here hx rfl (hb hby at_97) rfl rfl k) ?_
    show Go p e below Qo T120 (mkF m 99 #[.val (.int i1), .val (.int i2), .val (.long j1), .second, .val (.int (2 : Int32)), .val (.ref b1)] [(.ref b1)])
    refine Go.of (fun t k => XS.iload X120.here hx rfl (hb hby at_99) rfl  k) ?_
    show Go p e below Qo T120 (mkF m 101 #[.val (.int i1), .val (.int i2), .val (.long j1), .second, .val (.int (2 : Int32)), .val (.ref b1)] [(.int (2 : Int32)), (.ref b1)])
    refine Go.of (fun t k => XS.iconst X120.here hx rfl (hb hby at_101) k) ?_
    show Go p e below Qo T120 (mkF m 102 #[.val (.int i1), .val (.int i2), .val (.long j1), .second, .val (.int (2 : Int32)), .val (.ref b1)] [(.int (1 : Int32)), (.int (2 : Int32)), (.ref b1)])
    refine Go.of (fun t k => XS.iadd X120.here hx rfl (hb hby at_102) rfl k) ?_
    show Go p e below Qo T120 (mkF m 103 #[.val (.int i1), .val (.int i2), .val (.long j1), .second, .val (.int (2 : Int32)), .val (.ref b1)] [(.int (3 : Int32)), (.ref b1)])
    refine Go.of (fun t k => XS.iloadN X120.here hx rfl (hb hby at_103) rfl  k) ?_
    show Go p e below Qo T120 (mkF m 104 #[.val (.int i1), .val (.int i2), .val (.long j1), .second, .val (.int (2 : Int32)), .val (.ref b1)] [(.int i1), (.int (3 : Int32)), (.ref b1)])
    refine Go.of (fun t k => XS.bipush X120.here hx rfl (hb hby at_104) k) ?_
    show Go p e below Qo T120 (mkF m 106 #[.val (.int i1), .val (.int i2), .val (.long j1), .second, .val (.int (2 : Int32)), .val (.ref b1)] [(.int (8 : Int32)), (.int i1), (.int (3 : Int32)), (.ref b1)])
    refine Go.of (fun t k => XS.iushr X120.here hx rfl (hb hby at_106) rfl k) ?_
    show Go p e below Qo T120 (mkF m 107 #[.val (.int i1), .val (.int i2), .val (.long j1), .second, .val (.int (2 : Int32)), .val (.ref b1)] [(.int ((i1.toUInt32 >>> ((8 : Int32) &&& 31).toUInt32).toInt32)), (.int (3 : Int32)), (.ref b1)])
    refine Go.of (fun t k => XS.i2b X120.here hx rfl (hb hby at_107) rfl k) ?_
    show Go p e below Qo T120 (mkF m 108 #[.val (.int i1), .val (.int i2), .val (.long j1), .second, .val (.int (2 : Int32)), .val (.ref b1)] [(.int (((i1.toUInt32 >>> ((8 : Int32) &&& 31).toUInt32).toInt32).toInt8.toInt32)), (.int (3 : Int32)), (.ref b1)])
    have cpo124 := q121
    obtain ⟨clo124, Aro124, qco124, So124, Mo124, Ho124, Go124⟩ := cpo124
    have hin125 : ¬ ((3 : Int32) < 0 ∨ clo124.slots.size ≤ (3 : Int32).toNatClampNeg) := (inb_of So124 ⟨by decide, by decide⟩)
    obtain ⟨T126, h126, X126, e126, W126, st126⟩ := stB X120 hx hZ e120 Aro124 (j := (3 : Int32)) hin125 (g := (mkF m 108 #[.val (.int i1), .val (.int i2), .val (.long j1), .second, .val (.int (2 : Int32)), .val (.ref b1)] [(.int (((i1.toUInt32 >>> ((8 : Int32) &&& 31).toUInt32).toInt32).toInt8.toInt32)), (.int (3 : Int32)), (.ref b1)])) rfl rfl (hb hby at_108)
    have q127 : Arv Z h126 b1 k1 .byte (8 : Int32) [(.int (nar .byte ((j1.toInt32).toInt8.toInt32))), (.int (nar .byte ((((j1.toUInt64 >>> ((8 : Int32) &&& 0x3f).toInt64.toUInt64).toInt64).toInt32).toInt8.toInt32))), (.int (nar .byte (i1.toInt8.toInt32))), (.int (nar .byte (((i1.toUInt32 >>> ((8 : Int32) &&& 31).toUInt32).toInt32).toInt8.toInt32))), (.int (nar .byte ((((j1.toUInt64 >>> ((32 : Int32) &&& 0x3f).toInt64.toUInt64).toInt64).toInt32).toInt8.toInt32))), (.int (nar .byte ((((j1.toUInt64 >>> ((40 : Int32) &&& 0x3f).toInt64.toUInt64).toInt64).toInt32).toInt8.toInt32))), (.int (nar .byte ((((j1.toUInt64 >>> ((48 : Int32) &&& 0x3f).toInt64.toUInt64).toInt64).toInt32).toInt8.toInt32))), (.int (nar .byte ((((j1.toUInt64 >>> ((56 : Int32) &&& 0x3f).toInt64.toUInt64).toInt64).toInt32).toInt8.toInt32)))] (.int (0 : Int32)) := Arv.set Aro124 qco124 So124 Mo124 Ho124 Go124 (fits_nar_byte _) W126 3 rfl (Nat.le_of_ble_eq_true rfl)
    have Z128 : n0 ≤ h126.size := Nat.le_trans Z122 (Keep.of_wr W126).1
    have N129 := Fr.snoc X126 N123 g2
    refine Go.of st126 ?_
    show Go p e below Qo T126 (mkF m 109 #[.val (.int i1), .val (.int i2), .val (.long j1), .second, .val (.int (2 : Int32)), .val (.ref b1)] [])
    refine Go.of (fun t k => XS.aload X126.here hx rfl (hb hby at_109) rfl rfl k) ?_
    show Go p e below Qo T126 (mkF m 111 #[.val (.int i1), .val (.int i2), .val (.long j1), .second, .val (.int (2 : Int32)), .val (.ref b1)] [(.ref b1)])
    refine Go.of (fun t k => XS.iload X126.here hx rfl (hb hby at_111) rfl  k) ?_
    show Go p e below Qo T126 (mkF m 113 #[.val (.int i1), .val (.int i2), .val (.long j1), .second, .val (.int (2 : Int32)), .val (.ref b1)] [(.int (2 : Int32)), (.ref b1)])
    refine Go.of (fun t k => XS.iconst X126.here hx rfl (hb hby at_113) k) ?_
    show Go p e below Qo T126 (mkF m 114 #[.val (.int i1), .val (.int i2), .val (.long j1), .second, .val (.int (2 : Int32)), .val (.ref b1)] [(.int (2 : Int32)), (.int (2 : Int32)), (.ref b1)])
    refine Go.of (fun t k => XS.iadd X126.here hx rfl (hb hby at_114) rfl k) ?_
    show Go p e below Qo T126 (mkF m 115 #[.val (.int i1), .val (.int i2), .val (.long j1), .second, .val (.int (2 : Int32)), .val (.ref b1)] [(.int (4 : Int32)), (.ref b1)])
    refine Go.of (fun t k => XS.iloadN X126.here hx rfl (hb hby at_115) rfl  k) ?_
    show Go p e below Qo T126 (mkF m 116 #[.val (.int i1), .val (.int i2), .val (.long j1), .second, .val (.int (2 : Int32)), .val (.ref b1)] [(.int i1), (.int (4 : Int32)), (.ref b1)])
    refine Go.of (fun t k => XS.bipush X126.here hx rfl (hb hby at_116) k) ?_
    show Go p e below Qo T126 (mkF m 118 #[.val (.int i1), .val (.int i2), .val (.long j1), .second, .val (.int (2 : Int32)), .val (.ref b1)] [(.int (16 : Int32)), (.int i1), (.int (4 : Int32)), (.ref b1)])
    refine Go.of (fun t k => XS.iushr X126.here hx rfl (hb hby at_118) rfl k) ?_
    show Go p e below Qo T126 (mkF m 119 #[.val (.int i1), .val (.int i2), .val (.long j1), .second, .val (.int (2 : Int32)), .val (.ref b1)] [(.int ((i1.toUInt32 >>> ((16 : Int32) &&& 31).toUInt32).toInt32)), (.int (4 : Int32)), (.ref b1)])
    refine Go.of (fun t k => XS.i2b X126.here hx rfl (hb hby at_119) rfl k) ?_
    show Go p e below Qo T126 (mkF m 120 #[.val (.int i1), .val (.int i2), .val (.long j1), .second, .val (.int (2 : Int32)), .val (.ref b1)] [(.int (((i1.toUInt32 >>> ((16 : Int32) &&& 31).toUInt32).toInt32).toInt8.toInt32)), (.int (4 : Int32)), (.ref b1)])
    have cpo130 := q127
    obtain ⟨clo130, Aro130, qco130, So130, Mo130, Ho130, Go130⟩ := cpo130
    have hin131 : ¬ ((4 : Int32) < 0 ∨ clo130.slots.size ≤ (4 : Int32).toNatClampNeg) := (inb_of So130 ⟨by decide, by decide⟩)
    obtain ⟨T132, h132, X132, e132, W132, st132⟩ := stB X126 hx hZ e126 Aro130 (j := (4 : Int32)) hin131 (g := (mkF m 120 #[.val (.int i1), .val (.int i2), .val (.long j1), .second, .val (.int (2 : Int32)), .val (.ref b1)] [(.int (((i1.toUInt32 >>> ((16 : Int32) &&& 31).toUInt32).toInt32).toInt8.toInt32)), (.int (4 : Int32)), (.ref b1)])) rfl rfl (hb hby at_120)
    have q133 : Arv Z h132 b1 k1 .byte (8 : Int32) [(.int (nar .byte ((j1.toInt32).toInt8.toInt32))), (.int (nar .byte ((((j1.toUInt64 >>> ((8 : Int32) &&& 0x3f).toInt64.toUInt64).toInt64).toInt32).toInt8.toInt32))), (.int (nar .byte (i1.toInt8.toInt32))), (.int (nar .byte (((i1.toUInt32 >>> ((8 : Int32) &&& 31).toUInt32).toInt32).toInt8.toInt32))), (.int (nar .byte (((i1.toUInt32 >>> ((16 : Int32) &&& 31).toUInt32).toInt32).toInt8.toInt32))), (.int (nar .byte ((((j1.toUInt64 >>> ((40 : Int32) &&& 0x3f).toInt64.toUInt64).toInt64).toInt32).toInt8.toInt32))), (.int (nar .byte ((((j1.toUInt64 >>> ((48 : Int32) &&& 0x3f).toInt64.toUInt64).toInt64).toInt32).toInt8.toInt32))), (.int (nar .byte ((((j1.toUInt64 >>> ((56 : Int32) &&& 0x3f).toInt64.toUInt64).toInt64).toInt32).toInt8.toInt32)))] (.int (0 : Int32)) := Arv.set Aro130 qco130 So130 Mo130 Ho130 Go130 (fits_nar_byte _) W132 4 rfl (Nat.le_of_ble_eq_true rfl)
    have Z134 : n0 ≤ h132.size := Nat.le_trans Z128 (Keep.of_wr W132).1
    have N135 := Fr.snoc X132 N129 g2
    refine Go.of st132 ?_
    show Go p e below Qo T132 (mkF m 121 #[.val (.int i1), .val (.int i2), .val (.long j1), .second, .val (.int (2 : Int32)), .val (.ref b1)] [])
    refine Go.of (fun t k => XS.aload X132.here hx rfl (hb hby at_121) rfl rfl k) ?_
    show Go p e below Qo T132 (mkF m 123 #[.val (.int i1), .val (.int i2), .val (.long j1), .second, .val (.int (2 : Int32)), .val (.ref b1)] [(.ref b1)])
    refine Go.of (fun t k => XS.iload X132.here hx rfl (hb hby at_123) rfl  k) ?_
    show Go p e below Qo T132 (mkF m 125 #[.val (.int i1), .val (.int i2), .val (.long j1), .second, .val (.int (2 : Int32)), .val (.ref b1)] [(.int (2 : Int32)), (.ref b1)])
    refine Go.of (fun t k => XS.iconst X132.here hx rfl (hb hby at_125) k) ?_
    show Go p e below Qo T132 (mkF m 126 #[.val (.int i1), .val (.int i2), .val (.long j1), .second, .val (.int (2 : Int32)), .val (.ref b1)] [(.int (3 : Int32)), (.int (2 : Int32)), (.ref b1)])
    refine Go.of (fun t k => XS.iadd X132.here hx rfl (hb hby at_126) rfl k) ?_
    show Go p e below Qo T132 (mkF m 127 #[.val (.int i1), .val (.int i2), .val (.long j1), .second, .val (.int (2 : Int32)), .val (.ref b1)] [(.int (5 : Int32)), (.ref b1)])
    refine Go.of (fun t k => XS.iloadN X132.here hx rfl (hb hby at_127) rfl  k) ?_
    show Go p e below Qo T132 (mkF m 128 #[.val (.int i1), .val (.int i2), .val (.long j1), .second, .val (.int (2 : Int32)), .val (.ref b1)] [(.int i1), (.int (5 : Int32)), (.ref b1)])
    refine Go.of (fun t k => XS.bipush X132.here hx rfl (hb hby at_128) k) ?_
    show Go p e below Qo T132 (mkF m 130 #[.val (.int i1), .val (.int i2), .val (.long j1), .second, .val (.int (2 : Int32)), .val (.ref b1)] [(.int (24 : Int32)), (.int i1), (.int (5 : Int32)), (.ref b1)])
    refine Go.of (fun t k => XS.iushr X132.here hx rfl (hb hby at_130) rfl k) ?_
    show Go p e below Qo T132 (mkF m 131 #[.val (.int i1), .val (.int i2), .val (.long j1), .second, .val (.int (2 : Int32)), .val (.ref b1)] [(.int ((i1.toUInt32 >>> ((24 : Int32) &&& 31).toUInt32).toInt32)), (.int (5 : Int32)), (.ref b1)])
    refine Go.of (fun t k => XS.i2b X132.here hx rfl (hb hby at_131) rfl k) ?_
    show Go p e below Qo T132 (mkF m 132 #[.val (.int i1), .val (.int i2), .val (.long j1), .second, .val (.int (2 : Int32)), .val (.ref b1)] [(.int (((i1.toUInt32 >>> ((24 : Int32) &&& 31).toUInt32).toInt32).toInt8.toInt32)), (.int (5 : Int32)), (.ref b1)])
    have cpo136 := q133
    obtain ⟨clo136, Aro136, qco136, So136, Mo136, Ho136, Go136⟩ := cpo136
    have hin137 : ¬ ((5 : Int32) < 0 ∨ clo136.slots.size ≤ (5 : Int32).toNatClampNeg) := (inb_of So136 ⟨by decide, by decide⟩)
    obtain ⟨T138, h138, X138, e138, W138, st138⟩ := stB X132 hx hZ e132 Aro136 (j := (5 : Int32)) hin137 (g := (mkF m 132 #[.val (.int i1), .val (.int i2), .val (.long j1), .second, .val (.int (2 : Int32)), .val (.ref b1)] [(.int (((i1.toUInt32 >>> ((24 : Int32) &&& 31).toUInt32).toInt32).toInt8.toInt32)), (.int (5 : Int32)), (.ref b1)])) rfl rfl (hb hby at_132)
    have q139 : Arv Z h138 b1 k1 .byte (8 : Int32) [(.int (nar .byte ((j1.toInt32).toInt8.toInt32))), (.int (nar .byte ((((j1.toUInt64 >>> ((8 : Int32) &&& 0x3f).toInt64.toUInt64).toInt64).toInt32).toInt8.toInt32))), (.int (nar .byte (i1.toInt8.toInt32))), (.int (nar .byte (((i1.toUInt32 >>> ((8 : Int32) &&& 31).toUInt32).toInt32).toInt8.toInt32))), (.int (nar .byte (((i1.toUInt32 >>> ((16 : Int32) &&& 31).toUInt32).toInt32).toInt8.toInt32))), (.int (nar .byte (((i1.toUInt32 >>> ((24 : Int32) &&& 31).toUInt32).toInt32).toInt8.toInt32))), (.int (nar .byte ((((j1.toUInt64 >>> ((48 : Int32) &&& 0x3f).toInt64.toUInt64).toInt64).toInt32).toInt8.toInt32))), (.int (nar .byte ((((j1.toUInt64 >>> ((56 : Int32) &&& 0x3f).toInt64.toUInt64).toInt64).toInt32).toInt8.toInt32)))] (.int (0 : Int32)) := Arv.set Aro136 qco136 So136 Mo136 Ho136 Go136 (fits_nar_byte _) W138 5 rfl (Nat.le_of_ble_eq_true rfl)
    have Z140 : n0 ≤ h138.size := Nat.le_trans Z134 (Keep.of_wr W138).1
    have N141 := Fr.snoc X138 N135 g2
    refine Go.of st138 ?_
    show Go p e below Qo T138 (mkF m 133 #[.val (.int i1), .val (.int i2), .val (.long j1), .second, .val (.int (2 : Int32)), .val (.ref b1)] [])
    refine Go.of (fun t k => XS.aload X138.here hx rfl (hb hby at_133) rfl rfl k) ?_
    show Go p e below Qo T138 (mkF m 135 #[.val (.int i1), .val (.int i2), .val (.long j1), .second, .val (.int (2 : Int32)), .val (.ref b1)] [(.ref b1)])
    refine Go.of (fun t k => XS.iload X138.here hx rfl (hb hby at_135) rfl  k) ?_
    show Go p e below Qo T138 (mkF m 137 #[.val (.int i1), .val (.int i2), .val (.long j1), .second, .val (.int (2 : Int32)), .val (.ref b1)] [(.int (2 : Int32)), (.ref b1)])
    obtain ⟨_, _, ⟨T142, L142, k142, n142⟩, -, X142, ⟨Lc142, hQ142, l142, y142, z142⟩, st142⟩ := Jvm.LawKit.callS X138 hx (y := (⟨"com/example/mimosa/mimosa/bson/BsonDocument", "readInt32", "([BI)I"⟩ : MethodName)) hown (mvT hZ (hw _ (List.mem_of_getElem? (i := 1) rfl))) (mvT hZ (hw _ (List.mem_of_getElem? (i := 2) rfl))) (mvT hZ (hw _ (List.mem_of_getElem? (i := 3) rfl))) (mvT hZ (hw _ (List.mem_of_getElem? (i := 4) rfl))) (by decide) (backOf (W := 0) (rm12 l Z a0 hw [] b1 (2 : Int32) k1 (nar .byte ((j1.toInt32).toInt8.toInt32)) (nar .byte ((((j1.toUInt64 >>> ((8 : Int32) &&& 0x3f).toInt64.toUInt64).toInt64).toInt32).toInt8.toInt32)) (nar .byte (i1.toInt8.toInt32)) (nar .byte (((i1.toUInt32 >>> ((8 : Int32) &&& 31).toUInt32).toInt32).toInt8.toInt32)) (nar .byte (((i1.toUInt32 >>> ((16 : Int32) &&& 31).toUInt32).toInt32).toInt8.toInt32)) (nar .byte (((i1.toUInt32 >>> ((24 : Int32) &&& 31).toUInt32).toInt32).toInt8.toInt32)) (nar .byte ((((j1.toUInt64 >>> ((48 : Int32) &&& 0x3f).toInt64.toUInt64).toInt64).toInt32).toInt8.toInt32)) (nar .byte ((((j1.toUInt64 >>> ((56 : Int32) &&& 0x3f).toInt64.toUInt64).toInt64).toInt32).toInt8.toInt32)) h138 n0 Z140 q139 (by first | rfl | assumption | decide)) hZ (hw _ (List.mem_of_getElem? (i := 4) rfl)) (hw _ (List.mem_of_getElem? (i := 3) rfl)) (by decide) (by decide)) (g := (mkF m 137 #[.val (.int i1), .val (.int i2), .val (.long j1), .second, .val (.int (2 : Int32)), .val (.ref b1)] [(.int (2 : Int32)), (.ref b1)])) rfl (by rw [hml]; rfl) (argsL := [(.ref b1), (.int (2 : Int32))]) (rest := []) (lenOf pd_0 rfl) rfl (by show 2 * 0 + _ ≤ _; exact Nat.le_of_eq rfl) (hb hby at_137) (fun _ _ => ⟨rfl, e138, (by decide : 1 + 0 ≤ _), (by decide : 8 + 0 ≤ _)⟩)
    dsimp only [Pt.U, Pt.locs, Pt.cells, Pt.slots] at X142 l142 y142 z142 st142 hQ142
    subst l142 y142 z142
    obtain ⟨rfl, N143, eh144⟩ := hQ142
    have N145 := Fr.app N141 N143
    refine Go.of st142 ?_
    show Go p e below Qo T142 (mkF m 140 #[.val (.int i1), .val (.int i2), .val (.long j1), .second, .val (.int (2 : Int32)), .val (.ref b1)] [(.int (F12 (nar .byte (i1.toInt8.toInt32)) (nar .byte (((i1.toUInt32 >>> ((8 : Int32) &&& 31).toUInt32).toInt32).toInt8.toInt32)) (nar .byte (((i1.toUInt32 >>> ((16 : Int32) &&& 31).toUInt32).toInt32).toInt8.toInt32)) (nar .byte (((i1.toUInt32 >>> ((24 : Int32) &&& 31).toUInt32).toInt32).toInt8.toInt32))))])
    refine Go.of (fun t k => XS.iloadN X142.here hx rfl (hb hby at_140) rfl  k) ?_
    show Go p e below Qo T142 (mkF m 141 #[.val (.int i1), .val (.int i2), .val (.long j1), .second, .val (.int (2 : Int32)), .val (.ref b1)] [(.int i1), (.int (F12 (nar .byte (i1.toInt8.toInt32)) (nar .byte (((i1.toUInt32 >>> ((8 : Int32) &&& 31).toUInt32).toInt32).toInt8.toInt32)) (nar .byte (((i1.toUInt32 >>> ((16 : Int32) &&& 31).toUInt32).toInt32).toInt8.toInt32)) (nar .byte (((i1.toUInt32 >>> ((24 : Int32) &&& 31).toUInt32).toInt32).toInt8.toInt32))))])
    have J141_148 : ∀ (v141_147 : Int32), v141_147 = (if (F12 (nar .byte (i1.toInt8.toInt32)) (nar .byte (((i1.toUInt32 >>> ((8 : Int32) &&& 31).toUInt32).toInt32).toInt8.toInt32)) (nar .byte (((i1.toUInt32 >>> ((16 : Int32) &&& 31).toUInt32).toInt32).toInt8.toInt32)) (nar .byte (((i1.toUInt32 >>> ((24 : Int32) &&& 31).toUInt32).toInt32).toInt8.toInt32))) = i1 then (1 : Int32) else (0 : Int32)) → Go p e below Qo T142 (mkF m 149 #[.val (.int i1), .val (.int i2), .val (.long j1), .second, .val (.int (2 : Int32)), .val (.ref b1)] [(.int v141_147)]) := by
      intro v141_147 hv141_147
      show Go p e below Qo T142 (mkF m 149 #[.val (.int i1), .val (.int i2), .val (.long j1), .second, .val (.int (2 : Int32)), .val (.ref b1)] [(.int v141_147)])
      have hfin : v141_147 = 1 := by
        exact hv141_147.trans (if_pos ((own_same2 _ _ _ _).trans (own_law _)))
      exact own_retN X142 hx Bd.notSynchronized (t := .boolean) Bd.returns (by simp) (hb hby at_149) (fun u hu hF => hQo _ _ _ ⟨by rw [hfin]; rfl, N145⟩ (own_mono hF (by decide) (by decide)))
    by_cases hc141_149 : (F12 (nar .byte (i1.toInt8.toInt32)) (nar .byte (((i1.toUInt32 >>> ((8 : Int32) &&& 31).toUInt32).toInt32).toInt8.toInt32)) (nar .byte (((i1.toUInt32 >>> ((16 : Int32) &&& 31).toUInt32).toInt32).toInt8.toInt32)) (nar .byte (((i1.toUInt32 >>> ((24 : Int32) &&& 31).toUInt32).toInt32).toInt8.toInt32))) = i1
    · refine Go.of (fun t k => XS.icmpNo X142.here hx rfl (hb hby at_141) rfl (teq hc141_149).2 k) ?_
      show Go p e below Qo T142 (mkF m 144 #[.val (.int i1), .val (.int i2), .val (.long j1), .second, .val (.int (2 : Int32)), .val (.ref b1)] [])
      refine Go.of (fun t k => XS.iconst X142.here hx rfl (hb hby at_144) k) ?_
      show Go p e below Qo T142 (mkF m 145 #[.val (.int i1), .val (.int i2), .val (.long j1), .second, .val (.int (2 : Int32)), .val (.ref b1)] [(.int (1 : Int32))])
      refine Go.of (fun t k => XS.goto X142.here hx rfl (pc0 := 145) (pc' := 149) rfl (hb hby at_145) (by decide) (by decide) k) ?_
      show Go p e below Qo T142 (mkF m 149 #[.val (.int i1), .val (.int i2), .val (.long j1), .second, .val (.int (2 : Int32)), .val (.ref b1)] [(.int (1 : Int32))])
      exact J141_148 _ (by first | rfl | (rw [if_pos hc141_149]) | (simp only [hc141_149, if_true, if_false]; done) | simp [hc141_149])
    · refine Go.of (fun t k => XS.icmpYes X142.here hx rfl (pc0 := 141) (pc' := 148) rfl (hb hby at_141) rfl (feq hc141_149).2 (by decide) (by decide) k) ?_
      show Go p e below Qo T142 (mkF m 148 #[.val (.int i1), .val (.int i2), .val (.long j1), .second, .val (.int (2 : Int32)), .val (.ref b1)] [])
      refine Go.of (fun t k => XS.iconst X142.here hx rfl (hb hby at_148) k) ?_
      show Go p e below Qo T142 (mkF m 149 #[.val (.int i1), .val (.int i2), .val (.long j1), .second, .val (.int (2 : Int32)), .val (.ref b1)] [(.int (0 : Int32))])
      exact J141_148 _ (by first | rfl | (rw [if_neg hc141_149]) | (simp only [hc141_149, if_true, if_false]; done) | simp [hc141_149])
  · rw [qv53]
    show Go p e below Qo T49 (mkF m 90 #[.val (.int i1), .val (.int i2), .val (.long j1), .second, .val (.int (3 : Int32)), .val (.ref b1)] [])
    refine Go.of (fun t k => XS.aload X49.here hx rfl (hb hby at_90) rfl rfl k) ?_
    show Go p e below Qo T49 (mkF m 92 #[.val (.int i1), .val (.int i2), .val (.long j1), .second, .val (.int (3 : Int32)), .val (.ref b1)] [(.ref b1)])
    refine Go.of (fun t k => XS.iload X49.here hx rfl (hb hby at_92) rfl  k) ?_
    show Go p e below Qo T49 (mkF m 94 #[.val (.int i1), .val (.int i2), .val (.long j1), .second, .val (.int (3 : Int32)), .val (.ref b1)] [(.int (3 : Int32)), (.ref b1)])
    refine Go.of (fun t k => XS.iloadN X49.here hx rfl (hb hby at_94) rfl  k) ?_
    show Go p e below Qo T49 (mkF m 95 #[.val (.int i1), .val (.int i2), .val (.long j1), .second, .val (.int (3 : Int32)), .val (.ref b1)] [(.int i1), (.int (3 : Int32)), (.ref b1)])
    refine Go.of (fun t k => XS.i2b X49.here hx rfl (hb hby at_95) rfl k) ?_
    show Go p e below Qo T49 (mkF m 96 #[.val (.int i1), .val (.int i2), .val (.long j1), .second, .val (.int (3 : Int32)), .val (.ref b1)] [(.int (i1.toInt8.toInt32)), (.int (3 : Int32)), (.ref b1)])
    have cpo150 := q50
    obtain ⟨clo150, Aro150, qco150, So150, Mo150, Ho150, Go150⟩ := cpo150
    have hin151 : ¬ ((3 : Int32) < 0 ∨ clo150.slots.size ≤ (3 : Int32).toNatClampNeg) := (inb_of So150 ⟨by decide, by decide⟩)
    obtain ⟨T152, h152, X152, e152, W152, st152⟩ := stB X49 hx hZ e49 Aro150 (j := (3 : Int32)) hin151 (g := (mkF m 96 #[.val (.int i1), .val (.int i2), .val (.long j1), .second, .val (.int (3 : Int32)), .val (.ref b1)] [(.int (i1.toInt8.toInt32)), (.int (3 : Int32)), (.ref b1)])) rfl rfl (hb hby at_96)
    have q153 : Arv Z h152 b1 k1 .byte (8 : Int32) [(.int (nar .byte ((j1.toInt32).toInt8.toInt32))), (.int (nar .byte ((((j1.toUInt64 >>> ((8 : Int32) &&& 0x3f).toInt64.toUInt64).toInt64).toInt32).toInt8.toInt32))), (.int (nar .byte ((((j1.toUInt64 >>> ((16 : Int32) &&& 0x3f).toInt64.toUInt64).toInt64).toInt32).toInt8.toInt32))), (.int (nar .byte (i1.toInt8.toInt32))), (.int (nar .byte ((((j1.toUInt64 >>> ((32 : Int32) &&& 0x3f).toInt64.toUInt64).toInt64).toInt32).toInt8.toInt32))), (.int (nar .byte ((((j1.toUInt64 >>> ((40 : Int32) &&& 0x3f).toInt64.toUInt64).toInt64).toInt32).toInt8.toInt32))), (.int (nar .byte ((((j1.toUInt64 >>> ((48 : Int32) &&& 0x3f).toInt64.toUInt64).toInt64).toInt32).toInt8.toInt32))), (.int (nar .byte ((((j1.toUInt64 >>> ((56 : Int32) &&& 0x3f).toInt64.toUInt64).toInt64).toInt32).toInt8.toInt32)))] (.int (0 : Int32)) := Arv.set Aro150 qco150 So150 Mo150 Ho150 Go150 (fits_nar_byte _) W152 3 rfl (Nat.le_of_ble_eq_true rfl)
    have Z154 : n0 ≤ h152.size := Nat.le_trans Z51 (Keep.of_wr W152).1
    have N155 := Fr.snoc X152 N52 g2
    refine Go.of st152 ?_
    show Go p e below Qo T152 (mkF m 97 #[.val (.int i1), .val (.int i2), .val (.long j1), .second, .val (.int (3 : Int32)), .val (.ref b1)] [])
    refine Go.of (fun t k => XS.aload X152.here hx rfl (hb hby at_97) rfl rfl k) ?_
    show Go p e below Qo T152 (mkF m 99 #[.val (.int i1), .val (.int i2), .val (.long j1), .second, .val (.int (3 : Int32)), .val (.ref b1)] [(.ref b1)])
    refine Go.of (fun t k => XS.iload X152.here hx rfl (hb hby at_99) rfl  k) ?_
    show Go p e below Qo T152 (mkF m 101 #[.val (.int i1), .val (.int i2), .val (.long j1), .second, .val (.int (3 : Int32)), .val (.ref b1)] [(.int (3 : Int32)), (.ref b1)])
    refine Go.of (fun t k => XS.iconst X152.here hx rfl (hb hby at_101) k) ?_
    show Go p e below Qo T152 (mkF m 102 #[.val (.int i1), .val (.int i2), .val (.long j1), .second, .val (.int (3 : Int32)), .val (.ref b1)] [(.int (1 : Int32)), (.int (3 : Int32)), (.ref b1)])
    refine Go.of (fun t k => XS.iadd X152.here hx rfl (hb hby at_102) rfl k) ?_
    show Go p e below Qo T152 (mkF m 103 #[.val (.int i1), .val (.int i2), .val (.long j1), .second, .val (.int (3 : Int32)), .val (.ref b1)] [(.int (4 : Int32)), (.ref b1)])
    refine Go.of (fun t k => XS.iloadN X152.here hx rfl (hb hby at_103) rfl  k) ?_
    show Go p e below Qo T152 (mkF m 104 #[.val (.int i1), .val (.int i2), .val (.long j1), .second, .val (.int (3 : Int32)), .val (.ref b1)] [(.int i1), (.int (4 : Int32)), (.ref b1)])
    refine Go.of (fun t k => XS.bipush X152.here hx rfl (hb hby at_104) k) ?_
    show Go p e below Qo T152 (mkF m 106 #[.val (.int i1), .val (.int i2), .val (.long j1), .second, .val (.int (3 : Int32)), .val (.ref b1)] [(.int (8 : Int32)), (.int i1), (.int (4 : Int32)), (.ref b1)])
    refine Go.of (fun t k => XS.iushr X152.here hx rfl (hb hby at_106) rfl k) ?_
    show Go p e below Qo T152 (mkF m 107 #[.val (.int i1), .val (.int i2), .val (.long j1), .second, .val (.int (3 : Int32)), .val (.ref b1)] [(.int ((i1.toUInt32 >>> ((8 : Int32) &&& 31).toUInt32).toInt32)), (.int (4 : Int32)), (.ref b1)])
    refine Go.of (fun t k => XS.i2b X152.here hx rfl (hb hby at_107) rfl k) ?_
    show Go p e below Qo T152 (mkF m 108 #[.val (.int i1), .val (.int i2), .val (.long j1), .second, .val (.int (3 : Int32)), .val (.ref b1)] [(.int (((i1.toUInt32 >>> ((8 : Int32) &&& 31).toUInt32).toInt32).toInt8.toInt32)), (.int (4 : Int32)), (.ref b1)])
    have cpo156 := q153
    obtain ⟨clo156, Aro156, qco156, So156, Mo156, Ho156, Go156⟩ := cpo156
    have hin157 : ¬ ((4 : Int32) < 0 ∨ clo156.slots.size ≤ (4 : Int32).toNatClampNeg) := (inb_of So156 ⟨by decide, by decide⟩)
    obtain ⟨T158, h158, X158, e158, W158, st158⟩ := stB X152 hx hZ e152 Aro156 (j := (4 : Int32)) hin157 (g := (mkF m 108 #[.val (.int i1), .val (.int i2), .val (.long j1), .second, .val (.int (3 : Int32)), .val (.ref b1)] [(.int (((i1.toUInt32 >>> ((8 : Int32) &&& 31).toUInt32).toInt32).toInt8.toInt32)), (.int (4 : Int32)), (.ref b1)])) rfl rfl (hb hby at_108)
    have q159 : Arv Z h158 b1 k1 .byte (8 : Int32) [(.int (nar .byte ((j1.toInt32).toInt8.toInt32))), (.int (nar .byte ((((j1.toUInt64 >>> ((8 : Int32) &&& 0x3f).toInt64.toUInt64).toInt64).toInt32).toInt8.toInt32))), (.int (nar .byte ((((j1.toUInt64 >>> ((16 : Int32) &&& 0x3f).toInt64.toUInt64).toInt64).toInt32).toInt8.toInt32))), (.int (nar .byte (i1.toInt8.toInt32))), (.int (nar .byte (((i1.toUInt32 >>> ((8 : Int32) &&& 31).toUInt32).toInt32).toInt8.toInt32))), (.int (nar .byte ((((j1.toUInt64 >>> ((40 : Int32) &&& 0x3f).toInt64.toUInt64).toInt64).toInt32).toInt8.toInt32))), (.int (nar .byte ((((j1.toUInt64 >>> ((48 : Int32) &&& 0x3f).toInt64.toUInt64).toInt64).toInt32).toInt8.toInt32))), (.int (nar .byte ((((j1.toUInt64 >>> ((56 : Int32) &&& 0x3f).toInt64.toUInt64).toInt64).toInt32).toInt8.toInt32)))] (.int (0 : Int32)) := Arv.set Aro156 qco156 So156 Mo156 Ho156 Go156 (fits_nar_byte _) W158 4 rfl (Nat.le_of_ble_eq_true rfl)
    have Z160 : n0 ≤ h158.size := Nat.le_trans Z154 (Keep.of_wr W158).1
    have N161 := Fr.snoc X158 N155 g2
    refine Go.of st158 ?_
    show Go p e below Qo T158 (mkF m 109 #[.val (.int i1), .val (.int i2), .val (.long j1), .second, .val (.int (3 : Int32)), .val (.ref b1)] [])
    refine Go.of (fun t k => XS.aload X158.here hx rfl (hb hby at_109) rfl rfl k) ?_
    show Go p e below Qo T158 (mkF m 111 #[.val (.int i1), .val (.int i2), .val (.long j1), .second, .val (.int (3 : Int32)), .val (.ref b1)] [(.ref b1)])
    refine Go.of (fun t k => XS.iload X158.here hx rfl (hb hby at_111) rfl  k) ?_
    show Go p e below Qo T158 (mkF m 113 #[.val (.int i1), .val (.int i2), .val (.long j1), .second, .val (.int (3 : Int32)), .val (.ref b1)] [(.int (3 : Int32)), (.ref b1)])
    refine Go.of (fun t k => XS.iconst X158.here hx rfl (hb hby at_113) k) ?_
    show Go p e below Qo T158 (mkF m 114 #[.val (.int i1), .val (.int i2), .val (.long j1), .second, .val (.int (3 : Int32)), .val (.ref b1)] [(.int (2 : Int32)), (.int (3 : Int32)), (.ref b1)])
    refine Go.of (fun t k => XS.iadd X158.here hx rfl (hb hby at_114) rfl k) ?_
    show Go p e below Qo T158 (mkF m 115 #[.val (.int i1), .val (.int i2), .val (.long j1), .second, .val (.int (3 : Int32)), .val (.ref b1)] [(.int (5 : Int32)), (.ref b1)])
    refine Go.of (fun t k => XS.iloadN X158.here hx rfl (hb hby at_115) rfl  k) ?_
    show Go p e below Qo T158 (mkF m 116 #[.val (.int i1), .val (.int i2), .val (.long j1), .second, .val (.int (3 : Int32)), .val (.ref b1)] [(.int i1), (.int (5 : Int32)), (.ref b1)])
    refine Go.of (fun t k => XS.bipush X158.here hx rfl (hb hby at_116) k) ?_
    show Go p e below Qo T158 (mkF m 118 #[.val (.int i1), .val (.int i2), .val (.long j1), .second, .val (.int (3 : Int32)), .val (.ref b1)] [(.int (16 : Int32)), (.int i1), (.int (5 : Int32)), (.ref b1)])
    refine Go.of (fun t k => XS.iushr X158.here hx rfl (hb hby at_118) rfl k) ?_
    show Go p e below Qo T158 (mkF m 119 #[.val (.int i1), .val (.int i2), .val (.long j1), .second, .val (.int (3 : Int32)), .val (.ref b1)] [(.int ((i1.toUInt32 >>> ((16 : Int32) &&& 31).toUInt32).toInt32)), (.int (5 : Int32)), (.ref b1)])
    refine Go.of (fun t k => XS.i2b X158.here hx rfl (hb hby at_119) rfl k) ?_
    show Go p e below Qo T158 (mkF m 120 #[.val (.int i1), .val (.int i2), .val (.long j1), .second, .val (.int (3 : Int32)), .val (.ref b1)] [(.int (((i1.toUInt32 >>> ((16 : Int32) &&& 31).toUInt32).toInt32).toInt8.toInt32)), (.int (5 : Int32)), (.ref b1)])
    have cpo162 := q159
    obtain ⟨clo162, Aro162, qco162, So162, Mo162, Ho162, Go162⟩ := cpo162
    have hin163 : ¬ ((5 : Int32) < 0 ∨ clo162.slots.size ≤ (5 : Int32).toNatClampNeg) := (inb_of So162 ⟨by decide, by decide⟩)
    obtain ⟨T164, h164, X164, e164, W164, st164⟩ := stB X158 hx hZ e158 Aro162 (j := (5 : Int32)) hin163 (g := (mkF m 120 #[.val (.int i1), .val (.int i2), .val (.long j1), .second, .val (.int (3 : Int32)), .val (.ref b1)] [(.int (((i1.toUInt32 >>> ((16 : Int32) &&& 31).toUInt32).toInt32).toInt8.toInt32)), (.int (5 : Int32)), (.ref b1)])) rfl rfl (hb hby at_120)
    have q165 : Arv Z h164 b1 k1 .byte (8 : Int32) [(.int (nar .byte ((j1.toInt32).toInt8.toInt32))), (.int (nar .byte ((((j1.toUInt64 >>> ((8 : Int32) &&& 0x3f).toInt64.toUInt64).toInt64).toInt32).toInt8.toInt32))), (.int (nar .byte ((((j1.toUInt64 >>> ((16 : Int32) &&& 0x3f).toInt64.toUInt64).toInt64).toInt32).toInt8.toInt32))), (.int (nar .byte (i1.toInt8.toInt32))), (.int (nar .byte (((i1.toUInt32 >>> ((8 : Int32) &&& 31).toUInt32).toInt32).toInt8.toInt32))), (.int (nar .byte (((i1.toUInt32 >>> ((16 : Int32) &&& 31).toUInt32).toInt32).toInt8.toInt32))), (.int (nar .byte ((((j1.toUInt64 >>> ((48 : Int32) &&& 0x3f).toInt64.toUInt64).toInt64).toInt32).toInt8.toInt32))), (.int (nar .byte ((((j1.toUInt64 >>> ((56 : Int32) &&& 0x3f).toInt64.toUInt64).toInt64).toInt32).toInt8.toInt32)))] (.int (0 : Int32)) := Arv.set Aro162 qco162 So162 Mo162 Ho162 Go162 (fits_nar_byte _) W164 5 rfl (Nat.le_of_ble_eq_true rfl)
    have Z166 : n0 ≤ h164.size := Nat.le_trans Z160 (Keep.of_wr W164).1
    have N167 := Fr.snoc X164 N161 g2
    refine Go.of st164 ?_
    show Go p e below Qo T164 (mkF m 121 #[.val (.int i1), .val (.int i2), .val (.long j1), .second, .val (.int (3 : Int32)), .val (.ref b1)] [])
    refine Go.of (fun t k => XS.aload X164.here hx rfl (hb hby at_121) rfl rfl k) ?_
    show Go p e below Qo T164 (mkF m 123 #[.val (.int i1), .val (.int i2), .val (.long j1), .second, .val (.int (3 : Int32)), .val (.ref b1)] [(.ref b1)])
    refine Go.of (fun t k => XS.iload X164.here hx rfl (hb hby at_123) rfl  k) ?_
    show Go p e below Qo T164 (mkF m 125 #[.val (.int i1), .val (.int i2), .val (.long j1), .second, .val (.int (3 : Int32)), .val (.ref b1)] [(.int (3 : Int32)), (.ref b1)])
    refine Go.of (fun t k => XS.iconst X164.here hx rfl (hb hby at_125) k) ?_
    show Go p e below Qo T164 (mkF m 126 #[.val (.int i1), .val (.int i2), .val (.long j1), .second, .val (.int (3 : Int32)), .val (.ref b1)] [(.int (3 : Int32)), (.int (3 : Int32)), (.ref b1)])
    refine Go.of (fun t k => XS.iadd X164.here hx rfl (hb hby at_126) rfl k) ?_
    show Go p e below Qo T164 (mkF m 127 #[.val (.int i1), .val (.int i2), .val (.long j1), .second, .val (.int (3 : Int32)), .val (.ref b1)] [(.int (6 : Int32)), (.ref b1)])
    refine Go.of (fun t k => XS.iloadN X164.here hx rfl (hb hby at_127) rfl  k) ?_
    show Go p e below Qo T164 (mkF m 128 #[.val (.int i1), .val (.int i2), .val (.long j1), .second, .val (.int (3 : Int32)), .val (.ref b1)] [(.int i1), (.int (6 : Int32)), (.ref b1)])
    refine Go.of (fun t k => XS.bipush X164.here hx rfl (hb hby at_128) k) ?_
    show Go p e below Qo T164 (mkF m 130 #[.val (.int i1), .val (.int i2), .val (.long j1), .second, .val (.int (3 : Int32)), .val (.ref b1)] [(.int (24 : Int32)), (.int i1), (.int (6 : Int32)), (.ref b1)])
    refine Go.of (fun t k => XS.iushr X164.here hx rfl (hb hby at_130) rfl k) ?_
    show Go p e below Qo T164 (mkF m 131 #[.val (.int i1), .val (.int i2), .val (.long j1), .second, .val (.int (3 : Int32)), .val (.ref b1)] [(.int ((i1.toUInt32 >>> ((24 : Int32) &&& 31).toUInt32).toInt32)), (.int (6 : Int32)), (.ref b1)])
    refine Go.of (fun t k => XS.i2b X164.here hx rfl (hb hby at_131) rfl k) ?_
    show Go p e below Qo T164 (mkF m 132 #[.val (.int i1), .val (.int i2), .val (.long j1), .second, .val (.int (3 : Int32)), .val (.ref b1)] [(.int (((i1.toUInt32 >>> ((24 : Int32) &&& 31).toUInt32).toInt32).toInt8.toInt32)), (.int (6 : Int32)), (.ref b1)])
    have cpo168 := q165
    obtain ⟨clo168, Aro168, qco168, So168, Mo168, Ho168, Go168⟩ := cpo168
    have hin169 : ¬ ((6 : Int32) < 0 ∨ clo168.slots.size ≤ (6 : Int32).toNatClampNeg) := (inb_of So168 ⟨by decide, by decide⟩)
    obtain ⟨T170, h170, X170, e170, W170, st170⟩ := stB X164 hx hZ e164 Aro168 (j := (6 : Int32)) hin169 (g := (mkF m 132 #[.val (.int i1), .val (.int i2), .val (.long j1), .second, .val (.int (3 : Int32)), .val (.ref b1)] [(.int (((i1.toUInt32 >>> ((24 : Int32) &&& 31).toUInt32).toInt32).toInt8.toInt32)), (.int (6 : Int32)), (.ref b1)])) rfl rfl (hb hby at_132)
    have q171 : Arv Z h170 b1 k1 .byte (8 : Int32) [(.int (nar .byte ((j1.toInt32).toInt8.toInt32))), (.int (nar .byte ((((j1.toUInt64 >>> ((8 : Int32) &&& 0x3f).toInt64.toUInt64).toInt64).toInt32).toInt8.toInt32))), (.int (nar .byte ((((j1.toUInt64 >>> ((16 : Int32) &&& 0x3f).toInt64.toUInt64).toInt64).toInt32).toInt8.toInt32))), (.int (nar .byte (i1.toInt8.toInt32))), (.int (nar .byte (((i1.toUInt32 >>> ((8 : Int32) &&& 31).toUInt32).toInt32).toInt8.toInt32))), (.int (nar .byte (((i1.toUInt32 >>> ((16 : Int32) &&& 31).toUInt32).toInt32).toInt8.toInt32))), (.int (nar .byte (((i1.toUInt32 >>> ((24 : Int32) &&& 31).toUInt32).toInt32).toInt8.toInt32))), (.int (nar .byte ((((j1.toUInt64 >>> ((56 : Int32) &&& 0x3f).toInt64.toUInt64).toInt64).toInt32).toInt8.toInt32)))] (.int (0 : Int32)) := Arv.set Aro168 qco168 So168 Mo168 Ho168 Go168 (fits_nar_byte _) W170 6 rfl (Nat.le_of_ble_eq_true rfl)
    have Z172 : n0 ≤ h170.size := Nat.le_trans Z166 (Keep.of_wr W170).1
    have N173 := Fr.snoc X170 N167 g2
    refine Go.of st170 ?_
    show Go p e below Qo T170 (mkF m 133 #[.val (.int i1), .val (.int i2), .val (.long j1), .second, .val (.int (3 : Int32)), .val (.ref b1)] [])
    refine Go.of (fun t k => XS.aload X170.here hx rfl (hb hby at_133) rfl rfl k) ?_
    show Go p e below Qo T170 (mkF m 135 #[.val (.int i1), .val (.int i2), .val (.long j1), .second, .val (.int (3 : Int32)), .val (.ref b1)] [(.ref b1)])
    refine Go.of (fun t k => XS.iload X170.here hx rfl (hb hby at_135) rfl  k) ?_
    show Go p e below Qo T170 (mkF m 137 #[.val (.int i1), .val (.int i2), .val (.long j1), .second, .val (.int (3 : Int32)), .val (.ref b1)] [(.int (3 : Int32)), (.ref b1)])
    obtain ⟨_, _, ⟨T174, L174, k174, n174⟩, -, X174, ⟨Lc174, hQ174, l174, y174, z174⟩, st174⟩ := Jvm.LawKit.callS X170 hx (y := (⟨"com/example/mimosa/mimosa/bson/BsonDocument", "readInt32", "([BI)I"⟩ : MethodName)) hown (mvT hZ (hw _ (List.mem_of_getElem? (i := 1) rfl))) (mvT hZ (hw _ (List.mem_of_getElem? (i := 2) rfl))) (mvT hZ (hw _ (List.mem_of_getElem? (i := 3) rfl))) (mvT hZ (hw _ (List.mem_of_getElem? (i := 4) rfl))) (by decide) (backOf (W := 0) (rm13 l Z a0 hw [] b1 (3 : Int32) k1 (nar .byte ((j1.toInt32).toInt8.toInt32)) (nar .byte ((((j1.toUInt64 >>> ((8 : Int32) &&& 0x3f).toInt64.toUInt64).toInt64).toInt32).toInt8.toInt32)) (nar .byte ((((j1.toUInt64 >>> ((16 : Int32) &&& 0x3f).toInt64.toUInt64).toInt64).toInt32).toInt8.toInt32)) (nar .byte (i1.toInt8.toInt32)) (nar .byte (((i1.toUInt32 >>> ((8 : Int32) &&& 31).toUInt32).toInt32).toInt8.toInt32)) (nar .byte (((i1.toUInt32 >>> ((16 : Int32) &&& 31).toUInt32).toInt32).toInt8.toInt32)) (nar .byte (((i1.toUInt32 >>> ((24 : Int32) &&& 31).toUInt32).toInt32).toInt8.toInt32)) (nar .byte ((((j1.toUInt64 >>> ((56 : Int32) &&& 0x3f).toInt64.toUInt64).toInt64).toInt32).toInt8.toInt32)) h170 n0 Z172 q171 (by first | rfl | assumption | decide)) hZ (hw _ (List.mem_of_getElem? (i := 4) rfl)) (hw _ (List.mem_of_getElem? (i := 3) rfl)) (by decide) (by decide)) (g := (mkF m 137 #[.val (.int i1), .val (.int i2), .val (.long j1), .second, .val (.int (3 : Int32)), .val (.ref b1)] [(.int (3 : Int32)), (.ref b1)])) rfl (by rw [hml]; rfl) (argsL := [(.ref b1), (.int (3 : Int32))]) (rest := []) (lenOf pd_0 rfl) rfl (by show 2 * 0 + _ ≤ _; exact Nat.le_of_eq rfl) (hb hby at_137) (fun _ _ => ⟨rfl, e170, (by decide : 1 + 0 ≤ _), (by decide : 8 + 0 ≤ _)⟩)
    dsimp only [Pt.U, Pt.locs, Pt.cells, Pt.slots] at X174 l174 y174 z174 st174 hQ174
    subst l174 y174 z174
    obtain ⟨rfl, N175, eh176⟩ := hQ174
    have N177 := Fr.app N173 N175
    refine Go.of st174 ?_
    show Go p e below Qo T174 (mkF m 140 #[.val (.int i1), .val (.int i2), .val (.long j1), .second, .val (.int (3 : Int32)), .val (.ref b1)] [(.int (F13 (nar .byte (i1.toInt8.toInt32)) (nar .byte (((i1.toUInt32 >>> ((8 : Int32) &&& 31).toUInt32).toInt32).toInt8.toInt32)) (nar .byte (((i1.toUInt32 >>> ((16 : Int32) &&& 31).toUInt32).toInt32).toInt8.toInt32)) (nar .byte (((i1.toUInt32 >>> ((24 : Int32) &&& 31).toUInt32).toInt32).toInt8.toInt32))))])
    refine Go.of (fun t k => XS.iloadN X174.here hx rfl (hb hby at_140) rfl  k) ?_
    show Go p e below Qo T174 (mkF m 141 #[.val (.int i1), .val (.int i2), .val (.long j1), .second, .val (.int (3 : Int32)), .val (.ref b1)] [(.int i1), (.int (F13 (nar .byte (i1.toInt8.toInt32)) (nar .byte (((i1.toUInt32 >>> ((8 : Int32) &&& 31).toUInt32).toInt32).toInt8.toInt32)) (nar .byte (((i1.toUInt32 >>> ((16 : Int32) &&& 31).toUInt32).toInt32).toInt8.toInt32)) (nar .byte (((i1.toUInt32 >>> ((24 : Int32) &&& 31).toUInt32).toInt32).toInt8.toInt32))))])
    have J141_180 : ∀ (v141_179 : Int32), v141_179 = (if (F13 (nar .byte (i1.toInt8.toInt32)) (nar .byte (((i1.toUInt32 >>> ((8 : Int32) &&& 31).toUInt32).toInt32).toInt8.toInt32)) (nar .byte (((i1.toUInt32 >>> ((16 : Int32) &&& 31).toUInt32).toInt32).toInt8.toInt32)) (nar .byte (((i1.toUInt32 >>> ((24 : Int32) &&& 31).toUInt32).toInt32).toInt8.toInt32))) = i1 then (1 : Int32) else (0 : Int32)) → Go p e below Qo T174 (mkF m 149 #[.val (.int i1), .val (.int i2), .val (.long j1), .second, .val (.int (3 : Int32)), .val (.ref b1)] [(.int v141_179)]) := by
      intro v141_179 hv141_179
      show Go p e below Qo T174 (mkF m 149 #[.val (.int i1), .val (.int i2), .val (.long j1), .second, .val (.int (3 : Int32)), .val (.ref b1)] [(.int v141_179)])
      have hfin : v141_179 = 1 := by
        exact hv141_179.trans (if_pos ((own_same3 _ _ _ _).trans (own_law _)))
      exact own_retN X174 hx Bd.notSynchronized (t := .boolean) Bd.returns (by simp) (hb hby at_149) (fun u hu hF => hQo _ _ _ ⟨by rw [hfin]; rfl, N177⟩ (own_mono hF (by decide) (by decide)))
    by_cases hc141_181 : (F13 (nar .byte (i1.toInt8.toInt32)) (nar .byte (((i1.toUInt32 >>> ((8 : Int32) &&& 31).toUInt32).toInt32).toInt8.toInt32)) (nar .byte (((i1.toUInt32 >>> ((16 : Int32) &&& 31).toUInt32).toInt32).toInt8.toInt32)) (nar .byte (((i1.toUInt32 >>> ((24 : Int32) &&& 31).toUInt32).toInt32).toInt8.toInt32))) = i1
    · refine Go.of (fun t k => XS.icmpNo X174.here hx rfl (hb hby at_141) rfl (teq hc141_181).2 k) ?_
      show Go p e below Qo T174 (mkF m 144 #[.val (.int i1), .val (.int i2), .val (.long j1), .second, .val (.int (3 : Int32)), .val (.ref b1)] [])
      refine Go.of (fun t k => XS.iconst X174.here hx rfl (hb hby at_144) k) ?_
      show Go p e below Qo T174 (mkF m 145 #[.val (.int i1), .val (.int i2), .val (.long j1), .second, .val (.int (3 : Int32)), .val (.ref b1)] [(.int (1 : Int32))])
      refine Go.of (fun t k => XS.goto X174.here hx rfl (pc0 := 145) (pc' := 149) rfl (hb hby at_145) (by decide) (by decide) k) ?_
      show Go p e below Qo T174 (mkF m 149 #[.val (.int i1), .val (.int i2), .val (.long j1), .second, .val (.int (3 : Int32)), .val (.ref b1)] [(.int (1 : Int32))])
      exact J141_180 _ (by first | rfl | (rw [if_pos hc141_181]) | (simp only [hc141_181, if_true, if_false]; done) | simp [hc141_181])
    · refine Go.of (fun t k => XS.icmpYes X174.here hx rfl (pc0 := 141) (pc' := 148) rfl (hb hby at_141) rfl (feq hc141_181).2 (by decide) (by decide) k) ?_
      show Go p e below Qo T174 (mkF m 148 #[.val (.int i1), .val (.int i2), .val (.long j1), .second, .val (.int (3 : Int32)), .val (.ref b1)] [])
      refine Go.of (fun t k => XS.iconst X174.here hx rfl (hb hby at_148) k) ?_
      show Go p e below Qo T174 (mkF m 149 #[.val (.int i1), .val (.int i2), .val (.long j1), .second, .val (.int (3 : Int32)), .val (.ref b1)] [(.int (0 : Int32))])
      exact J141_180 _ (by first | rfl | (rw [if_neg hc141_181]) | (simp only [hc141_181, if_true, if_false]; done) | simp [hc141_181])
set_option maxRecDepth 65536 in
set_option maxHeartbeats 40000000 in
theorem comes_1 {Post : Tables → Env → Array Value → State → Outcome → State → Prop} (hpost : ∀ tb e args s v u, (limb_1_1.after args s (.returned v) u = true ∧ limb_1_2.after args s (.returned v) u = true ∧ True) → FrameEnd s (.returned v) u (Jvm.fieldLocs frame_1_writes args s ++ Jvm.arrayLocs frame_1_arrays args s ++ Jvm.staticLocs frame_1_statics s) 16 128 → Post tb e args s (.returned v) u) :
    ArmFor flags0 classFile x code maxLocals ret World_1 tables_1 room_1 Calls_1 rest_1 Pre_1 Post := by
  intro l hfl _ _ p e ha hc hk s m args below hf hA hF happ hP
  obtain ⟨hcalls, hrest, hpre⟩ := hP
  obtain ⟨-, -, -, hnamed, -, -, -, hat⟩ := (Spec.applies_iff hf).mp happ
  obtain ⟨hg, hn⟩ := and_e (Cond.before_iff.mp (show (Jvm.Cond.and given_1 narrow_1).before args s = true from hpre))
  obtain ⟨hg0, hgr0⟩ := and_e hg
  obtain ⟨ha0, hgr1⟩ := and_e hgr0
  obtain ⟨ha1, hgr2⟩ := and_e hgr1
  obtain ⟨w0, w1, w2, rfl⟩ : ∃ w0 w1 w2 : Value, args = #[w0, w1, w2] := by
    have hs : args.size = 3 := by simpa [Cond.value, given_1] using hg0
    obtain ⟨L⟩ := args
    match L, hs with
    | [w0, w1, w2], _ => exact ⟨w0, w1, w2, rfl⟩
  have hw := fun d (hd : d ∈ tables_1) => atoms_spec (ws := Jvm.Cond.code x code maxLocals ret :: tables_1) hat d (List.mem_cons_of_mem _ hd)
  have hfit : Fit s := fun {y c} hc i hi => by
    obtain ⟨ha, rfl⟩ := Array.getElem?_eq_some_iff.mp hc
    have q := List.all_eq_true.mp ((Array.all_eq_true_iff_forall_mem.mp hF) _ (Array.getElem_mem ha)) i (List.mem_range.mpr hi)
    simpa [Array.getElem?_eq_getElem hi] using q
  obtain ⟨i0, ei0⟩ := is_v ha0
  obtain rfl : w0 = (.int i0) := Option.some.inj ei0
  obtain ⟨i1, ei1⟩ := is_v ha1
  obtain rfl : w1 = (.int i1) := Option.some.inj ei1
  obtain ⟨i2, ei2⟩ := isL_v hgr2
  obtain rfl : w2 = (.long i2) := Option.some.inj ei2
  obtain ⟨n, o, h1, h2, h3, _, L, rfl, ⟨rfl, N⟩, hq⟩ := rm0 l s _ hw tables_1 i0 i1 i2  s.heap s.heap.size (Nat.le_refl _)  p e ha hc hk s m _ below hf ((Spec.applies_iff_loose hf).mp happ).1 ⟨rfl, State.Warmed39.refl s, rfl⟩ trivial
  refine ⟨n, _, h1, h2, h3, hpost _ _ _ _ _ _ ⟨Cond.after_iff.mpr rfl, Cond.after_iff.mpr (eq_i res_at (Term.int_eval (1)) rfl), trivial⟩ ⟨hq.1, hq.2.1, (hq.2.2.sift fun y hy => Or.inr (N y hy)).mono (by decide) (by decide)⟩⟩
theorem main_1_1 : Claimed_1_1 := comes_1 fun _ _ _ _ _ _ h hF => ⟨h.1, hF⟩
theorem main_1_2 : Claimed_1_2 := comes_1 fun _ _ _ _ _ _ h hF => ⟨h.2.1, hF⟩
end Jvm.Pilot.@@N@@
namespace Jvm.Pilot.@@N@@
open Jvm Jvm.ClassFile Sem Op Lib Jvm.Free Jvm.Stand Jvm.Pilot.@@N@@.Jvm.D
/-! MADE BY PROGRAM (witnessworld.py) out of the Statement's table words and the real class files: 9 classes; the members and pool entries that the words name. The judged class is class 1, her method 1. -/
namespace start1
open Jvm.ClassFile
def u (s : String) : CpInfo := .utf8 (stringToUtf16 s)
/-- a pool by its gaps: so many unusable entries, then the entry; so many at the end -/
def gap : Nat → List CpInfo → List CpInfo
  | 0, r => r
  | n + 1, r => .unusable :: gap n r
def poolList (es : List (Nat × CpInfo)) (last : Nat) : List CpInfo := es.foldr (fun e r => gap e.1 (e.2 :: r)) (gap last [])
def pool (es : List (Nat × CpInfo)) (last : Nat) : Array CpInfo := ⟨poolList es last⟩
def fileOf (pool : Array CpInfo) (this : Nat) (attrs : Array Attribute := #[]) (ms : Array MethodInfo := #[]) (fl : Nat := 33) (sup : Nat := 0) (ifs : Array Nat := #[]) (fds : Array FieldInfo := #[]) : ClassFile where
  minorVersion := 0
  majorVersion := 65
  constantPool := pool
  accessFlags := fl
  thisClass := this
  superClass := sup
  interfaces := ifs
  fields := fds
  methods := ms
  attributes := attrs
def plain (name : String) (sup : Option ClassId) : Class where
  name := name
  kind := .ordinary
  loader := none
  accessFlags := 33
  super := sup
  interfaces := #[]
  cf := none
  fields := #[]
  methods := #[]
  instanceTypes := #[]
  staticTypes := #[]
  resolved := #[]
  callSites := []
  init := .initialized
  statics := none
  mirror := none

def pool0 : Array CpInfo := pool [(5, u "<init>"), (0, u "()V"), (1, .class_ 10), (1, u "java/lang/Object")] 113

def k0m0 : Method := { name := "<init>", desc := "()V", sig := { parameters := [], returnType := none }, accessFlags := 1, code := none }
/-- java/lang/Object -/
def k0 : Class := { plain "java/lang/Object" none with
  accessFlags := 33
  interfaces := #[]
  cf := some (fileOf pool0 8 #[] #[{ accessFlags := 1, nameIndex := 5, descriptorIndex := 6, attributes := #[] }] 33 0 #[] #[])
  fields := #[]
  methods := #[k0m0]
  instanceTypes := #[]
  staticTypes := #[]
  resolved := Array.replicate 124 none
  statics := none }

def pool1 : Array CpInfo := pool [(2, .class_ 4), (1, u "java/lang/Object"), (0, u "<init>"), (0, u "()V"), (0, .methodref 8 9), (0, .class_ 10), (0, .nameAndType 11 12), (0, u "com/example/mimosa/mimosa/bson/BsonDocument"), (0, u "readInt32"), (0, u "([BI)I"), (0, .class_ 14), (0, u "com/example/mimosa/mimosa/bson/BsonDocumentReadInt32PinLaw"), (2, u "law"), (0, u "(IIJ)Z")] 5

def k1m0 : Method := { name := "<init>", desc := "()V", sig := { parameters := [], returnType := none }, accessFlags := 2, code := none }
def k1c1 : Code := { maxStack := 5, maxLocals := 6, code := code, exceptionTable := #[], attributes := #[] }
def k1m1 : Method := { name := "law", desc := "(IIJ)Z", sig := { parameters := [.int, .int, .long], returnType := some .boolean }, accessFlags := 9, code := some k1c1 }
/-- com/example/mimosa/mimosa/bson/BsonDocumentReadInt32PinLaw -/
def k1 : Class := { plain "com/example/mimosa/mimosa/bson/BsonDocumentReadInt32PinLaw" (some 0) with
  accessFlags := 49
  interfaces := #[]
  cf := some (fileOf pool1 13 #[] #[{ accessFlags := 2, nameIndex := 5, descriptorIndex := 6, attributes := #[] }, { accessFlags := 9, nameIndex := 17, descriptorIndex := 18, attributes := #[] }] 49 2 #[] #[])
  fields := #[]
  methods := #[k1m0, k1m1]
  instanceTypes := #[]
  staticTypes := #[]
  resolved := Array.replicate 24 none
  statics := none }

def pool2 : Array CpInfo := pool [(2, .class_ 4), (1, u "java/lang/Object"), (3, .class_ 10), (1, u "com/example/mimosa/mimosa/bson/BsonDocument"), (0, u "bytes"), (0, u "[B"), (185, u "readInt32"), (0, u "([BI)I"), (8, .class_ 210), (1, u "com/example/mimosa/mimosa/bson/BsonDocument$1"), (90, .class_ 302), (0, u "com/example/mimosa/mimosa/bson/BsonDocument$Walk"), (3, u "MIN_LENGTH"), (0, u "I"), (2, u "MAX_DEPTH"), (1, u "OLD_BINARY"), (1, u "OBJECT_BYTES")] 94

def k2c0 : Code := { maxStack := 4, maxLocals := 2, code := prog_12_method_39_code, exceptionTable := #[], attributes := #[] }
def k2m0 : Method := { name := "readInt32", desc := "([BI)I", sig := { parameters := [(.array .byte), .int], returnType := some .int }, accessFlags := 8, code := some k2c0 }
/-- com/example/mimosa/mimosa/bson/BsonDocument -/
def k2 : Class := { plain "com/example/mimosa/mimosa/bson/BsonDocument" (some 0) with
  accessFlags := 49
  interfaces := #[]
  cf := some (fileOf pool2 8 #[.nestMembers #[208, 301]] #[{ accessFlags := 8, nameIndex := 198, descriptorIndex := 199, attributes := #[] }] 49 2 #[] #[{ accessFlags := 25, nameIndex := 306, descriptorIndex := 307, attributes := #[] }, { accessFlags := 25, nameIndex := 310, descriptorIndex := 307, attributes := #[] }, { accessFlags := 26, nameIndex := 312, descriptorIndex := 307, attributes := #[] }, { accessFlags := 26, nameIndex := 314, descriptorIndex := 307, attributes := #[] }, { accessFlags := 18, nameIndex := 11, descriptorIndex := 12, attributes := #[] }])
  fields := #[{ name := "MIN_LENGTH", type := .int, accessFlags := 25, slot := 0, constantValue := 0 }, { name := "MAX_DEPTH", type := .int, accessFlags := 25, slot := 1, constantValue := 0 }, { name := "OLD_BINARY", type := .int, accessFlags := 26, slot := 2, constantValue := 0 }, { name := "OBJECT_BYTES", type := .int, accessFlags := 26, slot := 3, constantValue := 0 }, { name := "bytes", type := (.array .byte), accessFlags := 18, slot := 0, constantValue := 0 }]
  methods := #[k2m0]
  instanceTypes := #[(.array .byte)]
  staticTypes := #[.int, .int, .int, .int]
  resolved := Array.replicate 409 none
  statics := none }

def pool3 : Array CpInfo := pool [(1, u "java/lang/Cloneable"), (0, .class_ 1), (0, u "java/lang/Object"), (0, .class_ 3)] 3

/-- java/lang/Cloneable -/
def k3 : Class := { plain "java/lang/Cloneable" (some 0) with
  accessFlags := 1537
  interfaces := #[]
  cf := some (fileOf pool3 2 #[] #[] 1537 4 #[] #[])
  fields := #[]
  methods := #[]
  instanceTypes := #[]
  staticTypes := #[]
  resolved := Array.replicate 8 none
  statics := none }

def pool4 : Array CpInfo := pool [(1, u "java/io/Serializable"), (0, .class_ 1), (0, u "java/lang/Object"), (0, .class_ 3)] 3

/-- java/io/Serializable -/
def k4 : Class := { plain "java/io/Serializable" (some 0) with
  accessFlags := 1537
  interfaces := #[]
  cf := some (fileOf pool4 2 #[] #[] 1537 4 #[] #[])
  fields := #[]
  methods := #[]
  instanceTypes := #[]
  staticTypes := #[]
  resolved := Array.replicate 8 none
  statics := none }

/-- the primitive byte -/
def k5 : Class := { plain "byte" none with kind := .primitive 'B', accessFlags := 0x411 }
/-- [B -/
def k6 : Class := { plain "[B" (some 0) with kind := .array 5 .byte, interfaces := #[3, 4], accessFlags := 1041 }

/-- the primitive int -/
def k7 : Class := { plain "int" none with kind := .primitive 'I', accessFlags := 0x411 }
/-- [I -/
def k8 : Class := { plain "[I" (some 0) with kind := .array 7 .int, interfaces := #[3, 4], accessFlags := 1041 }

def heap : Heap := #[]
def classes : Array Class := #[k0, k1, k2, k3, k4, k5, k6, k7, k8]
def interned : List (Array UInt16 × Addr) := []
def slotsUsed : Nat := 0
def theMethod : MethodId := ⟨1, 1⟩
def args0 : Array Value := #[.int 5, .int 7, .long 9]
def aboutOver (below : List Frame) : State where
  vm := { classes := classes, interned := interned.toArray }
  heap := heap
  slotsUsed := slotsUsed
  threads := #[{ frames := .invoking theMethod args0 :: below }]
def below0 : List Frame := [.native { method := ⟨0, 0⟩, args := #[] }]
def about1 : State := aboutOver below0
def p0 : Program := .bare "" "" ""
def e0 : Env := launch0.env 0 0 0
theorem w_frames : about1.frames = Frame.invoking theMethod args0 :: below0 := rfl
set_option maxRecDepth 65536 in
theorem w_args : argsFit about1.vm theMethod args0 = true := by decide +kernel
set_option maxRecDepth 65536 in
theorem w_heap : heapFits about1 = true := by decide +kernel
set_option maxRecDepth 65536 in
theorem w_runnable : about1.curStatus? = some .runnable := by decide +kernel
set_option maxRecDepth 65536 in
theorem w_alone : about1.alone = true := by decide +kernel
set_option maxRecDepth 65536 in
theorem w_named : about1.methodNamed? x = some theMethod := by decide +kernel
set_option maxRecDepth 65536 in
theorem w_hears : about1.hears theMethod below0 = true := by decide +kernel
set_option maxRecDepth 65536 in
theorem w_ripe : about1.ripe theMethod args0 below0 = true := by decide +kernel
theorem w_running : about1.status = .running := rfl
set_option maxRecDepth 65536 in
theorem w_room : about1.hasRoom e0.platform room_1 = true :=
  launch0.hasRoom_least _ room_1 (by decide +kernel) (by decide +kernel) (by decide +kernel) (by decide +kernel) (by decide +kernel) (by decide +kernel)
theorem allAtoms_all (ts : List Jvm.Cond) (a : Array Jvm.Value) (st : Jvm.State) : (allAtoms ts).before a st = ts.all (fun c => c.before a st) := by
  induction ts with
  | nil => rfl
  | cons c t ih =>
    show (Jvm.Cond.and c (allAtoms t)).before a st = _
    rw [Jvm.Cond.before_and, ih, List.all_cons]
def words1 : List Jvm.Cond := Jvm.Cond.code x code maxLocals ret :: tables_1
/-- a 'code' word, met by the world's own term for the bytes: nothing is compared byte by byte -/
theorem code_word {y : MethodName} {bytes : ByteArray} {mx : Nat} {rt : Option FieldType} {a : Array Value} {s : State} {m : MethodId} {meth : Method} {c : Code} (h1 : s.methodNamed? y = some m) (h2 : s.vm.method? m = some meth) (h3 : meth.code = some c) (h4 : c.code = bytes)
    (h5 : (c.maxLocals == mx && c.exceptionTable.isEmpty && decide (c.maxStack ≤ mostOperands) && decide (meth.sig.returnType = rt) && !meth.locks && decide (parseMethodDescriptor y.desc = some meth.sig)) = true) : (Jvm.Cond.code y bytes mx rt).before a s = true := by
  simp only [Bool.and_eq_true, beq_iff_eq, Bool.not_eq_true', decide_eq_true_eq] at h5
  obtain ⟨⟨⟨⟨⟨g1, g2⟩, g3⟩, g4⟩, g5⟩, g6⟩ := h5
  simp [Cond.before, Cond.holds, Cond.value, h1, h2, h3, h4, g1, g2, g3, g4, g5, g6]
def isCode : Jvm.Cond → Bool
  | .code _ _ _ _ => true
  | _ => false
theorem all_split {L : List Jvm.Cond} {P : Jvm.Cond → Bool} (h1 : L.all (fun c => isCode c || P c) = true) (h2 : ∀ c ∈ L.filter isCode, P c = true) : L.all P = true := by
  refine List.all_eq_true.mpr fun c hc => ?_
  have h := List.all_eq_true.mp h1 c hc
  rcases Bool.eq_false_or_eq_true (isCode c) with hi | hi
  · exact h2 c (List.mem_filter.mpr ⟨hc, hi⟩)
  · simpa [hi] using h
set_option maxRecDepth 65536 in
theorem w_c0 : (Jvm.Cond.code x code maxLocals ret).before args0 about1 = true := code_word (m := ⟨1, 1⟩) (meth := k1m1) (c := k1c1) (by decide +kernel) rfl rfl rfl (by decide +kernel)
set_option maxRecDepth 65536 in
theorem w_c1 : (Jvm.Cond.code ({ cls := "com/example/mimosa/mimosa/bson/BsonDocument", name := "readInt32", desc := "([BI)I" } : Jvm.MethodName) prog_12_method_39_code (2 : Nat) (Option.some Jvm.ClassFile.FieldType.int)).before args0 about1 = true := code_word (m := ⟨2, 0⟩) (meth := k2m0) (c := k2c0) (by decide +kernel) rfl rfl rfl (by decide +kernel)
def codes1 : List Jvm.Cond := [Jvm.Cond.code x code maxLocals ret, Jvm.Cond.code ({ cls := "com/example/mimosa/mimosa/bson/BsonDocument", name := "readInt32", desc := "([BI)I" } : Jvm.MethodName) prog_12_method_39_code (2 : Nat) (Option.some Jvm.ClassFile.FieldType.int)]
set_option maxRecDepth 65536 in
theorem codes_eq : words1.filter isCode = codes1 := rfl
theorem w_codes : ∀ c ∈ words1.filter isCode, c.before args0 about1 = true := by
  rw [codes_eq]
  intro c hc
  simp only [codes1, List.mem_cons, List.not_mem_nil, or_false] at hc
  rcases hc with rfl | rfl
  · exact w_c0
  · exact w_c1
set_option maxRecDepth 65536 in
theorem w_t1 : words1.all (fun c => isCode c || c.before args0 about1) = true := by decide +kernel
theorem w_tables : (allAtoms (Jvm.Cond.code x code maxLocals ret :: tables_1)).before args0 about1 = true := by
  rw [allAtoms_all]
  show words1.all (fun c => c.before args0 about1) = true
  refine all_split ?_ w_codes
  rw [w_t1]
set_option maxRecDepth 65536 in
theorem w_case : (Jvm.Cond.and given_1 narrow_1).before args0 about1 = true := by decide +kernel
theorem w_applies : (headSpec (Jvm.Cond.code x code maxLocals ret :: tables_1) room_1).applies x e0.platform about1 = true :=
  (Spec.applies_iff w_frames).mpr ⟨w_running, w_runnable, w_alone, w_named, w_hears, w_ripe, w_room, w_tables⟩
theorem atStart : AtStart classFile x code maxLocals ret World_1 tables_1 room_1 Calls_1 rest_1 Pre_1 launch0 p0 e0 about1 theMethod args0 below0 :=
  ⟨lists_1, trivial, launch0.admits_env _ _ _, launch0.least_env, fairChoices_fair.cas, fairChoices_fair.clock, w_frames, w_args, w_heap, w_applies, trivial, trivial, w_case⟩
end start1
theorem witness_1 : WitnessClaimed_1 := ⟨start1.p0, start1.e0, start1.about1, start1.theMethod, start1.args0, start1.below0, start1.atStart⟩
end Jvm.Pilot.@@N@@
