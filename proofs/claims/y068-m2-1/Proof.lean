import JvmDerived
import JvmDerived.Pilot.@@N@@Statement
import JvmDerived.Pilot.@@N@@Code
set_option linter.unusedVariables false
set_option linter.unusedSimpArgs false
namespace Jvm.Pilot.@@N@@
open Jvm Jvm.ClassFile Sem Op Lib Jvm.Free Jvm.Stand Jvm.LawKit Jvm.RoadKit Bundle Jvm.Pilot.@@N@@.Jvm.D
/-! the run comes to an end that answers Q -/
def Go (p : Program) (e : Env) (below : List Frame) (Q : Outcome → State → Prop) (T : State) (g : JFrame) : Prop :=
  ∃ s₂ o, Steps p.tables e below (T.setTop g) s₂ ∧ s₂.status = .running ∧ Ended s₂ below o ∧ Q o s₂
section Own
variable {p : Program} {l : Launch} {e : Env} {R : Room} {s : State} {m : MethodId} {args : Array Value} {below : List Frame} {meth : Method} {c : Code} {T T' : State} {locs : List Loc} {cells slots : Nat} {Q : Outcome → State → Prop} {g g' : JFrame}
theorem Go.of (k : ∀ t, Steps p.tables e below (T'.setTop g') t → Steps p.tables e below (T.setTop g) t) (h : Go p e below Q T' g') : Go p e below Q T g := by
  obtain ⟨u, o, h1, h2⟩ := h
  exact ⟨u, o, k _ h1, h2⟩
theorem Go.via (k : Steps p.tables e below (T.setTop g) (T'.setTop g')) (h : Go p e below Q T' g') : Go p e below Q T g := by
  obtain ⟨u, o, h1, h2⟩ := h
  exact ⟨u, o, k.trans h1, h2⟩
theorem Go.cast (q : g = g') (h : Go p e below Q T g') : Go p e below Q T g := q ▸ h
theorem own_out (X : Stand p l e R s m args below meth c T locs cells slots) {v : Option Value} (hv : meth.sig.returnType = none → v = none) (hlocks : meth.locks = false)
    (k : ∀ fs : List Frame, (∀ (f : JFrame) (acts : List Action), f.method = m → f.locked = none → f.entered = [] → (doReturn e (T.setTop f) acts v).1 = T.setFrames fs) → Steps p.tables e below (T.setTop g) (T.setFrames fs))
    (hQ : ∀ u : State, u.heap = T.heap → FrameEnd s (.returned v) u locs cells slots → Q (.returned v) u) : Go p e below Q T g := by
  obtain ⟨fs, hr, hrun, hended, hW, hsame⟩ := X.leave hv hlocks
  exact ⟨_, _, k fs hr, hrun, hended, hQ _ rfl ⟨⟨_, rfl⟩, hW, hsame⟩⟩
theorem own_retN (X : Stand p l e R s m args below meth c T locs cells slots) (hx : p.tables.exec = Jvm.exec) (hlocks : meth.locks = false) {pc : Nat} {Ls : Array Slot} {z : Int32} {t : FieldType} {rest : List Value} (hret : meth.sig.returnType = some t) (ht : t = .boolean ∨ t = .byte ∨ t = .char ∨ t = .short)
    (hd : decode c.code pc = .ok (.ireturn, 1)) (hQ : ∀ u : State, u.heap = T.heap → FrameEnd s (.returned (some (.int (nar t z)))) u locs cells slots → Q (.returned (some (.int (nar t z)))) u) : Go p e below Q T (mkF m pc Ls (.int z :: rest)) :=
  own_out X (fun h => by rw [hret] at h; cases h) hlocks (fun fs hr => retN X hx hret ht hd hr) hQ
theorem own_retW (X : Stand p l e R s m args below meth c T locs cells slots) (hx : p.tables.exec = Jvm.exec) (hlocks : meth.locks = false) {pc : Nat} {Ls : Array Slot} {w : Value} {t : FieldType} {i : Instr} {rest : List Value} (hret : meth.sig.returnType = some t) (hn : narrow t w = w)
    (hi : (i = .ireturn ∧ (t = .int ∨ t = .boolean ∨ t = .byte ∨ t = .char ∨ t = .short) ∧ ∃ z, w = .int z) ∨ (i = .lreturn ∧ t = .long ∧ ∃ z, w = .long z) ∨ (i = .dreturn ∧ t = .double ∧ ∃ z, w = .double z) ∨ (i = .freturn ∧ t = .float ∧ ∃ z, w = .float z) ∨ (i = .areturn ∧ t.isReference = true ∧ w.isRef = true))
    (hd : decode c.code pc = .ok (i, 1)) (hQ : ∀ u : State, u.heap = T.heap → FrameEnd s (.returned (some w)) u locs cells slots → Q (.returned (some w)) u) : Go p e below Q T (mkF m pc Ls (w :: rest)) :=
  own_out X (fun h => by rw [hret] at h; cases h) hlocks (fun fs hr => retOut X hx hret hn hi hd hr) hQ
theorem own_ret0 (X : Stand p l e R s m args below meth c T locs cells slots) (hx : p.tables.exec = Jvm.exec) (hlocks : meth.locks = false) {pc : Nat} {Ls : Array Slot} (hret : meth.sig.returnType = none)
    (hd : decode c.code pc = .ok (.return_, 1)) (hQ : ∀ u : State, u.heap = T.heap → FrameEnd s (.returned none) u locs cells slots → Q (.returned none) u) : Go p e below Q T (mkF m pc Ls []) :=
  own_out X (fun _ => rfl) hlocks (fun fs hr => X.returnOut hx hret hd hr) hQ
theorem own_mono {o : Outcome} {u : State} {k n k' n' : Nat} (h : FrameEnd s o u locs k n) (hk : k ≤ k') (hn : n ≤ n') : FrameEnd s o u locs k' n' := ⟨h.1, h.2.1, h.2.2.mono hk hn⟩
end Own

theorem d1_0 : decode prog_69_method_2_code 0 = .ok (.lload_n 0, 1) := by decide +kernel
theorem d1_1 : decode prog_69_method_2_code 1 = .ok (.lconst 0, 1) := by decide +kernel
theorem d1_2 : decode prog_69_method_2_code 2 = .ok (.lcmp, 1) := by decide +kernel
theorem d1_3 : decode prog_69_method_2_code 3 = .ok (.ifCond .lt 9, 3) := by decide +kernel
theorem d1_6 : decode prog_69_method_2_code 6 = .ok (.lload_n 0, 1) := by decide +kernel
theorem d1_7 : decode prog_69_method_2_code 7 = .ok (.lconst 1, 1) := by decide +kernel
theorem d1_8 : decode prog_69_method_2_code 8 = .ok (.ladd, 1) := by decide +kernel
theorem d1_9 : decode prog_69_method_2_code 9 = .ok (.goto 6, 3) := by decide +kernel
theorem d1_12 : decode prog_69_method_2_code 12 = .ok (.lload_n 0, 1) := by decide +kernel
theorem d1_13 : decode prog_69_method_2_code 13 = .ok (.lconst 1, 1) := by decide +kernel
theorem d1_14 : decode prog_69_method_2_code 14 = .ok (.lsub, 1) := by decide +kernel
theorem d1_15 : decode prog_69_method_2_code 15 = .ok (.lreturn, 1) := by decide +kernel
theorem pn_0 : plainName "com/example/mimosa/mimosa/transactions/View" = true := by first | (simp [plainName, overriddenIn]; done) | decide +kernel
theorem ef_1 (m : MethodId) (j1 : Int64)  : entryFrame m #[(.long j1)] 2 = mkF m 0 #[.val (.long j1), .second] [] := by
  first | (simp [entryFrame, mkF, argsToLocals, Value.category]; done) | rfl
def F1 (j1 : Int64) : Int64 := (if j1 < (0 : Int64) then (j1 - (1 : Int64)) else (j1 + (1 : Int64)))
def Q1 (Z : State) (j1 : Int64) (h0 : Heap) (n0 : Nat) (v : Option Value) (h : Heap) (L : List Loc) : Prop := v = some (.long (F1 j1)) ∧ Fr n0 L ∧ h = h0
set_option maxRecDepth 65536 in
set_option maxHeartbeats 40000000 in
theorem rm1 (l : Launch) (Z : State) (a0 : Array Value) (hw : ∀ d ∈ tables_1, d.before a0 Z = true) (ws : List Jvm.Cond) (j1 : Int64) (h0 : Heap) (n0 : Nat) (Z0 : n0 ≤ h0.size)  :
    MetFree l (⟨"com/example/mimosa/mimosa/transactions/View", "after", "(J)J"⟩ : MethodName) (head1 (Jvm.Cond.code (⟨"com/example/mimosa/mimosa/transactions/View", "after", "(J)J"⟩ : MethodName) prog_69_method_2_code 2 (some .long) :: ws) ({ frames := 0, cells := 0, slots := 0, locals := 0 } : Room)) (fun a U => a = #[(.long j1)] ∧ Z.Warmed39 U.vm ∧ U.heap = h0) (fun _ _ _ _ _ => True) (fun _ U o U' => ∃ v L, o = .returned v ∧ Q1 Z j1 h0 n0 v U'.heap L ∧ FrameEnd U o U' L ({ frames := 0, cells := 0, slots := 0, locals := 0 } : Room).cells ({ frames := 0, cells := 0, slots := 0, locals := 0 } : Room).slots) := by
  refine MetFree.of_bodySF (plainFor_of_name pn_0) hisR ?_
  intro p e s m args below meth c s₁ Bd hml0 hP hK
  obtain ⟨rfl, hZ, hh⟩ := hP
  have hx := Bd.exec
  have hby := Bd.bytes
  have hml : c.maxLocals = 2 := hml0
  have hown : s.vm.findClass "com/example/mimosa/mimosa/transactions/View" = some m.cls := findClass_of_methodNamed Bd.named
  have hnm := (name_of_methodNamed Bd.named Bd.method).1
  have X0 : Stand p l e ({ frames := 0, cells := 0, slots := 0, locals := 0 } : Room) s m #[(.long j1)] below meth c s₁ [] 0 0 := Stand.of_body Bd
  have e0 : s₁.heap = h0 := by rw [← hh, Bd.state]; rfl
  have N0 := Fr.nil n0
  suffices H : ∀ Qo : Outcome → State → Prop, (∀ (v : Option Value) (u : State) (L : List Loc), Q1 Z j1 h0 n0 v u.heap L → FrameEnd s (.returned v) u L ({ frames := 0, cells := 0, slots := 0, locals := 0 } : Room).cells ({ frames := 0, cells := 0, slots := 0, locals := 0 } : Room).slots → Qo (.returned v) u) → Go p e below Qo s₁ (mkF m 0 #[.val (.long j1), .second] []) from
    Go.cast (ef_1 m j1) (H _ fun v u L h1 h2 => ⟨v, L, rfl, h1, h2⟩)
  intro Qo hQo
  show Go p e below Qo s₁ (mkF m 0 #[.val (.long j1), .second] [])
  refine Go.of (fun t k => XS.lloadN X0.here hx rfl (hb hby d1_0) rfl  k) ?_
  show Go p e below Qo s₁ (mkF m 1 #[.val (.long j1), .second] [(.long j1)])
  refine Go.of (fun t k => XS.lconst X0.here hx rfl (hb hby d1_1) k) ?_
  show Go p e below Qo s₁ (mkF m 2 #[.val (.long j1), .second] [(.long (0 : Int64)), (.long j1)])
  refine Go.of (fun t k => XS.lcmp X0.here hx rfl (hb hby d1_2) rfl k) ?_
  show Go p e below Qo s₁ (mkF m 3 #[.val (.long j1), .second] [(.int (lcmpW j1 (0 : Int64)))])
  by_cases hc3_1 : j1 < (0 : Int64)
  · refine Go.of (fun t k => XS.ifYes X0.here hx rfl (pc0 := 3) (pc' := 12) rfl (hb hby d1_3) rfl ((if0 _ _).trans (tlt ((lw_lt j1 (0 : Int64)).mpr hc3_1)).1) (by decide) (by decide) k) ?_
    show Go p e below Qo s₁ (mkF m 12 #[.val (.long j1), .second] [])
    refine Go.of (fun t k => XS.lloadN X0.here hx rfl (hb hby d1_12) rfl  k) ?_
    show Go p e below Qo s₁ (mkF m 13 #[.val (.long j1), .second] [(.long j1)])
    refine Go.of (fun t k => XS.lconst X0.here hx rfl (hb hby d1_13) k) ?_
    show Go p e below Qo s₁ (mkF m 14 #[.val (.long j1), .second] [(.long (1 : Int64)), (.long j1)])
    refine Go.of (fun t k => XS.lsub X0.here hx rfl (hb hby d1_14) rfl k) ?_
    show Go p e below Qo s₁ (mkF m 15 #[.val (.long j1), .second] [(.long (j1 - (1 : Int64)))])
    exact own_retW X0 hx Bd.notSynchronized Bd.returns rfl (Or.inr (Or.inl ⟨rfl, rfl, _, rfl⟩)) (hb hby d1_15) (fun u hu hF => hQo _ _ _ ⟨by rw [show (F1 j1) = (j1 - (1 : Int64)) from by rw [F1, if_pos hc3_1]], N0, by rw [hu, e0]⟩ (own_mono hF (by decide) (by decide)))
  · refine Go.of (fun t k => XS.ifNo X0.here hx rfl (hb hby d1_3) rfl ((if0 _ _).trans (flt (fun z => hc3_1 ((lw_lt j1 (0 : Int64)).mp z))).1) k) ?_
    show Go p e below Qo s₁ (mkF m 6 #[.val (.long j1), .second] [])
    refine Go.of (fun t k => XS.lloadN X0.here hx rfl (hb hby d1_6) rfl  k) ?_
    show Go p e below Qo s₁ (mkF m 7 #[.val (.long j1), .second] [(.long j1)])
    refine Go.of (fun t k => XS.lconst X0.here hx rfl (hb hby d1_7) k) ?_
    show Go p e below Qo s₁ (mkF m 8 #[.val (.long j1), .second] [(.long (1 : Int64)), (.long j1)])
    refine Go.of (fun t k => XS.ladd X0.here hx rfl (hb hby d1_8) rfl k) ?_
    show Go p e below Qo s₁ (mkF m 9 #[.val (.long j1), .second] [(.long (j1 + (1 : Int64)))])
    refine Go.of (fun t k => XS.goto X0.here hx rfl (pc0 := 9) (pc' := 15) rfl (hb hby d1_9) (by decide) (by decide) k) ?_
    show Go p e below Qo s₁ (mkF m 15 #[.val (.long j1), .second] [(.long (j1 + (1 : Int64)))])
    exact own_retW X0 hx Bd.notSynchronized Bd.returns rfl (Or.inr (Or.inl ⟨rfl, rfl, _, rfl⟩)) (hb hby d1_15) (fun u hu hF => hQo _ _ _ ⟨by rw [show (F1 j1) = (j1 + (1 : Int64)) from by rw [F1, if_neg hc3_1]], N0, by rw [hu, e0]⟩ (own_mono hF (by decide) (by decide)))
theorem own_xor (x : Int64) : x ^^^ (-1 : Int64) = -x - 1 := by
  rw [← Int64.toBitVec_inj]
  show x.toBitVec ^^^ (-1#64) = -x.toBitVec - 1#64
  rw [BitVec.neg_one_eq_allOnes, BitVec.xor_allOnes, BitVec.not_eq_neg_add]
theorem own_neg (x : Int64) : (x ^^^ (-1 : Int64) < 0) ↔ ¬ x < 0 := by
  have h := c_xorSL x (-1)
  have e1 : (-1 : Int64).toInt = -1 := by decide
  have e0 : (0 : Int64).toInt = 0 := by decide
  rw [Int64.lt_iff_toInt_lt, Int64.lt_iff_toInt_lt, e0]
  omega
theorem own_nn (x v : Int64) (h : v = if x < 0 then x ^^^ (-1 : Int64) else x) : ¬ v < 0 := by
  subst h
  by_cases k : x < 0
  · rw [if_pos k, own_neg]; exact fun q => q k
  · rw [if_neg k]; exact k
theorem own_a (q : Int64) (hq : ¬ q < 0) : F1 q = q + 1 := by unfold F1; rw [if_neg hq]
theorem own_b (q : Int64) (hq : ¬ q < 0) : F1 (q ^^^ (-1 : Int64)) = F1 q ^^^ (-1 : Int64) := by
  rw [own_a q hq]; unfold F1; rw [if_pos ((own_neg q).mpr hq), own_xor, own_xor]
  grind
theorem pd_0 : parseMethodDescriptor "(J)J" = some ⟨[.long], some .long⟩ := by decide +kernel
theorem pn_1 : plainName "com/example/mimosa/mimosa/transactions/ViewAfterPinLaw" = true := by first | (simp [plainName, overriddenIn]; done) | decide +kernel
theorem ef_0 (m : MethodId) (j1 : Int64)  : entryFrame m #[(.long j1)] maxLocals = mkF m 0 #[.val (.long j1), .second, .unset, .unset, .unset, .unset, .unset, .unset] [] := by
  first | (simp [entryFrame, mkF, argsToLocals, Value.category, maxLocals]; done) | rfl
def Q0 (Z : State) (j1 : Int64) (h0 : Heap) (n0 : Nat) (v : Option Value) (h : Heap) (L : List Loc) : Prop := v = some (.int 1) ∧ Fr n0 L
set_option maxRecDepth 65536 in
set_option maxHeartbeats 40000000 in
theorem rm0 (l : Launch) (Z : State) (a0 : Array Value) (hw : ∀ d ∈ tables_1, d.before a0 Z = true) (ws : List Jvm.Cond) (j1 : Int64) (h0 : Heap) (n0 : Nat) (Z0 : n0 ≤ h0.size)  :
    MetFree l x (head1 (Jvm.Cond.code x code maxLocals ret :: ws) room_1) (fun a U => a = #[(.long j1)] ∧ Z.Warmed39 U.vm ∧ U.heap = h0) (fun _ _ _ _ _ => True) (fun _ U o U' => ∃ v L, o = .returned v ∧ Q0 Z j1 h0 n0 v U'.heap L ∧ FrameEnd U o U' L 0 0) := by
  refine MetFree.of_bodySF (plainFor_of_name pn_1) hisR ?_
  intro p e s m args below meth c s₁ Bd hml0 hP hK
  obtain ⟨rfl, hZ, hh⟩ := hP
  have hx := Bd.exec
  have hby := Bd.bytes
  have hml : c.maxLocals = 8 := hml0
  have hown : s.vm.findClass "com/example/mimosa/mimosa/transactions/ViewAfterPinLaw" = some m.cls := findClass_of_methodNamed Bd.named
  have hnm := (name_of_methodNamed Bd.named Bd.method).1
  have X0 : Stand p l e room_1 s m #[(.long j1)] below meth c s₁ [] 0 0 := Stand.of_body Bd
  have e0 : s₁.heap = h0 := by rw [← hh, Bd.state]; rfl
  have N0 := Fr.nil n0
  suffices H : ∀ Qo : Outcome → State → Prop, (∀ (v : Option Value) (u : State) (L : List Loc), Q0 Z j1 h0 n0 v u.heap L → FrameEnd s (.returned v) u L 0 0 → Qo (.returned v) u) → Go p e below Qo s₁ (mkF m 0 #[.val (.long j1), .second, .unset, .unset, .unset, .unset, .unset, .unset] []) from
    Go.cast (ef_0 m j1) (H _ fun v u L h1 h2 => ⟨v, L, rfl, h1, h2⟩)
  intro Qo hQo
  show Go p e below Qo s₁ (mkF m 0 #[.val (.long j1), .second, .unset, .unset, .unset, .unset, .unset, .unset] [])
  refine Go.of (fun t k => XS.lloadN X0.here hx rfl (hb hby at_0) rfl  k) ?_
  show Go p e below Qo s₁ (mkF m 1 #[.val (.long j1), .second, .unset, .unset, .unset, .unset, .unset, .unset] [(.long j1)])
  refine Go.of (fun t k => XS.lconst X0.here hx rfl (hb hby at_1) k) ?_
  show Go p e below Qo s₁ (mkF m 2 #[.val (.long j1), .second, .unset, .unset, .unset, .unset, .unset, .unset] [(.long (0 : Int64)), (.long j1)])
  refine Go.of (fun t k => XS.lcmp X0.here hx rfl (hb hby at_2) rfl k) ?_
  show Go p e below Qo s₁ (mkF m 3 #[.val (.long j1), .second, .unset, .unset, .unset, .unset, .unset, .unset] [(.int (lcmpW j1 (0 : Int64)))])
  have J3_3 : ∀ (v3_2 : Int64), v3_2 = (if j1 < (0 : Int64) then (j1 ^^^ (-1 : Int64)) else j1) → Go p e below Qo s₁ (mkF m 15 #[.val (.long j1), .second, .unset, .unset, .unset, .unset, .unset, .unset] [(.long v3_2)]) := by
    intro v3_2 hv3_2
    show Go p e below Qo s₁ (mkF m 15 #[.val (.long j1), .second, .unset, .unset, .unset, .unset, .unset, .unset] [(.long v3_2)])
    refine Go.of (fun t k => XS.lstoreN X0.here hx rfl (hb hby at_15) rfl (l' := #[.val (.long j1), .second, .val (.long v3_2), .second, .unset, .unset, .unset, .unset]) rfl k) ?_
    show Go p e below Qo s₁ (mkF m 16 #[.val (.long j1), .second, .val (.long v3_2), .second, .unset, .unset, .unset, .unset] [])
    refine Go.of (fun t k => XS.lloadN X0.here hx rfl (hb hby at_16) rfl  k) ?_
    show Go p e below Qo s₁ (mkF m 17 #[.val (.long j1), .second, .val (.long v3_2), .second, .unset, .unset, .unset, .unset] [(.long v3_2)])
    obtain ⟨_, _, ⟨T4, L4, k4, n4⟩, -, X4, ⟨Lc4, hQ4, l4, y4, z4⟩, st4⟩ := Jvm.LawKit.callS X0 hx (y := (⟨"com/example/mimosa/mimosa/transactions/View", "after", "(J)J"⟩ : MethodName)) hown (mvT hZ (hw _ (List.mem_of_getElem? (i := 0) rfl))) (mvT hZ (hw _ (List.mem_of_getElem? (i := 1) rfl))) (mvT hZ (hw _ (List.mem_of_getElem? (i := 2) rfl))) (mvT hZ (hw _ (List.mem_of_getElem? (i := 3) rfl))) (by decide) (backOf (W := 0) (rm1 l Z a0 hw [] v3_2 h0 n0 Z0 ) hZ (hw _ (List.mem_of_getElem? (i := 3) rfl)) (hw _ (List.mem_of_getElem? (i := 2) rfl)) (by decide) (by decide)) (g := (mkF m 17 #[.val (.long j1), .second, .val (.long v3_2), .second, .unset, .unset, .unset, .unset] [(.long v3_2)])) rfl (by rw [hml]; rfl) (argsL := [(.long v3_2)]) (rest := []) (lenOf pd_0 rfl) rfl (by show 2 * 0 + _ ≤ _; exact Nat.le_of_eq rfl) (hb hby at_17) (fun _ _ => ⟨rfl, e0, (by decide : 0 + 0 ≤ _), (by decide : 0 + 0 ≤ _)⟩)
    dsimp only [Pt.U, Pt.locs, Pt.cells, Pt.slots] at X4 l4 y4 z4 st4 hQ4
    subst l4 y4 z4
    obtain ⟨rfl, N5, eh6⟩ := hQ4
    have N7 := Fr.app N0 N5
    refine Go.of st4 ?_
    show Go p e below Qo T4 (mkF m 20 #[.val (.long j1), .second, .val (.long v3_2), .second, .unset, .unset, .unset, .unset] [(.long (F1 v3_2))])
    refine Go.of (fun t k => XS.lstore X4.here hx rfl (hb hby at_20) rfl (l' := #[.val (.long j1), .second, .val (.long v3_2), .second, .val (.long (F1 v3_2)), .second, .unset, .unset]) rfl k) ?_
    show Go p e below Qo T4 (mkF m 22 #[.val (.long j1), .second, .val (.long v3_2), .second, .val (.long (F1 v3_2)), .second, .unset, .unset] [])
    refine Go.of (fun t k => XS.lloadN X4.here hx rfl (hb hby at_22) rfl  k) ?_
    show Go p e below Qo T4 (mkF m 23 #[.val (.long j1), .second, .val (.long v3_2), .second, .val (.long (F1 v3_2)), .second, .unset, .unset] [(.long v3_2)])
    refine Go.of (fun t k => X4.ldc2Long hx hown (mvT hZ (hw _ (List.mem_of_getElem? (i := 4) rfl))) (g := (mkF m 23 #[.val (.long j1), .second, .val (.long v3_2), .second, .val (.long (F1 v3_2)), .second, .unset, .unset] [(.long v3_2)])) rfl (hb hby at_23) t k) ?_
    show Go p e below Qo T4 (mkF m 26 #[.val (.long j1), .second, .val (.long v3_2), .second, .val (.long (F1 v3_2)), .second, .unset, .unset] [(.long (-1 : Int64)), (.long v3_2)])
    refine Go.of (fun t k => XS.lxor X4.here hx rfl (hb hby at_26) rfl k) ?_
    show Go p e below Qo T4 (mkF m 27 #[.val (.long j1), .second, .val (.long v3_2), .second, .val (.long (F1 v3_2)), .second, .unset, .unset] [(.long (v3_2 ^^^ (-1 : Int64)))])
    obtain ⟨_, _, ⟨T8, L8, k8, n8⟩, -, X8, ⟨Lc8, hQ8, l8, y8, z8⟩, st8⟩ := Jvm.LawKit.callS X4 hx (y := (⟨"com/example/mimosa/mimosa/transactions/View", "after", "(J)J"⟩ : MethodName)) hown (mvT hZ (hw _ (List.mem_of_getElem? (i := 0) rfl))) (mvT hZ (hw _ (List.mem_of_getElem? (i := 1) rfl))) (mvT hZ (hw _ (List.mem_of_getElem? (i := 2) rfl))) (mvT hZ (hw _ (List.mem_of_getElem? (i := 3) rfl))) (by decide) (backOf (W := 0) (rm1 l Z a0 hw [] (v3_2 ^^^ (-1 : Int64)) h0 n0 Z0 ) hZ (hw _ (List.mem_of_getElem? (i := 3) rfl)) (hw _ (List.mem_of_getElem? (i := 2) rfl)) (by decide) (by decide)) (g := (mkF m 27 #[.val (.long j1), .second, .val (.long v3_2), .second, .val (.long (F1 v3_2)), .second, .unset, .unset] [(.long (v3_2 ^^^ (-1 : Int64)))])) rfl (by rw [hml]; rfl) (argsL := [(.long (v3_2 ^^^ (-1 : Int64)))]) (rest := []) (lenOf pd_0 rfl) rfl (by show 2 * 0 + _ ≤ _; exact Nat.le_of_eq rfl) (hb hby at_27) (fun _ _ => ⟨rfl, eh6, (by decide : 0 + 0 ≤ _), (by decide : 0 + 0 ≤ _)⟩)
    dsimp only [Pt.U, Pt.locs, Pt.cells, Pt.slots] at X8 l8 y8 z8 st8 hQ8
    subst l8 y8 z8
    obtain ⟨rfl, N9, eh10⟩ := hQ8
    have N11 := Fr.app N7 N9
    refine Go.of st8 ?_
    show Go p e below Qo T8 (mkF m 30 #[.val (.long j1), .second, .val (.long v3_2), .second, .val (.long (F1 v3_2)), .second, .unset, .unset] [(.long (F1 (v3_2 ^^^ (-1 : Int64))))])
    refine Go.of (fun t k => XS.lstore X8.here hx rfl (hb hby at_30) rfl (l' := #[.val (.long j1), .second, .val (.long v3_2), .second, .val (.long (F1 v3_2)), .second, .val (.long (F1 (v3_2 ^^^ (-1 : Int64)))), .second]) rfl k) ?_
    show Go p e below Qo T8 (mkF m 32 #[.val (.long j1), .second, .val (.long v3_2), .second, .val (.long (F1 v3_2)), .second, .val (.long (F1 (v3_2 ^^^ (-1 : Int64)))), .second] [])
    refine Go.of (fun t k => XS.lload X8.here hx rfl (hb hby at_32) rfl  k) ?_
    show Go p e below Qo T8 (mkF m 34 #[.val (.long j1), .second, .val (.long v3_2), .second, .val (.long (F1 v3_2)), .second, .val (.long (F1 (v3_2 ^^^ (-1 : Int64)))), .second] [(.long (F1 v3_2))])
    refine Go.of (fun t k => XS.lloadN X8.here hx rfl (hb hby at_34) rfl  k) ?_
    show Go p e below Qo T8 (mkF m 35 #[.val (.long j1), .second, .val (.long v3_2), .second, .val (.long (F1 v3_2)), .second, .val (.long (F1 (v3_2 ^^^ (-1 : Int64)))), .second] [(.long v3_2), (.long (F1 v3_2))])
    refine Go.of (fun t k => XS.lconst X8.here hx rfl (hb hby at_35) k) ?_
    show Go p e below Qo T8 (mkF m 36 #[.val (.long j1), .second, .val (.long v3_2), .second, .val (.long (F1 v3_2)), .second, .val (.long (F1 (v3_2 ^^^ (-1 : Int64)))), .second] [(.long (1 : Int64)), (.long v3_2), (.long (F1 v3_2))])
    refine Go.of (fun t k => XS.ladd X8.here hx rfl (hb hby at_36) rfl k) ?_
    show Go p e below Qo T8 (mkF m 37 #[.val (.long j1), .second, .val (.long v3_2), .second, .val (.long (F1 v3_2)), .second, .val (.long (F1 (v3_2 ^^^ (-1 : Int64)))), .second] [(.long (v3_2 + (1 : Int64))), (.long (F1 v3_2))])
    refine Go.of (fun t k => XS.lcmp X8.here hx rfl (hb hby at_37) rfl k) ?_
    show Go p e below Qo T8 (mkF m 38 #[.val (.long j1), .second, .val (.long v3_2), .second, .val (.long (F1 v3_2)), .second, .val (.long (F1 (v3_2 ^^^ (-1 : Int64)))), .second] [(.int (lcmpW (F1 v3_2) (v3_2 + (1 : Int64))))])
    have J38_15 : ∀ (v38_14 : Int32), v38_14 = (if (F1 v3_2) = (v3_2 + (1 : Int64)) then (if (F1 (v3_2 ^^^ (-1 : Int64))) = ((F1 v3_2) ^^^ (-1 : Int64)) then (1 : Int32) else (0 : Int32)) else (0 : Int32)) → Go p e below Qo T8 (mkF m 58 #[.val (.long j1), .second, .val (.long v3_2), .second, .val (.long (F1 v3_2)), .second, .val (.long (F1 (v3_2 ^^^ (-1 : Int64)))), .second] [(.int v38_14)]) := by
      intro v38_14 hv38_14
      show Go p e below Qo T8 (mkF m 58 #[.val (.long j1), .second, .val (.long v3_2), .second, .val (.long (F1 v3_2)), .second, .val (.long (F1 (v3_2 ^^^ (-1 : Int64)))), .second] [(.int v38_14)])
      have hfin : v38_14 = 1 := by
        have hq := own_nn _ _ hv3_2
        exact hv38_14.trans ((if_pos (own_a _ hq)).trans (if_pos (own_b _ hq)))
      exact own_retN X8 hx Bd.notSynchronized (t := .boolean) Bd.returns (by simp) (hb hby at_58) (fun u hu hF => hQo _ _ _ ⟨by rw [hfin]; rfl, N11⟩ (own_mono hF (by decide) (by decide)))
    by_cases hc38_16 : (F1 v3_2) = (v3_2 + (1 : Int64))
    · refine Go.of (fun t k => XS.ifNo X8.here hx rfl (hb hby at_38) rfl ((if0 _ _).trans (teq ((lw_eq (F1 v3_2) (v3_2 + (1 : Int64))).mpr hc38_16)).2) k) ?_
      show Go p e below Qo T8 (mkF m 41 #[.val (.long j1), .second, .val (.long v3_2), .second, .val (.long (F1 v3_2)), .second, .val (.long (F1 (v3_2 ^^^ (-1 : Int64)))), .second] [])
      refine Go.of (fun t k => XS.lload X8.here hx rfl (hb hby at_41) rfl  k) ?_
      show Go p e below Qo T8 (mkF m 43 #[.val (.long j1), .second, .val (.long v3_2), .second, .val (.long (F1 v3_2)), .second, .val (.long (F1 (v3_2 ^^^ (-1 : Int64)))), .second] [(.long (F1 (v3_2 ^^^ (-1 : Int64))))])
      refine Go.of (fun t k => XS.lload X8.here hx rfl (hb hby at_43) rfl  k) ?_
      show Go p e below Qo T8 (mkF m 45 #[.val (.long j1), .second, .val (.long v3_2), .second, .val (.long (F1 v3_2)), .second, .val (.long (F1 (v3_2 ^^^ (-1 : Int64)))), .second] [(.long (F1 v3_2)), (.long (F1 (v3_2 ^^^ (-1 : Int64))))])
      refine Go.of (fun t k => X8.ldc2Long hx hown (mvT hZ (hw _ (List.mem_of_getElem? (i := 4) rfl))) (g := (mkF m 45 #[.val (.long j1), .second, .val (.long v3_2), .second, .val (.long (F1 v3_2)), .second, .val (.long (F1 (v3_2 ^^^ (-1 : Int64)))), .second] [(.long (F1 v3_2)), (.long (F1 (v3_2 ^^^ (-1 : Int64))))])) rfl (hb hby at_45) t k) ?_
      show Go p e below Qo T8 (mkF m 48 #[.val (.long j1), .second, .val (.long v3_2), .second, .val (.long (F1 v3_2)), .second, .val (.long (F1 (v3_2 ^^^ (-1 : Int64)))), .second] [(.long (-1 : Int64)), (.long (F1 v3_2)), (.long (F1 (v3_2 ^^^ (-1 : Int64))))])
      refine Go.of (fun t k => XS.lxor X8.here hx rfl (hb hby at_48) rfl k) ?_
      show Go p e below Qo T8 (mkF m 49 #[.val (.long j1), .second, .val (.long v3_2), .second, .val (.long (F1 v3_2)), .second, .val (.long (F1 (v3_2 ^^^ (-1 : Int64)))), .second] [(.long ((F1 v3_2) ^^^ (-1 : Int64))), (.long (F1 (v3_2 ^^^ (-1 : Int64))))])
      refine Go.of (fun t k => XS.lcmp X8.here hx rfl (hb hby at_49) rfl k) ?_
      show Go p e below Qo T8 (mkF m 50 #[.val (.long j1), .second, .val (.long v3_2), .second, .val (.long (F1 v3_2)), .second, .val (.long (F1 (v3_2 ^^^ (-1 : Int64)))), .second] [(.int (lcmpW (F1 (v3_2 ^^^ (-1 : Int64))) ((F1 v3_2) ^^^ (-1 : Int64))))])
      by_cases hc50_17 : (F1 (v3_2 ^^^ (-1 : Int64))) = ((F1 v3_2) ^^^ (-1 : Int64))
      · refine Go.of (fun t k => XS.ifNo X8.here hx rfl (hb hby at_50) rfl ((if0 _ _).trans (teq ((lw_eq (F1 (v3_2 ^^^ (-1 : Int64))) ((F1 v3_2) ^^^ (-1 : Int64))).mpr hc50_17)).2) k) ?_
        show Go p e below Qo T8 (mkF m 53 #[.val (.long j1), .second, .val (.long v3_2), .second, .val (.long (F1 v3_2)), .second, .val (.long (F1 (v3_2 ^^^ (-1 : Int64)))), .second] [])
        refine Go.of (fun t k => XS.iconst X8.here hx rfl (hb hby at_53) k) ?_
        show Go p e below Qo T8 (mkF m 54 #[.val (.long j1), .second, .val (.long v3_2), .second, .val (.long (F1 v3_2)), .second, .val (.long (F1 (v3_2 ^^^ (-1 : Int64)))), .second] [(.int (1 : Int32))])
        refine Go.of (fun t k => XS.goto X8.here hx rfl (pc0 := 54) (pc' := 58) rfl (hb hby at_54) (by decide) (by decide) k) ?_
        show Go p e below Qo T8 (mkF m 58 #[.val (.long j1), .second, .val (.long v3_2), .second, .val (.long (F1 v3_2)), .second, .val (.long (F1 (v3_2 ^^^ (-1 : Int64)))), .second] [(.int (1 : Int32))])
        exact J38_15 _ (by first | rfl | (rw [if_pos hc38_16, if_pos hc50_17]) | (simp only [hc38_16, hc50_17, if_true, if_false]; done) | simp [hc38_16, hc50_17])
      · refine Go.of (fun t k => XS.ifYes X8.here hx rfl (pc0 := 50) (pc' := 57) rfl (hb hby at_50) rfl ((if0 _ _).trans (feq (fun z => hc50_17 ((lw_eq (F1 (v3_2 ^^^ (-1 : Int64))) ((F1 v3_2) ^^^ (-1 : Int64))).mp z))).2) (by decide) (by decide) k) ?_
        show Go p e below Qo T8 (mkF m 57 #[.val (.long j1), .second, .val (.long v3_2), .second, .val (.long (F1 v3_2)), .second, .val (.long (F1 (v3_2 ^^^ (-1 : Int64)))), .second] [])
        refine Go.of (fun t k => XS.iconst X8.here hx rfl (hb hby at_57) k) ?_
        show Go p e below Qo T8 (mkF m 58 #[.val (.long j1), .second, .val (.long v3_2), .second, .val (.long (F1 v3_2)), .second, .val (.long (F1 (v3_2 ^^^ (-1 : Int64)))), .second] [(.int (0 : Int32))])
        exact J38_15 _ (by first | rfl | (rw [if_pos hc38_16, if_neg hc50_17]) | (simp only [hc38_16, hc50_17, if_true, if_false]; done) | simp [hc38_16, hc50_17])
    · refine Go.of (fun t k => XS.ifYes X8.here hx rfl (pc0 := 38) (pc' := 57) rfl (hb hby at_38) rfl ((if0 _ _).trans (feq (fun z => hc38_16 ((lw_eq (F1 v3_2) (v3_2 + (1 : Int64))).mp z))).2) (by decide) (by decide) k) ?_
      show Go p e below Qo T8 (mkF m 57 #[.val (.long j1), .second, .val (.long v3_2), .second, .val (.long (F1 v3_2)), .second, .val (.long (F1 (v3_2 ^^^ (-1 : Int64)))), .second] [])
      refine Go.of (fun t k => XS.iconst X8.here hx rfl (hb hby at_57) k) ?_
      show Go p e below Qo T8 (mkF m 58 #[.val (.long j1), .second, .val (.long v3_2), .second, .val (.long (F1 v3_2)), .second, .val (.long (F1 (v3_2 ^^^ (-1 : Int64)))), .second] [(.int (0 : Int32))])
      exact J38_15 _ (by first | rfl | (rw [if_neg hc38_16]) | (simp only [hc38_16, if_true, if_false]; done) | simp [hc38_16])
  by_cases hc3_18 : j1 < (0 : Int64)
  · refine Go.of (fun t k => XS.ifNo X0.here hx rfl (hb hby at_3) rfl ((if0 _ _).trans (tlt ((lw_lt j1 (0 : Int64)).mpr hc3_18)).2.1) k) ?_
    show Go p e below Qo s₁ (mkF m 6 #[.val (.long j1), .second, .unset, .unset, .unset, .unset, .unset, .unset] [])
    refine Go.of (fun t k => XS.lloadN X0.here hx rfl (hb hby at_6) rfl  k) ?_
    show Go p e below Qo s₁ (mkF m 7 #[.val (.long j1), .second, .unset, .unset, .unset, .unset, .unset, .unset] [(.long j1)])
    refine Go.of (fun t k => X0.ldc2Long hx hown (mvT hZ (hw _ (List.mem_of_getElem? (i := 4) rfl))) (g := (mkF m 7 #[.val (.long j1), .second, .unset, .unset, .unset, .unset, .unset, .unset] [(.long j1)])) rfl (hb hby at_7) t k) ?_
    show Go p e below Qo s₁ (mkF m 10 #[.val (.long j1), .second, .unset, .unset, .unset, .unset, .unset, .unset] [(.long (-1 : Int64)), (.long j1)])
    refine Go.of (fun t k => XS.lxor X0.here hx rfl (hb hby at_10) rfl k) ?_
    show Go p e below Qo s₁ (mkF m 11 #[.val (.long j1), .second, .unset, .unset, .unset, .unset, .unset, .unset] [(.long (j1 ^^^ (-1 : Int64)))])
    refine Go.of (fun t k => XS.goto X0.here hx rfl (pc0 := 11) (pc' := 15) rfl (hb hby at_11) (by decide) (by decide) k) ?_
    show Go p e below Qo s₁ (mkF m 15 #[.val (.long j1), .second, .unset, .unset, .unset, .unset, .unset, .unset] [(.long (j1 ^^^ (-1 : Int64)))])
    exact J3_3 _ (by first | rfl | (rw [if_pos hc3_18]) | (simp only [hc3_18, if_true, if_false]; done) | simp [hc3_18])
  · refine Go.of (fun t k => XS.ifYes X0.here hx rfl (pc0 := 3) (pc' := 14) rfl (hb hby at_3) rfl ((if0 _ _).trans (flt (fun z => hc3_18 ((lw_lt j1 (0 : Int64)).mp z))).2.1) (by decide) (by decide) k) ?_
    show Go p e below Qo s₁ (mkF m 14 #[.val (.long j1), .second, .unset, .unset, .unset, .unset, .unset, .unset] [])
    refine Go.of (fun t k => XS.lloadN X0.here hx rfl (hb hby at_14) rfl  k) ?_
    show Go p e below Qo s₁ (mkF m 15 #[.val (.long j1), .second, .unset, .unset, .unset, .unset, .unset, .unset] [(.long j1)])
    exact J3_3 _ (by first | rfl | (rw [if_neg hc3_18]) | (simp only [hc3_18, if_true, if_false]; done) | simp [hc3_18])
set_option maxRecDepth 65536 in
set_option maxHeartbeats 40000000 in
theorem comes_1 {Post : Tables → Env → Array Value → State → Outcome → State → Prop} (hpost : ∀ tb e args s v u, (limb_1_1.after args s (.returned v) u = true ∧ limb_1_2.after args s (.returned v) u = true ∧ True) → FrameEnd s (.returned v) u (Jvm.fieldLocs frame_1_writes args s ++ Jvm.arrayLocs frame_1_arrays args s ++ Jvm.staticLocs frame_1_statics s) 0 0 → Post tb e args s (.returned v) u) :
    ArmFor flags0 classFile x code maxLocals ret World_1 tables_1 room_1 Calls_1 rest_1 Pre_1 Post := by
  intro l hfl _ _ p e ha hc hk s m args below hf hA hF happ hP
  obtain ⟨hcalls, hrest, hpre⟩ := hP
  obtain ⟨-, -, -, hnamed, -, -, -, hat⟩ := (Spec.applies_iff hf).mp happ
  obtain ⟨hg, hn⟩ := and_e (Cond.before_iff.mp (show (Jvm.Cond.and given_1 narrow_1).before args s = true from hpre))
  obtain ⟨hg0, hgr0⟩ := and_e hg
  obtain ⟨w0, rfl⟩ : ∃ w0 : Value, args = #[w0] := by
    have hs : args.size = 1 := by simpa [Cond.value, given_1] using hg0
    obtain ⟨L⟩ := args
    match L, hs with
    | [w0], _ => exact ⟨w0, rfl⟩
  have hw := fun d (hd : d ∈ tables_1) => atoms_spec (ws := Jvm.Cond.code x code maxLocals ret :: tables_1) hat d (List.mem_cons_of_mem _ hd)
  have hfit : Fit s := fun {y c} hc i hi => by
    obtain ⟨ha, rfl⟩ := Array.getElem?_eq_some_iff.mp hc
    have q := List.all_eq_true.mp ((Array.all_eq_true_iff_forall_mem.mp hF) _ (Array.getElem_mem ha)) i (List.mem_range.mpr hi)
    simpa [Array.getElem?_eq_getElem hi] using q
  obtain ⟨i0, ei0⟩ := isL_v hgr0
  obtain rfl : w0 = (.long i0) := Option.some.inj ei0
  obtain ⟨n, o, h1, h2, h3, _, L, rfl, ⟨rfl, N⟩, hq⟩ := rm0 l s _ hw tables_1 i0  s.heap s.heap.size (Nat.le_refl _)  p e ha hc hk s m _ below hf ((Spec.applies_iff_loose hf).mp happ).1 ⟨rfl, State.Warmed39.refl s, rfl⟩ trivial
  refine ⟨n, _, h1, h2, h3, hpost _ _ _ _ _ _ ⟨Cond.after_iff.mpr rfl, Cond.after_iff.mpr (eq_i res_at (Term.int_eval (1)) rfl), trivial⟩ ⟨hq.1, hq.2.1, (hq.2.2.sift fun y hy => Or.inr (N y hy)).mono (by decide) (by decide)⟩⟩
theorem main_1_1 : Claimed_1_1 := comes_1 fun _ _ _ _ _ _ h hF => ⟨h.1, hF⟩
theorem main_1_2 : Claimed_1_2 := comes_1 fun _ _ _ _ _ _ h hF => ⟨h.2.1, hF⟩
end Jvm.Pilot.@@N@@
namespace Jvm.Pilot.@@N@@
open Jvm Jvm.ClassFile Sem Op Lib Jvm.Free Jvm.Stand Jvm.Pilot.@@N@@.Jvm.D
/-! MADE BY PROGRAM (witnessworld.py) out of the Statement's table words and the real class files: 10 classes; the members and pool entries that the words name. The judged class is class 1, her method 1. -/
namespace start1
open Jvm.ClassFile
def u (s : String) : CpInfo := .utf8 (stringToUtf16 s)
/-- a pool by its gaps: so many unusable entries, then the entry; so many at the end -/
def gap : Nat → List CpInfo → List CpInfo
  | 0, r => r
  | n + 1, r => .unusable :: gap n r
def poolList (es : List (Nat × CpInfo)) (last : Nat) : List CpInfo := es.foldr (fun e r => gap e.1 (e.2 :: r)) (gap last [])
def pool (es : List (Nat × CpInfo)) (last : Nat) : Array CpInfo := ⟨poolList es last⟩
def fileOf (pool : Array CpInfo) (this : Nat) (attrs : Array Attribute := #[]) (ms : Array MethodInfo := #[]) (fl : Nat := 33) (sup : Nat := 0) (ifs : Array Nat := #[]) (fds : Array FieldInfo := #[]) : ClassFile where
  minorVersion := 0
  majorVersion := 65
  constantPool := pool
  accessFlags := fl
  thisClass := this
  superClass := sup
  interfaces := ifs
  fields := fds
  methods := ms
  attributes := attrs
def plain (name : String) (sup : Option ClassId) : Class where
  name := name
  kind := .ordinary
  loader := none
  accessFlags := 33
  super := sup
  interfaces := #[]
  cf := none
  fields := #[]
  methods := #[]
  instanceTypes := #[]
  staticTypes := #[]
  resolved := #[]
  callSites := []
  init := .initialized
  statics := none
  mirror := none

def pool0 : Array CpInfo := pool [(5, u "<init>"), (0, u "()V"), (1, .class_ 10), (1, u "java/lang/Object")] 113

def k0m0 : Method := { name := "<init>", desc := "()V", sig := { parameters := [], returnType := none }, accessFlags := 1, code := none }
/-- java/lang/Object -/
def k0 : Class := { plain "java/lang/Object" none with
  accessFlags := 33
  interfaces := #[]
  cf := some (fileOf pool0 8 #[] #[{ accessFlags := 1, nameIndex := 5, descriptorIndex := 6, attributes := #[] }] 33 0 #[] #[])
  fields := #[]
  methods := #[k0m0]
  instanceTypes := #[]
  staticTypes := #[]
  resolved := Array.replicate 124 none
  statics := none }

def pool1 : Array CpInfo := pool [(2, .class_ 4), (1, u "java/lang/Object"), (0, u "<init>"), (0, u "()V"), (0, .long 18446744073709551615), (1, .methodref 10 11), (0, .class_ 12), (0, .nameAndType 13 14), (0, u "com/example/mimosa/mimosa/transactions/View"), (0, u "after"), (0, u "(J)J"), (0, .class_ 16), (0, u "com/example/mimosa/mimosa/transactions/ViewAfterPinLaw"), (2, u "law"), (0, u "(J)Z")] 3

def k1m0 : Method := { name := "<init>", desc := "()V", sig := { parameters := [], returnType := none }, accessFlags := 1, code := none }
def k1c1 : Code := { maxStack := 6, maxLocals := 8, code := code, exceptionTable := #[], attributes := #[] }
def k1m1 : Method := { name := "law", desc := "(J)Z", sig := { parameters := [.long], returnType := some .boolean }, accessFlags := 9, code := some k1c1 }
/-- com/example/mimosa/mimosa/transactions/ViewAfterPinLaw -/
def k1 : Class := { plain "com/example/mimosa/mimosa/transactions/ViewAfterPinLaw" (some 0) with
  accessFlags := 49
  interfaces := #[]
  cf := some (fileOf pool1 15 #[] #[{ accessFlags := 1, nameIndex := 5, descriptorIndex := 6, attributes := #[] }, { accessFlags := 9, nameIndex := 19, descriptorIndex := 20, attributes := #[] }] 49 2 #[] #[])
  fields := #[]
  methods := #[k1m0, k1m1]
  instanceTypes := #[]
  staticTypes := #[]
  resolved := Array.replicate 24 none
  statics := none }

def pool2 : Array CpInfo := pool [(1, .class_ 2), (0, u "java/lang/AutoCloseable"), (0, .class_ 4), (0, u "java/lang/Object")] 7

/-- java/lang/AutoCloseable -/
def k2 : Class := { plain "java/lang/AutoCloseable" (some 0) with
  accessFlags := 1537
  interfaces := #[]
  cf := some (fileOf pool2 1 #[] #[] 1537 3 #[] #[])
  fields := #[]
  methods := #[]
  instanceTypes := #[]
  staticTypes := #[]
  resolved := Array.replicate 12 none
  statics := none }

def pool3 : Array CpInfo := pool [(2, .class_ 4), (1, u "java/lang/Object"), (3, .class_ 10), (1, u "com/example/mimosa/mimosa/transactions/View"), (0, u "reading"), (0, u "Lcom/example/mimosa/mimosa/storage/Reading;"), (2, u "replaced"), (0, u "Ljava/util/Map;"), (2, u "inserted"), (0, u "Ljava/util/List;"), (36, .class_ 59), (1, u "com/example/mimosa/mimosa/transactions/View$Reader"), (12, u "closed"), (0, u "Z"), (32, .class_ 107), (0, u "java/lang/AutoCloseable"), (0, u "START"), (0, u "J"), (3, u "WRITE_BYTES"), (0, u "I"), (8, u "after"), (0, u "(J)J")] 28

def k3c0 : Code := { maxStack := 4, maxLocals := 2, code := prog_69_method_2_code, exceptionTable := #[], attributes := #[] }
def k3m0 : Method := { name := "after", desc := "(J)J", sig := { parameters := [.long], returnType := some .long }, accessFlags := 9, code := some k3c0 }
/-- com/example/mimosa/mimosa/transactions/View -/
def k3 : Class := { plain "com/example/mimosa/mimosa/transactions/View" (some 0) with
  accessFlags := 49
  interfaces := #[2]
  cf := some (fileOf pool3 8 #[.nestMembers #[57]] #[{ accessFlags := 9, nameIndex := 123, descriptorIndex := 124, attributes := #[] }] 49 2 #[106] #[{ accessFlags := 25, nameIndex := 108, descriptorIndex := 109, attributes := #[] }, { accessFlags := 26, nameIndex := 113, descriptorIndex := 114, attributes := #[] }, { accessFlags := 18, nameIndex := 11, descriptorIndex := 12, attributes := #[] }, { accessFlags := 18, nameIndex := 15, descriptorIndex := 16, attributes := #[] }, { accessFlags := 18, nameIndex := 19, descriptorIndex := 20, attributes := #[] }, { accessFlags := 2, nameIndex := 72, descriptorIndex := 73, attributes := #[] }])
  fields := #[{ name := "START", type := .long, accessFlags := 25, slot := 0, constantValue := 0 }, { name := "WRITE_BYTES", type := .int, accessFlags := 26, slot := 1, constantValue := 0 }, { name := "reading", type := (.object "com/example/mimosa/mimosa/storage/Reading"), accessFlags := 18, slot := 0, constantValue := 0 }, { name := "replaced", type := (.object "java/util/Map"), accessFlags := 18, slot := 1, constantValue := 0 }, { name := "inserted", type := (.object "java/util/List"), accessFlags := 18, slot := 2, constantValue := 0 }, { name := "closed", type := .boolean, accessFlags := 2, slot := 3, constantValue := 0 }]
  methods := #[k3m0]
  instanceTypes := #[(.object "com/example/mimosa/mimosa/storage/Reading"), (.object "java/util/Map"), (.object "java/util/List"), .boolean]
  staticTypes := #[.long, .int]
  resolved := Array.replicate 153 none
  statics := none }

def pool4 : Array CpInfo := pool [(1, u "java/lang/Cloneable"), (0, .class_ 1), (0, u "java/lang/Object"), (0, .class_ 3)] 3

/-- java/lang/Cloneable -/
def k4 : Class := { plain "java/lang/Cloneable" (some 0) with
  accessFlags := 1537
  interfaces := #[]
  cf := some (fileOf pool4 2 #[] #[] 1537 4 #[] #[])
  fields := #[]
  methods := #[]
  instanceTypes := #[]
  staticTypes := #[]
  resolved := Array.replicate 8 none
  statics := none }

def pool5 : Array CpInfo := pool [(1, u "java/io/Serializable"), (0, .class_ 1), (0, u "java/lang/Object"), (0, .class_ 3)] 3

/-- java/io/Serializable -/
def k5 : Class := { plain "java/io/Serializable" (some 0) with
  accessFlags := 1537
  interfaces := #[]
  cf := some (fileOf pool5 2 #[] #[] 1537 4 #[] #[])
  fields := #[]
  methods := #[]
  instanceTypes := #[]
  staticTypes := #[]
  resolved := Array.replicate 8 none
  statics := none }

/-- the primitive byte -/
def k6 : Class := { plain "byte" none with kind := .primitive 'B', accessFlags := 0x411 }
/-- [B -/
def k7 : Class := { plain "[B" (some 0) with kind := .array 6 .byte, interfaces := #[4, 5], accessFlags := 1041 }

/-- the primitive int -/
def k8 : Class := { plain "int" none with kind := .primitive 'I', accessFlags := 0x411 }
/-- [I -/
def k9 : Class := { plain "[I" (some 0) with kind := .array 8 .int, interfaces := #[4, 5], accessFlags := 1041 }

def heap : Heap := #[]
def classes : Array Class := #[k0, k1, k2, k3, k4, k5, k6, k7, k8, k9]
def interned : List (Array UInt16 × Addr) := []
def slotsUsed : Nat := 0
def theMethod : MethodId := ⟨1, 1⟩
def args0 : Array Value := #[.long 5]
def aboutOver (below : List Frame) : State where
  vm := { classes := classes, interned := interned.toArray }
  heap := heap
  slotsUsed := slotsUsed
  threads := #[{ frames := .invoking theMethod args0 :: below }]
def below0 : List Frame := [.native { method := ⟨0, 0⟩, args := #[] }]
def about1 : State := aboutOver below0
def p0 : Program := .bare "" "" ""
def e0 : Env := launch0.env 0 0 0
theorem w_frames : about1.frames = Frame.invoking theMethod args0 :: below0 := rfl
set_option maxRecDepth 65536 in
theorem w_args : argsFit about1.vm theMethod args0 = true := by decide +kernel
set_option maxRecDepth 65536 in
theorem w_heap : heapFits about1 = true := by decide +kernel
set_option maxRecDepth 65536 in
theorem w_runnable : about1.curStatus? = some .runnable := by decide +kernel
set_option maxRecDepth 65536 in
theorem w_alone : about1.alone = true := by decide +kernel
set_option maxRecDepth 65536 in
theorem w_named : about1.methodNamed? x = some theMethod := by decide +kernel
set_option maxRecDepth 65536 in
theorem w_hears : about1.hears theMethod below0 = true := by decide +kernel
set_option maxRecDepth 65536 in
theorem w_ripe : about1.ripe theMethod args0 below0 = true := by decide +kernel
theorem w_running : about1.status = .running := rfl
set_option maxRecDepth 65536 in
theorem w_room : about1.hasRoom e0.platform room_1 = true :=
  launch0.hasRoom_least _ room_1 (by decide +kernel) (by decide +kernel) (by decide +kernel) (by decide +kernel) (by decide +kernel) (by decide +kernel)
theorem allAtoms_all (ts : List Jvm.Cond) (a : Array Jvm.Value) (st : Jvm.State) : (allAtoms ts).before a st = ts.all (fun c => c.before a st) := by
  induction ts with
  | nil => rfl
  | cons c t ih =>
    show (Jvm.Cond.and c (allAtoms t)).before a st = _
    rw [Jvm.Cond.before_and, ih, List.all_cons]
def words1 : List Jvm.Cond := Jvm.Cond.code x code maxLocals ret :: tables_1
/-- a 'code' word, met by the world's own term for the bytes: nothing is compared byte by byte -/
theorem code_word {y : MethodName} {bytes : ByteArray} {mx : Nat} {rt : Option FieldType} {a : Array Value} {s : State} {m : MethodId} {meth : Method} {c : Code} (h1 : s.methodNamed? y = some m) (h2 : s.vm.method? m = some meth) (h3 : meth.code = some c) (h4 : c.code = bytes)
    (h5 : (c.maxLocals == mx && c.exceptionTable.isEmpty && decide (c.maxStack ≤ mostOperands) && decide (meth.sig.returnType = rt) && !meth.locks && decide (parseMethodDescriptor y.desc = some meth.sig)) = true) : (Jvm.Cond.code y bytes mx rt).before a s = true := by
  simp only [Bool.and_eq_true, beq_iff_eq, Bool.not_eq_true', decide_eq_true_eq] at h5
  obtain ⟨⟨⟨⟨⟨g1, g2⟩, g3⟩, g4⟩, g5⟩, g6⟩ := h5
  simp [Cond.before, Cond.holds, Cond.value, h1, h2, h3, h4, g1, g2, g3, g4, g5, g6]
def isCode : Jvm.Cond → Bool
  | .code _ _ _ _ => true
  | _ => false
theorem all_split {L : List Jvm.Cond} {P : Jvm.Cond → Bool} (h1 : L.all (fun c => isCode c || P c) = true) (h2 : ∀ c ∈ L.filter isCode, P c = true) : L.all P = true := by
  refine List.all_eq_true.mpr fun c hc => ?_
  have h := List.all_eq_true.mp h1 c hc
  rcases Bool.eq_false_or_eq_true (isCode c) with hi | hi
  · exact h2 c (List.mem_filter.mpr ⟨hc, hi⟩)
  · simpa [hi] using h
set_option maxRecDepth 65536 in
theorem w_c0 : (Jvm.Cond.code x code maxLocals ret).before args0 about1 = true := code_word (m := ⟨1, 1⟩) (meth := k1m1) (c := k1c1) (by decide +kernel) rfl rfl rfl (by decide +kernel)
set_option maxRecDepth 65536 in
theorem w_c1 : (Jvm.Cond.code ({ cls := "com/example/mimosa/mimosa/transactions/View", name := "after", desc := "(J)J" } : Jvm.MethodName) prog_69_method_2_code (2 : Nat) (Option.some Jvm.ClassFile.FieldType.long)).before args0 about1 = true := code_word (m := ⟨3, 0⟩) (meth := k3m0) (c := k3c0) (by decide +kernel) rfl rfl rfl (by decide +kernel)
def codes1 : List Jvm.Cond := [Jvm.Cond.code x code maxLocals ret, Jvm.Cond.code ({ cls := "com/example/mimosa/mimosa/transactions/View", name := "after", desc := "(J)J" } : Jvm.MethodName) prog_69_method_2_code (2 : Nat) (Option.some Jvm.ClassFile.FieldType.long)]
set_option maxRecDepth 65536 in
theorem codes_eq : words1.filter isCode = codes1 := rfl
theorem w_codes : ∀ c ∈ words1.filter isCode, c.before args0 about1 = true := by
  rw [codes_eq]
  intro c hc
  simp only [codes1, List.mem_cons, List.not_mem_nil, or_false] at hc
  rcases hc with rfl | rfl
  · exact w_c0
  · exact w_c1
set_option maxRecDepth 65536 in
theorem w_t1 : words1.all (fun c => isCode c || c.before args0 about1) = true := by decide +kernel
theorem w_tables : (allAtoms (Jvm.Cond.code x code maxLocals ret :: tables_1)).before args0 about1 = true := by
  rw [allAtoms_all]
  show words1.all (fun c => c.before args0 about1) = true
  refine all_split ?_ w_codes
  rw [w_t1]
set_option maxRecDepth 65536 in
theorem w_case : (Jvm.Cond.and given_1 narrow_1).before args0 about1 = true := by decide +kernel
theorem w_applies : (headSpec (Jvm.Cond.code x code maxLocals ret :: tables_1) room_1).applies x e0.platform about1 = true :=
  (Spec.applies_iff w_frames).mpr ⟨w_running, w_runnable, w_alone, w_named, w_hears, w_ripe, w_room, w_tables⟩
theorem atStart : AtStart classFile x code maxLocals ret World_1 tables_1 room_1 Calls_1 rest_1 Pre_1 launch0 p0 e0 about1 theMethod args0 below0 :=
  ⟨lists_1, trivial, launch0.admits_env _ _ _, launch0.least_env, fairChoices_fair.cas, fairChoices_fair.clock, w_frames, w_args, w_heap, w_applies, trivial, trivial, w_case⟩
end start1
theorem witness_1 : WitnessClaimed_1 := ⟨start1.p0, start1.e0, start1.about1, start1.theMethod, start1.args0, start1.below0, start1.atStart⟩
end Jvm.Pilot.@@N@@
