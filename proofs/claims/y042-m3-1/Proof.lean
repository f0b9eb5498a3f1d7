import JvmDerived
import JvmDerived.Pilot.@@N@@Statement
import JvmDerived.Pilot.@@N@@Code
set_option linter.unusedVariables false
set_option linter.unusedSimpArgs false
namespace Jvm.Pilot.@@N@@
open Jvm Jvm.ClassFile Sem Op Lib Jvm.Free Jvm.Stand Jvm.LawKit Jvm.RoadKit Bundle Jvm.Pilot.@@N@@.Jvm.D
/-! the run comes to an end that answers Q -/
def Go (p : Program) (e : Env) (below : List Frame) (Q : Outcome → State → Prop) (T : State) (g : JFrame) : Prop :=
  ∃ s₂ o, Steps p.tables e below (T.setTop g) s₂ ∧ s₂.status = .running ∧ Ended s₂ below o ∧ Q o s₂
section Own
variable {p : Program} {l : Launch} {e : Env} {R : Room} {s : State} {m : MethodId} {args : Array Value} {below : List Frame} {meth : Method} {c : Code} {T T' : State} {locs : List Loc} {cells slots : Nat} {Q : Outcome → State → Prop} {g g' : JFrame}
theorem Go.of (k : ∀ t, Steps p.tables e below (T'.setTop g') t → Steps p.tables e below (T.setTop g) t) (h : Go p e below Q T' g') : Go p e below Q T g := by
  obtain ⟨u, o, h1, h2⟩ := h
  exact ⟨u, o, k _ h1, h2⟩
theorem Go.via (k : Steps p.tables e below (T.setTop g) (T'.setTop g')) (h : Go p e below Q T' g') : Go p e below Q T g := by
  obtain ⟨u, o, h1, h2⟩ := h
  exact ⟨u, o, k.trans h1, h2⟩
theorem Go.cast (q : g = g') (h : Go p e below Q T g') : Go p e below Q T g := q ▸ h
theorem own_out (X : Stand p l e R s m args below meth c T locs cells slots) {v : Option Value} (hv : meth.sig.returnType = none → v = none) (hlocks : meth.locks = false)
    (k : ∀ fs : List Frame, (∀ (f : JFrame) (acts : List Action), f.method = m → f.locked = none → f.entered = [] → (doReturn e (T.setTop f) acts v).1 = T.setFrames fs) → Steps p.tables e below (T.setTop g) (T.setFrames fs))
    (hQ : ∀ u : State, u.heap = T.heap → FrameEnd s (.returned v) u locs cells slots → Q (.returned v) u) : Go p e below Q T g := by
  obtain ⟨fs, hr, hrun, hended, hW, hsame⟩ := X.leave hv hlocks
  exact ⟨_, _, k fs hr, hrun, hended, hQ _ rfl ⟨⟨_, rfl⟩, hW, hsame⟩⟩
theorem own_retN (X : Stand p l e R s m args below meth c T locs cells slots) (hx : p.tables.exec = Jvm.exec) (hlocks : meth.locks = false) {pc : Nat} {Ls : Array Slot} {z : Int32} {t : FieldType} {rest : List Value} (hret : meth.sig.returnType = some t) (ht : t = .boolean ∨ t = .byte ∨ t = .char ∨ t = .short)
    (hd : decode c.code pc = .ok (.ireturn, 1)) (hQ : ∀ u : State, u.heap = T.heap → FrameEnd s (.returned (some (.int (nar t z)))) u locs cells slots → Q (.returned (some (.int (nar t z)))) u) : Go p e below Q T (mkF m pc Ls (.int z :: rest)) :=
  own_out X (fun h => by rw [hret] at h; cases h) hlocks (fun fs hr => retN X hx hret ht hd hr) hQ
theorem own_retW (X : Stand p l e R s m args below meth c T locs cells slots) (hx : p.tables.exec = Jvm.exec) (hlocks : meth.locks = false) {pc : Nat} {Ls : Array Slot} {w : Value} {t : FieldType} {i : Instr} {rest : List Value} (hret : meth.sig.returnType = some t) (hn : narrow t w = w)
    (hi : (i = .ireturn ∧ (t = .int ∨ t = .boolean ∨ t = .byte ∨ t = .char ∨ t = .short) ∧ ∃ z, w = .int z) ∨ (i = .lreturn ∧ t = .long ∧ ∃ z, w = .long z) ∨ (i = .dreturn ∧ t = .double ∧ ∃ z, w = .double z) ∨ (i = .freturn ∧ t = .float ∧ ∃ z, w = .float z) ∨ (i = .areturn ∧ t.isReference = true ∧ w.isRef = true))
    (hd : decode c.code pc = .ok (i, 1)) (hQ : ∀ u : State, u.heap = T.heap → FrameEnd s (.returned (some w)) u locs cells slots → Q (.returned (some w)) u) : Go p e below Q T (mkF m pc Ls (w :: rest)) :=
  own_out X (fun h => by rw [hret] at h; cases h) hlocks (fun fs hr => retOut X hx hret hn hi hd hr) hQ
theorem own_ret0 (X : Stand p l e R s m args below meth c T locs cells slots) (hx : p.tables.exec = Jvm.exec) (hlocks : meth.locks = false) {pc : Nat} {Ls : Array Slot} (hret : meth.sig.returnType = none)
    (hd : decode c.code pc = .ok (.return_, 1)) (hQ : ∀ u : State, u.heap = T.heap → FrameEnd s (.returned none) u locs cells slots → Q (.returned none) u) : Go p e below Q T (mkF m pc Ls []) :=
  own_out X (fun _ => rfl) hlocks (fun fs hr => X.returnOut hx hret hd hr) hQ
theorem own_cs {c' s' : Nat} (X : Stand p l e R s m args below meth c T locs cells slots) (hc : cells = c') (hs : slots = s') : Stand p l e R s m args below meth c T locs c' s' := by subst hc hs; exact X
theorem own_locs {n0 : Nat} (X : Stand p l e R s m args below meth c T locs cells slots) (N : Fr n0 locs) : ∃ L, Stand p l e R s m args below meth c T L cells slots ∧ Fr n0 L := ⟨_, X, N⟩
theorem own_mono {o : Outcome} {u : State} {k n k' n' : Nat} (h : FrameEnd s o u locs k n) (hk : k ≤ k') (hn : n ≤ n') : FrameEnd s o u locs k' n' := ⟨h.1, h.2.1, h.2.2.mono hk hn⟩
end Own
theorem own_eqI {args : Array Value} {s : State} {t : Term} {k : Int32} (h : (Cond.eq t (.int k)).value args s none s [] = some true) : t.eval args s none [] s = some (.int k) := by
  simp only [Cond.value, Term.eval] at h
  cases ht : t.eval args s none [] s with
  | none => simp [ht] at h
  | some x => cases x <;> simp [ht] at h ⊢; exact h
theorem own_staKeep {Z : State} {h h' : Heap} {C n d : String} {v : Value} {ws : List Addr} (F : Sta Z h C n d v) (K : Keep h h' ws) (q : ∀ x ∈ ws, ∀ cell : Cell, h[x]? = some cell → cell.vm.isStatics = false) : Sta Z h' C n d v := by
  obtain ⟨cf, i, k, f, st, cell, h1, h2, h3, h4, h5, h6, h7⟩ := F
  have hn : st ∉ ws := fun y => by have := q st y cell h5; rw [this] at h6; cases h6
  exact ⟨cf, i, k, f, st, cell, h1, h2, h3, h4, K.2.1 st cell h5 hn, h6, h7⟩
theorem own_plainE {Z : State} {h : Heap} {a : Addr} {C : String} (F : Exa Z h a C) : ∀ cell : Cell, h[a]? = some cell → cell.vm.isStatics = false := fun cell hc => by
  obtain ⟨c, _, h1, -, -, h4, -⟩ := F
  cases h1.symm.trans hc; exact h4
theorem own_plainV {Z : State} {h : Heap} {a : Addr} {k : ClassId} {ty : FieldType} {n : Int32} {vs : List Value} {d : Value} (F : Arv Z h a k ty n vs d) : ∀ cell : Cell, h[a]? = some cell → cell.vm.isStatics = false := fun cell hc => by
  obtain ⟨c, A, -⟩ := F
  cases A.1.symm.trans hc; exact A.plain
theorem own_narR {t : FieldType} {w : Value} (h : w.isRef = true) : narrow t w = w := by rcases ref_cases h with rfl | ⟨_, rfl⟩ <;> cases t <;> rfl
theorem own_fitR {C : String} {w : Value} (h : w.isRef = true) : fits (.object C) w = true := by rcases ref_cases h with rfl | ⟨_, rfl⟩ <;> rfl
theorem own_getR {L : List Value} {d : Value} (h : ∀ v ∈ L, v.isRef = true) (hd : d.isRef = true) (j : Nat) : (L.getD j d).isRef = true := by
  rw [List.getD_eq_getElem?_getD]
  cases q : L[j]? with
  | none => exact hd
  | some v => exact h v (List.mem_of_getElem? q)
section Wide
variable {p : Program} {l : Launch} {e : Env} {R : Room} {s : State} {m : MethodId} {args : Array Value} {below : List Frame} {meth : Method} {c : Code} {T T' : State} {locs : List Loc} {cells slots : Nat} {Q : Outcome → State → Prop} {g g' : JFrame} {vm1 : Vm}
theorem own_retNW (X : Stand p l e R (s.setVm vm1) m args below meth c T locs cells slots) {n : Nat} (hS : s.Since vm1 n) (hn : n ≤ T.heap.size) (hx : p.tables.exec = Jvm.exec) (hlocks : meth.locks = false) {pc : Nat} {Ls : Array Slot} {z : Int32} {t : FieldType} {rest : List Value} (hret : meth.sig.returnType = some t) (ht : t = .boolean ∨ t = .byte ∨ t = .char ∨ t = .short)
    (hd : decode c.code pc = .ok (.ireturn, 1)) (hQ : ∀ u : State, u.heap = T.heap → ReturnedEndW s (.returned (some (.int (nar t z)))) u locs cells slots → Q (.returned (some (.int (nar t z)))) u) : Go p e below Q T (mkF m pc Ls (.int z :: rest)) := by
  obtain ⟨fs, hr, hrun, hended, hE⟩ := X.leaveW hS hn (v := some (.int (nar t z))) (fun h => by rw [hret] at h; cases h) hlocks
  exact ⟨_, _, retN X hx hret ht hd hr, hrun, hended, hQ _ rfl hE⟩
theorem own_monoW {o : Outcome} {u : State} {k n k' n' : Nat} (h : ReturnedEndW s o u locs k n) (hk : k ≤ k') (hn : n ≤ n') : ReturnedEndW s o u locs k' n' := ⟨h.1, h.2.1, h.2.2.1, h.2.2.2.mono hk hn⟩
theorem own_lenNe {Z : State} {h : Heap} {a b : Addr} {k k' : ClassId} {ty ty' : FieldType} {z z' : Int32} {vs vs' : List Value} {d d' : Value} (A : Arv Z h a k ty z vs d) (B : Arv Z h b k' ty' z' vs' d') (q : z.toNatClampNeg ≠ z'.toNatClampNeg) : a ≠ b := fun e => by
  subst e
  obtain ⟨c, A, -, S, -⟩ := A
  obtain ⟨c', B, -, S', -⟩ := B
  cases A.1.symm.trans B.1
  exact q (S.symm.trans S')
theorem own_strNe {Z : State} {h : Heap} {a b x y : Addr} {k k' : ClassId} {ty ty' : FieldType} {z z' : Int32} {vs vs' : List Value} {d d' : Value} {C f ds : String} (F : Fld Z h x C f ds (.ref a)) (G : Fld Z h y C f ds (.ref b)) (A : Arv Z h a k ty z vs d) (B : Arv Z h b k' ty' z' vs' d') (q : z.toNatClampNeg ≠ z'.toNatClampNeg) : x ≠ y :=
  Fld.ne F G fun e => own_lenNe A B q (Value.ref.inj e)
end Wide
theorem own_neI {args : Array Value} {s : State} {t : Term} {z k : Int32} (ev : t.eval args s none [] s = some (.int z)) (h : (Cond.not (.eq t (.int k))).before args s = true) : ¬ z = k := by
  have h1 := not_v (Cond.before_iff.mp h)
  intro e
  subst e
  rw [eq_i ev (Term.int_eval _) rfl] at h1
  cases h1
theorem d20_0 : decode jdk_43_method_13_code 0 = .ok (.aload_n 0, 1) := by decide +kernel
theorem d20_1 : decode jdk_43_method_13_code 1 = .ok (.arraylength, 1) := by decide +kernel
theorem d20_2 : decode jdk_43_method_13_code 2 = .ok (.aload_n 1, 1) := by decide +kernel
theorem d20_3 : decode jdk_43_method_13_code 3 = .ok (.arraylength, 1) := by decide +kernel
theorem d20_4 : decode jdk_43_method_13_code 4 = .ok (.if_icmp .ne 30, 3) := by decide +kernel
theorem d20_7 : decode jdk_43_method_13_code 7 = .ok (.iconst 0, 1) := by decide +kernel
theorem d20_8 : decode jdk_43_method_13_code 8 = .ok (.istore_n 2, 1) := by decide +kernel
theorem d20_9 : decode jdk_43_method_13_code 9 = .ok (.iload_n 2, 1) := by decide +kernel
theorem d20_10 : decode jdk_43_method_13_code 10 = .ok (.aload_n 0, 1) := by decide +kernel
theorem d20_11 : decode jdk_43_method_13_code 11 = .ok (.arraylength, 1) := by decide +kernel
theorem d20_12 : decode jdk_43_method_13_code 12 = .ok (.if_icmp .ge 20, 3) := by decide +kernel
theorem d20_15 : decode jdk_43_method_13_code 15 = .ok (.aload_n 0, 1) := by decide +kernel
theorem d20_16 : decode jdk_43_method_13_code 16 = .ok (.iload_n 2, 1) := by decide +kernel
theorem d20_17 : decode jdk_43_method_13_code 17 = .ok (.baload, 1) := by decide +kernel
theorem d20_18 : decode jdk_43_method_13_code 18 = .ok (.aload_n 1, 1) := by decide +kernel
theorem d20_19 : decode jdk_43_method_13_code 19 = .ok (.iload_n 2, 1) := by decide +kernel
theorem d20_20 : decode jdk_43_method_13_code 20 = .ok (.baload, 1) := by decide +kernel
theorem d20_21 : decode jdk_43_method_13_code 21 = .ok (.if_icmp .eq 5, 3) := by decide +kernel
theorem d20_26 : decode jdk_43_method_13_code 26 = .ok (.iinc 2 1, 3) := by decide +kernel
theorem d20_29 : decode jdk_43_method_13_code 29 = .ok (.goto (-20), 3) := by decide +kernel
theorem d20_32 : decode jdk_43_method_13_code 32 = .ok (.iconst 1, 1) := by decide +kernel
theorem d20_33 : decode jdk_43_method_13_code 33 = .ok (.ireturn, 1) := by decide +kernel
theorem pn_0 : plainName "java/lang/StringLatin1" = true := by first | (simp [plainName, overriddenIn]; done) | decide +kernel
theorem ef_20 (m : MethodId) (r1 : Addr) (r2 : Addr)  : entryFrame m #[(.ref r1), (.ref r2)] 3 = mkF m 0 #[.val (.ref r1), .val (.ref r2), .unset] [] := by
  first | (simp [entryFrame, mkF, argsToLocals, Value.category]; done) | rfl
def Q20 (Z : State) (r1 : Addr) (r2 : Addr) (k_1 : ClassId) (k_2 : ClassId) (h0 : Heap) (n0 : Nat) (v : Option Value) (h : Heap) (L : List Loc) : Prop := v = some (.int (1 : Int32)) ∧ Fr n0 L ∧ h = h0
set_option maxRecDepth 65536 in
set_option maxHeartbeats 40000000 in
theorem rm20 (l : Launch) (Z : State) (a0 : Array Value) (hw : ∀ d ∈ tables_1, d.before a0 Z = true) (ws : List Jvm.Cond) (r1 : Addr) (r2 : Addr) (k_1 : ClassId) (k_2 : ClassId) (h0 : Heap) (n0 : Nat) (Z0 : n0 ≤ h0.size) (f0 : Arv Z h0 r1 k_1 .byte (4 : Int32) [(.int (109 : Int32)), (.int (118 : Int32)), (.int (99 : Int32)), (.int (99 : Int32))] (.int 0)) (f1 : Arv Z h0 r2 k_2 .byte (4 : Int32) [(.int (109 : Int32)), (.int (118 : Int32)), (.int (99 : Int32)), (.int (99 : Int32))] (.int 0)) :
    MetFree l (⟨"java/lang/StringLatin1", "equals", "([B[B)Z"⟩ : MethodName) (head1 (Jvm.Cond.code (⟨"java/lang/StringLatin1", "equals", "([B[B)Z"⟩ : MethodName) jdk_43_method_13_code 3 (some .boolean) :: ws) ({ frames := 0, cells := 0, slots := 0, locals := 0 } : Room)) (fun a U => a = #[(.ref r1), (.ref r2)] ∧ Z.Warmed39 U.vm ∧ U.heap = h0) (fun _ _ _ _ _ => True) (fun _ U o U' => ∃ v L, o = .returned v ∧ Q20 Z r1 r2 k_1 k_2 h0 n0 v U'.heap L ∧ FrameEnd U o U' L ({ frames := 0, cells := 0, slots := 0, locals := 0 } : Room).cells ({ frames := 0, cells := 0, slots := 0, locals := 0 } : Room).slots) := by
  refine MetFree.of_bodySF (plainFor_of_name pn_0) hisR ?_
  intro p e s m args below meth c s₁ Bd hml0 hP hK
  obtain ⟨rfl, hZ, hh⟩ := hP
  have hx := Bd.exec
  have hby := Bd.bytes
  have hml : c.maxLocals = 3 := hml0
  have hown : s.vm.findClass "java/lang/StringLatin1" = some m.cls := findClass_of_methodNamed Bd.named
  have hnm := (name_of_methodNamed Bd.named Bd.method).1
  have X0 : Stand p l e ({ frames := 0, cells := 0, slots := 0, locals := 0 } : Room) s m #[(.ref r1), (.ref r2)] below meth c s₁ [] 0 0 := Stand.of_body Bd
  have e0 : s₁.heap = h0 := by rw [← hh, Bd.state]; rfl
  have N0 := Fr.nil n0
  suffices H : ∀ Qo : Outcome → State → Prop, (∀ (v : Option Value) (u : State) (L : List Loc), Q20 Z r1 r2 k_1 k_2 h0 n0 v u.heap L → FrameEnd s (.returned v) u L ({ frames := 0, cells := 0, slots := 0, locals := 0 } : Room).cells ({ frames := 0, cells := 0, slots := 0, locals := 0 } : Room).slots → Qo (.returned v) u) → Go p e below Qo s₁ (mkF m 0 #[.val (.ref r1), .val (.ref r2), .unset] []) from
    Go.cast (ef_20 m r1 r2) (H _ fun v u L h1 h2 => ⟨v, L, rfl, h1, h2⟩)
  intro Qo hQo
  show Go p e below Qo s₁ (mkF m 0 #[.val (.ref r1), .val (.ref r2), .unset] [])
  refine Go.of (fun t k => XS.aloadN X0.here hx rfl (hb hby d20_0) rfl rfl k) ?_
  show Go p e below Qo s₁ (mkF m 1 #[.val (.ref r1), .val (.ref r2), .unset] [(.ref r1)])
  have cpo1 := f0
  obtain ⟨clo1, Aro1, qco1, So1, Mo1, Ho1, Go1⟩ := cpo1
  refine Go.of (fun t k => X0.arraylength hx (cell := clo1) (by rw [e0]; exact Aro1.1) (State.isArrayOf_alike hZ.alike Aro1.2.1) (g := (mkF m 1 #[.val (.ref r1), .val (.ref r2), .unset] [(.ref r1)])) rfl rfl (hb hby d20_1) t k) ?_
  rw [len_of So1 Mo1]
  show Go p e below Qo s₁ (mkF m 2 #[.val (.ref r1), .val (.ref r2), .unset] [(.int (4 : Int32))])
  refine Go.of (fun t k => XS.aloadN X0.here hx rfl (hb hby d20_2) rfl rfl k) ?_
  show Go p e below Qo s₁ (mkF m 3 #[.val (.ref r1), .val (.ref r2), .unset] [(.ref r2), (.int (4 : Int32))])
  have cpo2 := f1
  obtain ⟨clo2, Aro2, qco2, So2, Mo2, Ho2, Go2⟩ := cpo2
  refine Go.of (fun t k => X0.arraylength hx (cell := clo2) (by rw [e0]; exact Aro2.1) (State.isArrayOf_alike hZ.alike Aro2.2.1) (g := (mkF m 3 #[.val (.ref r1), .val (.ref r2), .unset] [(.ref r2), (.int (4 : Int32))])) rfl rfl (hb hby d20_3) t k) ?_
  rw [len_of So2 Mo2]
  show Go p e below Qo s₁ (mkF m 4 #[.val (.ref r1), .val (.ref r2), .unset] [(.int (4 : Int32)), (.int (4 : Int32))])
  refine Go.of (fun t k => XS.icmpNo X0.here hx rfl (hb hby d20_4) rfl (teq (by decide : (4 : Int32) = (4 : Int32))).2 k) ?_
  show Go p e below Qo s₁ (mkF m 7 #[.val (.ref r1), .val (.ref r2), .unset] [])
  refine Go.of (fun t k => XS.iconst X0.here hx rfl (hb hby d20_7) k) ?_
  show Go p e below Qo s₁ (mkF m 8 #[.val (.ref r1), .val (.ref r2), .unset] [(.int (0 : Int32))])
  refine Go.of (fun t k => XS.istoreN X0.here hx rfl (hb hby d20_8) rfl (l' := #[.val (.ref r1), .val (.ref r2), .val (.int (0 : Int32))]) rfl k) ?_
  show Go p e below Qo s₁ (mkF m 9 #[.val (.ref r1), .val (.ref r2), .val (.int (0 : Int32))] [])
  refine Go.of (fun t k => XS.iloadN X0.here hx rfl (hb hby d20_9) rfl  k) ?_
  show Go p e below Qo s₁ (mkF m 10 #[.val (.ref r1), .val (.ref r2), .val (.int (0 : Int32))] [(.int (0 : Int32))])
  refine Go.of (fun t k => XS.aloadN X0.here hx rfl (hb hby d20_10) rfl rfl k) ?_
  show Go p e below Qo s₁ (mkF m 11 #[.val (.ref r1), .val (.ref r2), .val (.int (0 : Int32))] [(.ref r1), (.int (0 : Int32))])
  have cpo3 := f0
  obtain ⟨clo3, Aro3, qco3, So3, Mo3, Ho3, Go3⟩ := cpo3
  refine Go.of (fun t k => X0.arraylength hx (cell := clo3) (by rw [e0]; exact Aro3.1) (State.isArrayOf_alike hZ.alike Aro3.2.1) (g := (mkF m 11 #[.val (.ref r1), .val (.ref r2), .val (.int (0 : Int32))] [(.ref r1), (.int (0 : Int32))])) rfl rfl (hb hby d20_11) t k) ?_
  rw [len_of So3 Mo3]
  show Go p e below Qo s₁ (mkF m 12 #[.val (.ref r1), .val (.ref r2), .val (.int (0 : Int32))] [(.int (4 : Int32)), (.int (0 : Int32))])
  refine Go.of (fun t k => XS.icmpNo X0.here hx rfl (hb hby d20_12) rfl (tlt (by decide : (0 : Int32) < (4 : Int32))).2.1 k) ?_
  show Go p e below Qo s₁ (mkF m 15 #[.val (.ref r1), .val (.ref r2), .val (.int (0 : Int32))] [])
  refine Go.of (fun t k => XS.aloadN X0.here hx rfl (hb hby d20_15) rfl rfl k) ?_
  show Go p e below Qo s₁ (mkF m 16 #[.val (.ref r1), .val (.ref r2), .val (.int (0 : Int32))] [(.ref r1)])
  refine Go.of (fun t k => XS.iloadN X0.here hx rfl (hb hby d20_16) rfl  k) ?_
  show Go p e below Qo s₁ (mkF m 17 #[.val (.ref r1), .val (.ref r2), .val (.int (0 : Int32))] [(.int (0 : Int32)), (.ref r1)])
  have cpo4 := f0
  obtain ⟨clo4, Aro4, qco4, So4, Mo4, Ho4, Go4⟩ := cpo4
  have hin5 : ¬ ((0 : Int32) < 0 ∨ clo4.slots.size ≤ (0 : Int32).toNatClampNeg) := (inb_of So4 ⟨by decide, by decide⟩)
  refine Go.of (fun t k => X0.baloadBytes hx (j := (0 : Int32)) (v := (.int (109 : Int32))) (by rw [e0]; exact Aro4.1) (State.isArrayOf_alike hZ.alike Aro4.2.1) Aro4.2.2 hin5 (Ho4.at hin5 rfl) (g := (mkF m 17 #[.val (.ref r1), .val (.ref r2), .val (.int (0 : Int32))] [(.int (0 : Int32)), (.ref r1)])) rfl rfl (hb hby d20_17) t k) ?_
  show Go p e below Qo s₁ (mkF m 18 #[.val (.ref r1), .val (.ref r2), .val (.int (0 : Int32))] [(.int (109 : Int32))])
  refine Go.of (fun t k => XS.aloadN X0.here hx rfl (hb hby d20_18) rfl rfl k) ?_
  show Go p e below Qo s₁ (mkF m 19 #[.val (.ref r1), .val (.ref r2), .val (.int (0 : Int32))] [(.ref r2), (.int (109 : Int32))])
  refine Go.of (fun t k => XS.iloadN X0.here hx rfl (hb hby d20_19) rfl  k) ?_
  show Go p e below Qo s₁ (mkF m 20 #[.val (.ref r1), .val (.ref r2), .val (.int (0 : Int32))] [(.int (0 : Int32)), (.ref r2), (.int (109 : Int32))])
  have cpo6 := f1
  obtain ⟨clo6, Aro6, qco6, So6, Mo6, Ho6, Go6⟩ := cpo6
  have hin7 : ¬ ((0 : Int32) < 0 ∨ clo6.slots.size ≤ (0 : Int32).toNatClampNeg) := (inb_of So6 ⟨by decide, by decide⟩)
  refine Go.of (fun t k => X0.baloadBytes hx (j := (0 : Int32)) (v := (.int (109 : Int32))) (by rw [e0]; exact Aro6.1) (State.isArrayOf_alike hZ.alike Aro6.2.1) Aro6.2.2 hin7 (Ho6.at hin7 rfl) (g := (mkF m 20 #[.val (.ref r1), .val (.ref r2), .val (.int (0 : Int32))] [(.int (0 : Int32)), (.ref r2), (.int (109 : Int32))])) rfl rfl (hb hby d20_20) t k) ?_
  show Go p e below Qo s₁ (mkF m 21 #[.val (.ref r1), .val (.ref r2), .val (.int (0 : Int32))] [(.int (109 : Int32)), (.int (109 : Int32))])
  refine Go.of (fun t k => XS.icmpYes X0.here hx rfl (pc0 := 21) (pc' := 26) rfl (hb hby d20_21) rfl (teq (by decide : (109 : Int32) = (109 : Int32))).1 (by decide) (by decide) k) ?_
  show Go p e below Qo s₁ (mkF m 26 #[.val (.ref r1), .val (.ref r2), .val (.int (0 : Int32))] [])
  refine Go.of (fun t k => XS.iinc X0.here hx rfl (hb hby d20_26) rfl (l' := #[.val (.ref r1), .val (.ref r2), .val (.int (1 : Int32))]) rfl k) ?_
  show Go p e below Qo s₁ (mkF m 29 #[.val (.ref r1), .val (.ref r2), .val (.int (1 : Int32))] [])
  refine Go.of (fun t k => XS.goto X0.here hx rfl (pc0 := 29) (pc' := 9) rfl (hb hby d20_29) (by decide) (by decide) k) ?_
  show Go p e below Qo s₁ (mkF m 9 #[.val (.ref r1), .val (.ref r2), .val (.int (1 : Int32))] [])
  refine Go.of (fun t k => XS.iloadN X0.here hx rfl (hb hby d20_9) rfl  k) ?_
  show Go p e below Qo s₁ (mkF m 10 #[.val (.ref r1), .val (.ref r2), .val (.int (1 : Int32))] [(.int (1 : Int32))])
  refine Go.of (fun t k => XS.aloadN X0.here hx rfl (hb hby d20_10) rfl rfl k) ?_
  show Go p e below Qo s₁ (mkF m 11 #[.val (.ref r1), .val (.ref r2), .val (.int (1 : Int32))] [(.ref r1), (.int (1 : Int32))])
  have cpo8 := f0
  obtain ⟨clo8, Aro8, qco8, So8, Mo8, Ho8, Go8⟩ := cpo8
  refine Go.of (fun t k => X0.arraylength hx (cell := clo8) (by rw [e0]; exact Aro8.1) (State.isArrayOf_alike hZ.alike Aro8.2.1) (g := (mkF m 11 #[.val (.ref r1), .val (.ref r2), .val (.int (1 : Int32))] [(.ref r1), (.int (1 : Int32))])) rfl rfl (hb hby d20_11) t k) ?_
  rw [len_of So8 Mo8]
  show Go p e below Qo s₁ (mkF m 12 #[.val (.ref r1), .val (.ref r2), .val (.int (1 : Int32))] [(.int (4 : Int32)), (.int (1 : Int32))])
  refine Go.of (fun t k => XS.icmpNo X0.here hx rfl (hb hby d20_12) rfl (tlt (by decide : (1 : Int32) < (4 : Int32))).2.1 k) ?_
  show Go p e below Qo s₁ (mkF m 15 #[.val (.ref r1), .val (.ref r2), .val (.int (1 : Int32))] [])
  refine Go.of (fun t k => XS.aloadN X0.here hx rfl (hb hby d20_15) rfl rfl k) ?_
  show Go p e below Qo s₁ (mkF m 16 #[.val (.ref r1), .val (.ref r2), .val (.int (1 : Int32))] [(.ref r1)])
  refine Go.of (fun t k => XS.iloadN X0.here hx rfl (hb hby d20_16) rfl  k) ?_
  show Go p e below Qo s₁ (mkF m 17 #[.val (.ref r1), .val (.ref r2), .val (.int (1 : Int32))] [(.int (1 : Int32)), (.ref r1)])
  have cpo9 := f0
  obtain ⟨clo9, Aro9, qco9, So9, Mo9, Ho9, Go9⟩ := cpo9
  have hin10 : ¬ ((1 : Int32) < 0 ∨ clo9.slots.size ≤ (1 : Int32).toNatClampNeg) := (inb_of So9 ⟨by decide, by decide⟩)
  refine Go.of (fun t k => X0.baloadBytes hx (j := (1 : Int32)) (v := (.int (118 : Int32))) (by rw [e0]; exact Aro9.1) (State.isArrayOf_alike hZ.alike Aro9.2.1) Aro9.2.2 hin10 (Ho9.at hin10 rfl) (g := (mkF m 17 #[.val (.ref r1), .val (.ref r2), .val (.int (1 : Int32))] [(.int (1 : Int32)), (.ref r1)])) rfl rfl (hb hby d20_17) t k) ?_
  show Go p e below Qo s₁ (mkF m 18 #[.val (.ref r1), .val (.ref r2), .val (.int (1 : Int32))] [(.int (118 : Int32))])
  refine Go.of (fun t k => XS.aloadN X0.here hx rfl (hb hby d20_18) rfl rfl k) ?_
  show Go p e below Qo s₁ (mkF m 19 #[.val (.ref r1), .val (.ref r2), .val (.int (1 : Int32))] [(.ref r2), (.int (118 : Int32))])
  refine Go.of (fun t k => XS.iloadN X0.here hx rfl (hb hby d20_19) rfl  k) ?_
  show Go p e below Qo s₁ (mkF m 20 #[.val (.ref r1), .val (.ref r2), .val (.int (1 : Int32))] [(.int (1 : Int32)), (.ref r2), (.int (118 : Int32))])
  have cpo11 := f1
  obtain ⟨clo11, Aro11, qco11, So11, Mo11, Ho11, Go11⟩ := cpo11
  have hin12 : ¬ ((1 : Int32) < 0 ∨ clo11.slots.size ≤ (1 : Int32).toNatClampNeg) := (inb_of So11 ⟨by decide, by decide⟩)
  refine Go.of (fun t k => X0.baloadBytes hx (j := (1 : Int32)) (v := (.int (118 : Int32))) (by rw [e0]; exact Aro11.1) (State.isArrayOf_alike hZ.alike Aro11.2.1) Aro11.2.2 hin12 (Ho11.at hin12 rfl) (g := (mkF m 20 #[.val (.ref r1), .val (.ref r2), .val (.int (1 : Int32))] [(.int (1 : Int32)), (.ref r2), (.int (118 : Int32))])) rfl rfl (hb hby d20_20) t k) ?_
  show Go p e below Qo s₁ (mkF m 21 #[.val (.ref r1), .val (.ref r2), .val (.int (1 : Int32))] [(.int (118 : Int32)), (.int (118 : Int32))])
  refine Go.of (fun t k => XS.icmpYes X0.here hx rfl (pc0 := 21) (pc' := 26) rfl (hb hby d20_21) rfl (teq (by decide : (118 : Int32) = (118 : Int32))).1 (by decide) (by decide) k) ?_
  show Go p e below Qo s₁ (mkF m 26 #[.val (.ref r1), .val (.ref r2), .val (.int (1 : Int32))] [])
  refine Go.of (fun t k => XS.iinc X0.here hx rfl (hb hby d20_26) rfl (l' := #[.val (.ref r1), .val (.ref r2), .val (.int (2 : Int32))]) rfl k) ?_
  show Go p e below Qo s₁ (mkF m 29 #[.val (.ref r1), .val (.ref r2), .val (.int (2 : Int32))] [])
  refine Go.of (fun t k => XS.goto X0.here hx rfl (pc0 := 29) (pc' := 9) rfl (hb hby d20_29) (by decide) (by decide) k) ?_
  show Go p e below Qo s₁ (mkF m 9 #[.val (.ref r1), .val (.ref r2), .val (.int (2 : Int32))] [])
  refine Go.of (fun t k => XS.iloadN X0.here hx rfl (hb hby d20_9) rfl  k) ?_
  show Go p e below Qo s₁ (mkF m 10 #[.val (.ref r1), .val (.ref r2), .val (.int (2 : Int32))] [(.int (2 : Int32))])
  refine Go.of (fun t k => XS.aloadN X0.here hx rfl (hb hby d20_10) rfl rfl k) ?_
  show Go p e below Qo s₁ (mkF m 11 #[.val (.ref r1), .val (.ref r2), .val (.int (2 : Int32))] [(.ref r1), (.int (2 : Int32))])
  have cpo13 := f0
  obtain ⟨clo13, Aro13, qco13, So13, Mo13, Ho13, Go13⟩ := cpo13
  refine Go.of (fun t k => X0.arraylength hx (cell := clo13) (by rw [e0]; exact Aro13.1) (State.isArrayOf_alike hZ.alike Aro13.2.1) (g := (mkF m 11 #[.val (.ref r1), .val (.ref r2), .val (.int (2 : Int32))] [(.ref r1), (.int (2 : Int32))])) rfl rfl (hb hby d20_11) t k) ?_
  rw [len_of So13 Mo13]
  show Go p e below Qo s₁ (mkF m 12 #[.val (.ref r1), .val (.ref r2), .val (.int (2 : Int32))] [(.int (4 : Int32)), (.int (2 : Int32))])
  refine Go.of (fun t k => XS.icmpNo X0.here hx rfl (hb hby d20_12) rfl (tlt (by decide : (2 : Int32) < (4 : Int32))).2.1 k) ?_
  show Go p e below Qo s₁ (mkF m 15 #[.val (.ref r1), .val (.ref r2), .val (.int (2 : Int32))] [])
  refine Go.of (fun t k => XS.aloadN X0.here hx rfl (hb hby d20_15) rfl rfl k) ?_
  show Go p e below Qo s₁ (mkF m 16 #[.val (.ref r1), .val (.ref r2), .val (.int (2 : Int32))] [(.ref r1)])
  refine Go.of (fun t k => XS.iloadN X0.here hx rfl (hb hby d20_16) rfl  k) ?_
  show Go p e below Qo s₁ (mkF m 17 #[.val (.ref r1), .val (.ref r2), .val (.int (2 : Int32))] [(.int (2 : Int32)), (.ref r1)])
  have cpo14 := f0
  obtain ⟨clo14, Aro14, qco14, So14, Mo14, Ho14, Go14⟩ := cpo14
  have hin15 : ¬ ((2 : Int32) < 0 ∨ clo14.slots.size ≤ (2 : Int32).toNatClampNeg) := (inb_of So14 ⟨by decide, by decide⟩)
  refine Go.of (fun t k => X0.baloadBytes hx (j := (2 : Int32)) (v := (.int (99 : Int32))) (by rw [e0]; exact Aro14.1) (State.isArrayOf_alike hZ.alike Aro14.2.1) Aro14.2.2 hin15 (Ho14.at hin15 rfl) (g := (mkF m 17 #[.val (.ref r1), .val (.ref r2), .val (.int (2 : Int32))] [(.int (2 : Int32)), (.ref r1)])) rfl rfl (hb hby d20_17) t k) ?_
  show Go p e below Qo s₁ (mkF m 18 #[.val (.ref r1), .val (.ref r2), .val (.int (2 : Int32))] [(.int (99 : Int32))])
  refine Go.of (fun t k => XS.aloadN X0.here hx rfl (hb hby d20_18) rfl rfl k) ?_
  show Go p e below Qo s₁ (mkF m 19 #[.val (.ref r1), .val (.ref r2), .val (.int (2 : Int32))] [(.ref r2), (.int (99 : Int32))])
  refine Go.of (fun t k => XS.iloadN X0.here hx rfl (hb hby d20_19) rfl  k) ?_
  show Go p e below Qo s₁ (mkF m 20 #[.val (.ref r1), .val (.ref r2), .val (.int (2 : Int32))] [(.int (2 : Int32)), (.ref r2), (.int (99 : Int32))])
  have cpo16 := f1
  obtain ⟨clo16, Aro16, qco16, So16, Mo16, Ho16, Go16⟩ := cpo16
  have hin17 : ¬ ((2 : Int32) < 0 ∨ clo16.slots.size ≤ (2 : Int32).toNatClampNeg) := (inb_of So16 ⟨by decide, by decide⟩)
  refine Go.of (fun t k => X0.baloadBytes hx (j := (2 : Int32)) (v := (.int (99 : Int32))) (by rw [e0]; exact Aro16.1) (State.isArrayOf_alike hZ.alike Aro16.2.1) Aro16.2.2 hin17 (Ho16.at hin17 rfl) (g := (mkF m 20 #[.val (.ref r1), .val (.ref r2), .val (.int (2 : Int32))] [(.int (2 : Int32)), (.ref r2), (.int (99 : Int32))])) rfl rfl (hb hby d20_20) t k) ?_
  show Go p e below Qo s₁ (mkF m 21 #[.val (.ref r1), .val (.ref r2), .val (.int (2 : Int32))] [(.int (99 : Int32)), (.int (99 : Int32))])
  refine Go.of (fun t k => XS.icmpYes X0.here hx rfl (pc0 := 21) (pc' := 26) rfl (hb hby d20_21) rfl (teq (by decide : (99 : Int32) = (99 : Int32))).1 (by decide) (by decide) k) ?_
  show Go p e below Qo s₁ (mkF m 26 #[.val (.ref r1), .val (.ref r2), .val (.int (2 : Int32))] [])
  refine Go.of (fun t k => XS.iinc X0.here hx rfl (hb hby d20_26) rfl (l' := #[.val (.ref r1), .val (.ref r2), .val (.int (3 : Int32))]) rfl k) ?_
  show Go p e below Qo s₁ (mkF m 29 #[.val (.ref r1), .val (.ref r2), .val (.int (3 : Int32))] [])
  refine Go.of (fun t k => XS.goto X0.here hx rfl (pc0 := 29) (pc' := 9) rfl (hb hby d20_29) (by decide) (by decide) k) ?_
  show Go p e below Qo s₁ (mkF m 9 #[.val (.ref r1), .val (.ref r2), .val (.int (3 : Int32))] [])
  refine Go.of (fun t k => XS.iloadN X0.here hx rfl (hb hby d20_9) rfl  k) ?_
  show Go p e below Qo s₁ (mkF m 10 #[.val (.ref r1), .val (.ref r2), .val (.int (3 : Int32))] [(.int (3 : Int32))])
  refine Go.of (fun t k => XS.aloadN X0.here hx rfl (hb hby d20_10) rfl rfl k) ?_
  show Go p e below Qo s₁ (mkF m 11 #[.val (.ref r1), .val (.ref r2), .val (.int (3 : Int32))] [(.ref r1), (.int (3 : Int32))])
  have cpo18 := f0
  obtain ⟨clo18, Aro18, qco18, So18, Mo18, Ho18, Go18⟩ := cpo18
  refine Go.of (fun t k => X0.arraylength hx (cell := clo18) (by rw [e0]; exact Aro18.1) (State.isArrayOf_alike hZ.alike Aro18.2.1) (g := (mkF m 11 #[.val (.ref r1), .val (.ref r2), .val (.int (3 : Int32))] [(.ref r1), (.int (3 : Int32))])) rfl rfl (hb hby d20_11) t k) ?_
  rw [len_of So18 Mo18]
  show Go p e below Qo s₁ (mkF m 12 #[.val (.ref r1), .val (.ref r2), .val (.int (3 : Int32))] [(.int (4 : Int32)), (.int (3 : Int32))])
  refine Go.of (fun t k => XS.icmpNo X0.here hx rfl (hb hby d20_12) rfl (tlt (by decide : (3 : Int32) < (4 : Int32))).2.1 k) ?_
  show Go p e below Qo s₁ (mkF m 15 #[.val (.ref r1), .val (.ref r2), .val (.int (3 : Int32))] [])
  refine Go.of (fun t k => XS.aloadN X0.here hx rfl (hb hby d20_15) rfl rfl k) ?_
  show Go p e below Qo s₁ (mkF m 16 #[.val (.ref r1), .val (.ref r2), .val (.int (3 : Int32))] [(.ref r1)])
  refine Go.of (fun t k => XS.iloadN X0.here hx rfl (hb hby d20_16) rfl  k) ?_
  show Go p e below Qo s₁ (mkF m 17 #[.val (.ref r1), .val (.ref r2), .val (.int (3 : Int32))] [(.int (3 : Int32)), (.ref r1)])
  have cpo19 := f0
  obtain ⟨clo19, Aro19, qco19, So19, Mo19, Ho19, Go19⟩ := cpo19
  have hin20 : ¬ ((3 : Int32) < 0 ∨ clo19.slots.size ≤ (3 : Int32).toNatClampNeg) := (inb_of So19 ⟨by decide, by decide⟩)
  refine Go.of (fun t k => X0.baloadBytes hx (j := (3 : Int32)) (v := (.int (99 : Int32))) (by rw [e0]; exact Aro19.1) (State.isArrayOf_alike hZ.alike Aro19.2.1) Aro19.2.2 hin20 (Ho19.at hin20 rfl) (g := (mkF m 17 #[.val (.ref r1), .val (.ref r2), .val (.int (3 : Int32))] [(.int (3 : Int32)), (.ref r1)])) rfl rfl (hb hby d20_17) t k) ?_
  show Go p e below Qo s₁ (mkF m 18 #[.val (.ref r1), .val (.ref r2), .val (.int (3 : Int32))] [(.int (99 : Int32))])
  refine Go.of (fun t k => XS.aloadN X0.here hx rfl (hb hby d20_18) rfl rfl k) ?_
  show Go p e below Qo s₁ (mkF m 19 #[.val (.ref r1), .val (.ref r2), .val (.int (3 : Int32))] [(.ref r2), (.int (99 : Int32))])
  refine Go.of (fun t k => XS.iloadN X0.here hx rfl (hb hby d20_19) rfl  k) ?_
  show Go p e below Qo s₁ (mkF m 20 #[.val (.ref r1), .val (.ref r2), .val (.int (3 : Int32))] [(.int (3 : Int32)), (.ref r2), (.int (99 : Int32))])
  have cpo21 := f1
  obtain ⟨clo21, Aro21, qco21, So21, Mo21, Ho21, Go21⟩ := cpo21
  have hin22 : ¬ ((3 : Int32) < 0 ∨ clo21.slots.size ≤ (3 : Int32).toNatClampNeg) := (inb_of So21 ⟨by decide, by decide⟩)
  refine Go.of (fun t k => X0.baloadBytes hx (j := (3 : Int32)) (v := (.int (99 : Int32))) (by rw [e0]; exact Aro21.1) (State.isArrayOf_alike hZ.alike Aro21.2.1) Aro21.2.2 hin22 (Ho21.at hin22 rfl) (g := (mkF m 20 #[.val (.ref r1), .val (.ref r2), .val (.int (3 : Int32))] [(.int (3 : Int32)), (.ref r2), (.int (99 : Int32))])) rfl rfl (hb hby d20_20) t k) ?_
  show Go p e below Qo s₁ (mkF m 21 #[.val (.ref r1), .val (.ref r2), .val (.int (3 : Int32))] [(.int (99 : Int32)), (.int (99 : Int32))])
  refine Go.of (fun t k => XS.icmpYes X0.here hx rfl (pc0 := 21) (pc' := 26) rfl (hb hby d20_21) rfl (teq (by decide : (99 : Int32) = (99 : Int32))).1 (by decide) (by decide) k) ?_
  show Go p e below Qo s₁ (mkF m 26 #[.val (.ref r1), .val (.ref r2), .val (.int (3 : Int32))] [])
  refine Go.of (fun t k => XS.iinc X0.here hx rfl (hb hby d20_26) rfl (l' := #[.val (.ref r1), .val (.ref r2), .val (.int (4 : Int32))]) rfl k) ?_
  show Go p e below Qo s₁ (mkF m 29 #[.val (.ref r1), .val (.ref r2), .val (.int (4 : Int32))] [])
  refine Go.of (fun t k => XS.goto X0.here hx rfl (pc0 := 29) (pc' := 9) rfl (hb hby d20_29) (by decide) (by decide) k) ?_
  show Go p e below Qo s₁ (mkF m 9 #[.val (.ref r1), .val (.ref r2), .val (.int (4 : Int32))] [])
  refine Go.of (fun t k => XS.iloadN X0.here hx rfl (hb hby d20_9) rfl  k) ?_
  show Go p e below Qo s₁ (mkF m 10 #[.val (.ref r1), .val (.ref r2), .val (.int (4 : Int32))] [(.int (4 : Int32))])
  refine Go.of (fun t k => XS.aloadN X0.here hx rfl (hb hby d20_10) rfl rfl k) ?_
  show Go p e below Qo s₁ (mkF m 11 #[.val (.ref r1), .val (.ref r2), .val (.int (4 : Int32))] [(.ref r1), (.int (4 : Int32))])
  have cpo23 := f0
  obtain ⟨clo23, Aro23, qco23, So23, Mo23, Ho23, Go23⟩ := cpo23
  refine Go.of (fun t k => X0.arraylength hx (cell := clo23) (by rw [e0]; exact Aro23.1) (State.isArrayOf_alike hZ.alike Aro23.2.1) (g := (mkF m 11 #[.val (.ref r1), .val (.ref r2), .val (.int (4 : Int32))] [(.ref r1), (.int (4 : Int32))])) rfl rfl (hb hby d20_11) t k) ?_
  rw [len_of So23 Mo23]
  show Go p e below Qo s₁ (mkF m 12 #[.val (.ref r1), .val (.ref r2), .val (.int (4 : Int32))] [(.int (4 : Int32)), (.int (4 : Int32))])
  refine Go.of (fun t k => XS.icmpYes X0.here hx rfl (pc0 := 12) (pc' := 32) rfl (hb hby d20_12) rfl (flt (by decide : ¬ ((4 : Int32) < (4 : Int32)))).2.1 (by decide) (by decide) k) ?_
  show Go p e below Qo s₁ (mkF m 32 #[.val (.ref r1), .val (.ref r2), .val (.int (4 : Int32))] [])
  refine Go.of (fun t k => XS.iconst X0.here hx rfl (hb hby d20_32) k) ?_
  show Go p e below Qo s₁ (mkF m 33 #[.val (.ref r1), .val (.ref r2), .val (.int (4 : Int32))] [(.int (1 : Int32))])
  exact own_retN X0 hx Bd.notSynchronized (t := .boolean) Bd.returns (by simp) (hb hby d20_33) (fun u hu hF => hQo _ _ _ ⟨rfl, N0, by rw [hu, e0]⟩ (own_mono hF (by decide) (by decide)))
theorem d21_0 : decode jdk_43_method_13_code 0 = .ok (.aload_n 0, 1) := by decide +kernel
theorem d21_1 : decode jdk_43_method_13_code 1 = .ok (.arraylength, 1) := by decide +kernel
theorem d21_2 : decode jdk_43_method_13_code 2 = .ok (.aload_n 1, 1) := by decide +kernel
theorem d21_3 : decode jdk_43_method_13_code 3 = .ok (.arraylength, 1) := by decide +kernel
theorem d21_4 : decode jdk_43_method_13_code 4 = .ok (.if_icmp .ne 30, 3) := by decide +kernel
theorem d21_7 : decode jdk_43_method_13_code 7 = .ok (.iconst 0, 1) := by decide +kernel
theorem d21_8 : decode jdk_43_method_13_code 8 = .ok (.istore_n 2, 1) := by decide +kernel
theorem d21_9 : decode jdk_43_method_13_code 9 = .ok (.iload_n 2, 1) := by decide +kernel
theorem d21_10 : decode jdk_43_method_13_code 10 = .ok (.aload_n 0, 1) := by decide +kernel
theorem d21_11 : decode jdk_43_method_13_code 11 = .ok (.arraylength, 1) := by decide +kernel
theorem d21_12 : decode jdk_43_method_13_code 12 = .ok (.if_icmp .ge 20, 3) := by decide +kernel
theorem d21_15 : decode jdk_43_method_13_code 15 = .ok (.aload_n 0, 1) := by decide +kernel
theorem d21_16 : decode jdk_43_method_13_code 16 = .ok (.iload_n 2, 1) := by decide +kernel
theorem d21_17 : decode jdk_43_method_13_code 17 = .ok (.baload, 1) := by decide +kernel
theorem d21_18 : decode jdk_43_method_13_code 18 = .ok (.aload_n 1, 1) := by decide +kernel
theorem d21_19 : decode jdk_43_method_13_code 19 = .ok (.iload_n 2, 1) := by decide +kernel
theorem d21_20 : decode jdk_43_method_13_code 20 = .ok (.baload, 1) := by decide +kernel
theorem d21_21 : decode jdk_43_method_13_code 21 = .ok (.if_icmp .eq 5, 3) := by decide +kernel
theorem d21_26 : decode jdk_43_method_13_code 26 = .ok (.iinc 2 1, 3) := by decide +kernel
theorem d21_29 : decode jdk_43_method_13_code 29 = .ok (.goto (-20), 3) := by decide +kernel
theorem d21_32 : decode jdk_43_method_13_code 32 = .ok (.iconst 1, 1) := by decide +kernel
theorem d21_33 : decode jdk_43_method_13_code 33 = .ok (.ireturn, 1) := by decide +kernel
theorem ef_21 (m : MethodId) (r1 : Addr) (r2 : Addr)  : entryFrame m #[(.ref r1), (.ref r2)] 3 = mkF m 0 #[.val (.ref r1), .val (.ref r2), .unset] [] := by
  first | (simp [entryFrame, mkF, argsToLocals, Value.category]; done) | rfl
def Q21 (Z : State) (r1 : Addr) (r2 : Addr) (k_1 : ClassId) (k_2 : ClassId) (h0 : Heap) (n0 : Nat) (v : Option Value) (h : Heap) (L : List Loc) : Prop := v = some (.int (1 : Int32)) ∧ Fr n0 L ∧ h = h0
set_option maxRecDepth 65536 in
set_option maxHeartbeats 40000000 in
theorem rm21 (l : Launch) (Z : State) (a0 : Array Value) (hw : ∀ d ∈ tables_1, d.before a0 Z = true) (ws : List Jvm.Cond) (r1 : Addr) (r2 : Addr) (k_1 : ClassId) (k_2 : ClassId) (h0 : Heap) (n0 : Nat) (Z0 : n0 ≤ h0.size) (f0 : Arv Z h0 r1 k_1 .byte (7 : Int32) [(.int (108 : Int32)), (.int (111 : Int32)), (.int (99 : Int32)), (.int (107 : Int32)), (.int (105 : Int32)), (.int (110 : Int32)), (.int (103 : Int32))] (.int 0)) (f1 : Arv Z h0 r2 k_2 .byte (7 : Int32) [(.int (108 : Int32)), (.int (111 : Int32)), (.int (99 : Int32)), (.int (107 : Int32)), (.int (105 : Int32)), (.int (110 : Int32)), (.int (103 : Int32))] (.int 0)) :
    MetFree l (⟨"java/lang/StringLatin1", "equals", "([B[B)Z"⟩ : MethodName) (head1 (Jvm.Cond.code (⟨"java/lang/StringLatin1", "equals", "([B[B)Z"⟩ : MethodName) jdk_43_method_13_code 3 (some .boolean) :: ws) ({ frames := 0, cells := 0, slots := 0, locals := 0 } : Room)) (fun a U => a = #[(.ref r1), (.ref r2)] ∧ Z.Warmed39 U.vm ∧ U.heap = h0) (fun _ _ _ _ _ => True) (fun _ U o U' => ∃ v L, o = .returned v ∧ Q21 Z r1 r2 k_1 k_2 h0 n0 v U'.heap L ∧ FrameEnd U o U' L ({ frames := 0, cells := 0, slots := 0, locals := 0 } : Room).cells ({ frames := 0, cells := 0, slots := 0, locals := 0 } : Room).slots) := by
  refine MetFree.of_bodySF (plainFor_of_name pn_0) hisR ?_
  intro p e s m args below meth c s₁ Bd hml0 hP hK
  obtain ⟨rfl, hZ, hh⟩ := hP
  have hx := Bd.exec
  have hby := Bd.bytes
  have hml : c.maxLocals = 3 := hml0
  have hown : s.vm.findClass "java/lang/StringLatin1" = some m.cls := findClass_of_methodNamed Bd.named
  have hnm := (name_of_methodNamed Bd.named Bd.method).1
  have X0 : Stand p l e ({ frames := 0, cells := 0, slots := 0, locals := 0 } : Room) s m #[(.ref r1), (.ref r2)] below meth c s₁ [] 0 0 := Stand.of_body Bd
  have e0 : s₁.heap = h0 := by rw [← hh, Bd.state]; rfl
  have N0 := Fr.nil n0
  suffices H : ∀ Qo : Outcome → State → Prop, (∀ (v : Option Value) (u : State) (L : List Loc), Q21 Z r1 r2 k_1 k_2 h0 n0 v u.heap L → FrameEnd s (.returned v) u L ({ frames := 0, cells := 0, slots := 0, locals := 0 } : Room).cells ({ frames := 0, cells := 0, slots := 0, locals := 0 } : Room).slots → Qo (.returned v) u) → Go p e below Qo s₁ (mkF m 0 #[.val (.ref r1), .val (.ref r2), .unset] []) from
    Go.cast (ef_21 m r1 r2) (H _ fun v u L h1 h2 => ⟨v, L, rfl, h1, h2⟩)
  intro Qo hQo
  show Go p e below Qo s₁ (mkF m 0 #[.val (.ref r1), .val (.ref r2), .unset] [])
  refine Go.of (fun t k => XS.aloadN X0.here hx rfl (hb hby d21_0) rfl rfl k) ?_
  show Go p e below Qo s₁ (mkF m 1 #[.val (.ref r1), .val (.ref r2), .unset] [(.ref r1)])
  have cpo1 := f0
  obtain ⟨clo1, Aro1, qco1, So1, Mo1, Ho1, Go1⟩ := cpo1
  refine Go.of (fun t k => X0.arraylength hx (cell := clo1) (by rw [e0]; exact Aro1.1) (State.isArrayOf_alike hZ.alike Aro1.2.1) (g := (mkF m 1 #[.val (.ref r1), .val (.ref r2), .unset] [(.ref r1)])) rfl rfl (hb hby d21_1) t k) ?_
  rw [len_of So1 Mo1]
  show Go p e below Qo s₁ (mkF m 2 #[.val (.ref r1), .val (.ref r2), .unset] [(.int (7 : Int32))])
  refine Go.of (fun t k => XS.aloadN X0.here hx rfl (hb hby d21_2) rfl rfl k) ?_
  show Go p e below Qo s₁ (mkF m 3 #[.val (.ref r1), .val (.ref r2), .unset] [(.ref r2), (.int (7 : Int32))])
  have cpo2 := f1
  obtain ⟨clo2, Aro2, qco2, So2, Mo2, Ho2, Go2⟩ := cpo2
  refine Go.of (fun t k => X0.arraylength hx (cell := clo2) (by rw [e0]; exact Aro2.1) (State.isArrayOf_alike hZ.alike Aro2.2.1) (g := (mkF m 3 #[.val (.ref r1), .val (.ref r2), .unset] [(.ref r2), (.int (7 : Int32))])) rfl rfl (hb hby d21_3) t k) ?_
  rw [len_of So2 Mo2]
  show Go p e below Qo s₁ (mkF m 4 #[.val (.ref r1), .val (.ref r2), .unset] [(.int (7 : Int32)), (.int (7 : Int32))])
  refine Go.of (fun t k => XS.icmpNo X0.here hx rfl (hb hby d21_4) rfl (teq (by decide : (7 : Int32) = (7 : Int32))).2 k) ?_
  show Go p e below Qo s₁ (mkF m 7 #[.val (.ref r1), .val (.ref r2), .unset] [])
  refine Go.of (fun t k => XS.iconst X0.here hx rfl (hb hby d21_7) k) ?_
  show Go p e below Qo s₁ (mkF m 8 #[.val (.ref r1), .val (.ref r2), .unset] [(.int (0 : Int32))])
  refine Go.of (fun t k => XS.istoreN X0.here hx rfl (hb hby d21_8) rfl (l' := #[.val (.ref r1), .val (.ref r2), .val (.int (0 : Int32))]) rfl k) ?_
  show Go p e below Qo s₁ (mkF m 9 #[.val (.ref r1), .val (.ref r2), .val (.int (0 : Int32))] [])
  refine Go.of (fun t k => XS.iloadN X0.here hx rfl (hb hby d21_9) rfl  k) ?_
  show Go p e below Qo s₁ (mkF m 10 #[.val (.ref r1), .val (.ref r2), .val (.int (0 : Int32))] [(.int (0 : Int32))])
  refine Go.of (fun t k => XS.aloadN X0.here hx rfl (hb hby d21_10) rfl rfl k) ?_
  show Go p e below Qo s₁ (mkF m 11 #[.val (.ref r1), .val (.ref r2), .val (.int (0 : Int32))] [(.ref r1), (.int (0 : Int32))])
  have cpo3 := f0
  obtain ⟨clo3, Aro3, qco3, So3, Mo3, Ho3, Go3⟩ := cpo3
  refine Go.of (fun t k => X0.arraylength hx (cell := clo3) (by rw [e0]; exact Aro3.1) (State.isArrayOf_alike hZ.alike Aro3.2.1) (g := (mkF m 11 #[.val (.ref r1), .val (.ref r2), .val (.int (0 : Int32))] [(.ref r1), (.int (0 : Int32))])) rfl rfl (hb hby d21_11) t k) ?_
  rw [len_of So3 Mo3]
  show Go p e below Qo s₁ (mkF m 12 #[.val (.ref r1), .val (.ref r2), .val (.int (0 : Int32))] [(.int (7 : Int32)), (.int (0 : Int32))])
  refine Go.of (fun t k => XS.icmpNo X0.here hx rfl (hb hby d21_12) rfl (tlt (by decide : (0 : Int32) < (7 : Int32))).2.1 k) ?_
  show Go p e below Qo s₁ (mkF m 15 #[.val (.ref r1), .val (.ref r2), .val (.int (0 : Int32))] [])
  refine Go.of (fun t k => XS.aloadN X0.here hx rfl (hb hby d21_15) rfl rfl k) ?_
  show Go p e below Qo s₁ (mkF m 16 #[.val (.ref r1), .val (.ref r2), .val (.int (0 : Int32))] [(.ref r1)])
  refine Go.of (fun t k => XS.iloadN X0.here hx rfl (hb hby d21_16) rfl  k) ?_
  show Go p e below Qo s₁ (mkF m 17 #[.val (.ref r1), .val (.ref r2), .val (.int (0 : Int32))] [(.int (0 : Int32)), (.ref r1)])
  have cpo4 := f0
  obtain ⟨clo4, Aro4, qco4, So4, Mo4, Ho4, Go4⟩ := cpo4
  have hin5 : ¬ ((0 : Int32) < 0 ∨ clo4.slots.size ≤ (0 : Int32).toNatClampNeg) := (inb_of So4 ⟨by decide, by decide⟩)
  refine Go.of (fun t k => X0.baloadBytes hx (j := (0 : Int32)) (v := (.int (108 : Int32))) (by rw [e0]; exact Aro4.1) (State.isArrayOf_alike hZ.alike Aro4.2.1) Aro4.2.2 hin5 (Ho4.at hin5 rfl) (g := (mkF m 17 #[.val (.ref r1), .val (.ref r2), .val (.int (0 : Int32))] [(.int (0 : Int32)), (.ref r1)])) rfl rfl (hb hby d21_17) t k) ?_
  show Go p e below Qo s₁ (mkF m 18 #[.val (.ref r1), .val (.ref r2), .val (.int (0 : Int32))] [(.int (108 : Int32))])
  refine Go.of (fun t k => XS.aloadN X0.here hx rfl (hb hby d21_18) rfl rfl k) ?_
  show Go p e below Qo s₁ (mkF m 19 #[.val (.ref r1), .val (.ref r2), .val (.int (0 : Int32))] [(.ref r2), (.int (108 : Int32))])
  refine Go.of (fun t k => XS.iloadN X0.here hx rfl (hb hby d21_19) rfl  k) ?_
  show Go p e below Qo s₁ (mkF m 20 #[.val (.ref r1), .val (.ref r2), .val (.int (0 : Int32))] [(.int (0 : Int32)), (.ref r2), (.int (108 : Int32))])
  have cpo6 := f1
  obtain ⟨clo6, Aro6, qco6, So6, Mo6, Ho6, Go6⟩ := cpo6
  have hin7 : ¬ ((0 : Int32) < 0 ∨ clo6.slots.size ≤ (0 : Int32).toNatClampNeg) := (inb_of So6 ⟨by decide, by decide⟩)
  refine Go.of (fun t k => X0.baloadBytes hx (j := (0 : Int32)) (v := (.int (108 : Int32))) (by rw [e0]; exact Aro6.1) (State.isArrayOf_alike hZ.alike Aro6.2.1) Aro6.2.2 hin7 (Ho6.at hin7 rfl) (g := (mkF m 20 #[.val (.ref r1), .val (.ref r2), .val (.int (0 : Int32))] [(.int (0 : Int32)), (.ref r2), (.int (108 : Int32))])) rfl rfl (hb hby d21_20) t k) ?_
  show Go p e below Qo s₁ (mkF m 21 #[.val (.ref r1), .val (.ref r2), .val (.int (0 : Int32))] [(.int (108 : Int32)), (.int (108 : Int32))])
  refine Go.of (fun t k => XS.icmpYes X0.here hx rfl (pc0 := 21) (pc' := 26) rfl (hb hby d21_21) rfl (teq (by decide : (108 : Int32) = (108 : Int32))).1 (by decide) (by decide) k) ?_
  show Go p e below Qo s₁ (mkF m 26 #[.val (.ref r1), .val (.ref r2), .val (.int (0 : Int32))] [])
  refine Go.of (fun t k => XS.iinc X0.here hx rfl (hb hby d21_26) rfl (l' := #[.val (.ref r1), .val (.ref r2), .val (.int (1 : Int32))]) rfl k) ?_
  show Go p e below Qo s₁ (mkF m 29 #[.val (.ref r1), .val (.ref r2), .val (.int (1 : Int32))] [])
  refine Go.of (fun t k => XS.goto X0.here hx rfl (pc0 := 29) (pc' := 9) rfl (hb hby d21_29) (by decide) (by decide) k) ?_
  show Go p e below Qo s₁ (mkF m 9 #[.val (.ref r1), .val (.ref r2), .val (.int (1 : Int32))] [])
  refine Go.of (fun t k => XS.iloadN X0.here hx rfl (hb hby d21_9) rfl  k) ?_
  show Go p e below Qo s₁ (mkF m 10 #[.val (.ref r1), .val (.ref r2), .val (.int (1 : Int32))] [(.int (1 : Int32))])
  refine Go.of (fun t k => XS.aloadN X0.here hx rfl (hb hby d21_10) rfl rfl k) ?_
  show Go p e below Qo s₁ (mkF m 11 #[.val (.ref r1), .val (.ref r2), .val (.int (1 : Int32))] [(.ref r1), (.int (1 : Int32))])
  have cpo8 := f0
  obtain ⟨clo8, Aro8, qco8, So8, Mo8, Ho8, Go8⟩ := cpo8
  refine Go.of (fun t k => X0.arraylength hx (cell := clo8) (by rw [e0]; exact Aro8.1) (State.isArrayOf_alike hZ.alike Aro8.2.1) (g := (mkF m 11 #[.val (.ref r1), .val (.ref r2), .val (.int (1 : Int32))] [(.ref r1), (.int (1 : Int32))])) rfl rfl (hb hby d21_11) t k) ?_
  rw [len_of So8 Mo8]
  show Go p e below Qo s₁ (mkF m 12 #[.val (.ref r1), .val (.ref r2), .val (.int (1 : Int32))] [(.int (7 : Int32)), (.int (1 : Int32))])
  refine Go.of (fun t k => XS.icmpNo X0.here hx rfl (hb hby d21_12) rfl (tlt (by decide : (1 : Int32) < (7 : Int32))).2.1 k) ?_
  show Go p e below Qo s₁ (mkF m 15 #[.val (.ref r1), .val (.ref r2), .val (.int (1 : Int32))] [])
  refine Go.of (fun t k => XS.aloadN X0.here hx rfl (hb hby d21_15) rfl rfl k) ?_
  show Go p e below Qo s₁ (mkF m 16 #[.val (.ref r1), .val (.ref r2), .val (.int (1 : Int32))] [(.ref r1)])
  refine Go.of (fun t k => XS.iloadN X0.here hx rfl (hb hby d21_16) rfl  k) ?_
  show Go p e below Qo s₁ (mkF m 17 #[.val (.ref r1), .val (.ref r2), .val (.int (1 : Int32))] [(.int (1 : Int32)), (.ref r1)])
  have cpo9 := f0
  obtain ⟨clo9, Aro9, qco9, So9, Mo9, Ho9, Go9⟩ := cpo9
  have hin10 : ¬ ((1 : Int32) < 0 ∨ clo9.slots.size ≤ (1 : Int32).toNatClampNeg) := (inb_of So9 ⟨by decide, by decide⟩)
  refine Go.of (fun t k => X0.baloadBytes hx (j := (1 : Int32)) (v := (.int (111 : Int32))) (by rw [e0]; exact Aro9.1) (State.isArrayOf_alike hZ.alike Aro9.2.1) Aro9.2.2 hin10 (Ho9.at hin10 rfl) (g := (mkF m 17 #[.val (.ref r1), .val (.ref r2), .val (.int (1 : Int32))] [(.int (1 : Int32)), (.ref r1)])) rfl rfl (hb hby d21_17) t k) ?_
  show Go p e below Qo s₁ (mkF m 18 #[.val (.ref r1), .val (.ref r2), .val (.int (1 : Int32))] [(.int (111 : Int32))])
  refine Go.of (fun t k => XS.aloadN X0.here hx rfl (hb hby d21_18) rfl rfl k) ?_
  show Go p e below Qo s₁ (mkF m 19 #[.val (.ref r1), .val (.ref r2), .val (.int (1 : Int32))] [(.ref r2), (.int (111 : Int32))])
  refine Go.of (fun t k => XS.iloadN X0.here hx rfl (hb hby d21_19) rfl  k) ?_
  show Go p e below Qo s₁ (mkF m 20 #[.val (.ref r1), .val (.ref r2), .val (.int (1 : Int32))] [(.int (1 : Int32)), (.ref r2), (.int (111 : Int32))])
  have cpo11 := f1
  obtain ⟨clo11, Aro11, qco11, So11, Mo11, Ho11, Go11⟩ := cpo11
  have hin12 : ¬ ((1 : Int32) < 0 ∨ clo11.slots.size ≤ (1 : Int32).toNatClampNeg) := (inb_of So11 ⟨by decide, by decide⟩)
  refine Go.of (fun t k => X0.baloadBytes hx (j := (1 : Int32)) (v := (.int (111 : Int32))) (by rw [e0]; exact Aro11.1) (State.isArrayOf_alike hZ.alike Aro11.2.1) Aro11.2.2 hin12 (Ho11.at hin12 rfl) (g := (mkF m 20 #[.val (.ref r1), .val (.ref r2), .val (.int (1 : Int32))] [(.int (1 : Int32)), (.ref r2), (.int (111 : Int32))])) rfl rfl (hb hby d21_20) t k) ?_
  show Go p e below Qo s₁ (mkF m 21 #[.val (.ref r1), .val (.ref r2), .val (.int (1 : Int32))] [(.int (111 : Int32)), (.int (111 : Int32))])
  refine Go.of (fun t k => XS.icmpYes X0.here hx rfl (pc0 := 21) (pc' := 26) rfl (hb hby d21_21) rfl (teq (by decide : (111 : Int32) = (111 : Int32))).1 (by decide) (by decide) k) ?_
  show Go p e below Qo s₁ (mkF m 26 #[.val (.ref r1), .val (.ref r2), .val (.int (1 : Int32))] [])
  refine Go.of (fun t k => XS.iinc X0.here hx rfl (hb hby d21_26) rfl (l' := #[.val (.ref r1), .val (.ref r2), .val (.int (2 : Int32))]) rfl k) ?_
  show Go p e below Qo s₁ (mkF m 29 #[.val (.ref r1), .val (.ref r2), .val (.int (2 : Int32))] [])
  refine Go.of (fun t k => XS.goto X0.here hx rfl (pc0 := 29) (pc' := 9) rfl (hb hby d21_29) (by decide) (by decide) k) ?_
  show Go p e below Qo s₁ (mkF m 9 #[.val (.ref r1), .val (.ref r2), .val (.int (2 : Int32))] [])
  refine Go.of (fun t k => XS.iloadN X0.here hx rfl (hb hby d21_9) rfl  k) ?_
  show Go p e below Qo s₁ (mkF m 10 #[.val (.ref r1), .val (.ref r2), .val (.int (2 : Int32))] [(.int (2 : Int32))])
  refine Go.of (fun t k => XS.aloadN X0.here hx rfl (hb hby d21_10) rfl rfl k) ?_
  show Go p e below Qo s₁ (mkF m 11 #[.val (.ref r1), .val (.ref r2), .val (.int (2 : Int32))] [(.ref r1), (.int (2 : Int32))])
  have cpo13 := f0
  obtain ⟨clo13, Aro13, qco13, So13, Mo13, Ho13, Go13⟩ := cpo13
  refine Go.of (fun t k => X0.arraylength hx (cell := clo13) (by rw [e0]; exact Aro13.1) (State.isArrayOf_alike hZ.alike Aro13.2.1) (g := (mkF m 11 #[.val (.ref r1), .val (.ref r2), .val (.int (2 : Int32))] [(.ref r1), (.int (2 : Int32))])) rfl rfl (hb hby d21_11) t k) ?_
  rw [len_of So13 Mo13]
  show Go p e below Qo s₁ (mkF m 12 #[.val (.ref r1), .val (.ref r2), .val (.int (2 : Int32))] [(.int (7 : Int32)), (.int (2 : Int32))])
  refine Go.of (fun t k => XS.icmpNo X0.here hx rfl (hb hby d21_12) rfl (tlt (by decide : (2 : Int32) < (7 : Int32))).2.1 k) ?_
  show Go p e below Qo s₁ (mkF m 15 #[.val (.ref r1), .val (.ref r2), .val (.int (2 : Int32))] [])
  refine Go.of (fun t k => XS.aloadN X0.here hx rfl (hb hby d21_15) rfl rfl k) ?_
  show Go p e below Qo s₁ (mkF m 16 #[.val (.ref r1), .val (.ref r2), .val (.int (2 : Int32))] [(.ref r1)])
  refine Go.of (fun t k => XS.iloadN X0.here hx rfl (hb hby d21_16) rfl  k) ?_
  show Go p e below Qo s₁ (mkF m 17 #[.val (.ref r1), .val (.ref r2), .val (.int (2 : Int32))] [(.int (2 : Int32)), (.ref r1)])
  have cpo14 := f0
  obtain ⟨clo14, Aro14, qco14, So14, Mo14, Ho14, Go14⟩ := cpo14
  have hin15 : ¬ ((2 : Int32) < 0 ∨ clo14.slots.size ≤ (2 : Int32).toNatClampNeg) := (inb_of So14 ⟨by decide, by decide⟩)
  refine Go.of (fun t k => X0.baloadBytes hx (j := (2 : Int32)) (v := (.int (99 : Int32))) (by rw [e0]; exact Aro14.1) (State.isArrayOf_alike hZ.alike Aro14.2.1) Aro14.2.2 hin15 (Ho14.at hin15 rfl) (g := (mkF m 17 #[.val (.ref r1), .val (.ref r2), .val (.int (2 : Int32))] [(.int (2 : Int32)), (.ref r1)])) rfl rfl (hb hby d21_17) t k) ?_
  show Go p e below Qo s₁ (mkF m 18 #[.val (.ref r1), .val (.ref r2), .val (.int (2 : Int32))] [(.int (99 : Int32))])
  refine Go.of (fun t k => XS.aloadN X0.here hx rfl (hb hby d21_18) rfl rfl k) ?_
  show Go p e below Qo s₁ (mkF m 19 #[.val (.ref r1), .val (.ref r2), .val (.int (2 : Int32))] [(.ref r2), (.int (99 : Int32))])
  refine Go.of (fun t k => XS.iloadN X0.here hx rfl (hb hby d21_19) rfl  k) ?_
  show Go p e below Qo s₁ (mkF m 20 #[.val (.ref r1), .val (.ref r2), .val (.int (2 : Int32))] [(.int (2 : Int32)), (.ref r2), (.int (99 : Int32))])
  have cpo16 := f1
  obtain ⟨clo16, Aro16, qco16, So16, Mo16, Ho16, Go16⟩ := cpo16
  have hin17 : ¬ ((2 : Int32) < 0 ∨ clo16.slots.size ≤ (2 : Int32).toNatClampNeg) := (inb_of So16 ⟨by decide, by decide⟩)
  refine Go.of (fun t k => X0.baloadBytes hx (j := (2 : Int32)) (v := (.int (99 : Int32))) (by rw [e0]; exact Aro16.1) (State.isArrayOf_alike hZ.alike Aro16.2.1) Aro16.2.2 hin17 (Ho16.at hin17 rfl) (g := (mkF m 20 #[.val (.ref r1), .val (.ref r2), .val (.int (2 : Int32))] [(.int (2 : Int32)), (.ref r2), (.int (99 : Int32))])) rfl rfl (hb hby d21_20) t k) ?_
  show Go p e below Qo s₁ (mkF m 21 #[.val (.ref r1), .val (.ref r2), .val (.int (2 : Int32))] [(.int (99 : Int32)), (.int (99 : Int32))])
  refine Go.of (fun t k => XS.icmpYes X0.here hx rfl (pc0 := 21) (pc' := 26) rfl (hb hby d21_21) rfl (teq (by decide : (99 : Int32) = (99 : Int32))).1 (by decide) (by decide) k) ?_
  show Go p e below Qo s₁ (mkF m 26 #[.val (.ref r1), .val (.ref r2), .val (.int (2 : Int32))] [])
  refine Go.of (fun t k => XS.iinc X0.here hx rfl (hb hby d21_26) rfl (l' := #[.val (.ref r1), .val (.ref r2), .val (.int (3 : Int32))]) rfl k) ?_
  show Go p e below Qo s₁ (mkF m 29 #[.val (.ref r1), .val (.ref r2), .val (.int (3 : Int32))] [])
  refine Go.of (fun t k => XS.goto X0.here hx rfl (pc0 := 29) (pc' := 9) rfl (hb hby d21_29) (by decide) (by decide) k) ?_
  show Go p e below Qo s₁ (mkF m 9 #[.val (.ref r1), .val (.ref r2), .val (.int (3 : Int32))] [])
  refine Go.of (fun t k => XS.iloadN X0.here hx rfl (hb hby d21_9) rfl  k) ?_
  show Go p e below Qo s₁ (mkF m 10 #[.val (.ref r1), .val (.ref r2), .val (.int (3 : Int32))] [(.int (3 : Int32))])
  refine Go.of (fun t k => XS.aloadN X0.here hx rfl (hb hby d21_10) rfl rfl k) ?_
  show Go p e below Qo s₁ (mkF m 11 #[.val (.ref r1), .val (.ref r2), .val (.int (3 : Int32))] [(.ref r1), (.int (3 : Int32))])
  have cpo18 := f0
  obtain ⟨clo18, Aro18, qco18, So18, Mo18, Ho18, Go18⟩ := cpo18
  refine Go.of (fun t k => X0.arraylength hx (cell := clo18) (by rw [e0]; exact Aro18.1) (State.isArrayOf_alike hZ.alike Aro18.2.1) (g := (mkF m 11 #[.val (.ref r1), .val (.ref r2), .val (.int (3 : Int32))] [(.ref r1), (.int (3 : Int32))])) rfl rfl (hb hby d21_11) t k) ?_
  rw [len_of So18 Mo18]
  show Go p e below Qo s₁ (mkF m 12 #[.val (.ref r1), .val (.ref r2), .val (.int (3 : Int32))] [(.int (7 : Int32)), (.int (3 : Int32))])
  refine Go.of (fun t k => XS.icmpNo X0.here hx rfl (hb hby d21_12) rfl (tlt (by decide : (3 : Int32) < (7 : Int32))).2.1 k) ?_
  show Go p e below Qo s₁ (mkF m 15 #[.val (.ref r1), .val (.ref r2), .val (.int (3 : Int32))] [])
  refine Go.of (fun t k => XS.aloadN X0.here hx rfl (hb hby d21_15) rfl rfl k) ?_
  show Go p e below Qo s₁ (mkF m 16 #[.val (.ref r1), .val (.ref r2), .val (.int (3 : Int32))] [(.ref r1)])
  refine Go.of (fun t k => XS.iloadN X0.here hx rfl (hb hby d21_16) rfl  k) ?_
  show Go p e below Qo s₁ (mkF m 17 #[.val (.ref r1), .val (.ref r2), .val (.int (3 : Int32))] [(.int (3 : Int32)), (.ref r1)])
  have cpo19 := f0
  obtain ⟨clo19, Aro19, qco19, So19, Mo19, Ho19, Go19⟩ := cpo19
  have hin20 : ¬ ((3 : Int32) < 0 ∨ clo19.slots.size ≤ (3 : Int32).toNatClampNeg) := (inb_of So19 ⟨by decide, by decide⟩)
  refine Go.of (fun t k => X0.baloadBytes hx (j := (3 : Int32)) (v := (.int (107 : Int32))) (by rw [e0]; exact Aro19.1) (State.isArrayOf_alike hZ.alike Aro19.2.1) Aro19.2.2 hin20 (Ho19.at hin20 rfl) (g := (mkF m 17 #[.val (.ref r1), .val (.ref r2), .val (.int (3 : Int32))] [(.int (3 : Int32)), (.ref r1)])) rfl rfl (hb hby d21_17) t k) ?_
  show Go p e below Qo s₁ (mkF m 18 #[.val (.ref r1), .val (.ref r2), .val (.int (3 : Int32))] [(.int (107 : Int32))])
  refine Go.of (fun t k => XS.aloadN X0.here hx rfl (hb hby d21_18) rfl rfl k) ?_
  show Go p e below Qo s₁ (mkF m 19 #[.val (.ref r1), .val (.ref r2), .val (.int (3 : Int32))] [(.ref r2), (.int (107 : Int32))])
  refine Go.of (fun t k => XS.iloadN X0.here hx rfl (hb hby d21_19) rfl  k) ?_
  show Go p e below Qo s₁ (mkF m 20 #[.val (.ref r1), .val (.ref r2), .val (.int (3 : Int32))] [(.int (3 : Int32)), (.ref r2), (.int (107 : Int32))])
  have cpo21 := f1
  obtain ⟨clo21, Aro21, qco21, So21, Mo21, Ho21, Go21⟩ := cpo21
  have hin22 : ¬ ((3 : Int32) < 0 ∨ clo21.slots.size ≤ (3 : Int32).toNatClampNeg) := (inb_of So21 ⟨by decide, by decide⟩)
  refine Go.of (fun t k => X0.baloadBytes hx (j := (3 : Int32)) (v := (.int (107 : Int32))) (by rw [e0]; exact Aro21.1) (State.isArrayOf_alike hZ.alike Aro21.2.1) Aro21.2.2 hin22 (Ho21.at hin22 rfl) (g := (mkF m 20 #[.val (.ref r1), .val (.ref r2), .val (.int (3 : Int32))] [(.int (3 : Int32)), (.ref r2), (.int (107 : Int32))])) rfl rfl (hb hby d21_20) t k) ?_
  show Go p e below Qo s₁ (mkF m 21 #[.val (.ref r1), .val (.ref r2), .val (.int (3 : Int32))] [(.int (107 : Int32)), (.int (107 : Int32))])
  refine Go.of (fun t k => XS.icmpYes X0.here hx rfl (pc0 := 21) (pc' := 26) rfl (hb hby d21_21) rfl (teq (by decide : (107 : Int32) = (107 : Int32))).1 (by decide) (by decide) k) ?_
  show Go p e below Qo s₁ (mkF m 26 #[.val (.ref r1), .val (.ref r2), .val (.int (3 : Int32))] [])
  refine Go.of (fun t k => XS.iinc X0.here hx rfl (hb hby d21_26) rfl (l' := #[.val (.ref r1), .val (.ref r2), .val (.int (4 : Int32))]) rfl k) ?_
  show Go p e below Qo s₁ (mkF m 29 #[.val (.ref r1), .val (.ref r2), .val (.int (4 : Int32))] [])
  refine Go.of (fun t k => XS.goto X0.here hx rfl (pc0 := 29) (pc' := 9) rfl (hb hby d21_29) (by decide) (by decide) k) ?_
  show Go p e below Qo s₁ (mkF m 9 #[.val (.ref r1), .val (.ref r2), .val (.int (4 : Int32))] [])
  refine Go.of (fun t k => XS.iloadN X0.here hx rfl (hb hby d21_9) rfl  k) ?_
  show Go p e below Qo s₁ (mkF m 10 #[.val (.ref r1), .val (.ref r2), .val (.int (4 : Int32))] [(.int (4 : Int32))])
  refine Go.of (fun t k => XS.aloadN X0.here hx rfl (hb hby d21_10) rfl rfl k) ?_
  show Go p e below Qo s₁ (mkF m 11 #[.val (.ref r1), .val (.ref r2), .val (.int (4 : Int32))] [(.ref r1), (.int (4 : Int32))])
  have cpo23 := f0
  obtain ⟨clo23, Aro23, qco23, So23, Mo23, Ho23, Go23⟩ := cpo23
  refine Go.of (fun t k => X0.arraylength hx (cell := clo23) (by rw [e0]; exact Aro23.1) (State.isArrayOf_alike hZ.alike Aro23.2.1) (g := (mkF m 11 #[.val (.ref r1), .val (.ref r2), .val (.int (4 : Int32))] [(.ref r1), (.int (4 : Int32))])) rfl rfl (hb hby d21_11) t k) ?_
  rw [len_of So23 Mo23]
  show Go p e below Qo s₁ (mkF m 12 #[.val (.ref r1), .val (.ref r2), .val (.int (4 : Int32))] [(.int (7 : Int32)), (.int (4 : Int32))])
  refine Go.of (fun t k => XS.icmpNo X0.here hx rfl (hb hby d21_12) rfl (tlt (by decide : (4 : Int32) < (7 : Int32))).2.1 k) ?_
  show Go p e below Qo s₁ (mkF m 15 #[.val (.ref r1), .val (.ref r2), .val (.int (4 : Int32))] [])
  refine Go.of (fun t k => XS.aloadN X0.here hx rfl (hb hby d21_15) rfl rfl k) ?_
  show Go p e below Qo s₁ (mkF m 16 #[.val (.ref r1), .val (.ref r2), .val (.int (4 : Int32))] [(.ref r1)])
  refine Go.of (fun t k => XS.iloadN X0.here hx rfl (hb hby d21_16) rfl  k) ?_
  show Go p e below Qo s₁ (mkF m 17 #[.val (.ref r1), .val (.ref r2), .val (.int (4 : Int32))] [(.int (4 : Int32)), (.ref r1)])
  have cpo24 := f0
  obtain ⟨clo24, Aro24, qco24, So24, Mo24, Ho24, Go24⟩ := cpo24
  have hin25 : ¬ ((4 : Int32) < 0 ∨ clo24.slots.size ≤ (4 : Int32).toNatClampNeg) := (inb_of So24 ⟨by decide, by decide⟩)
  refine Go.of (fun t k => X0.baloadBytes hx (j := (4 : Int32)) (v := (.int (105 : Int32))) (by rw [e0]; exact Aro24.1) (State.isArrayOf_alike hZ.alike Aro24.2.1) Aro24.2.2 hin25 (Ho24.at hin25 rfl) (g := (mkF m 17 #[.val (.ref r1), .val (.ref r2), .val (.int (4 : Int32))] [(.int (4 : Int32)), (.ref r1)])) rfl rfl (hb hby d21_17) t k) ?_
  show Go p e below Qo s₁ (mkF m 18 #[.val (.ref r1), .val (.ref r2), .val (.int (4 : Int32))] [(.int (105 : Int32))])
  refine Go.of (fun t k => XS.aloadN X0.here hx rfl (hb hby d21_18) rfl rfl k) ?_
  show Go p e below Qo s₁ (mkF m 19 #[.val (.ref r1), .val (.ref r2), .val (.int (4 : Int32))] [(.ref r2), (.int (105 : Int32))])
  refine Go.of (fun t k => XS.iloadN X0.here hx rfl (hb hby d21_19) rfl  k) ?_
  show Go p e below Qo s₁ (mkF m 20 #[.val (.ref r1), .val (.ref r2), .val (.int (4 : Int32))] [(.int (4 : Int32)), (.ref r2), (.int (105 : Int32))])
  have cpo26 := f1
  obtain ⟨clo26, Aro26, qco26, So26, Mo26, Ho26, Go26⟩ := cpo26
  have hin27 : ¬ ((4 : Int32) < 0 ∨ clo26.slots.size ≤ (4 : Int32).toNatClampNeg) := (inb_of So26 ⟨by decide, by decide⟩)
  refine Go.of (fun t k => X0.baloadBytes hx (j := (4 : Int32)) (v := (.int (105 : Int32))) (by rw [e0]; exact Aro26.1) (State.isArrayOf_alike hZ.alike Aro26.2.1) Aro26.2.2 hin27 (Ho26.at hin27 rfl) (g := (mkF m 20 #[.val (.ref r1), .val (.ref r2), .val (.int (4 : Int32))] [(.int (4 : Int32)), (.ref r2), (.int (105 : Int32))])) rfl rfl (hb hby d21_20) t k) ?_
  show Go p e below Qo s₁ (mkF m 21 #[.val (.ref r1), .val (.ref r2), .val (.int (4 : Int32))] [(.int (105 : Int32)), (.int (105 : Int32))])
  refine Go.of (fun t k => XS.icmpYes X0.here hx rfl (pc0 := 21) (pc' := 26) rfl (hb hby d21_21) rfl (teq (by decide : (105 : Int32) = (105 : Int32))).1 (by decide) (by decide) k) ?_
  show Go p e below Qo s₁ (mkF m 26 #[.val (.ref r1), .val (.ref r2), .val (.int (4 : Int32))] [])
  refine Go.of (fun t k => XS.iinc X0.here hx rfl (hb hby d21_26) rfl (l' := #[.val (.ref r1), .val (.ref r2), .val (.int (5 : Int32))]) rfl k) ?_
  show Go p e below Qo s₁ (mkF m 29 #[.val (.ref r1), .val (.ref r2), .val (.int (5 : Int32))] [])
  refine Go.of (fun t k => XS.goto X0.here hx rfl (pc0 := 29) (pc' := 9) rfl (hb hby d21_29) (by decide) (by decide) k) ?_
  show Go p e below Qo s₁ (mkF m 9 #[.val (.ref r1), .val (.ref r2), .val (.int (5 : Int32))] [])
  refine Go.of (fun t k => XS.iloadN X0.here hx rfl (hb hby d21_9) rfl  k) ?_
  show Go p e below Qo s₁ (mkF m 10 #[.val (.ref r1), .val (.ref r2), .val (.int (5 : Int32))] [(.int (5 : Int32))])
  refine Go.of (fun t k => XS.aloadN X0.here hx rfl (hb hby d21_10) rfl rfl k) ?_
  show Go p e below Qo s₁ (mkF m 11 #[.val (.ref r1), .val (.ref r2), .val (.int (5 : Int32))] [(.ref r1), (.int (5 : Int32))])
  have cpo28 := f0
  obtain ⟨clo28, Aro28, qco28, So28, Mo28, Ho28, Go28⟩ := cpo28
  refine Go.of (fun t k => X0.arraylength hx (cell := clo28) (by rw [e0]; exact Aro28.1) (State.isArrayOf_alike hZ.alike Aro28.2.1) (g := (mkF m 11 #[.val (.ref r1), .val (.ref r2), .val (.int (5 : Int32))] [(.ref r1), (.int (5 : Int32))])) rfl rfl (hb hby d21_11) t k) ?_
  rw [len_of So28 Mo28]
  show Go p e below Qo s₁ (mkF m 12 #[.val (.ref r1), .val (.ref r2), .val (.int (5 : Int32))] [(.int (7 : Int32)), (.int (5 : Int32))])
  refine Go.of (fun t k => XS.icmpNo X0.here hx rfl (hb hby d21_12) rfl (tlt (by decide : (5 : Int32) < (7 : Int32))).2.1 k) ?_
  show Go p e below Qo s₁ (mkF m 15 #[.val (.ref r1), .val (.ref r2), .val (.int (5 : Int32))] [])
  refine Go.of (fun t k => XS.aloadN X0.here hx rfl (hb hby d21_15) rfl rfl k) ?_
  show Go p e below Qo s₁ (mkF m 16 #[.val (.ref r1), .val (.ref r2), .val (.int (5 : Int32))] [(.ref r1)])
  refine Go.of (fun t k => XS.iloadN X0.here hx rfl (hb hby d21_16) rfl  k) ?_
  show Go p e below Qo s₁ (mkF m 17 #[.val (.ref r1), .val (.ref r2), .val (.int (5 : Int32))] [(.int (5 : Int32)), (.ref r1)])
  have cpo29 := f0
  obtain ⟨clo29, Aro29, qco29, So29, Mo29, Ho29, Go29⟩ := cpo29
  have hin30 : ¬ ((5 : Int32) < 0 ∨ clo29.slots.size ≤ (5 : Int32).toNatClampNeg) := (inb_of So29 ⟨by decide, by decide⟩)
  refine Go.of (fun t k => X0.baloadBytes hx (j := (5 : Int32)) (v := (.int (110 : Int32))) (by rw [e0]; exact Aro29.1) (State.isArrayOf_alike hZ.alike Aro29.2.1) Aro29.2.2 hin30 (Ho29.at hin30 rfl) (g := (mkF m 17 #[.val (.ref r1), .val (.ref r2), .val (.int (5 : Int32))] [(.int (5 : Int32)), (.ref r1)])) rfl rfl (hb hby d21_17) t k) ?_
  show Go p e below Qo s₁ (mkF m 18 #[.val (.ref r1), .val (.ref r2), .val (.int (5 : Int32))] [(.int (110 : Int32))])
  refine Go.of (fun t k => XS.aloadN X0.here hx rfl (hb hby d21_18) rfl rfl k) ?_
  show Go p e below Qo s₁ (mkF m 19 #[.val (.ref r1), .val (.ref r2), .val (.int (5 : Int32))] [(.ref r2), (.int (110 : Int32))])
  refine Go.of (fun t k => XS.iloadN X0.here hx rfl (hb hby d21_19) rfl  k) ?_
  show Go p e below Qo s₁ (mkF m 20 #[.val (.ref r1), .val (.ref r2), .val (.int (5 : Int32))] [(.int (5 : Int32)), (.ref r2), (.int (110 : Int32))])
  have cpo31 := f1
  obtain ⟨clo31, Aro31, qco31, So31, Mo31, Ho31, Go31⟩ := cpo31
  have hin32 : ¬ ((5 : Int32) < 0 ∨ clo31.slots.size ≤ (5 : Int32).toNatClampNeg) := (inb_of So31 ⟨by decide, by decide⟩)
  refine Go.of (fun t k => X0.baloadBytes hx (j := (5 : Int32)) (v := (.int (110 : Int32))) (by rw [e0]; exact Aro31.1) (State.isArrayOf_alike hZ.alike Aro31.2.1) Aro31.2.2 hin32 (Ho31.at hin32 rfl) (g := (mkF m 20 #[.val (.ref r1), .val (.ref r2), .val (.int (5 : Int32))] [(.int (5 : Int32)), (.ref r2), (.int (110 : Int32))])) rfl rfl (hb hby d21_20) t k) ?_
  show Go p e below Qo s₁ (mkF m 21 #[.val (.ref r1), .val (.ref r2), .val (.int (5 : Int32))] [(.int (110 : Int32)), (.int (110 : Int32))])
  refine Go.of (fun t k => XS.icmpYes X0.here hx rfl (pc0 := 21) (pc' := 26) rfl (hb hby d21_21) rfl (teq (by decide : (110 : Int32) = (110 : Int32))).1 (by decide) (by decide) k) ?_
  show Go p e below Qo s₁ (mkF m 26 #[.val (.ref r1), .val (.ref r2), .val (.int (5 : Int32))] [])
  refine Go.of (fun t k => XS.iinc X0.here hx rfl (hb hby d21_26) rfl (l' := #[.val (.ref r1), .val (.ref r2), .val (.int (6 : Int32))]) rfl k) ?_
  show Go p e below Qo s₁ (mkF m 29 #[.val (.ref r1), .val (.ref r2), .val (.int (6 : Int32))] [])
  refine Go.of (fun t k => XS.goto X0.here hx rfl (pc0 := 29) (pc' := 9) rfl (hb hby d21_29) (by decide) (by decide) k) ?_
  show Go p e below Qo s₁ (mkF m 9 #[.val (.ref r1), .val (.ref r2), .val (.int (6 : Int32))] [])
  refine Go.of (fun t k => XS.iloadN X0.here hx rfl (hb hby d21_9) rfl  k) ?_
  show Go p e below Qo s₁ (mkF m 10 #[.val (.ref r1), .val (.ref r2), .val (.int (6 : Int32))] [(.int (6 : Int32))])
  refine Go.of (fun t k => XS.aloadN X0.here hx rfl (hb hby d21_10) rfl rfl k) ?_
  show Go p e below Qo s₁ (mkF m 11 #[.val (.ref r1), .val (.ref r2), .val (.int (6 : Int32))] [(.ref r1), (.int (6 : Int32))])
  have cpo33 := f0
  obtain ⟨clo33, Aro33, qco33, So33, Mo33, Ho33, Go33⟩ := cpo33
  refine Go.of (fun t k => X0.arraylength hx (cell := clo33) (by rw [e0]; exact Aro33.1) (State.isArrayOf_alike hZ.alike Aro33.2.1) (g := (mkF m 11 #[.val (.ref r1), .val (.ref r2), .val (.int (6 : Int32))] [(.ref r1), (.int (6 : Int32))])) rfl rfl (hb hby d21_11) t k) ?_
  rw [len_of So33 Mo33]
  show Go p e below Qo s₁ (mkF m 12 #[.val (.ref r1), .val (.ref r2), .val (.int (6 : Int32))] [(.int (7 : Int32)), (.int (6 : Int32))])
  refine Go.of (fun t k => XS.icmpNo X0.here hx rfl (hb hby d21_12) rfl (tlt (by decide : (6 : Int32) < (7 : Int32))).2.1 k) ?_
  show Go p e below Qo s₁ (mkF m 15 #[.val (.ref r1), .val (.ref r2), .val (.int (6 : Int32))] [])
  refine Go.of (fun t k => XS.aloadN X0.here hx rfl (hb hby d21_15) rfl rfl k) ?_
  show Go p e below Qo s₁ (mkF m 16 #[.val (.ref r1), .val (.ref r2), .val (.int (6 : Int32))] [(.ref r1)])
  refine Go.of (fun t k => XS.iloadN X0.here hx rfl (hb hby d21_16) rfl  k) ?_
  show Go p e below Qo s₁ (mkF m 17 #[.val (.ref r1), .val (.ref r2), .val (.int (6 : Int32))] [(.int (6 : Int32)), (.ref r1)])
  have cpo34 := f0
  obtain ⟨clo34, Aro34, qco34, So34, Mo34, Ho34, Go34⟩ := cpo34
  have hin35 : ¬ ((6 : Int32) < 0 ∨ clo34.slots.size ≤ (6 : Int32).toNatClampNeg) := (inb_of So34 ⟨by decide, by decide⟩)
  refine Go.of (fun t k => X0.baloadBytes hx (j := (6 : Int32)) (v := (.int (103 : Int32))) (by rw [e0]; exact Aro34.1) (State.isArrayOf_alike hZ.alike Aro34.2.1) Aro34.2.2 hin35 (Ho34.at hin35 rfl) (g := (mkF m 17 #[.val (.ref r1), .val (.ref r2), .val (.int (6 : Int32))] [(.int (6 : Int32)), (.ref r1)])) rfl rfl (hb hby d21_17) t k) ?_
  show Go p e below Qo s₁ (mkF m 18 #[.val (.ref r1), .val (.ref r2), .val (.int (6 : Int32))] [(.int (103 : Int32))])
  refine Go.of (fun t k => XS.aloadN X0.here hx rfl (hb hby d21_18) rfl rfl k) ?_
  show Go p e below Qo s₁ (mkF m 19 #[.val (.ref r1), .val (.ref r2), .val (.int (6 : Int32))] [(.ref r2), (.int (103 : Int32))])
  refine Go.of (fun t k => XS.iloadN X0.here hx rfl (hb hby d21_19) rfl  k) ?_
  show Go p e below Qo s₁ (mkF m 20 #[.val (.ref r1), .val (.ref r2), .val (.int (6 : Int32))] [(.int (6 : Int32)), (.ref r2), (.int (103 : Int32))])
  have cpo36 := f1
  obtain ⟨clo36, Aro36, qco36, So36, Mo36, Ho36, Go36⟩ := cpo36
  have hin37 : ¬ ((6 : Int32) < 0 ∨ clo36.slots.size ≤ (6 : Int32).toNatClampNeg) := (inb_of So36 ⟨by decide, by decide⟩)
  refine Go.of (fun t k => X0.baloadBytes hx (j := (6 : Int32)) (v := (.int (103 : Int32))) (by rw [e0]; exact Aro36.1) (State.isArrayOf_alike hZ.alike Aro36.2.1) Aro36.2.2 hin37 (Ho36.at hin37 rfl) (g := (mkF m 20 #[.val (.ref r1), .val (.ref r2), .val (.int (6 : Int32))] [(.int (6 : Int32)), (.ref r2), (.int (103 : Int32))])) rfl rfl (hb hby d21_20) t k) ?_
  show Go p e below Qo s₁ (mkF m 21 #[.val (.ref r1), .val (.ref r2), .val (.int (6 : Int32))] [(.int (103 : Int32)), (.int (103 : Int32))])
  refine Go.of (fun t k => XS.icmpYes X0.here hx rfl (pc0 := 21) (pc' := 26) rfl (hb hby d21_21) rfl (teq (by decide : (103 : Int32) = (103 : Int32))).1 (by decide) (by decide) k) ?_
  show Go p e below Qo s₁ (mkF m 26 #[.val (.ref r1), .val (.ref r2), .val (.int (6 : Int32))] [])
  refine Go.of (fun t k => XS.iinc X0.here hx rfl (hb hby d21_26) rfl (l' := #[.val (.ref r1), .val (.ref r2), .val (.int (7 : Int32))]) rfl k) ?_
  show Go p e below Qo s₁ (mkF m 29 #[.val (.ref r1), .val (.ref r2), .val (.int (7 : Int32))] [])
  refine Go.of (fun t k => XS.goto X0.here hx rfl (pc0 := 29) (pc' := 9) rfl (hb hby d21_29) (by decide) (by decide) k) ?_
  show Go p e below Qo s₁ (mkF m 9 #[.val (.ref r1), .val (.ref r2), .val (.int (7 : Int32))] [])
  refine Go.of (fun t k => XS.iloadN X0.here hx rfl (hb hby d21_9) rfl  k) ?_
  show Go p e below Qo s₁ (mkF m 10 #[.val (.ref r1), .val (.ref r2), .val (.int (7 : Int32))] [(.int (7 : Int32))])
  refine Go.of (fun t k => XS.aloadN X0.here hx rfl (hb hby d21_10) rfl rfl k) ?_
  show Go p e below Qo s₁ (mkF m 11 #[.val (.ref r1), .val (.ref r2), .val (.int (7 : Int32))] [(.ref r1), (.int (7 : Int32))])
  have cpo38 := f0
  obtain ⟨clo38, Aro38, qco38, So38, Mo38, Ho38, Go38⟩ := cpo38
  refine Go.of (fun t k => X0.arraylength hx (cell := clo38) (by rw [e0]; exact Aro38.1) (State.isArrayOf_alike hZ.alike Aro38.2.1) (g := (mkF m 11 #[.val (.ref r1), .val (.ref r2), .val (.int (7 : Int32))] [(.ref r1), (.int (7 : Int32))])) rfl rfl (hb hby d21_11) t k) ?_
  rw [len_of So38 Mo38]
  show Go p e below Qo s₁ (mkF m 12 #[.val (.ref r1), .val (.ref r2), .val (.int (7 : Int32))] [(.int (7 : Int32)), (.int (7 : Int32))])
  refine Go.of (fun t k => XS.icmpYes X0.here hx rfl (pc0 := 12) (pc' := 32) rfl (hb hby d21_12) rfl (flt (by decide : ¬ ((7 : Int32) < (7 : Int32)))).2.1 (by decide) (by decide) k) ?_
  show Go p e below Qo s₁ (mkF m 32 #[.val (.ref r1), .val (.ref r2), .val (.int (7 : Int32))] [])
  refine Go.of (fun t k => XS.iconst X0.here hx rfl (hb hby d21_32) k) ?_
  show Go p e below Qo s₁ (mkF m 33 #[.val (.ref r1), .val (.ref r2), .val (.int (7 : Int32))] [(.int (1 : Int32))])
  exact own_retN X0 hx Bd.notSynchronized (t := .boolean) Bd.returns (by simp) (hb hby d21_33) (fun u hu hF => hQo _ _ _ ⟨rfl, N0, by rw [hu, e0]⟩ (own_mono hF (by decide) (by decide)))
theorem d22_0 : decode jdk_43_method_13_code 0 = .ok (.aload_n 0, 1) := by decide +kernel
theorem d22_1 : decode jdk_43_method_13_code 1 = .ok (.arraylength, 1) := by decide +kernel
theorem d22_2 : decode jdk_43_method_13_code 2 = .ok (.aload_n 1, 1) := by decide +kernel
theorem d22_3 : decode jdk_43_method_13_code 3 = .ok (.arraylength, 1) := by decide +kernel
theorem d22_4 : decode jdk_43_method_13_code 4 = .ok (.if_icmp .ne 30, 3) := by decide +kernel
theorem d22_34 : decode jdk_43_method_13_code 34 = .ok (.iconst 0, 1) := by decide +kernel
theorem d22_35 : decode jdk_43_method_13_code 35 = .ok (.ireturn, 1) := by decide +kernel
theorem ef_22 (m : MethodId) (r1 : Addr) (r2 : Addr)  : entryFrame m #[(.ref r1), (.ref r2)] 3 = mkF m 0 #[.val (.ref r1), .val (.ref r2), .unset] [] := by
  first | (simp [entryFrame, mkF, argsToLocals, Value.category]; done) | rfl
def Q22 (Z : State) (r1 : Addr) (r2 : Addr) (k_1 : ClassId) (k_2 : ClassId) (h0 : Heap) (n0 : Nat) (v : Option Value) (h : Heap) (L : List Loc) : Prop := v = some (.int (0 : Int32)) ∧ Fr n0 L ∧ h = h0
set_option maxRecDepth 65536 in
set_option maxHeartbeats 40000000 in
theorem rm22 (l : Launch) (Z : State) (a0 : Array Value) (hw : ∀ d ∈ tables_1, d.before a0 Z = true) (ws : List Jvm.Cond) (r1 : Addr) (r2 : Addr) (k_1 : ClassId) (k_2 : ClassId) (h0 : Heap) (n0 : Nat) (Z0 : n0 ≤ h0.size) (f0 : Arv Z h0 r1 k_1 .byte (4 : Int32) [(.int (109 : Int32)), (.int (118 : Int32)), (.int (99 : Int32)), (.int (99 : Int32))] (.int 0)) (f1 : Arv Z h0 r2 k_2 .byte (7 : Int32) [(.int (108 : Int32)), (.int (111 : Int32)), (.int (99 : Int32)), (.int (107 : Int32)), (.int (105 : Int32)), (.int (110 : Int32)), (.int (103 : Int32))] (.int 0)) :
    MetFree l (⟨"java/lang/StringLatin1", "equals", "([B[B)Z"⟩ : MethodName) (head1 (Jvm.Cond.code (⟨"java/lang/StringLatin1", "equals", "([B[B)Z"⟩ : MethodName) jdk_43_method_13_code 3 (some .boolean) :: ws) ({ frames := 0, cells := 0, slots := 0, locals := 0 } : Room)) (fun a U => a = #[(.ref r1), (.ref r2)] ∧ Z.Warmed39 U.vm ∧ U.heap = h0) (fun _ _ _ _ _ => True) (fun _ U o U' => ∃ v L, o = .returned v ∧ Q22 Z r1 r2 k_1 k_2 h0 n0 v U'.heap L ∧ FrameEnd U o U' L ({ frames := 0, cells := 0, slots := 0, locals := 0 } : Room).cells ({ frames := 0, cells := 0, slots := 0, locals := 0 } : Room).slots) := by
  refine MetFree.of_bodySF (plainFor_of_name pn_0) hisR ?_
  intro p e s m args below meth c s₁ Bd hml0 hP hK
  obtain ⟨rfl, hZ, hh⟩ := hP
  have hx := Bd.exec
  have hby := Bd.bytes
  have hml : c.maxLocals = 3 := hml0
  have hown : s.vm.findClass "java/lang/StringLatin1" = some m.cls := findClass_of_methodNamed Bd.named
  have hnm := (name_of_methodNamed Bd.named Bd.method).1
  have X0 : Stand p l e ({ frames := 0, cells := 0, slots := 0, locals := 0 } : Room) s m #[(.ref r1), (.ref r2)] below meth c s₁ [] 0 0 := Stand.of_body Bd
  have e0 : s₁.heap = h0 := by rw [← hh, Bd.state]; rfl
  have N0 := Fr.nil n0
  suffices H : ∀ Qo : Outcome → State → Prop, (∀ (v : Option Value) (u : State) (L : List Loc), Q22 Z r1 r2 k_1 k_2 h0 n0 v u.heap L → FrameEnd s (.returned v) u L ({ frames := 0, cells := 0, slots := 0, locals := 0 } : Room).cells ({ frames := 0, cells := 0, slots := 0, locals := 0 } : Room).slots → Qo (.returned v) u) → Go p e below Qo s₁ (mkF m 0 #[.val (.ref r1), .val (.ref r2), .unset] []) from
    Go.cast (ef_22 m r1 r2) (H _ fun v u L h1 h2 => ⟨v, L, rfl, h1, h2⟩)
  intro Qo hQo
  show Go p e below Qo s₁ (mkF m 0 #[.val (.ref r1), .val (.ref r2), .unset] [])
  refine Go.of (fun t k => XS.aloadN X0.here hx rfl (hb hby d22_0) rfl rfl k) ?_
  show Go p e below Qo s₁ (mkF m 1 #[.val (.ref r1), .val (.ref r2), .unset] [(.ref r1)])
  have cpo1 := f0
  obtain ⟨clo1, Aro1, qco1, So1, Mo1, Ho1, Go1⟩ := cpo1
  refine Go.of (fun t k => X0.arraylength hx (cell := clo1) (by rw [e0]; exact Aro1.1) (State.isArrayOf_alike hZ.alike Aro1.2.1) (g := (mkF m 1 #[.val (.ref r1), .val (.ref r2), .unset] [(.ref r1)])) rfl rfl (hb hby d22_1) t k) ?_
  rw [len_of So1 Mo1]
  show Go p e below Qo s₁ (mkF m 2 #[.val (.ref r1), .val (.ref r2), .unset] [(.int (4 : Int32))])
  refine Go.of (fun t k => XS.aloadN X0.here hx rfl (hb hby d22_2) rfl rfl k) ?_
  show Go p e below Qo s₁ (mkF m 3 #[.val (.ref r1), .val (.ref r2), .unset] [(.ref r2), (.int (4 : Int32))])
  have cpo2 := f1
  obtain ⟨clo2, Aro2, qco2, So2, Mo2, Ho2, Go2⟩ := cpo2
  refine Go.of (fun t k => X0.arraylength hx (cell := clo2) (by rw [e0]; exact Aro2.1) (State.isArrayOf_alike hZ.alike Aro2.2.1) (g := (mkF m 3 #[.val (.ref r1), .val (.ref r2), .unset] [(.ref r2), (.int (4 : Int32))])) rfl rfl (hb hby d22_3) t k) ?_
  rw [len_of So2 Mo2]
  show Go p e below Qo s₁ (mkF m 4 #[.val (.ref r1), .val (.ref r2), .unset] [(.int (7 : Int32)), (.int (4 : Int32))])
  refine Go.of (fun t k => XS.icmpYes X0.here hx rfl (pc0 := 4) (pc' := 34) rfl (hb hby d22_4) rfl (feq (by decide : ¬ ((4 : Int32) = (7 : Int32)))).2 (by decide) (by decide) k) ?_
  show Go p e below Qo s₁ (mkF m 34 #[.val (.ref r1), .val (.ref r2), .unset] [])
  refine Go.of (fun t k => XS.iconst X0.here hx rfl (hb hby d22_34) k) ?_
  show Go p e below Qo s₁ (mkF m 35 #[.val (.ref r1), .val (.ref r2), .unset] [(.int (0 : Int32))])
  exact own_retN X0 hx Bd.notSynchronized (t := .boolean) Bd.returns (by simp) (hb hby d22_35) (fun u hu hF => hQo _ _ _ ⟨rfl, N0, by rw [hu, e0]⟩ (own_mono hF (by decide) (by decide)))
theorem d23_0 : decode jdk_43_method_13_code 0 = .ok (.aload_n 0, 1) := by decide +kernel
theorem d23_1 : decode jdk_43_method_13_code 1 = .ok (.arraylength, 1) := by decide +kernel
theorem d23_2 : decode jdk_43_method_13_code 2 = .ok (.aload_n 1, 1) := by decide +kernel
theorem d23_3 : decode jdk_43_method_13_code 3 = .ok (.arraylength, 1) := by decide +kernel
theorem d23_4 : decode jdk_43_method_13_code 4 = .ok (.if_icmp .ne 30, 3) := by decide +kernel
theorem d23_34 : decode jdk_43_method_13_code 34 = .ok (.iconst 0, 1) := by decide +kernel
theorem d23_35 : decode jdk_43_method_13_code 35 = .ok (.ireturn, 1) := by decide +kernel
theorem ef_23 (m : MethodId) (r1 : Addr) (r2 : Addr)  : entryFrame m #[(.ref r1), (.ref r2)] 3 = mkF m 0 #[.val (.ref r1), .val (.ref r2), .unset] [] := by
  first | (simp [entryFrame, mkF, argsToLocals, Value.category]; done) | rfl
def Q23 (Z : State) (r1 : Addr) (r2 : Addr) (k_1 : ClassId) (k_2 : ClassId) (h0 : Heap) (n0 : Nat) (v : Option Value) (h : Heap) (L : List Loc) : Prop := v = some (.int (0 : Int32)) ∧ Fr n0 L ∧ h = h0
set_option maxRecDepth 65536 in
set_option maxHeartbeats 40000000 in
theorem rm23 (l : Launch) (Z : State) (a0 : Array Value) (hw : ∀ d ∈ tables_1, d.before a0 Z = true) (ws : List Jvm.Cond) (r1 : Addr) (r2 : Addr) (k_1 : ClassId) (k_2 : ClassId) (h0 : Heap) (n0 : Nat) (Z0 : n0 ≤ h0.size) (f0 : Arv Z h0 r1 k_1 .byte (7 : Int32) [(.int (108 : Int32)), (.int (111 : Int32)), (.int (99 : Int32)), (.int (107 : Int32)), (.int (105 : Int32)), (.int (110 : Int32)), (.int (103 : Int32))] (.int 0)) (f1 : Arv Z h0 r2 k_2 .byte (4 : Int32) [(.int (109 : Int32)), (.int (118 : Int32)), (.int (99 : Int32)), (.int (99 : Int32))] (.int 0)) :
    MetFree l (⟨"java/lang/StringLatin1", "equals", "([B[B)Z"⟩ : MethodName) (head1 (Jvm.Cond.code (⟨"java/lang/StringLatin1", "equals", "([B[B)Z"⟩ : MethodName) jdk_43_method_13_code 3 (some .boolean) :: ws) ({ frames := 0, cells := 0, slots := 0, locals := 0 } : Room)) (fun a U => a = #[(.ref r1), (.ref r2)] ∧ Z.Warmed39 U.vm ∧ U.heap = h0) (fun _ _ _ _ _ => True) (fun _ U o U' => ∃ v L, o = .returned v ∧ Q23 Z r1 r2 k_1 k_2 h0 n0 v U'.heap L ∧ FrameEnd U o U' L ({ frames := 0, cells := 0, slots := 0, locals := 0 } : Room).cells ({ frames := 0, cells := 0, slots := 0, locals := 0 } : Room).slots) := by
  refine MetFree.of_bodySF (plainFor_of_name pn_0) hisR ?_
  intro p e s m args below meth c s₁ Bd hml0 hP hK
  obtain ⟨rfl, hZ, hh⟩ := hP
  have hx := Bd.exec
  have hby := Bd.bytes
  have hml : c.maxLocals = 3 := hml0
  have hown : s.vm.findClass "java/lang/StringLatin1" = some m.cls := findClass_of_methodNamed Bd.named
  have hnm := (name_of_methodNamed Bd.named Bd.method).1
  have X0 : Stand p l e ({ frames := 0, cells := 0, slots := 0, locals := 0 } : Room) s m #[(.ref r1), (.ref r2)] below meth c s₁ [] 0 0 := Stand.of_body Bd
  have e0 : s₁.heap = h0 := by rw [← hh, Bd.state]; rfl
  have N0 := Fr.nil n0
  suffices H : ∀ Qo : Outcome → State → Prop, (∀ (v : Option Value) (u : State) (L : List Loc), Q23 Z r1 r2 k_1 k_2 h0 n0 v u.heap L → FrameEnd s (.returned v) u L ({ frames := 0, cells := 0, slots := 0, locals := 0 } : Room).cells ({ frames := 0, cells := 0, slots := 0, locals := 0 } : Room).slots → Qo (.returned v) u) → Go p e below Qo s₁ (mkF m 0 #[.val (.ref r1), .val (.ref r2), .unset] []) from
    Go.cast (ef_23 m r1 r2) (H _ fun v u L h1 h2 => ⟨v, L, rfl, h1, h2⟩)
  intro Qo hQo
  show Go p e below Qo s₁ (mkF m 0 #[.val (.ref r1), .val (.ref r2), .unset] [])
  refine Go.of (fun t k => XS.aloadN X0.here hx rfl (hb hby d23_0) rfl rfl k) ?_
  show Go p e below Qo s₁ (mkF m 1 #[.val (.ref r1), .val (.ref r2), .unset] [(.ref r1)])
  have cpo1 := f0
  obtain ⟨clo1, Aro1, qco1, So1, Mo1, Ho1, Go1⟩ := cpo1
  refine Go.of (fun t k => X0.arraylength hx (cell := clo1) (by rw [e0]; exact Aro1.1) (State.isArrayOf_alike hZ.alike Aro1.2.1) (g := (mkF m 1 #[.val (.ref r1), .val (.ref r2), .unset] [(.ref r1)])) rfl rfl (hb hby d23_1) t k) ?_
  rw [len_of So1 Mo1]
  show Go p e below Qo s₁ (mkF m 2 #[.val (.ref r1), .val (.ref r2), .unset] [(.int (7 : Int32))])
  refine Go.of (fun t k => XS.aloadN X0.here hx rfl (hb hby d23_2) rfl rfl k) ?_
  show Go p e below Qo s₁ (mkF m 3 #[.val (.ref r1), .val (.ref r2), .unset] [(.ref r2), (.int (7 : Int32))])
  have cpo2 := f1
  obtain ⟨clo2, Aro2, qco2, So2, Mo2, Ho2, Go2⟩ := cpo2
  refine Go.of (fun t k => X0.arraylength hx (cell := clo2) (by rw [e0]; exact Aro2.1) (State.isArrayOf_alike hZ.alike Aro2.2.1) (g := (mkF m 3 #[.val (.ref r1), .val (.ref r2), .unset] [(.ref r2), (.int (7 : Int32))])) rfl rfl (hb hby d23_3) t k) ?_
  rw [len_of So2 Mo2]
  show Go p e below Qo s₁ (mkF m 4 #[.val (.ref r1), .val (.ref r2), .unset] [(.int (4 : Int32)), (.int (7 : Int32))])
  refine Go.of (fun t k => XS.icmpYes X0.here hx rfl (pc0 := 4) (pc' := 34) rfl (hb hby d23_4) rfl (feq (by decide : ¬ ((7 : Int32) = (4 : Int32)))).2 (by decide) (by decide) k) ?_
  show Go p e below Qo s₁ (mkF m 34 #[.val (.ref r1), .val (.ref r2), .unset] [])
  refine Go.of (fun t k => XS.iconst X0.here hx rfl (hb hby d23_34) k) ?_
  show Go p e below Qo s₁ (mkF m 35 #[.val (.ref r1), .val (.ref r2), .unset] [(.int (0 : Int32))])
  exact own_retN X0 hx Bd.notSynchronized (t := .boolean) Bd.returns (by simp) (hb hby d23_35) (fun u hu hF => hQo _ _ _ ⟨rfl, N0, by rw [hu, e0]⟩ (own_mono hF (by decide) (by decide)))
theorem pd_0 : parseMethodDescriptor "([B[B)Z" = some ⟨[(.array .byte), (.array .byte)], some .boolean⟩ := by decide +kernel
theorem d30_0 : decode jdk_42_method_66_code 0 = .ok (.aload_n 0, 1) := by decide +kernel
theorem d30_1 : decode jdk_42_method_66_code 1 = .ok (.aload_n 1, 1) := by decide +kernel
theorem d30_2 : decode jdk_42_method_66_code 2 = .ok (.if_acmp .ne 5, 3) := by decide +kernel
theorem d30_5 : decode jdk_42_method_66_code 5 = .ok (.iconst 1, 1) := by decide +kernel
theorem d30_6 : decode jdk_42_method_66_code 6 = .ok (.ireturn, 1) := by decide +kernel
theorem d30_7 : decode jdk_42_method_66_code 7 = .ok (.aload_n 1, 1) := by decide +kernel
theorem d30_8 : decode jdk_42_method_66_code 8 = .ok (.instanceof 10, 3) := by decide +kernel
theorem d30_11 : decode jdk_42_method_66_code 11 = .ok (.ifCond .eq 43, 3) := by decide +kernel
theorem d30_14 : decode jdk_42_method_66_code 14 = .ok (.aload_n 1, 1) := by decide +kernel
theorem d30_15 : decode jdk_42_method_66_code 15 = .ok (.checkcast 10, 3) := by decide +kernel
theorem d30_18 : decode jdk_42_method_66_code 18 = .ok (.astore_n 2, 1) := by decide +kernel
theorem d30_19 : decode jdk_42_method_66_code 19 = .ok (.getstatic 38, 3) := by decide +kernel
theorem d30_22 : decode jdk_42_method_66_code 22 = .ok (.ifCond .eq 14, 3) := by decide +kernel
theorem d30_25 : decode jdk_42_method_66_code 25 = .ok (.aload_n 0, 1) := by decide +kernel
theorem d30_26 : decode jdk_42_method_66_code 26 = .ok (.getfield 15, 3) := by decide +kernel
theorem d30_29 : decode jdk_42_method_66_code 29 = .ok (.aload_n 2, 1) := by decide +kernel
theorem d30_30 : decode jdk_42_method_66_code 30 = .ok (.getfield 15, 3) := by decide +kernel
theorem d30_33 : decode jdk_42_method_66_code 33 = .ok (.if_icmp .ne 21, 3) := by decide +kernel
theorem d30_36 : decode jdk_42_method_66_code 36 = .ok (.aload_n 0, 1) := by decide +kernel
theorem d30_37 : decode jdk_42_method_66_code 37 = .ok (.getfield 9, 3) := by decide +kernel
theorem d30_40 : decode jdk_42_method_66_code 40 = .ok (.aload_n 2, 1) := by decide +kernel
theorem d30_41 : decode jdk_42_method_66_code 41 = .ok (.getfield 9, 3) := by decide +kernel
theorem d30_44 : decode jdk_42_method_66_code 44 = .ok (.invokestatic 541, 3) := by decide +kernel
theorem d30_47 : decode jdk_42_method_66_code 47 = .ok (.ifCond .eq 7, 3) := by decide +kernel
theorem d30_50 : decode jdk_42_method_66_code 50 = .ok (.iconst 1, 1) := by decide +kernel
theorem d30_51 : decode jdk_42_method_66_code 51 = .ok (.goto 4, 3) := by decide +kernel
theorem d30_55 : decode jdk_42_method_66_code 55 = .ok (.ireturn, 1) := by decide +kernel
theorem pn_1 : plainName "java/lang/String" = true := by first | (simp [plainName, overriddenIn]; done) | decide +kernel
theorem ef_30 (m : MethodId) (r1 : Addr) (r2 : Addr)  : entryFrame m #[(.ref r1), (.ref r2)] 3 = mkF m 0 #[.val (.ref r1), .val (.ref r2), .unset] [] := by
  first | (simp [entryFrame, mkF, argsToLocals, Value.category]; done) | rfl
def Q30 (Z : State) (r1 : Addr) (r2 : Addr) (zc : Int32) (ba : Addr) (k_1 : ClassId) (bb : Addr) (k_2 : ClassId) (h0 : Heap) (n0 : Nat) (v : Option Value) (h : Heap) (L : List Loc) : Prop := v = some (.int (1 : Int32)) ∧ Fr n0 L ∧ h = h0
set_option maxRecDepth 65536 in
set_option maxHeartbeats 40000000 in
theorem rm30 (l : Launch) (Z : State) (a0 : Array Value) (hw : ∀ d ∈ tables_1, d.before a0 Z = true) (ws : List Jvm.Cond) (r1 : Addr) (r2 : Addr) (zc : Int32) (ba : Addr) (k_1 : ClassId) (bb : Addr) (k_2 : ClassId) (h0 : Heap) (n0 : Nat) (Z0 : n0 ≤ h0.size) (f0 : Sta Z h0 "java/lang/String" "COMPACT_STRINGS" "Z" (.int zc)) (f1 : Exa Z h0 r1 "java/lang/String") (f2 : Fld Z h0 r1 "java/lang/String" "coder" "B" (.int (0 : Int32))) (f3 : Fld Z h0 r1 "java/lang/String" "value" "[B" (.ref ba)) (f4 : Arv Z h0 ba k_1 .byte (4 : Int32) [(.int (109 : Int32)), (.int (118 : Int32)), (.int (99 : Int32)), (.int (99 : Int32))] (.int 0)) (f5 : Exa Z h0 r2 "java/lang/String") (f6 : Fld Z h0 r2 "java/lang/String" "coder" "B" (.int (0 : Int32))) (f7 : Fld Z h0 r2 "java/lang/String" "value" "[B" (.ref bb)) (f8 : Arv Z h0 bb k_2 .byte (4 : Int32) [(.int (109 : Int32)), (.int (118 : Int32)), (.int (99 : Int32)), (.int (99 : Int32))] (.int 0)) (hz : ¬ zc = (0 : Int32)) :
    MetFree l (⟨"java/lang/String", "equals", "(Ljava/lang/Object;)Z"⟩ : MethodName) (head1 (Jvm.Cond.code (⟨"java/lang/String", "equals", "(Ljava/lang/Object;)Z"⟩ : MethodName) jdk_42_method_66_code 3 (some .boolean) :: ws) ({ frames := 1, cells := 0, slots := 0, locals := 14 } : Room)) (fun a U => a = #[(.ref r1), (.ref r2)] ∧ Z.Warmed39 U.vm ∧ U.heap = h0) (fun _ _ _ _ _ => True) (fun _ U o U' => ∃ v L, o = .returned v ∧ Q30 Z r1 r2 zc ba k_1 bb k_2 h0 n0 v U'.heap L ∧ FrameEnd U o U' L ({ frames := 1, cells := 0, slots := 0, locals := 14 } : Room).cells ({ frames := 1, cells := 0, slots := 0, locals := 14 } : Room).slots) := by
  refine MetFree.of_bodySF (plainFor_of_name pn_1) hisR ?_
  intro p e s m args below meth c s₁ Bd hml0 hP hK
  obtain ⟨rfl, hZ, hh⟩ := hP
  have hx := Bd.exec
  have hby := Bd.bytes
  have hml : c.maxLocals = 3 := hml0
  have hown : s.vm.findClass "java/lang/String" = some m.cls := findClass_of_methodNamed Bd.named
  have hnm := (name_of_methodNamed Bd.named Bd.method).1
  have X0 : Stand p l e ({ frames := 1, cells := 0, slots := 0, locals := 14 } : Room) s m #[(.ref r1), (.ref r2)] below meth c s₁ [] 0 0 := Stand.of_body Bd
  have e0 : s₁.heap = h0 := by rw [← hh, Bd.state]; rfl
  have N0 := Fr.nil n0
  suffices H : ∀ Qo : Outcome → State → Prop, (∀ (v : Option Value) (u : State) (L : List Loc), Q30 Z r1 r2 zc ba k_1 bb k_2 h0 n0 v u.heap L → FrameEnd s (.returned v) u L ({ frames := 1, cells := 0, slots := 0, locals := 14 } : Room).cells ({ frames := 1, cells := 0, slots := 0, locals := 14 } : Room).slots → Qo (.returned v) u) → Go p e below Qo s₁ (mkF m 0 #[.val (.ref r1), .val (.ref r2), .unset] []) from
    Go.cast (ef_30 m r1 r2) (H _ fun v u L h1 h2 => ⟨v, L, rfl, h1, h2⟩)
  intro Qo hQo
  show Go p e below Qo s₁ (mkF m 0 #[.val (.ref r1), .val (.ref r2), .unset] [])
  refine Go.of (fun t k => XS.aloadN X0.here hx rfl (hb hby d30_0) rfl rfl k) ?_
  show Go p e below Qo s₁ (mkF m 1 #[.val (.ref r1), .val (.ref r2), .unset] [(.ref r1)])
  refine Go.of (fun t k => XS.aloadN X0.here hx rfl (hb hby d30_1) rfl rfl k) ?_
  show Go p e below Qo s₁ (mkF m 2 #[.val (.ref r1), .val (.ref r2), .unset] [(.ref r2), (.ref r1)])
  by_cases hc2_1 : r1 = r2
  · refine Go.of (fun t k => Jvm.RoadKit.acmp (g := (mkF m 2 #[.val (.ref r1), .val (.ref r2), .unset] [(.ref r2), (.ref r1)])) X0 hx rfl rfl rfl (pc0 := 2) (pc' := 5) (same := true) rfl (hb hby d30_2) rfl (decide_eq_true (congrArg Value.ref hc2_1)) (by decide) (by decide) k) ?_
    show Go p e below Qo s₁ (mkF m 5 #[.val (.ref r1), .val (.ref r2), .unset] [])
    refine Go.of (fun t k => XS.iconst X0.here hx rfl (hb hby d30_5) k) ?_
    show Go p e below Qo s₁ (mkF m 6 #[.val (.ref r1), .val (.ref r2), .unset] [(.int (1 : Int32))])
    exact own_retN X0 hx Bd.notSynchronized (t := .boolean) Bd.returns (by simp) (hb hby d30_6) (fun u hu hF => hQo _ _ _ ⟨rfl, N0, by rw [hu, e0]⟩ (own_mono hF (by decide) (by decide)))
  refine Go.of (fun t k => Jvm.RoadKit.acmp (g := (mkF m 2 #[.val (.ref r1), .val (.ref r2), .unset] [(.ref r2), (.ref r1)])) X0 hx rfl rfl rfl (pc0 := 2) (pc' := 7) (same := false) rfl (hb hby d30_2) rfl (decide_eq_false fun q => hc2_1 (Value.ref.inj q)) (by decide) (by decide) k) ?_
  show Go p e below Qo s₁ (mkF m 7 #[.val (.ref r1), .val (.ref r2), .unset] [])
  refine Go.of (fun t k => XS.aloadN X0.here hx rfl (hb hby d30_7) rfl rfl k) ?_
  show Go p e below Qo s₁ (mkF m 8 #[.val (.ref r1), .val (.ref r2), .unset] [(.ref r2)])
  obtain ⟨T2, X2, e2, st2⟩ := instY X0 hx hZ hown (hw _ (List.mem_of_getElem? (i := 23) rfl)) e0 (Ins.self f5) (g := (mkF m 8 #[.val (.ref r1), .val (.ref r2), .unset] [(.ref r2)])) rfl rfl (hb hby d30_8)
  refine Go.of st2 ?_
  show Go p e below Qo T2 (mkF m 11 #[.val (.ref r1), .val (.ref r2), .unset] [(.int (1 : Int32))])
  refine Go.of (fun t k => XS.ifNo X2.here hx rfl (hb hby d30_11) rfl ((if0 _ _).trans (feq (by decide : ¬ ((1 : Int32) = (0 : Int32)))).1) k) ?_
  show Go p e below Qo T2 (mkF m 14 #[.val (.ref r1), .val (.ref r2), .unset] [])
  refine Go.of (fun t k => XS.aloadN X2.here hx rfl (hb hby d30_14) rfl rfl k) ?_
  show Go p e below Qo T2 (mkF m 15 #[.val (.ref r1), .val (.ref r2), .unset] [(.ref r2)])
  obtain ⟨T3, X3, e3, st3⟩ := castY X2 hx hZ hown (hw _ (List.mem_of_getElem? (i := 23) rfl)) e2 (Ins.self f5) (g := (mkF m 15 #[.val (.ref r1), .val (.ref r2), .unset] [(.ref r2)])) rfl rfl (hb hby d30_15)
  refine Go.of st3 ?_
  show Go p e below Qo T3 (mkF m 18 #[.val (.ref r1), .val (.ref r2), .unset] [(.ref r2)])
  refine Go.of (fun t k => XS.astoreN X3.here hx rfl (hb hby d30_18) rfl rfl (l' := #[.val (.ref r1), .val (.ref r2), .val (.ref r2)]) rfl k) ?_
  show Go p e below Qo T3 (mkF m 19 #[.val (.ref r1), .val (.ref r2), .val (.ref r2)] [])
  obtain ⟨T4, X4, e4, st4⟩ := getS X3 hx hZ (host := "") hown (hw _ (List.mem_of_getElem? (i := 25) rfl)) Via.refl e3 f0 (g := (mkF m 19 #[.val (.ref r1), .val (.ref r2), .val (.ref r2)] [])) rfl (hb hby d30_19)
  refine Go.of st4 ?_
  show Go p e below Qo T4 (mkF m 22 #[.val (.ref r1), .val (.ref r2), .val (.ref r2)] [(.int zc)])
  refine Go.of (fun t k => XS.ifNo X4.here hx rfl (hb hby d30_22) rfl ((if0 _ _).trans (feq hz).1) k) ?_
  show Go p e below Qo T4 (mkF m 25 #[.val (.ref r1), .val (.ref r2), .val (.ref r2)] [])
  refine Go.of (fun t k => XS.aloadN X4.here hx rfl (hb hby d30_25) rfl rfl k) ?_
  show Go p e below Qo T4 (mkF m 26 #[.val (.ref r1), .val (.ref r2), .val (.ref r2)] [(.ref r1)])
  obtain ⟨T5, X5, e5, st5⟩ := getF X4 hx hZ hown (host := "") (Or.inl (hw _ (List.mem_of_getElem? (i := 26) rfl))) Via.refl e4 f2 (g := (mkF m 26 #[.val (.ref r1), .val (.ref r2), .val (.ref r2)] [(.ref r1)])) rfl rfl (hb hby d30_26)
  refine Go.of st5 ?_
  show Go p e below Qo T5 (mkF m 29 #[.val (.ref r1), .val (.ref r2), .val (.ref r2)] [(.int (0 : Int32))])
  refine Go.of (fun t k => XS.aloadN X5.here hx rfl (hb hby d30_29) rfl rfl k) ?_
  show Go p e below Qo T5 (mkF m 30 #[.val (.ref r1), .val (.ref r2), .val (.ref r2)] [(.ref r2), (.int (0 : Int32))])
  obtain ⟨T6, X6, e6, st6⟩ := getF X5 hx hZ hown (host := "") (Or.inl (hw _ (List.mem_of_getElem? (i := 26) rfl))) Via.refl e5 f6 (g := (mkF m 30 #[.val (.ref r1), .val (.ref r2), .val (.ref r2)] [(.ref r2), (.int (0 : Int32))])) rfl rfl (hb hby d30_30)
  refine Go.of st6 ?_
  show Go p e below Qo T6 (mkF m 33 #[.val (.ref r1), .val (.ref r2), .val (.ref r2)] [(.int (0 : Int32)), (.int (0 : Int32))])
  refine Go.of (fun t k => XS.icmpNo X6.here hx rfl (hb hby d30_33) rfl (teq (by decide : (0 : Int32) = (0 : Int32))).2 k) ?_
  show Go p e below Qo T6 (mkF m 36 #[.val (.ref r1), .val (.ref r2), .val (.ref r2)] [])
  refine Go.of (fun t k => XS.aloadN X6.here hx rfl (hb hby d30_36) rfl rfl k) ?_
  show Go p e below Qo T6 (mkF m 37 #[.val (.ref r1), .val (.ref r2), .val (.ref r2)] [(.ref r1)])
  obtain ⟨T7, X7, e7, st7⟩ := getF X6 hx hZ hown (host := "") (Or.inl (hw _ (List.mem_of_getElem? (i := 27) rfl))) Via.refl e6 f3 (g := (mkF m 37 #[.val (.ref r1), .val (.ref r2), .val (.ref r2)] [(.ref r1)])) rfl rfl (hb hby d30_37)
  refine Go.of st7 ?_
  show Go p e below Qo T7 (mkF m 40 #[.val (.ref r1), .val (.ref r2), .val (.ref r2)] [(.ref ba)])
  refine Go.of (fun t k => XS.aloadN X7.here hx rfl (hb hby d30_40) rfl rfl k) ?_
  show Go p e below Qo T7 (mkF m 41 #[.val (.ref r1), .val (.ref r2), .val (.ref r2)] [(.ref r2), (.ref ba)])
  obtain ⟨T8, X8, e8, st8⟩ := getF X7 hx hZ hown (host := "") (Or.inl (hw _ (List.mem_of_getElem? (i := 27) rfl))) Via.refl e7 f7 (g := (mkF m 41 #[.val (.ref r1), .val (.ref r2), .val (.ref r2)] [(.ref r2), (.ref ba)])) rfl rfl (hb hby d30_41)
  refine Go.of st8 ?_
  show Go p e below Qo T8 (mkF m 44 #[.val (.ref r1), .val (.ref r2), .val (.ref r2)] [(.ref bb), (.ref ba)])
  obtain ⟨_, _, ⟨T9, L9, k9, n9⟩, -, X9, ⟨Lc9, hQ9, l9, y9, z9⟩, st9⟩ := Jvm.LawKit.callS X8 hx (y := (⟨"java/lang/StringLatin1", "equals", "([B[B)Z"⟩ : MethodName)) hown (mvT hZ (hw _ (List.mem_of_getElem? (i := 28) rfl))) (mvT hZ (hw _ (List.mem_of_getElem? (i := 29) rfl))) (mvT hZ (hw _ (List.mem_of_getElem? (i := 30) rfl))) (mvT hZ (hw _ (List.mem_of_getElem? (i := 31) rfl))) (by decide) (backOf (W := 0) (rm20 l Z a0 hw [] ba bb k_1 k_2 h0 n0 Z0 f4 f8) hZ (hw _ (List.mem_of_getElem? (i := 31) rfl)) (hw _ (List.mem_of_getElem? (i := 30) rfl)) (by decide) (by decide)) (g := (mkF m 44 #[.val (.ref r1), .val (.ref r2), .val (.ref r2)] [(.ref bb), (.ref ba)])) rfl (by rw [hml]; rfl) (argsL := [(.ref ba), (.ref bb)]) (rest := []) (lenOf pd_0 rfl) rfl (by show 2 * 0 + _ ≤ _; exact Nat.le_of_eq rfl) (hb hby d30_44) (fun _ _ => ⟨rfl, e8, (by decide : 0 + 0 ≤ _), (by decide : 0 + 0 ≤ _)⟩)
  dsimp only [Pt.U, Pt.locs, Pt.cells, Pt.slots] at X9 l9 y9 z9 st9 hQ9
  subst l9 y9 z9
  replace X9 := own_cs X9 (c' := 0) (s' := 0) (by decide) (by decide)
  obtain ⟨rfl, N10, eh11⟩ := hQ9
  have N12 := Fr.app N0 N10
  refine Go.of st9 ?_
  obtain ⟨Lx13, Xx13, Nx13⟩ := own_locs X9 N12
  show Go p e below Qo T9 (mkF m 47 #[.val (.ref r1), .val (.ref r2), .val (.ref r2)] [(.int (1 : Int32))])
  refine Go.of (fun t k => XS.ifNo Xx13.here hx rfl (hb hby d30_47) rfl ((if0 _ _).trans (feq (by decide : ¬ ((1 : Int32) = (0 : Int32)))).1) k) ?_
  show Go p e below Qo T9 (mkF m 50 #[.val (.ref r1), .val (.ref r2), .val (.ref r2)] [])
  refine Go.of (fun t k => XS.iconst Xx13.here hx rfl (hb hby d30_50) k) ?_
  show Go p e below Qo T9 (mkF m 51 #[.val (.ref r1), .val (.ref r2), .val (.ref r2)] [(.int (1 : Int32))])
  refine Go.of (fun t k => XS.goto Xx13.here hx rfl (pc0 := 51) (pc' := 55) rfl (hb hby d30_51) (by decide) (by decide) k) ?_
  show Go p e below Qo T9 (mkF m 55 #[.val (.ref r1), .val (.ref r2), .val (.ref r2)] [(.int (1 : Int32))])
  exact own_retN Xx13 hx Bd.notSynchronized (t := .boolean) Bd.returns (by simp) (hb hby d30_55) (fun u hu hF => hQo _ _ _ ⟨rfl, Nx13, by rw [hu, eh11]⟩ (own_mono hF (by decide) (by decide)))
theorem d31_0 : decode jdk_42_method_66_code 0 = .ok (.aload_n 0, 1) := by decide +kernel
theorem d31_1 : decode jdk_42_method_66_code 1 = .ok (.aload_n 1, 1) := by decide +kernel
theorem d31_2 : decode jdk_42_method_66_code 2 = .ok (.if_acmp .ne 5, 3) := by decide +kernel
theorem d31_5 : decode jdk_42_method_66_code 5 = .ok (.iconst 1, 1) := by decide +kernel
theorem d31_6 : decode jdk_42_method_66_code 6 = .ok (.ireturn, 1) := by decide +kernel
theorem d31_7 : decode jdk_42_method_66_code 7 = .ok (.aload_n 1, 1) := by decide +kernel
theorem d31_8 : decode jdk_42_method_66_code 8 = .ok (.instanceof 10, 3) := by decide +kernel
theorem d31_11 : decode jdk_42_method_66_code 11 = .ok (.ifCond .eq 43, 3) := by decide +kernel
theorem d31_14 : decode jdk_42_method_66_code 14 = .ok (.aload_n 1, 1) := by decide +kernel
theorem d31_15 : decode jdk_42_method_66_code 15 = .ok (.checkcast 10, 3) := by decide +kernel
theorem d31_18 : decode jdk_42_method_66_code 18 = .ok (.astore_n 2, 1) := by decide +kernel
theorem d31_19 : decode jdk_42_method_66_code 19 = .ok (.getstatic 38, 3) := by decide +kernel
theorem d31_22 : decode jdk_42_method_66_code 22 = .ok (.ifCond .eq 14, 3) := by decide +kernel
theorem d31_25 : decode jdk_42_method_66_code 25 = .ok (.aload_n 0, 1) := by decide +kernel
theorem d31_26 : decode jdk_42_method_66_code 26 = .ok (.getfield 15, 3) := by decide +kernel
theorem d31_29 : decode jdk_42_method_66_code 29 = .ok (.aload_n 2, 1) := by decide +kernel
theorem d31_30 : decode jdk_42_method_66_code 30 = .ok (.getfield 15, 3) := by decide +kernel
theorem d31_33 : decode jdk_42_method_66_code 33 = .ok (.if_icmp .ne 21, 3) := by decide +kernel
theorem d31_36 : decode jdk_42_method_66_code 36 = .ok (.aload_n 0, 1) := by decide +kernel
theorem d31_37 : decode jdk_42_method_66_code 37 = .ok (.getfield 9, 3) := by decide +kernel
theorem d31_40 : decode jdk_42_method_66_code 40 = .ok (.aload_n 2, 1) := by decide +kernel
theorem d31_41 : decode jdk_42_method_66_code 41 = .ok (.getfield 9, 3) := by decide +kernel
theorem d31_44 : decode jdk_42_method_66_code 44 = .ok (.invokestatic 541, 3) := by decide +kernel
theorem d31_47 : decode jdk_42_method_66_code 47 = .ok (.ifCond .eq 7, 3) := by decide +kernel
theorem d31_50 : decode jdk_42_method_66_code 50 = .ok (.iconst 1, 1) := by decide +kernel
theorem d31_51 : decode jdk_42_method_66_code 51 = .ok (.goto 4, 3) := by decide +kernel
theorem d31_55 : decode jdk_42_method_66_code 55 = .ok (.ireturn, 1) := by decide +kernel
theorem ef_31 (m : MethodId) (r1 : Addr) (r2 : Addr)  : entryFrame m #[(.ref r1), (.ref r2)] 3 = mkF m 0 #[.val (.ref r1), .val (.ref r2), .unset] [] := by
  first | (simp [entryFrame, mkF, argsToLocals, Value.category]; done) | rfl
def Q31 (Z : State) (r1 : Addr) (r2 : Addr) (zc : Int32) (ba : Addr) (k_1 : ClassId) (bb : Addr) (k_2 : ClassId) (h0 : Heap) (n0 : Nat) (v : Option Value) (h : Heap) (L : List Loc) : Prop := v = some (.int (1 : Int32)) ∧ Fr n0 L ∧ h = h0
set_option maxRecDepth 65536 in
set_option maxHeartbeats 40000000 in
theorem rm31 (l : Launch) (Z : State) (a0 : Array Value) (hw : ∀ d ∈ tables_1, d.before a0 Z = true) (ws : List Jvm.Cond) (r1 : Addr) (r2 : Addr) (zc : Int32) (ba : Addr) (k_1 : ClassId) (bb : Addr) (k_2 : ClassId) (h0 : Heap) (n0 : Nat) (Z0 : n0 ≤ h0.size) (f0 : Sta Z h0 "java/lang/String" "COMPACT_STRINGS" "Z" (.int zc)) (f1 : Exa Z h0 r1 "java/lang/String") (f2 : Fld Z h0 r1 "java/lang/String" "coder" "B" (.int (0 : Int32))) (f3 : Fld Z h0 r1 "java/lang/String" "value" "[B" (.ref ba)) (f4 : Arv Z h0 ba k_1 .byte (7 : Int32) [(.int (108 : Int32)), (.int (111 : Int32)), (.int (99 : Int32)), (.int (107 : Int32)), (.int (105 : Int32)), (.int (110 : Int32)), (.int (103 : Int32))] (.int 0)) (f5 : Exa Z h0 r2 "java/lang/String") (f6 : Fld Z h0 r2 "java/lang/String" "coder" "B" (.int (0 : Int32))) (f7 : Fld Z h0 r2 "java/lang/String" "value" "[B" (.ref bb)) (f8 : Arv Z h0 bb k_2 .byte (7 : Int32) [(.int (108 : Int32)), (.int (111 : Int32)), (.int (99 : Int32)), (.int (107 : Int32)), (.int (105 : Int32)), (.int (110 : Int32)), (.int (103 : Int32))] (.int 0)) (hz : ¬ zc = (0 : Int32)) :
    MetFree l (⟨"java/lang/String", "equals", "(Ljava/lang/Object;)Z"⟩ : MethodName) (head1 (Jvm.Cond.code (⟨"java/lang/String", "equals", "(Ljava/lang/Object;)Z"⟩ : MethodName) jdk_42_method_66_code 3 (some .boolean) :: ws) ({ frames := 1, cells := 0, slots := 0, locals := 14 } : Room)) (fun a U => a = #[(.ref r1), (.ref r2)] ∧ Z.Warmed39 U.vm ∧ U.heap = h0) (fun _ _ _ _ _ => True) (fun _ U o U' => ∃ v L, o = .returned v ∧ Q31 Z r1 r2 zc ba k_1 bb k_2 h0 n0 v U'.heap L ∧ FrameEnd U o U' L ({ frames := 1, cells := 0, slots := 0, locals := 14 } : Room).cells ({ frames := 1, cells := 0, slots := 0, locals := 14 } : Room).slots) := by
  refine MetFree.of_bodySF (plainFor_of_name pn_1) hisR ?_
  intro p e s m args below meth c s₁ Bd hml0 hP hK
  obtain ⟨rfl, hZ, hh⟩ := hP
  have hx := Bd.exec
  have hby := Bd.bytes
  have hml : c.maxLocals = 3 := hml0
  have hown : s.vm.findClass "java/lang/String" = some m.cls := findClass_of_methodNamed Bd.named
  have hnm := (name_of_methodNamed Bd.named Bd.method).1
  have X0 : Stand p l e ({ frames := 1, cells := 0, slots := 0, locals := 14 } : Room) s m #[(.ref r1), (.ref r2)] below meth c s₁ [] 0 0 := Stand.of_body Bd
  have e0 : s₁.heap = h0 := by rw [← hh, Bd.state]; rfl
  have N0 := Fr.nil n0
  suffices H : ∀ Qo : Outcome → State → Prop, (∀ (v : Option Value) (u : State) (L : List Loc), Q31 Z r1 r2 zc ba k_1 bb k_2 h0 n0 v u.heap L → FrameEnd s (.returned v) u L ({ frames := 1, cells := 0, slots := 0, locals := 14 } : Room).cells ({ frames := 1, cells := 0, slots := 0, locals := 14 } : Room).slots → Qo (.returned v) u) → Go p e below Qo s₁ (mkF m 0 #[.val (.ref r1), .val (.ref r2), .unset] []) from
    Go.cast (ef_31 m r1 r2) (H _ fun v u L h1 h2 => ⟨v, L, rfl, h1, h2⟩)
  intro Qo hQo
  show Go p e below Qo s₁ (mkF m 0 #[.val (.ref r1), .val (.ref r2), .unset] [])
  refine Go.of (fun t k => XS.aloadN X0.here hx rfl (hb hby d31_0) rfl rfl k) ?_
  show Go p e below Qo s₁ (mkF m 1 #[.val (.ref r1), .val (.ref r2), .unset] [(.ref r1)])
  refine Go.of (fun t k => XS.aloadN X0.here hx rfl (hb hby d31_1) rfl rfl k) ?_
  show Go p e below Qo s₁ (mkF m 2 #[.val (.ref r1), .val (.ref r2), .unset] [(.ref r2), (.ref r1)])
  by_cases hc2_1 : r1 = r2
  · refine Go.of (fun t k => Jvm.RoadKit.acmp (g := (mkF m 2 #[.val (.ref r1), .val (.ref r2), .unset] [(.ref r2), (.ref r1)])) X0 hx rfl rfl rfl (pc0 := 2) (pc' := 5) (same := true) rfl (hb hby d31_2) rfl (decide_eq_true (congrArg Value.ref hc2_1)) (by decide) (by decide) k) ?_
    show Go p e below Qo s₁ (mkF m 5 #[.val (.ref r1), .val (.ref r2), .unset] [])
    refine Go.of (fun t k => XS.iconst X0.here hx rfl (hb hby d31_5) k) ?_
    show Go p e below Qo s₁ (mkF m 6 #[.val (.ref r1), .val (.ref r2), .unset] [(.int (1 : Int32))])
    exact own_retN X0 hx Bd.notSynchronized (t := .boolean) Bd.returns (by simp) (hb hby d31_6) (fun u hu hF => hQo _ _ _ ⟨rfl, N0, by rw [hu, e0]⟩ (own_mono hF (by decide) (by decide)))
  refine Go.of (fun t k => Jvm.RoadKit.acmp (g := (mkF m 2 #[.val (.ref r1), .val (.ref r2), .unset] [(.ref r2), (.ref r1)])) X0 hx rfl rfl rfl (pc0 := 2) (pc' := 7) (same := false) rfl (hb hby d31_2) rfl (decide_eq_false fun q => hc2_1 (Value.ref.inj q)) (by decide) (by decide) k) ?_
  show Go p e below Qo s₁ (mkF m 7 #[.val (.ref r1), .val (.ref r2), .unset] [])
  refine Go.of (fun t k => XS.aloadN X0.here hx rfl (hb hby d31_7) rfl rfl k) ?_
  show Go p e below Qo s₁ (mkF m 8 #[.val (.ref r1), .val (.ref r2), .unset] [(.ref r2)])
  obtain ⟨T2, X2, e2, st2⟩ := instY X0 hx hZ hown (hw _ (List.mem_of_getElem? (i := 23) rfl)) e0 (Ins.self f5) (g := (mkF m 8 #[.val (.ref r1), .val (.ref r2), .unset] [(.ref r2)])) rfl rfl (hb hby d31_8)
  refine Go.of st2 ?_
  show Go p e below Qo T2 (mkF m 11 #[.val (.ref r1), .val (.ref r2), .unset] [(.int (1 : Int32))])
  refine Go.of (fun t k => XS.ifNo X2.here hx rfl (hb hby d31_11) rfl ((if0 _ _).trans (feq (by decide : ¬ ((1 : Int32) = (0 : Int32)))).1) k) ?_
  show Go p e below Qo T2 (mkF m 14 #[.val (.ref r1), .val (.ref r2), .unset] [])
  refine Go.of (fun t k => XS.aloadN X2.here hx rfl (hb hby d31_14) rfl rfl k) ?_
  show Go p e below Qo T2 (mkF m 15 #[.val (.ref r1), .val (.ref r2), .unset] [(.ref r2)])
  obtain ⟨T3, X3, e3, st3⟩ := castY X2 hx hZ hown (hw _ (List.mem_of_getElem? (i := 23) rfl)) e2 (Ins.self f5) (g := (mkF m 15 #[.val (.ref r1), .val (.ref r2), .unset] [(.ref r2)])) rfl rfl (hb hby d31_15)
  refine Go.of st3 ?_
  show Go p e below Qo T3 (mkF m 18 #[.val (.ref r1), .val (.ref r2), .unset] [(.ref r2)])
  refine Go.of (fun t k => XS.astoreN X3.here hx rfl (hb hby d31_18) rfl rfl (l' := #[.val (.ref r1), .val (.ref r2), .val (.ref r2)]) rfl k) ?_
  show Go p e below Qo T3 (mkF m 19 #[.val (.ref r1), .val (.ref r2), .val (.ref r2)] [])
  obtain ⟨T4, X4, e4, st4⟩ := getS X3 hx hZ (host := "") hown (hw _ (List.mem_of_getElem? (i := 25) rfl)) Via.refl e3 f0 (g := (mkF m 19 #[.val (.ref r1), .val (.ref r2), .val (.ref r2)] [])) rfl (hb hby d31_19)
  refine Go.of st4 ?_
  show Go p e below Qo T4 (mkF m 22 #[.val (.ref r1), .val (.ref r2), .val (.ref r2)] [(.int zc)])
  refine Go.of (fun t k => XS.ifNo X4.here hx rfl (hb hby d31_22) rfl ((if0 _ _).trans (feq hz).1) k) ?_
  show Go p e below Qo T4 (mkF m 25 #[.val (.ref r1), .val (.ref r2), .val (.ref r2)] [])
  refine Go.of (fun t k => XS.aloadN X4.here hx rfl (hb hby d31_25) rfl rfl k) ?_
  show Go p e below Qo T4 (mkF m 26 #[.val (.ref r1), .val (.ref r2), .val (.ref r2)] [(.ref r1)])
  obtain ⟨T5, X5, e5, st5⟩ := getF X4 hx hZ hown (host := "") (Or.inl (hw _ (List.mem_of_getElem? (i := 26) rfl))) Via.refl e4 f2 (g := (mkF m 26 #[.val (.ref r1), .val (.ref r2), .val (.ref r2)] [(.ref r1)])) rfl rfl (hb hby d31_26)
  refine Go.of st5 ?_
  show Go p e below Qo T5 (mkF m 29 #[.val (.ref r1), .val (.ref r2), .val (.ref r2)] [(.int (0 : Int32))])
  refine Go.of (fun t k => XS.aloadN X5.here hx rfl (hb hby d31_29) rfl rfl k) ?_
  show Go p e below Qo T5 (mkF m 30 #[.val (.ref r1), .val (.ref r2), .val (.ref r2)] [(.ref r2), (.int (0 : Int32))])
  obtain ⟨T6, X6, e6, st6⟩ := getF X5 hx hZ hown (host := "") (Or.inl (hw _ (List.mem_of_getElem? (i := 26) rfl))) Via.refl e5 f6 (g := (mkF m 30 #[.val (.ref r1), .val (.ref r2), .val (.ref r2)] [(.ref r2), (.int (0 : Int32))])) rfl rfl (hb hby d31_30)
  refine Go.of st6 ?_
  show Go p e below Qo T6 (mkF m 33 #[.val (.ref r1), .val (.ref r2), .val (.ref r2)] [(.int (0 : Int32)), (.int (0 : Int32))])
  refine Go.of (fun t k => XS.icmpNo X6.here hx rfl (hb hby d31_33) rfl (teq (by decide : (0 : Int32) = (0 : Int32))).2 k) ?_
  show Go p e below Qo T6 (mkF m 36 #[.val (.ref r1), .val (.ref r2), .val (.ref r2)] [])
  refine Go.of (fun t k => XS.aloadN X6.here hx rfl (hb hby d31_36) rfl rfl k) ?_
  show Go p e below Qo T6 (mkF m 37 #[.val (.ref r1), .val (.ref r2), .val (.ref r2)] [(.ref r1)])
  obtain ⟨T7, X7, e7, st7⟩ := getF X6 hx hZ hown (host := "") (Or.inl (hw _ (List.mem_of_getElem? (i := 27) rfl))) Via.refl e6 f3 (g := (mkF m 37 #[.val (.ref r1), .val (.ref r2), .val (.ref r2)] [(.ref r1)])) rfl rfl (hb hby d31_37)
  refine Go.of st7 ?_
  show Go p e below Qo T7 (mkF m 40 #[.val (.ref r1), .val (.ref r2), .val (.ref r2)] [(.ref ba)])
  refine Go.of (fun t k => XS.aloadN X7.here hx rfl (hb hby d31_40) rfl rfl k) ?_
  show Go p e below Qo T7 (mkF m 41 #[.val (.ref r1), .val (.ref r2), .val (.ref r2)] [(.ref r2), (.ref ba)])
  obtain ⟨T8, X8, e8, st8⟩ := getF X7 hx hZ hown (host := "") (Or.inl (hw _ (List.mem_of_getElem? (i := 27) rfl))) Via.refl e7 f7 (g := (mkF m 41 #[.val (.ref r1), .val (.ref r2), .val (.ref r2)] [(.ref r2), (.ref ba)])) rfl rfl (hb hby d31_41)
  refine Go.of st8 ?_
  show Go p e below Qo T8 (mkF m 44 #[.val (.ref r1), .val (.ref r2), .val (.ref r2)] [(.ref bb), (.ref ba)])
  obtain ⟨_, _, ⟨T9, L9, k9, n9⟩, -, X9, ⟨Lc9, hQ9, l9, y9, z9⟩, st9⟩ := Jvm.LawKit.callS X8 hx (y := (⟨"java/lang/StringLatin1", "equals", "([B[B)Z"⟩ : MethodName)) hown (mvT hZ (hw _ (List.mem_of_getElem? (i := 28) rfl))) (mvT hZ (hw _ (List.mem_of_getElem? (i := 29) rfl))) (mvT hZ (hw _ (List.mem_of_getElem? (i := 30) rfl))) (mvT hZ (hw _ (List.mem_of_getElem? (i := 31) rfl))) (by decide) (backOf (W := 0) (rm21 l Z a0 hw [] ba bb k_1 k_2 h0 n0 Z0 f4 f8) hZ (hw _ (List.mem_of_getElem? (i := 31) rfl)) (hw _ (List.mem_of_getElem? (i := 30) rfl)) (by decide) (by decide)) (g := (mkF m 44 #[.val (.ref r1), .val (.ref r2), .val (.ref r2)] [(.ref bb), (.ref ba)])) rfl (by rw [hml]; rfl) (argsL := [(.ref ba), (.ref bb)]) (rest := []) (lenOf pd_0 rfl) rfl (by show 2 * 0 + _ ≤ _; exact Nat.le_of_eq rfl) (hb hby d31_44) (fun _ _ => ⟨rfl, e8, (by decide : 0 + 0 ≤ _), (by decide : 0 + 0 ≤ _)⟩)
  dsimp only [Pt.U, Pt.locs, Pt.cells, Pt.slots] at X9 l9 y9 z9 st9 hQ9
  subst l9 y9 z9
  replace X9 := own_cs X9 (c' := 0) (s' := 0) (by decide) (by decide)
  obtain ⟨rfl, N10, eh11⟩ := hQ9
  have N12 := Fr.app N0 N10
  refine Go.of st9 ?_
  obtain ⟨Lx13, Xx13, Nx13⟩ := own_locs X9 N12
  show Go p e below Qo T9 (mkF m 47 #[.val (.ref r1), .val (.ref r2), .val (.ref r2)] [(.int (1 : Int32))])
  refine Go.of (fun t k => XS.ifNo Xx13.here hx rfl (hb hby d31_47) rfl ((if0 _ _).trans (feq (by decide : ¬ ((1 : Int32) = (0 : Int32)))).1) k) ?_
  show Go p e below Qo T9 (mkF m 50 #[.val (.ref r1), .val (.ref r2), .val (.ref r2)] [])
  refine Go.of (fun t k => XS.iconst Xx13.here hx rfl (hb hby d31_50) k) ?_
  show Go p e below Qo T9 (mkF m 51 #[.val (.ref r1), .val (.ref r2), .val (.ref r2)] [(.int (1 : Int32))])
  refine Go.of (fun t k => XS.goto Xx13.here hx rfl (pc0 := 51) (pc' := 55) rfl (hb hby d31_51) (by decide) (by decide) k) ?_
  show Go p e below Qo T9 (mkF m 55 #[.val (.ref r1), .val (.ref r2), .val (.ref r2)] [(.int (1 : Int32))])
  exact own_retN Xx13 hx Bd.notSynchronized (t := .boolean) Bd.returns (by simp) (hb hby d31_55) (fun u hu hF => hQo _ _ _ ⟨rfl, Nx13, by rw [hu, eh11]⟩ (own_mono hF (by decide) (by decide)))
theorem d32_0 : decode jdk_42_method_66_code 0 = .ok (.aload_n 0, 1) := by decide +kernel
theorem d32_1 : decode jdk_42_method_66_code 1 = .ok (.aload_n 1, 1) := by decide +kernel
theorem d32_2 : decode jdk_42_method_66_code 2 = .ok (.if_acmp .ne 5, 3) := by decide +kernel
theorem d32_7 : decode jdk_42_method_66_code 7 = .ok (.aload_n 1, 1) := by decide +kernel
theorem d32_8 : decode jdk_42_method_66_code 8 = .ok (.instanceof 10, 3) := by decide +kernel
theorem d32_11 : decode jdk_42_method_66_code 11 = .ok (.ifCond .eq 43, 3) := by decide +kernel
theorem d32_14 : decode jdk_42_method_66_code 14 = .ok (.aload_n 1, 1) := by decide +kernel
theorem d32_15 : decode jdk_42_method_66_code 15 = .ok (.checkcast 10, 3) := by decide +kernel
theorem d32_18 : decode jdk_42_method_66_code 18 = .ok (.astore_n 2, 1) := by decide +kernel
theorem d32_19 : decode jdk_42_method_66_code 19 = .ok (.getstatic 38, 3) := by decide +kernel
theorem d32_22 : decode jdk_42_method_66_code 22 = .ok (.ifCond .eq 14, 3) := by decide +kernel
theorem d32_25 : decode jdk_42_method_66_code 25 = .ok (.aload_n 0, 1) := by decide +kernel
theorem d32_26 : decode jdk_42_method_66_code 26 = .ok (.getfield 15, 3) := by decide +kernel
theorem d32_29 : decode jdk_42_method_66_code 29 = .ok (.aload_n 2, 1) := by decide +kernel
theorem d32_30 : decode jdk_42_method_66_code 30 = .ok (.getfield 15, 3) := by decide +kernel
theorem d32_33 : decode jdk_42_method_66_code 33 = .ok (.if_icmp .ne 21, 3) := by decide +kernel
theorem d32_36 : decode jdk_42_method_66_code 36 = .ok (.aload_n 0, 1) := by decide +kernel
theorem d32_37 : decode jdk_42_method_66_code 37 = .ok (.getfield 9, 3) := by decide +kernel
theorem d32_40 : decode jdk_42_method_66_code 40 = .ok (.aload_n 2, 1) := by decide +kernel
theorem d32_41 : decode jdk_42_method_66_code 41 = .ok (.getfield 9, 3) := by decide +kernel
theorem d32_44 : decode jdk_42_method_66_code 44 = .ok (.invokestatic 541, 3) := by decide +kernel
theorem d32_47 : decode jdk_42_method_66_code 47 = .ok (.ifCond .eq 7, 3) := by decide +kernel
theorem d32_54 : decode jdk_42_method_66_code 54 = .ok (.iconst 0, 1) := by decide +kernel
theorem d32_55 : decode jdk_42_method_66_code 55 = .ok (.ireturn, 1) := by decide +kernel
theorem ef_32 (m : MethodId) (r1 : Addr) (r2 : Addr)  : entryFrame m #[(.ref r1), (.ref r2)] 3 = mkF m 0 #[.val (.ref r1), .val (.ref r2), .unset] [] := by
  first | (simp [entryFrame, mkF, argsToLocals, Value.category]; done) | rfl
def Q32 (Z : State) (r1 : Addr) (r2 : Addr) (zc : Int32) (ba : Addr) (k_1 : ClassId) (bb : Addr) (k_2 : ClassId) (h0 : Heap) (n0 : Nat) (v : Option Value) (h : Heap) (L : List Loc) : Prop := v = some (.int (0 : Int32)) ∧ Fr n0 L ∧ h = h0
set_option maxRecDepth 65536 in
set_option maxHeartbeats 40000000 in
theorem rm32 (l : Launch) (Z : State) (a0 : Array Value) (hw : ∀ d ∈ tables_1, d.before a0 Z = true) (ws : List Jvm.Cond) (r1 : Addr) (r2 : Addr) (zc : Int32) (ba : Addr) (k_1 : ClassId) (bb : Addr) (k_2 : ClassId) (h0 : Heap) (n0 : Nat) (Z0 : n0 ≤ h0.size) (f0 : Sta Z h0 "java/lang/String" "COMPACT_STRINGS" "Z" (.int zc)) (f1 : Exa Z h0 r1 "java/lang/String") (f2 : Fld Z h0 r1 "java/lang/String" "coder" "B" (.int (0 : Int32))) (f3 : Fld Z h0 r1 "java/lang/String" "value" "[B" (.ref ba)) (f4 : Arv Z h0 ba k_1 .byte (4 : Int32) [(.int (109 : Int32)), (.int (118 : Int32)), (.int (99 : Int32)), (.int (99 : Int32))] (.int 0)) (f5 : Exa Z h0 r2 "java/lang/String") (f6 : Fld Z h0 r2 "java/lang/String" "coder" "B" (.int (0 : Int32))) (f7 : Fld Z h0 r2 "java/lang/String" "value" "[B" (.ref bb)) (f8 : Arv Z h0 bb k_2 .byte (7 : Int32) [(.int (108 : Int32)), (.int (111 : Int32)), (.int (99 : Int32)), (.int (107 : Int32)), (.int (105 : Int32)), (.int (110 : Int32)), (.int (103 : Int32))] (.int 0)) (ne_r1_r2 : r1 ≠ r2) (hz : ¬ zc = (0 : Int32)) :
    MetFree l (⟨"java/lang/String", "equals", "(Ljava/lang/Object;)Z"⟩ : MethodName) (head1 (Jvm.Cond.code (⟨"java/lang/String", "equals", "(Ljava/lang/Object;)Z"⟩ : MethodName) jdk_42_method_66_code 3 (some .boolean) :: ws) ({ frames := 1, cells := 0, slots := 0, locals := 14 } : Room)) (fun a U => a = #[(.ref r1), (.ref r2)] ∧ Z.Warmed39 U.vm ∧ U.heap = h0) (fun _ _ _ _ _ => True) (fun _ U o U' => ∃ v L, o = .returned v ∧ Q32 Z r1 r2 zc ba k_1 bb k_2 h0 n0 v U'.heap L ∧ FrameEnd U o U' L ({ frames := 1, cells := 0, slots := 0, locals := 14 } : Room).cells ({ frames := 1, cells := 0, slots := 0, locals := 14 } : Room).slots) := by
  refine MetFree.of_bodySF (plainFor_of_name pn_1) hisR ?_
  intro p e s m args below meth c s₁ Bd hml0 hP hK
  obtain ⟨rfl, hZ, hh⟩ := hP
  have hx := Bd.exec
  have hby := Bd.bytes
  have hml : c.maxLocals = 3 := hml0
  have hown : s.vm.findClass "java/lang/String" = some m.cls := findClass_of_methodNamed Bd.named
  have hnm := (name_of_methodNamed Bd.named Bd.method).1
  have X0 : Stand p l e ({ frames := 1, cells := 0, slots := 0, locals := 14 } : Room) s m #[(.ref r1), (.ref r2)] below meth c s₁ [] 0 0 := Stand.of_body Bd
  have e0 : s₁.heap = h0 := by rw [← hh, Bd.state]; rfl
  have N0 := Fr.nil n0
  suffices H : ∀ Qo : Outcome → State → Prop, (∀ (v : Option Value) (u : State) (L : List Loc), Q32 Z r1 r2 zc ba k_1 bb k_2 h0 n0 v u.heap L → FrameEnd s (.returned v) u L ({ frames := 1, cells := 0, slots := 0, locals := 14 } : Room).cells ({ frames := 1, cells := 0, slots := 0, locals := 14 } : Room).slots → Qo (.returned v) u) → Go p e below Qo s₁ (mkF m 0 #[.val (.ref r1), .val (.ref r2), .unset] []) from
    Go.cast (ef_32 m r1 r2) (H _ fun v u L h1 h2 => ⟨v, L, rfl, h1, h2⟩)
  intro Qo hQo
  show Go p e below Qo s₁ (mkF m 0 #[.val (.ref r1), .val (.ref r2), .unset] [])
  refine Go.of (fun t k => XS.aloadN X0.here hx rfl (hb hby d32_0) rfl rfl k) ?_
  show Go p e below Qo s₁ (mkF m 1 #[.val (.ref r1), .val (.ref r2), .unset] [(.ref r1)])
  refine Go.of (fun t k => XS.aloadN X0.here hx rfl (hb hby d32_1) rfl rfl k) ?_
  show Go p e below Qo s₁ (mkF m 2 #[.val (.ref r1), .val (.ref r2), .unset] [(.ref r2), (.ref r1)])
  refine Go.of (fun t k => Jvm.RoadKit.acmp (g := (mkF m 2 #[.val (.ref r1), .val (.ref r2), .unset] [(.ref r2), (.ref r1)])) X0 hx rfl rfl rfl (pc0 := 2) (pc' := 7) (same := false) rfl (hb hby d32_2) rfl (decide_eq_false fun q => ne_r1_r2 (Value.ref.inj q)) (by decide) (by decide) k) ?_
  show Go p e below Qo s₁ (mkF m 7 #[.val (.ref r1), .val (.ref r2), .unset] [])
  refine Go.of (fun t k => XS.aloadN X0.here hx rfl (hb hby d32_7) rfl rfl k) ?_
  show Go p e below Qo s₁ (mkF m 8 #[.val (.ref r1), .val (.ref r2), .unset] [(.ref r2)])
  obtain ⟨T1, X1, e1, st1⟩ := instY X0 hx hZ hown (hw _ (List.mem_of_getElem? (i := 23) rfl)) e0 (Ins.self f5) (g := (mkF m 8 #[.val (.ref r1), .val (.ref r2), .unset] [(.ref r2)])) rfl rfl (hb hby d32_8)
  refine Go.of st1 ?_
  show Go p e below Qo T1 (mkF m 11 #[.val (.ref r1), .val (.ref r2), .unset] [(.int (1 : Int32))])
  refine Go.of (fun t k => XS.ifNo X1.here hx rfl (hb hby d32_11) rfl ((if0 _ _).trans (feq (by decide : ¬ ((1 : Int32) = (0 : Int32)))).1) k) ?_
  show Go p e below Qo T1 (mkF m 14 #[.val (.ref r1), .val (.ref r2), .unset] [])
  refine Go.of (fun t k => XS.aloadN X1.here hx rfl (hb hby d32_14) rfl rfl k) ?_
  show Go p e below Qo T1 (mkF m 15 #[.val (.ref r1), .val (.ref r2), .unset] [(.ref r2)])
  obtain ⟨T2, X2, e2, st2⟩ := castY X1 hx hZ hown (hw _ (List.mem_of_getElem? (i := 23) rfl)) e1 (Ins.self f5) (g := (mkF m 15 #[.val (.ref r1), .val (.ref r2), .unset] [(.ref r2)])) rfl rfl (hb hby d32_15)
  refine Go.of st2 ?_
  show Go p e below Qo T2 (mkF m 18 #[.val (.ref r1), .val (.ref r2), .unset] [(.ref r2)])
  refine Go.of (fun t k => XS.astoreN X2.here hx rfl (hb hby d32_18) rfl rfl (l' := #[.val (.ref r1), .val (.ref r2), .val (.ref r2)]) rfl k) ?_
  show Go p e below Qo T2 (mkF m 19 #[.val (.ref r1), .val (.ref r2), .val (.ref r2)] [])
  obtain ⟨T3, X3, e3, st3⟩ := getS X2 hx hZ (host := "") hown (hw _ (List.mem_of_getElem? (i := 25) rfl)) Via.refl e2 f0 (g := (mkF m 19 #[.val (.ref r1), .val (.ref r2), .val (.ref r2)] [])) rfl (hb hby d32_19)
  refine Go.of st3 ?_
  show Go p e below Qo T3 (mkF m 22 #[.val (.ref r1), .val (.ref r2), .val (.ref r2)] [(.int zc)])
  refine Go.of (fun t k => XS.ifNo X3.here hx rfl (hb hby d32_22) rfl ((if0 _ _).trans (feq hz).1) k) ?_
  show Go p e below Qo T3 (mkF m 25 #[.val (.ref r1), .val (.ref r2), .val (.ref r2)] [])
  refine Go.of (fun t k => XS.aloadN X3.here hx rfl (hb hby d32_25) rfl rfl k) ?_
  show Go p e below Qo T3 (mkF m 26 #[.val (.ref r1), .val (.ref r2), .val (.ref r2)] [(.ref r1)])
  obtain ⟨T4, X4, e4, st4⟩ := getF X3 hx hZ hown (host := "") (Or.inl (hw _ (List.mem_of_getElem? (i := 26) rfl))) Via.refl e3 f2 (g := (mkF m 26 #[.val (.ref r1), .val (.ref r2), .val (.ref r2)] [(.ref r1)])) rfl rfl (hb hby d32_26)
  refine Go.of st4 ?_
  show Go p e below Qo T4 (mkF m 29 #[.val (.ref r1), .val (.ref r2), .val (.ref r2)] [(.int (0 : Int32))])
  refine Go.of (fun t k => XS.aloadN X4.here hx rfl (hb hby d32_29) rfl rfl k) ?_
  show Go p e below Qo T4 (mkF m 30 #[.val (.ref r1), .val (.ref r2), .val (.ref r2)] [(.ref r2), (.int (0 : Int32))])
  obtain ⟨T5, X5, e5, st5⟩ := getF X4 hx hZ hown (host := "") (Or.inl (hw _ (List.mem_of_getElem? (i := 26) rfl))) Via.refl e4 f6 (g := (mkF m 30 #[.val (.ref r1), .val (.ref r2), .val (.ref r2)] [(.ref r2), (.int (0 : Int32))])) rfl rfl (hb hby d32_30)
  refine Go.of st5 ?_
  show Go p e below Qo T5 (mkF m 33 #[.val (.ref r1), .val (.ref r2), .val (.ref r2)] [(.int (0 : Int32)), (.int (0 : Int32))])
  refine Go.of (fun t k => XS.icmpNo X5.here hx rfl (hb hby d32_33) rfl (teq (by decide : (0 : Int32) = (0 : Int32))).2 k) ?_
  show Go p e below Qo T5 (mkF m 36 #[.val (.ref r1), .val (.ref r2), .val (.ref r2)] [])
  refine Go.of (fun t k => XS.aloadN X5.here hx rfl (hb hby d32_36) rfl rfl k) ?_
  show Go p e below Qo T5 (mkF m 37 #[.val (.ref r1), .val (.ref r2), .val (.ref r2)] [(.ref r1)])
  obtain ⟨T6, X6, e6, st6⟩ := getF X5 hx hZ hown (host := "") (Or.inl (hw _ (List.mem_of_getElem? (i := 27) rfl))) Via.refl e5 f3 (g := (mkF m 37 #[.val (.ref r1), .val (.ref r2), .val (.ref r2)] [(.ref r1)])) rfl rfl (hb hby d32_37)
  refine Go.of st6 ?_
  show Go p e below Qo T6 (mkF m 40 #[.val (.ref r1), .val (.ref r2), .val (.ref r2)] [(.ref ba)])
  refine Go.of (fun t k => XS.aloadN X6.here hx rfl (hb hby d32_40) rfl rfl k) ?_
  show Go p e below Qo T6 (mkF m 41 #[.val (.ref r1), .val (.ref r2), .val (.ref r2)] [(.ref r2), (.ref ba)])
  obtain ⟨T7, X7, e7, st7⟩ := getF X6 hx hZ hown (host := "") (Or.inl (hw _ (List.mem_of_getElem? (i := 27) rfl))) Via.refl e6 f7 (g := (mkF m 41 #[.val (.ref r1), .val (.ref r2), .val (.ref r2)] [(.ref r2), (.ref ba)])) rfl rfl (hb hby d32_41)
  refine Go.of st7 ?_
  show Go p e below Qo T7 (mkF m 44 #[.val (.ref r1), .val (.ref r2), .val (.ref r2)] [(.ref bb), (.ref ba)])
  obtain ⟨_, _, ⟨T8, L8, k8, n8⟩, -, X8, ⟨Lc8, hQ8, l8, y8, z8⟩, st8⟩ := Jvm.LawKit.callS X7 hx (y := (⟨"java/lang/StringLatin1", "equals", "([B[B)Z"⟩ : MethodName)) hown (mvT hZ (hw _ (List.mem_of_getElem? (i := 28) rfl))) (mvT hZ (hw _ (List.mem_of_getElem? (i := 29) rfl))) (mvT hZ (hw _ (List.mem_of_getElem? (i := 30) rfl))) (mvT hZ (hw _ (List.mem_of_getElem? (i := 31) rfl))) (by decide) (backOf (W := 0) (rm22 l Z a0 hw [] ba bb k_1 k_2 h0 n0 Z0 f4 f8) hZ (hw _ (List.mem_of_getElem? (i := 31) rfl)) (hw _ (List.mem_of_getElem? (i := 30) rfl)) (by decide) (by decide)) (g := (mkF m 44 #[.val (.ref r1), .val (.ref r2), .val (.ref r2)] [(.ref bb), (.ref ba)])) rfl (by rw [hml]; rfl) (argsL := [(.ref ba), (.ref bb)]) (rest := []) (lenOf pd_0 rfl) rfl (by show 2 * 0 + _ ≤ _; exact Nat.le_of_eq rfl) (hb hby d32_44) (fun _ _ => ⟨rfl, e7, (by decide : 0 + 0 ≤ _), (by decide : 0 + 0 ≤ _)⟩)
  dsimp only [Pt.U, Pt.locs, Pt.cells, Pt.slots] at X8 l8 y8 z8 st8 hQ8
  subst l8 y8 z8
  replace X8 := own_cs X8 (c' := 0) (s' := 0) (by decide) (by decide)
  obtain ⟨rfl, N9, eh10⟩ := hQ8
  have N11 := Fr.app N0 N9
  refine Go.of st8 ?_
  obtain ⟨Lx12, Xx12, Nx12⟩ := own_locs X8 N11
  show Go p e below Qo T8 (mkF m 47 #[.val (.ref r1), .val (.ref r2), .val (.ref r2)] [(.int (0 : Int32))])
  refine Go.of (fun t k => XS.ifYes Xx12.here hx rfl (pc0 := 47) (pc' := 54) rfl (hb hby d32_47) rfl ((if0 _ _).trans (teq (by decide : (0 : Int32) = (0 : Int32))).1) (by decide) (by decide) k) ?_
  show Go p e below Qo T8 (mkF m 54 #[.val (.ref r1), .val (.ref r2), .val (.ref r2)] [])
  refine Go.of (fun t k => XS.iconst Xx12.here hx rfl (hb hby d32_54) k) ?_
  show Go p e below Qo T8 (mkF m 55 #[.val (.ref r1), .val (.ref r2), .val (.ref r2)] [(.int (0 : Int32))])
  exact own_retN Xx12 hx Bd.notSynchronized (t := .boolean) Bd.returns (by simp) (hb hby d32_55) (fun u hu hF => hQo _ _ _ ⟨rfl, Nx12, by rw [hu, eh10]⟩ (own_mono hF (by decide) (by decide)))
theorem d33_0 : decode jdk_42_method_66_code 0 = .ok (.aload_n 0, 1) := by decide +kernel
theorem d33_1 : decode jdk_42_method_66_code 1 = .ok (.aload_n 1, 1) := by decide +kernel
theorem d33_2 : decode jdk_42_method_66_code 2 = .ok (.if_acmp .ne 5, 3) := by decide +kernel
theorem d33_7 : decode jdk_42_method_66_code 7 = .ok (.aload_n 1, 1) := by decide +kernel
theorem d33_8 : decode jdk_42_method_66_code 8 = .ok (.instanceof 10, 3) := by decide +kernel
theorem d33_11 : decode jdk_42_method_66_code 11 = .ok (.ifCond .eq 43, 3) := by decide +kernel
theorem d33_14 : decode jdk_42_method_66_code 14 = .ok (.aload_n 1, 1) := by decide +kernel
theorem d33_15 : decode jdk_42_method_66_code 15 = .ok (.checkcast 10, 3) := by decide +kernel
theorem d33_18 : decode jdk_42_method_66_code 18 = .ok (.astore_n 2, 1) := by decide +kernel
theorem d33_19 : decode jdk_42_method_66_code 19 = .ok (.getstatic 38, 3) := by decide +kernel
theorem d33_22 : decode jdk_42_method_66_code 22 = .ok (.ifCond .eq 14, 3) := by decide +kernel
theorem d33_25 : decode jdk_42_method_66_code 25 = .ok (.aload_n 0, 1) := by decide +kernel
theorem d33_26 : decode jdk_42_method_66_code 26 = .ok (.getfield 15, 3) := by decide +kernel
theorem d33_29 : decode jdk_42_method_66_code 29 = .ok (.aload_n 2, 1) := by decide +kernel
theorem d33_30 : decode jdk_42_method_66_code 30 = .ok (.getfield 15, 3) := by decide +kernel
theorem d33_33 : decode jdk_42_method_66_code 33 = .ok (.if_icmp .ne 21, 3) := by decide +kernel
theorem d33_36 : decode jdk_42_method_66_code 36 = .ok (.aload_n 0, 1) := by decide +kernel
theorem d33_37 : decode jdk_42_method_66_code 37 = .ok (.getfield 9, 3) := by decide +kernel
theorem d33_40 : decode jdk_42_method_66_code 40 = .ok (.aload_n 2, 1) := by decide +kernel
theorem d33_41 : decode jdk_42_method_66_code 41 = .ok (.getfield 9, 3) := by decide +kernel
theorem d33_44 : decode jdk_42_method_66_code 44 = .ok (.invokestatic 541, 3) := by decide +kernel
theorem d33_47 : decode jdk_42_method_66_code 47 = .ok (.ifCond .eq 7, 3) := by decide +kernel
theorem d33_54 : decode jdk_42_method_66_code 54 = .ok (.iconst 0, 1) := by decide +kernel
theorem d33_55 : decode jdk_42_method_66_code 55 = .ok (.ireturn, 1) := by decide +kernel
theorem ef_33 (m : MethodId) (r1 : Addr) (r2 : Addr)  : entryFrame m #[(.ref r1), (.ref r2)] 3 = mkF m 0 #[.val (.ref r1), .val (.ref r2), .unset] [] := by
  first | (simp [entryFrame, mkF, argsToLocals, Value.category]; done) | rfl
def Q33 (Z : State) (r1 : Addr) (r2 : Addr) (zc : Int32) (ba : Addr) (k_1 : ClassId) (bb : Addr) (k_2 : ClassId) (h0 : Heap) (n0 : Nat) (v : Option Value) (h : Heap) (L : List Loc) : Prop := v = some (.int (0 : Int32)) ∧ Fr n0 L ∧ h = h0
set_option maxRecDepth 65536 in
set_option maxHeartbeats 40000000 in
theorem rm33 (l : Launch) (Z : State) (a0 : Array Value) (hw : ∀ d ∈ tables_1, d.before a0 Z = true) (ws : List Jvm.Cond) (r1 : Addr) (r2 : Addr) (zc : Int32) (ba : Addr) (k_1 : ClassId) (bb : Addr) (k_2 : ClassId) (h0 : Heap) (n0 : Nat) (Z0 : n0 ≤ h0.size) (f0 : Sta Z h0 "java/lang/String" "COMPACT_STRINGS" "Z" (.int zc)) (f1 : Exa Z h0 r1 "java/lang/String") (f2 : Fld Z h0 r1 "java/lang/String" "coder" "B" (.int (0 : Int32))) (f3 : Fld Z h0 r1 "java/lang/String" "value" "[B" (.ref ba)) (f4 : Arv Z h0 ba k_1 .byte (7 : Int32) [(.int (108 : Int32)), (.int (111 : Int32)), (.int (99 : Int32)), (.int (107 : Int32)), (.int (105 : Int32)), (.int (110 : Int32)), (.int (103 : Int32))] (.int 0)) (f5 : Exa Z h0 r2 "java/lang/String") (f6 : Fld Z h0 r2 "java/lang/String" "coder" "B" (.int (0 : Int32))) (f7 : Fld Z h0 r2 "java/lang/String" "value" "[B" (.ref bb)) (f8 : Arv Z h0 bb k_2 .byte (4 : Int32) [(.int (109 : Int32)), (.int (118 : Int32)), (.int (99 : Int32)), (.int (99 : Int32))] (.int 0)) (ne_r1_r2 : r1 ≠ r2) (hz : ¬ zc = (0 : Int32)) :
    MetFree l (⟨"java/lang/String", "equals", "(Ljava/lang/Object;)Z"⟩ : MethodName) (head1 (Jvm.Cond.code (⟨"java/lang/String", "equals", "(Ljava/lang/Object;)Z"⟩ : MethodName) jdk_42_method_66_code 3 (some .boolean) :: ws) ({ frames := 1, cells := 0, slots := 0, locals := 14 } : Room)) (fun a U => a = #[(.ref r1), (.ref r2)] ∧ Z.Warmed39 U.vm ∧ U.heap = h0) (fun _ _ _ _ _ => True) (fun _ U o U' => ∃ v L, o = .returned v ∧ Q33 Z r1 r2 zc ba k_1 bb k_2 h0 n0 v U'.heap L ∧ FrameEnd U o U' L ({ frames := 1, cells := 0, slots := 0, locals := 14 } : Room).cells ({ frames := 1, cells := 0, slots := 0, locals := 14 } : Room).slots) := by
  refine MetFree.of_bodySF (plainFor_of_name pn_1) hisR ?_
  intro p e s m args below meth c s₁ Bd hml0 hP hK
  obtain ⟨rfl, hZ, hh⟩ := hP
  have hx := Bd.exec
  have hby := Bd.bytes
  have hml : c.maxLocals = 3 := hml0
  have hown : s.vm.findClass "java/lang/String" = some m.cls := findClass_of_methodNamed Bd.named
  have hnm := (name_of_methodNamed Bd.named Bd.method).1
  have X0 : Stand p l e ({ frames := 1, cells := 0, slots := 0, locals := 14 } : Room) s m #[(.ref r1), (.ref r2)] below meth c s₁ [] 0 0 := Stand.of_body Bd
  have e0 : s₁.heap = h0 := by rw [← hh, Bd.state]; rfl
  have N0 := Fr.nil n0
  suffices H : ∀ Qo : Outcome → State → Prop, (∀ (v : Option Value) (u : State) (L : List Loc), Q33 Z r1 r2 zc ba k_1 bb k_2 h0 n0 v u.heap L → FrameEnd s (.returned v) u L ({ frames := 1, cells := 0, slots := 0, locals := 14 } : Room).cells ({ frames := 1, cells := 0, slots := 0, locals := 14 } : Room).slots → Qo (.returned v) u) → Go p e below Qo s₁ (mkF m 0 #[.val (.ref r1), .val (.ref r2), .unset] []) from
    Go.cast (ef_33 m r1 r2) (H _ fun v u L h1 h2 => ⟨v, L, rfl, h1, h2⟩)
  intro Qo hQo
  show Go p e below Qo s₁ (mkF m 0 #[.val (.ref r1), .val (.ref r2), .unset] [])
  refine Go.of (fun t k => XS.aloadN X0.here hx rfl (hb hby d33_0) rfl rfl k) ?_
  show Go p e below Qo s₁ (mkF m 1 #[.val (.ref r1), .val (.ref r2), .unset] [(.ref r1)])
  refine Go.of (fun t k => XS.aloadN X0.here hx rfl (hb hby d33_1) rfl rfl k) ?_
  show Go p e below Qo s₁ (mkF m 2 #[.val (.ref r1), .val (.ref r2), .unset] [(.ref r2), (.ref r1)])
  refine Go.of (fun t k => Jvm.RoadKit.acmp (g := (mkF m 2 #[.val (.ref r1), .val (.ref r2), .unset] [(.ref r2), (.ref r1)])) X0 hx rfl rfl rfl (pc0 := 2) (pc' := 7) (same := false) rfl (hb hby d33_2) rfl (decide_eq_false fun q => ne_r1_r2 (Value.ref.inj q)) (by decide) (by decide) k) ?_
  show Go p e below Qo s₁ (mkF m 7 #[.val (.ref r1), .val (.ref r2), .unset] [])
  refine Go.of (fun t k => XS.aloadN X0.here hx rfl (hb hby d33_7) rfl rfl k) ?_
  show Go p e below Qo s₁ (mkF m 8 #[.val (.ref r1), .val (.ref r2), .unset] [(.ref r2)])
  obtain ⟨T1, X1, e1, st1⟩ := instY X0 hx hZ hown (hw _ (List.mem_of_getElem? (i := 23) rfl)) e0 (Ins.self f5) (g := (mkF m 8 #[.val (.ref r1), .val (.ref r2), .unset] [(.ref r2)])) rfl rfl (hb hby d33_8)
  refine Go.of st1 ?_
  show Go p e below Qo T1 (mkF m 11 #[.val (.ref r1), .val (.ref r2), .unset] [(.int (1 : Int32))])
  refine Go.of (fun t k => XS.ifNo X1.here hx rfl (hb hby d33_11) rfl ((if0 _ _).trans (feq (by decide : ¬ ((1 : Int32) = (0 : Int32)))).1) k) ?_
  show Go p e below Qo T1 (mkF m 14 #[.val (.ref r1), .val (.ref r2), .unset] [])
  refine Go.of (fun t k => XS.aloadN X1.here hx rfl (hb hby d33_14) rfl rfl k) ?_
  show Go p e below Qo T1 (mkF m 15 #[.val (.ref r1), .val (.ref r2), .unset] [(.ref r2)])
  obtain ⟨T2, X2, e2, st2⟩ := castY X1 hx hZ hown (hw _ (List.mem_of_getElem? (i := 23) rfl)) e1 (Ins.self f5) (g := (mkF m 15 #[.val (.ref r1), .val (.ref r2), .unset] [(.ref r2)])) rfl rfl (hb hby d33_15)
  refine Go.of st2 ?_
  show Go p e below Qo T2 (mkF m 18 #[.val (.ref r1), .val (.ref r2), .unset] [(.ref r2)])
  refine Go.of (fun t k => XS.astoreN X2.here hx rfl (hb hby d33_18) rfl rfl (l' := #[.val (.ref r1), .val (.ref r2), .val (.ref r2)]) rfl k) ?_
  show Go p e below Qo T2 (mkF m 19 #[.val (.ref r1), .val (.ref r2), .val (.ref r2)] [])
  obtain ⟨T3, X3, e3, st3⟩ := getS X2 hx hZ (host := "") hown (hw _ (List.mem_of_getElem? (i := 25) rfl)) Via.refl e2 f0 (g := (mkF m 19 #[.val (.ref r1), .val (.ref r2), .val (.ref r2)] [])) rfl (hb hby d33_19)
  refine Go.of st3 ?_
  show Go p e below Qo T3 (mkF m 22 #[.val (.ref r1), .val (.ref r2), .val (.ref r2)] [(.int zc)])
  refine Go.of (fun t k => XS.ifNo X3.here hx rfl (hb hby d33_22) rfl ((if0 _ _).trans (feq hz).1) k) ?_
  show Go p e below Qo T3 (mkF m 25 #[.val (.ref r1), .val (.ref r2), .val (.ref r2)] [])
  refine Go.of (fun t k => XS.aloadN X3.here hx rfl (hb hby d33_25) rfl rfl k) ?_
  show Go p e below Qo T3 (mkF m 26 #[.val (.ref r1), .val (.ref r2), .val (.ref r2)] [(.ref r1)])
  obtain ⟨T4, X4, e4, st4⟩ := getF X3 hx hZ hown (host := "") (Or.inl (hw _ (List.mem_of_getElem? (i := 26) rfl))) Via.refl e3 f2 (g := (mkF m 26 #[.val (.ref r1), .val (.ref r2), .val (.ref r2)] [(.ref r1)])) rfl rfl (hb hby d33_26)
  refine Go.of st4 ?_
  show Go p e below Qo T4 (mkF m 29 #[.val (.ref r1), .val (.ref r2), .val (.ref r2)] [(.int (0 : Int32))])
  refine Go.of (fun t k => XS.aloadN X4.here hx rfl (hb hby d33_29) rfl rfl k) ?_
  show Go p e below Qo T4 (mkF m 30 #[.val (.ref r1), .val (.ref r2), .val (.ref r2)] [(.ref r2), (.int (0 : Int32))])
  obtain ⟨T5, X5, e5, st5⟩ := getF X4 hx hZ hown (host := "") (Or.inl (hw _ (List.mem_of_getElem? (i := 26) rfl))) Via.refl e4 f6 (g := (mkF m 30 #[.val (.ref r1), .val (.ref r2), .val (.ref r2)] [(.ref r2), (.int (0 : Int32))])) rfl rfl (hb hby d33_30)
  refine Go.of st5 ?_
  show Go p e below Qo T5 (mkF m 33 #[.val (.ref r1), .val (.ref r2), .val (.ref r2)] [(.int (0 : Int32)), (.int (0 : Int32))])
  refine Go.of (fun t k => XS.icmpNo X5.here hx rfl (hb hby d33_33) rfl (teq (by decide : (0 : Int32) = (0 : Int32))).2 k) ?_
  show Go p e below Qo T5 (mkF m 36 #[.val (.ref r1), .val (.ref r2), .val (.ref r2)] [])
  refine Go.of (fun t k => XS.aloadN X5.here hx rfl (hb hby d33_36) rfl rfl k) ?_
  show Go p e below Qo T5 (mkF m 37 #[.val (.ref r1), .val (.ref r2), .val (.ref r2)] [(.ref r1)])
  obtain ⟨T6, X6, e6, st6⟩ := getF X5 hx hZ hown (host := "") (Or.inl (hw _ (List.mem_of_getElem? (i := 27) rfl))) Via.refl e5 f3 (g := (mkF m 37 #[.val (.ref r1), .val (.ref r2), .val (.ref r2)] [(.ref r1)])) rfl rfl (hb hby d33_37)
  refine Go.of st6 ?_
  show Go p e below Qo T6 (mkF m 40 #[.val (.ref r1), .val (.ref r2), .val (.ref r2)] [(.ref ba)])
  refine Go.of (fun t k => XS.aloadN X6.here hx rfl (hb hby d33_40) rfl rfl k) ?_
  show Go p e below Qo T6 (mkF m 41 #[.val (.ref r1), .val (.ref r2), .val (.ref r2)] [(.ref r2), (.ref ba)])
  obtain ⟨T7, X7, e7, st7⟩ := getF X6 hx hZ hown (host := "") (Or.inl (hw _ (List.mem_of_getElem? (i := 27) rfl))) Via.refl e6 f7 (g := (mkF m 41 #[.val (.ref r1), .val (.ref r2), .val (.ref r2)] [(.ref r2), (.ref ba)])) rfl rfl (hb hby d33_41)
  refine Go.of st7 ?_
  show Go p e below Qo T7 (mkF m 44 #[.val (.ref r1), .val (.ref r2), .val (.ref r2)] [(.ref bb), (.ref ba)])
  obtain ⟨_, _, ⟨T8, L8, k8, n8⟩, -, X8, ⟨Lc8, hQ8, l8, y8, z8⟩, st8⟩ := Jvm.LawKit.callS X7 hx (y := (⟨"java/lang/StringLatin1", "equals", "([B[B)Z"⟩ : MethodName)) hown (mvT hZ (hw _ (List.mem_of_getElem? (i := 28) rfl))) (mvT hZ (hw _ (List.mem_of_getElem? (i := 29) rfl))) (mvT hZ (hw _ (List.mem_of_getElem? (i := 30) rfl))) (mvT hZ (hw _ (List.mem_of_getElem? (i := 31) rfl))) (by decide) (backOf (W := 0) (rm23 l Z a0 hw [] ba bb k_1 k_2 h0 n0 Z0 f4 f8) hZ (hw _ (List.mem_of_getElem? (i := 31) rfl)) (hw _ (List.mem_of_getElem? (i := 30) rfl)) (by decide) (by decide)) (g := (mkF m 44 #[.val (.ref r1), .val (.ref r2), .val (.ref r2)] [(.ref bb), (.ref ba)])) rfl (by rw [hml]; rfl) (argsL := [(.ref ba), (.ref bb)]) (rest := []) (lenOf pd_0 rfl) rfl (by show 2 * 0 + _ ≤ _; exact Nat.le_of_eq rfl) (hb hby d33_44) (fun _ _ => ⟨rfl, e7, (by decide : 0 + 0 ≤ _), (by decide : 0 + 0 ≤ _)⟩)
  dsimp only [Pt.U, Pt.locs, Pt.cells, Pt.slots] at X8 l8 y8 z8 st8 hQ8
  subst l8 y8 z8
  replace X8 := own_cs X8 (c' := 0) (s' := 0) (by decide) (by decide)
  obtain ⟨rfl, N9, eh10⟩ := hQ8
  have N11 := Fr.app N0 N9
  refine Go.of st8 ?_
  obtain ⟨Lx12, Xx12, Nx12⟩ := own_locs X8 N11
  show Go p e below Qo T8 (mkF m 47 #[.val (.ref r1), .val (.ref r2), .val (.ref r2)] [(.int (0 : Int32))])
  refine Go.of (fun t k => XS.ifYes Xx12.here hx rfl (pc0 := 47) (pc' := 54) rfl (hb hby d33_47) rfl ((if0 _ _).trans (teq (by decide : (0 : Int32) = (0 : Int32))).1) (by decide) (by decide) k) ?_
  show Go p e below Qo T8 (mkF m 54 #[.val (.ref r1), .val (.ref r2), .val (.ref r2)] [])
  refine Go.of (fun t k => XS.iconst Xx12.here hx rfl (hb hby d33_54) k) ?_
  show Go p e below Qo T8 (mkF m 55 #[.val (.ref r1), .val (.ref r2), .val (.ref r2)] [(.int (0 : Int32))])
  exact own_retN Xx12 hx Bd.notSynchronized (t := .boolean) Bd.returns (by simp) (hb hby d33_55) (fun u hu hF => hQo _ _ _ ⟨rfl, Nx12, by rw [hu, eh10]⟩ (own_mono hF (by decide) (by decide)))
theorem d41_0 : decode prog_31_method_4_code 0 = .ok (.aload_n 0, 1) := by decide +kernel
theorem d41_1 : decode prog_31_method_4_code 1 = .ok (.getfield 29, 3) := by decide +kernel
theorem d41_4 : decode prog_31_method_4_code 4 = .ok (.areturn, 1) := by decide +kernel
theorem pn_2 : plainName "com/example/interleave/interleave/Protocol" = true := by first | (simp [plainName, overriddenIn]; done) | decide +kernel
theorem ef_41 (m : MethodId) (r1 : Addr)  : entryFrame m #[(.ref r1)] 1 = mkF m 0 #[.val (.ref r1)] [] := by
  first | (simp [entryFrame, mkF, argsToLocals, Value.category]; done) | rfl
def Q41 (Z : State) (r1 : Addr) (rl : Addr) (h0 : Heap) (n0 : Nat) (v : Option Value) (h : Heap) (L : List Loc) : Prop := v = some (.ref rl) ∧ Fr n0 L ∧ h = h0
set_option maxRecDepth 65536 in
set_option maxHeartbeats 40000000 in
theorem rm41 (l : Launch) (Z : State) (a0 : Array Value) (hw : ∀ d ∈ tables_1, d.before a0 Z = true) (ws : List Jvm.Cond) (r1 : Addr) (rl : Addr) (h0 : Heap) (n0 : Nat) (Z0 : n0 ≤ h0.size) (f0 : Fld Z h0 r1 "com/example/interleave/interleave/Protocol" "label" "Ljava/lang/String;" (.ref rl)) :
    MetFree l (⟨"com/example/interleave/interleave/Protocol", "label", "()Ljava/lang/String;"⟩ : MethodName) (head1 (Jvm.Cond.code (⟨"com/example/interleave/interleave/Protocol", "label", "()Ljava/lang/String;"⟩ : MethodName) prog_31_method_4_code 1 (some (.object "java/lang/String")) :: ws) ({ frames := 0, cells := 0, slots := 0, locals := 0 } : Room)) (fun a U => a = #[(.ref r1)] ∧ Z.Warmed39 U.vm ∧ U.heap = h0) (fun _ _ _ _ _ => True) (fun _ U o U' => ∃ v L, o = .returned v ∧ Q41 Z r1 rl h0 n0 v U'.heap L ∧ FrameEnd U o U' L ({ frames := 0, cells := 0, slots := 0, locals := 0 } : Room).cells ({ frames := 0, cells := 0, slots := 0, locals := 0 } : Room).slots) := by
  refine MetFree.of_bodySF (plainFor_of_name pn_2) hisR ?_
  intro p e s m args below meth c s₁ Bd hml0 hP hK
  obtain ⟨rfl, hZ, hh⟩ := hP
  have hx := Bd.exec
  have hby := Bd.bytes
  have hml : c.maxLocals = 1 := hml0
  have hown : s.vm.findClass "com/example/interleave/interleave/Protocol" = some m.cls := findClass_of_methodNamed Bd.named
  have hnm := (name_of_methodNamed Bd.named Bd.method).1
  have X0 : Stand p l e ({ frames := 0, cells := 0, slots := 0, locals := 0 } : Room) s m #[(.ref r1)] below meth c s₁ [] 0 0 := Stand.of_body Bd
  have e0 : s₁.heap = h0 := by rw [← hh, Bd.state]; rfl
  have N0 := Fr.nil n0
  suffices H : ∀ Qo : Outcome → State → Prop, (∀ (v : Option Value) (u : State) (L : List Loc), Q41 Z r1 rl h0 n0 v u.heap L → FrameEnd s (.returned v) u L ({ frames := 0, cells := 0, slots := 0, locals := 0 } : Room).cells ({ frames := 0, cells := 0, slots := 0, locals := 0 } : Room).slots → Qo (.returned v) u) → Go p e below Qo s₁ (mkF m 0 #[.val (.ref r1)] []) from
    Go.cast (ef_41 m r1) (H _ fun v u L h1 h2 => ⟨v, L, rfl, h1, h2⟩)
  intro Qo hQo
  show Go p e below Qo s₁ (mkF m 0 #[.val (.ref r1)] [])
  refine Go.of (fun t k => XS.aloadN X0.here hx rfl (hb hby d41_0) rfl rfl k) ?_
  show Go p e below Qo s₁ (mkF m 1 #[.val (.ref r1)] [(.ref r1)])
  obtain ⟨T1, X1, e1, st1⟩ := getF X0 hx hZ hown (host := "") (Or.inl (hw _ (List.mem_of_getElem? (i := 8) rfl))) Via.refl e0 f0 (g := (mkF m 1 #[.val (.ref r1)] [(.ref r1)])) rfl rfl (hb hby d41_1)
  refine Go.of st1 ?_
  show Go p e below Qo T1 (mkF m 4 #[.val (.ref r1)] [(.ref rl)])
  exact own_retW X1 hx Bd.notSynchronized Bd.returns rfl (Or.inr (Or.inr (Or.inr (Or.inr ⟨rfl, rfl, rfl⟩)))) (hb hby d41_4) (fun u hu hF => hQo _ _ _ ⟨rfl, N0, by rw [hu, e1]⟩ (own_mono hF (by decide) (by decide)))
theorem d42_0 : decode prog_31_method_7_code 0 = .ok (.aload_n 0, 1) := by decide +kernel
theorem d42_1 : decode prog_31_method_7_code 1 = .ok (.getstatic 3, 3) := by decide +kernel
theorem d42_4 : decode prog_31_method_7_code 4 = .ok (.if_acmp .ne 7, 3) := by decide +kernel
theorem d42_7 : decode prog_31_method_7_code 7 = .ok (.iconst 1, 1) := by decide +kernel
theorem d42_8 : decode prog_31_method_7_code 8 = .ok (.goto 4, 3) := by decide +kernel
theorem d42_12 : decode prog_31_method_7_code 12 = .ok (.ireturn, 1) := by decide +kernel
theorem ef_42 (m : MethodId) (r1 : Addr)  : entryFrame m #[(.ref r1)] 1 = mkF m 0 #[.val (.ref r1)] [] := by
  first | (simp [entryFrame, mkF, argsToLocals, Value.category]; done) | rfl
def Q42 (Z : State) (r1 : Addr) (h0 : Heap) (n0 : Nat) (v : Option Value) (h : Heap) (L : List Loc) : Prop := v = some (.int (1 : Int32)) ∧ Fr n0 L ∧ h = h0
set_option maxRecDepth 65536 in
set_option maxHeartbeats 40000000 in
theorem rm42 (l : Launch) (Z : State) (a0 : Array Value) (hw : ∀ d ∈ tables_1, d.before a0 Z = true) (ws : List Jvm.Cond) (r1 : Addr) (h0 : Heap) (n0 : Nat) (Z0 : n0 ≤ h0.size) (f0 : Sta Z h0 "com/example/interleave/interleave/Protocol" "MVCC" "Lcom/example/interleave/interleave/Protocol;" (.ref r1)) :
    MetFree l (⟨"com/example/interleave/interleave/Protocol", "checksCommitsForCycles", "()Z"⟩ : MethodName) (head1 (Jvm.Cond.code (⟨"com/example/interleave/interleave/Protocol", "checksCommitsForCycles", "()Z"⟩ : MethodName) prog_31_method_7_code 1 (some .boolean) :: ws) ({ frames := 0, cells := 0, slots := 0, locals := 0 } : Room)) (fun a U => a = #[(.ref r1)] ∧ Z.Warmed39 U.vm ∧ U.heap = h0) (fun _ _ _ _ _ => True) (fun _ U o U' => ∃ v L, o = .returned v ∧ Q42 Z r1 h0 n0 v U'.heap L ∧ FrameEnd U o U' L ({ frames := 0, cells := 0, slots := 0, locals := 0 } : Room).cells ({ frames := 0, cells := 0, slots := 0, locals := 0 } : Room).slots) := by
  refine MetFree.of_bodySF (plainFor_of_name pn_2) hisR ?_
  intro p e s m args below meth c s₁ Bd hml0 hP hK
  obtain ⟨rfl, hZ, hh⟩ := hP
  have hx := Bd.exec
  have hby := Bd.bytes
  have hml : c.maxLocals = 1 := hml0
  have hown : s.vm.findClass "com/example/interleave/interleave/Protocol" = some m.cls := findClass_of_methodNamed Bd.named
  have hnm := (name_of_methodNamed Bd.named Bd.method).1
  have X0 : Stand p l e ({ frames := 0, cells := 0, slots := 0, locals := 0 } : Room) s m #[(.ref r1)] below meth c s₁ [] 0 0 := Stand.of_body Bd
  have e0 : s₁.heap = h0 := by rw [← hh, Bd.state]; rfl
  have N0 := Fr.nil n0
  suffices H : ∀ Qo : Outcome → State → Prop, (∀ (v : Option Value) (u : State) (L : List Loc), Q42 Z r1 h0 n0 v u.heap L → FrameEnd s (.returned v) u L ({ frames := 0, cells := 0, slots := 0, locals := 0 } : Room).cells ({ frames := 0, cells := 0, slots := 0, locals := 0 } : Room).slots → Qo (.returned v) u) → Go p e below Qo s₁ (mkF m 0 #[.val (.ref r1)] []) from
    Go.cast (ef_42 m r1) (H _ fun v u L h1 h2 => ⟨v, L, rfl, h1, h2⟩)
  intro Qo hQo
  show Go p e below Qo s₁ (mkF m 0 #[.val (.ref r1)] [])
  refine Go.of (fun t k => XS.aloadN X0.here hx rfl (hb hby d42_0) rfl rfl k) ?_
  show Go p e below Qo s₁ (mkF m 1 #[.val (.ref r1)] [(.ref r1)])
  obtain ⟨T1, X1, e1, st1⟩ := getS X0 hx hZ (host := "") hown (hw _ (List.mem_of_getElem? (i := 38) rfl)) Via.refl e0 f0 (g := (mkF m 1 #[.val (.ref r1)] [(.ref r1)])) rfl (hb hby d42_1)
  refine Go.of st1 ?_
  show Go p e below Qo T1 (mkF m 4 #[.val (.ref r1)] [(.ref r1), (.ref r1)])
  refine Go.of (fun t k => Jvm.RoadKit.acmp (g := (mkF m 4 #[.val (.ref r1)] [(.ref r1), (.ref r1)])) X1 hx rfl rfl rfl (pc0 := 4) (pc' := 7) (same := true) rfl (hb hby d42_4) rfl (decide_eq_true rfl) (by decide) (by decide) k) ?_
  show Go p e below Qo T1 (mkF m 7 #[.val (.ref r1)] [])
  refine Go.of (fun t k => XS.iconst X1.here hx rfl (hb hby d42_7) k) ?_
  show Go p e below Qo T1 (mkF m 8 #[.val (.ref r1)] [(.int (1 : Int32))])
  refine Go.of (fun t k => XS.goto X1.here hx rfl (pc0 := 8) (pc' := 12) rfl (hb hby d42_8) (by decide) (by decide) k) ?_
  show Go p e below Qo T1 (mkF m 12 #[.val (.ref r1)] [(.int (1 : Int32))])
  exact own_retN X1 hx Bd.notSynchronized (t := .boolean) Bd.returns (by simp) (hb hby d42_12) (fun u hu hF => hQo _ _ _ ⟨rfl, N0, by rw [hu, e1]⟩ (own_mono hF (by decide) (by decide)))
theorem d43_0 : decode prog_31_method_7_code 0 = .ok (.aload_n 0, 1) := by decide +kernel
theorem d43_1 : decode prog_31_method_7_code 1 = .ok (.getstatic 3, 3) := by decide +kernel
theorem d43_4 : decode prog_31_method_7_code 4 = .ok (.if_acmp .ne 7, 3) := by decide +kernel
theorem d43_11 : decode prog_31_method_7_code 11 = .ok (.iconst 0, 1) := by decide +kernel
theorem d43_12 : decode prog_31_method_7_code 12 = .ok (.ireturn, 1) := by decide +kernel
theorem ef_43 (m : MethodId) (r1 : Addr)  : entryFrame m #[(.ref r1)] 1 = mkF m 0 #[.val (.ref r1)] [] := by
  first | (simp [entryFrame, mkF, argsToLocals, Value.category]; done) | rfl
def Q43 (Z : State) (r1 : Addr) (rz : Addr) (h0 : Heap) (n0 : Nat) (v : Option Value) (h : Heap) (L : List Loc) : Prop := v = some (.int (0 : Int32)) ∧ Fr n0 L ∧ h = h0
set_option maxRecDepth 65536 in
set_option maxHeartbeats 40000000 in
theorem rm43 (l : Launch) (Z : State) (a0 : Array Value) (hw : ∀ d ∈ tables_1, d.before a0 Z = true) (ws : List Jvm.Cond) (r1 : Addr) (rz : Addr) (h0 : Heap) (n0 : Nat) (Z0 : n0 ≤ h0.size) (f0 : Sta Z h0 "com/example/interleave/interleave/Protocol" "MVCC" "Lcom/example/interleave/interleave/Protocol;" (.ref rz)) (ne_r1_rz : r1 ≠ rz) :
    MetFree l (⟨"com/example/interleave/interleave/Protocol", "checksCommitsForCycles", "()Z"⟩ : MethodName) (head1 (Jvm.Cond.code (⟨"com/example/interleave/interleave/Protocol", "checksCommitsForCycles", "()Z"⟩ : MethodName) prog_31_method_7_code 1 (some .boolean) :: ws) ({ frames := 0, cells := 0, slots := 0, locals := 0 } : Room)) (fun a U => a = #[(.ref r1)] ∧ Z.Warmed39 U.vm ∧ U.heap = h0) (fun _ _ _ _ _ => True) (fun _ U o U' => ∃ v L, o = .returned v ∧ Q43 Z r1 rz h0 n0 v U'.heap L ∧ FrameEnd U o U' L ({ frames := 0, cells := 0, slots := 0, locals := 0 } : Room).cells ({ frames := 0, cells := 0, slots := 0, locals := 0 } : Room).slots) := by
  refine MetFree.of_bodySF (plainFor_of_name pn_2) hisR ?_
  intro p e s m args below meth c s₁ Bd hml0 hP hK
  obtain ⟨rfl, hZ, hh⟩ := hP
  have hx := Bd.exec
  have hby := Bd.bytes
  have hml : c.maxLocals = 1 := hml0
  have hown : s.vm.findClass "com/example/interleave/interleave/Protocol" = some m.cls := findClass_of_methodNamed Bd.named
  have hnm := (name_of_methodNamed Bd.named Bd.method).1
  have X0 : Stand p l e ({ frames := 0, cells := 0, slots := 0, locals := 0 } : Room) s m #[(.ref r1)] below meth c s₁ [] 0 0 := Stand.of_body Bd
  have e0 : s₁.heap = h0 := by rw [← hh, Bd.state]; rfl
  have N0 := Fr.nil n0
  suffices H : ∀ Qo : Outcome → State → Prop, (∀ (v : Option Value) (u : State) (L : List Loc), Q43 Z r1 rz h0 n0 v u.heap L → FrameEnd s (.returned v) u L ({ frames := 0, cells := 0, slots := 0, locals := 0 } : Room).cells ({ frames := 0, cells := 0, slots := 0, locals := 0 } : Room).slots → Qo (.returned v) u) → Go p e below Qo s₁ (mkF m 0 #[.val (.ref r1)] []) from
    Go.cast (ef_43 m r1) (H _ fun v u L h1 h2 => ⟨v, L, rfl, h1, h2⟩)
  intro Qo hQo
  show Go p e below Qo s₁ (mkF m 0 #[.val (.ref r1)] [])
  refine Go.of (fun t k => XS.aloadN X0.here hx rfl (hb hby d43_0) rfl rfl k) ?_
  show Go p e below Qo s₁ (mkF m 1 #[.val (.ref r1)] [(.ref r1)])
  obtain ⟨T1, X1, e1, st1⟩ := getS X0 hx hZ (host := "") hown (hw _ (List.mem_of_getElem? (i := 38) rfl)) Via.refl e0 f0 (g := (mkF m 1 #[.val (.ref r1)] [(.ref r1)])) rfl (hb hby d43_1)
  refine Go.of st1 ?_
  show Go p e below Qo T1 (mkF m 4 #[.val (.ref r1)] [(.ref rz), (.ref r1)])
  refine Go.of (fun t k => Jvm.RoadKit.acmp (g := (mkF m 4 #[.val (.ref r1)] [(.ref rz), (.ref r1)])) X1 hx rfl rfl rfl (pc0 := 4) (pc' := 11) (same := false) rfl (hb hby d43_4) rfl (decide_eq_false fun q => ne_r1_rz (Value.ref.inj q)) (by decide) (by decide) k) ?_
  show Go p e below Qo T1 (mkF m 11 #[.val (.ref r1)] [])
  refine Go.of (fun t k => XS.iconst X1.here hx rfl (hb hby d43_11) k) ?_
  show Go p e below Qo T1 (mkF m 12 #[.val (.ref r1)] [(.int (0 : Int32))])
  exact own_retN X1 hx Bd.notSynchronized (t := .boolean) Bd.returns (by simp) (hb hby d43_12) (fun u hu hF => hQo _ _ _ ⟨rfl, N0, by rw [hu, e1]⟩ (own_mono hF (by decide) (by decide)))
theorem pd_1 : parseMethodDescriptor "()Ljava/lang/String;" = some ⟨[], some (.object "java/lang/String")⟩ := by decide +kernel
theorem pd_2 : parseMethodDescriptor "(Ljava/lang/Object;)Z" = some ⟨[(.object "java/lang/Object")], some .boolean⟩ := by decide +kernel
theorem pd_3 : parseMethodDescriptor "()Z" = some ⟨[], some .boolean⟩ := by decide +kernel
theorem pn_3 : plainName "com/example/interleave/interleave/ProtocolChecksCommitsForCyclesPinLaw" = true := by first | (simp [plainName, overriddenIn]; done) | decide +kernel
theorem ef_0 (m : MethodId) (i1 : Int32)  : entryFrame m #[(.int i1)] maxLocals = mkF m 0 #[.val (.int i1), .unset, .unset, .unset, .unset, .unset] [] := by
  first | (simp [entryFrame, mkF, argsToLocals, Value.category, maxLocals]; done) | rfl
def Q0 (Z : State) (i1 : Int32) (z_MVCC : Addr) (l_MVCC : Addr) (b_MVCC : Addr) (k_MVCC : ClassId) (z_LOCKING : Addr) (l_LOCKING : Addr) (b_LOCKING : Addr) (k_LOCKING : ClassId) (zc : Int32) (h0 : Heap) (n0 : Nat) (v : Option Value) (h : Heap) (L : List Loc) : Prop := v = some (.int 1) ∧ Fr n0 L
set_option maxRecDepth 65536 in
set_option maxHeartbeats 40000000 in
theorem rm0 (l : Launch) (Z : State) (a0 : Array Value) (hw : ∀ d ∈ tables_1, d.before a0 Z = true) (ws : List Jvm.Cond) (i1 : Int32) (z_MVCC : Addr) (l_MVCC : Addr) (b_MVCC : Addr) (k_MVCC : ClassId) (z_LOCKING : Addr) (l_LOCKING : Addr) (b_LOCKING : Addr) (k_LOCKING : ClassId) (zc : Int32) (h0 : Heap) (n0 : Nat) (Z0 : n0 ≤ h0.size) (f0 : Sta Z h0 "com/example/interleave/interleave/Protocol" "MVCC" "Lcom/example/interleave/interleave/Protocol;" (.ref z_MVCC)) (f1 : Exa Z h0 z_MVCC "com/example/interleave/interleave/Protocol") (f2 : Exa Z h0 l_MVCC "java/lang/String") (f3 : Fld Z h0 z_MVCC "com/example/interleave/interleave/Protocol" "label" "Ljava/lang/String;" (.ref l_MVCC)) (f4 : Fld Z h0 l_MVCC "java/lang/String" "coder" "B" (.int (0 : Int32))) (f5 : Fld Z h0 l_MVCC "java/lang/String" "value" "[B" (.ref b_MVCC)) (f6 : Arv Z h0 b_MVCC k_MVCC .byte (4 : Int32) [(.int (109 : Int32)), (.int (118 : Int32)), (.int (99 : Int32)), (.int (99 : Int32))] (.int 0)) (f7 : Sta Z h0 "com/example/interleave/interleave/Protocol" "LOCKING" "Lcom/example/interleave/interleave/Protocol;" (.ref z_LOCKING)) (f8 : Exa Z h0 z_LOCKING "com/example/interleave/interleave/Protocol") (f9 : Exa Z h0 l_LOCKING "java/lang/String") (f10 : Fld Z h0 z_LOCKING "com/example/interleave/interleave/Protocol" "label" "Ljava/lang/String;" (.ref l_LOCKING)) (f11 : Fld Z h0 l_LOCKING "java/lang/String" "coder" "B" (.int (0 : Int32))) (f12 : Fld Z h0 l_LOCKING "java/lang/String" "value" "[B" (.ref b_LOCKING)) (f13 : Arv Z h0 b_LOCKING k_LOCKING .byte (7 : Int32) [(.int (108 : Int32)), (.int (111 : Int32)), (.int (99 : Int32)), (.int (107 : Int32)), (.int (105 : Int32)), (.int (110 : Int32)), (.int (103 : Int32))] (.int 0)) (f14 : Sta Z h0 "java/lang/String" "COMPACT_STRINGS" "Z" (.int zc)) (ne_z_MVCC_z_LOCKING : z_MVCC ≠ z_LOCKING) (hz : ¬ zc = (0 : Int32)) (hn0 : n0 = h0.size) (hd20 : Jvm.Lit.constHeld Z "com/example/interleave/interleave/ProtocolChecksCommitsForCyclesPinLaw" 20) (hd28 : Jvm.Lit.constHeld Z "com/example/interleave/interleave/ProtocolChecksCommitsForCyclesPinLaw" 28) (hcw : Jvm.Lit.compactW.before a0 Z = true) :
    MetFree l x (head1 (Jvm.Cond.code x code maxLocals ret :: ws) room_1) (fun a U => a = #[(.int i1)] ∧ Z.Warmed39 U.vm ∧ U.heap = h0 ∧ U = Z) (fun _ _ _ _ _ => True) (fun _ U o U' => ∃ v L, o = .returned v ∧ Q0 Z i1 z_MVCC l_MVCC b_MVCC k_MVCC z_LOCKING l_LOCKING b_LOCKING k_LOCKING zc h0 n0 v U'.heap L ∧ ReturnedEndW U o U' L 4 52) := by
  refine MetFree.of_bodySF (plainFor_of_name pn_3) hisR ?_
  intro p e s m args below meth c s₁ Bd hml0 hP hK
  obtain ⟨rfl, hZ', hh, hUZ⟩ := hP
  have hZ : Z.Warmed39 (s.setVm s.vm).vm := hZ'
  have hx := Bd.exec
  have hby := Bd.bytes
  have hml : c.maxLocals = 6 := hml0
  have hown : (s.setVm s.vm).vm.findClass "com/example/interleave/interleave/ProtocolChecksCommitsForCyclesPinLaw" = some m.cls := findClass_of_methodNamed Bd.named
  have hnm := (name_of_methodNamed Bd.named Bd.method).1
  have X0 : Stand p l e room_1 (s.setVm s.vm) m #[(.int i1)] below meth c s₁ [] 0 0 := Stand.of_body Bd
  have e0 : s₁.heap = h0 := by rw [← hh, Bd.state]; rfl
  have N0 := Fr.nil n0
  suffices H : ∀ Qo : Outcome → State → Prop, (∀ (v : Option Value) (u : State) (L : List Loc), Q0 Z i1 z_MVCC l_MVCC b_MVCC k_MVCC z_LOCKING l_LOCKING b_LOCKING k_LOCKING zc h0 n0 v u.heap L → ReturnedEndW s (.returned v) u L 4 52 → Qo (.returned v) u) → Go p e below Qo s₁ (mkF m 0 #[.val (.int i1), .unset, .unset, .unset, .unset, .unset] []) from
    Go.cast (ef_0 m i1) (H _ fun v u L h1 h2 => ⟨v, L, rfl, h1, h2⟩)
  intro Qo hQo
  have hS0 : s.Since s.vm s.heap.size := (State.WarmedH.refl s).since _
  have hk0 : s.heap.size ≤ h0.size := by rw [hh]; exact Nat.le_refl _
  have I0 : IB Z s.vm [] := by rw [hUZ]; exact IB.start
  have hkp : ∀ (b : Addr) (cl : Cell), Z.heap[b]? = some cl → s.heap[b]? = some cl := by rw [hUZ]; exact fun _ _ q => q
  show Go p e below Qo s₁ (mkF m 0 #[.val (.int i1), .unset, .unset, .unset, .unset, .unset] [])
  refine Go.of (fun t k => XS.iloadN X0.here hx rfl (hb hby at_0) rfl  k) ?_
  show Go p e below Qo s₁ (mkF m 1 #[.val (.int i1), .unset, .unset, .unset, .unset, .unset] [(.int i1)])
  refine Go.of (fun t k => XS.iconst X0.here hx rfl (hb hby at_1) k) ?_
  show Go p e below Qo s₁ (mkF m 2 #[.val (.int i1), .unset, .unset, .unset, .unset, .unset] [(.int (1 : Int32)), (.int i1)])
  refine Go.of (fun t k => XS.iand X0.here hx rfl (hb hby at_2) rfl k) ?_
  show Go p e below Qo s₁ (mkF m 3 #[.val (.int i1), .unset, .unset, .unset, .unset, .unset] [(.int (i1 &&& (1 : Int32)))])
  suffices J3_3 : ∀ (v3_2 : Int32), v3_2 = (if (i1 &&& (1 : Int32)) = (0 : Int32) then (1 : Int32) else (0 : Int32)) → Go p e below Qo s₁ (mkF m 11 #[.val (.int i1), .unset, .unset, .unset, .unset, .unset] [(.int v3_2)]) by
    by_cases hc3_137 : (i1 &&& (1 : Int32)) = (0 : Int32)
    · refine Go.of (fun t k => XS.ifNo X0.here hx rfl (hb hby at_3) rfl ((if0 _ _).trans (teq hc3_137).2) k) ?_
      show Go p e below Qo s₁ (mkF m 6 #[.val (.int i1), .unset, .unset, .unset, .unset, .unset] [])
      refine Go.of (fun t k => XS.iconst X0.here hx rfl (hb hby at_6) k) ?_
      show Go p e below Qo s₁ (mkF m 7 #[.val (.int i1), .unset, .unset, .unset, .unset, .unset] [(.int (1 : Int32))])
      refine Go.of (fun t k => XS.goto X0.here hx rfl (pc0 := 7) (pc' := 11) rfl (hb hby at_7) (by decide) (by decide) k) ?_
      show Go p e below Qo s₁ (mkF m 11 #[.val (.int i1), .unset, .unset, .unset, .unset, .unset] [(.int (1 : Int32))])
      exact J3_3 _ (by first | rfl | (rw [if_pos hc3_137]) | (simp only [hc3_137, if_true, if_false]; done) | simp [hc3_137])
    refine Go.of (fun t k => XS.ifYes X0.here hx rfl (pc0 := 3) (pc' := 10) rfl (hb hby at_3) rfl ((if0 _ _).trans (feq hc3_137).2) (by decide) (by decide) k) ?_
    show Go p e below Qo s₁ (mkF m 10 #[.val (.int i1), .unset, .unset, .unset, .unset, .unset] [])
    refine Go.of (fun t k => XS.iconst X0.here hx rfl (hb hby at_10) k) ?_
    show Go p e below Qo s₁ (mkF m 11 #[.val (.int i1), .unset, .unset, .unset, .unset, .unset] [(.int (0 : Int32))])
    exact J3_3 _ (by first | rfl | (rw [if_neg hc3_137]) | (simp only [hc3_137, if_true, if_false]; done) | simp [hc3_137])
  intro v3_2 hv3_2
  show Go p e below Qo s₁ (mkF m 11 #[.val (.int i1), .unset, .unset, .unset, .unset, .unset] [(.int v3_2)])
  refine Go.of (fun t k => XS.istoreN X0.here hx rfl (hb hby at_11) rfl (l' := #[.val (.int i1), .val (.int v3_2), .unset, .unset, .unset, .unset]) rfl k) ?_
  show Go p e below Qo s₁ (mkF m 12 #[.val (.int i1), .val (.int v3_2), .unset, .unset, .unset, .unset] [])
  refine Go.of (fun t k => XS.iloadN X0.here hx rfl (hb hby at_12) rfl  k) ?_
  show Go p e below Qo s₁ (mkF m 13 #[.val (.int i1), .val (.int v3_2), .unset, .unset, .unset, .unset] [(.int v3_2)])
  by_cases hc13_4 : v3_2 = (0 : Int32)
  · refine Go.of (fun t k => XS.ifYes X0.here hx rfl (pc0 := 13) (pc' := 22) rfl (hb hby at_13) rfl ((if0 _ _).trans (teq hc13_4).1) (by decide) (by decide) k) ?_
    show Go p e below Qo s₁ (mkF m 22 #[.val (.int i1), .val (.int v3_2), .unset, .unset, .unset, .unset] [])
    obtain ⟨T5, X5, e5, st5⟩ := getS X0 hx hZ (host := "") hown (hw _ (List.mem_of_getElem? (i := 39) rfl)) Via.refl e0 f7 (g := (mkF m 22 #[.val (.int i1), .val (.int v3_2), .unset, .unset, .unset, .unset] [])) rfl (hb hby at_22)
    refine Go.of st5 ?_
    show Go p e below Qo T5 (mkF m 25 #[.val (.int i1), .val (.int v3_2), .unset, .unset, .unset, .unset] [(.ref z_LOCKING)])
    refine Go.of (fun t k => XS.astoreN X5.here hx rfl (hb hby at_25) rfl rfl (l' := #[.val (.int i1), .val (.int v3_2), .val (.ref z_LOCKING), .unset, .unset, .unset]) rfl k) ?_
    show Go p e below Qo T5 (mkF m 26 #[.val (.int i1), .val (.int v3_2), .val (.ref z_LOCKING), .unset, .unset, .unset] [])
    refine Go.of (fun t k => XS.aloadN X5.here hx rfl (hb hby at_26) rfl rfl k) ?_
    show Go p e below Qo T5 (mkF m 27 #[.val (.int i1), .val (.int v3_2), .val (.ref z_LOCKING), .unset, .unset, .unset] [(.ref z_LOCKING)])
    obtain ⟨ciq7, kiq7, iq7a, iq7b, iq7c⟩ := isOf hZ e5 f8
    obtain ⟨_, _, ⟨T6, L6, k6, n6⟩, -, X6, ⟨Lc6, hQ6, l6, y6, z6⟩, st6⟩ := X5.virtualBack hx (y := (⟨"com/example/interleave/interleave/Protocol", "label", "()Ljava/lang/String;"⟩ : MethodName)) (z := (⟨"com/example/interleave/interleave/Protocol", "label", "()Ljava/lang/String;"⟩ : MethodName)) hown (mvT hZ (hw _ (List.mem_of_getElem? (i := 3) rfl))) (mvT hZ (hw _ (List.mem_of_getElem? (i := 4) rfl))) (notFace_of_selects (args := #[]) (mvT hZ (hw _ (List.mem_of_getElem? (i := 6) rfl)))) (mvT hZ (hw _ (List.mem_of_getElem? (i := 6) rfl))) (mvT hZ (hw _ (List.mem_of_getElem? (i := 5) rfl))) (by decide) (backOf (W := 0) (rm41 l Z a0 hw [] z_LOCKING l_LOCKING h0 n0 Z0 f10) hZ (hw _ (List.mem_of_getElem? (i := 7) rfl)) (hw _ (List.mem_of_getElem? (i := 1) rfl)) (by decide) (by decide)) iq7a iq7c (g := (mkF m 27 #[.val (.int i1), .val (.int v3_2), .val (.ref z_LOCKING), .unset, .unset, .unset] [(.ref z_LOCKING)])) rfl (by rw [hml]; rfl) (Steps.refl _) (argsL := []) (rest := []) (lenOf pd_1 rfl) rfl (by show 2 * 0 + _ ≤ _; exact Nat.le_of_eq rfl) (hb hby at_27) (fun _ _ => ⟨rfl, e5, (by decide : 0 + 0 ≤ _), (by decide : 0 + 0 ≤ _)⟩)
    dsimp only [Pt.U, Pt.locs, Pt.cells, Pt.slots] at X6 l6 y6 z6 st6 hQ6
    subst l6 y6 z6
    replace X6 := own_cs X6 (c' := 0) (s' := 0) (by decide) (by decide)
    obtain ⟨rfl, N8, eh9⟩ := hQ6
    have N10 := Fr.app N0 N8
    refine Go.via st6 ?_
    obtain ⟨Lx11, Xx11, Nx11⟩ := own_locs X6 N10
    show Go p e below Qo T6 (mkF m 30 #[.val (.int i1), .val (.int v3_2), .val (.ref z_LOCKING), .unset, .unset, .unset] [(.ref l_LOCKING)])
    have wS12 : ∀ d ∈ Bundle.stringAtoms, d.before a0 Z = true := fun d hd => hw d ((by decide +kernel : ∀ d ∈ Bundle.stringAtoms, d ∈ tables_1) d hd)
    have ht12 : (∀ c ∈ ("mvcc" : String).toList, c.toNat < 256) ∧ ("mvcc" : String).toList.map (fun c => Value.int (Jvm.Lit.byteI c.toNat.toUInt16)) = [(.int (109 : Int32)), (.int (118 : Int32)), (.int (99 : Int32)), (.int (99 : Int32))] := by first | (decide +kernel) | (refine ⟨by decide, ?_⟩; rfl) | (simp [Jvm.Lit.byteI])
    obtain ⟨a12, T12, h12, k12, b12, kc12, X12, e12, E12, hS12, hk12, hZ, hown, q12a, q12b, q12c, q12d, lt12a, lt12b, I12, st12⟩ := ldcSV Xx11 hx hZ hown (hw _ (List.mem_of_getElem? (i := 10) rfl)) wS12 eh9 hS0 hk0 (by rw [hh, ← hn0]; exact Nx11) hkp I0 (by first | decide | (decide +kernel) | simp) hd20 hcw ht12 (z := (4 : Int32)) (by decide) (by decide) (g := (mkF m 30 #[.val (.int i1), .val (.int v3_2), .val (.ref z_LOCKING), .unset, .unset, .unset] [(.ref l_LOCKING)])) rfl (hb hby at_30) (n := 16) (by first | decide | (decide +kernel) | simp) (by decide) (by decide) (by decide)
    have q13 := f0.ext E12
    have q14 := f1.ext E12
    have q15 := f2.ext E12
    have q16 := f3.ext E12
    have q17 := f4.ext E12
    have q18 := f5.ext E12
    have q19 := f6.ext E12
    have q20 := f7.ext E12
    have q21 := f8.ext E12
    have q22 := f9.ext E12
    have q23 := f10.ext E12
    have q24 := f11.ext E12
    have q25 := f12.ext E12
    have q26 := f13.ext E12
    have q27 := f14.ext E12
    have Z28 : n0 ≤ h12.size := Nat.le_trans Z0 E12.1
    replace X12 := own_cs X12 (c' := 2) (s' := 20) (by decide) (by decide)
    refine Go.of st12 ?_
    show Go p e below Qo T12 (mkF m 32 #[.val (.int i1), .val (.int v3_2), .val (.ref z_LOCKING), .unset, .unset, .unset] [(.ref a12), (.ref l_LOCKING)])
    have ne29 : l_LOCKING ≠ a12 := own_strNe q25 q12c q26 q12d (by decide)
    obtain ⟨ciq31, kiq31, iq31a, iq31b, iq31c⟩ := isOf hZ e12 q22
    obtain ⟨_, _, ⟨T30, L30, k30, n30⟩, -, X30, ⟨Lc30, hQ30, l30, y30, z30⟩, st30⟩ := X12.virtualBack hx (y := (⟨"java/lang/String", "equals", "(Ljava/lang/Object;)Z"⟩ : MethodName)) (z := (⟨"java/lang/String", "equals", "(Ljava/lang/Object;)Z"⟩ : MethodName)) hown (mvT hZ (hw _ (List.mem_of_getElem? (i := 18) rfl))) (mvT hZ (hw _ (List.mem_of_getElem? (i := 19) rfl))) (notFace_of_selects (args := #[]) (mvT hZ (hw _ (List.mem_of_getElem? (i := 21) rfl)))) (mvT hZ (hw _ (List.mem_of_getElem? (i := 21) rfl))) (mvT hZ (hw _ (List.mem_of_getElem? (i := 20) rfl))) (by decide) (backOf (W := 0) (rm33 l Z a0 hw [] l_LOCKING a12 zc b_LOCKING k_LOCKING b12 kc12 h12 n0 Z28 q27 q22 q24 q25 q26 q12a q12b q12c q12d ne29 (hz)) hZ (hw _ (List.mem_of_getElem? (i := 22) rfl)) (hw _ (List.mem_of_getElem? (i := 11) rfl)) (by decide) (by decide)) iq31a iq31c (g := (mkF m 32 #[.val (.int i1), .val (.int v3_2), .val (.ref z_LOCKING), .unset, .unset, .unset] [(.ref a12), (.ref l_LOCKING)])) rfl (by rw [hml]; rfl) (Steps.refl _) (argsL := [(.ref a12)]) (rest := []) (lenOf pd_2 rfl) rfl (by show 2 * 0 + _ ≤ _; exact Nat.le_of_eq rfl) (hb hby at_32) (fun _ _ => ⟨rfl, e12, (by decide : 2 + 0 ≤ _), (by decide : 20 + 0 ≤ _)⟩)
    dsimp only [Pt.U, Pt.locs, Pt.cells, Pt.slots] at X30 l30 y30 z30 st30 hQ30
    subst l30 y30 z30
    replace X30 := own_cs X30 (c' := 2) (s' := 20) (by decide) (by decide)
    obtain ⟨rfl, N32, eh33⟩ := hQ30
    have N34 := Fr.app Nx11 N32
    refine Go.via st30 ?_
    obtain ⟨Lx35, Xx35, Nx35⟩ := own_locs X30 N34
    show Go p e below Qo T30 (mkF m 35 #[.val (.int i1), .val (.int v3_2), .val (.ref z_LOCKING), .unset, .unset, .unset] [(.int (0 : Int32))])
    refine Go.of (fun t k => XS.istoreN Xx35.here hx rfl (hb hby at_35) rfl (l' := #[.val (.int i1), .val (.int v3_2), .val (.ref z_LOCKING), .val (.int (0 : Int32)), .unset, .unset]) rfl k) ?_
    show Go p e below Qo T30 (mkF m 36 #[.val (.int i1), .val (.int v3_2), .val (.ref z_LOCKING), .val (.int (0 : Int32)), .unset, .unset] [])
    refine Go.of (fun t k => XS.aloadN Xx35.here hx rfl (hb hby at_36) rfl rfl k) ?_
    show Go p e below Qo T30 (mkF m 37 #[.val (.int i1), .val (.int v3_2), .val (.ref z_LOCKING), .val (.int (0 : Int32)), .unset, .unset] [(.ref z_LOCKING)])
    obtain ⟨ciq37, kiq37, iq37a, iq37b, iq37c⟩ := isOf hZ eh33 q21
    obtain ⟨_, _, ⟨T36, L36, k36, n36⟩, -, X36, ⟨Lc36, hQ36, l36, y36, z36⟩, st36⟩ := Xx35.virtualBack hx (y := (⟨"com/example/interleave/interleave/Protocol", "label", "()Ljava/lang/String;"⟩ : MethodName)) (z := (⟨"com/example/interleave/interleave/Protocol", "label", "()Ljava/lang/String;"⟩ : MethodName)) hown (mvT hZ (hw _ (List.mem_of_getElem? (i := 3) rfl))) (mvT hZ (hw _ (List.mem_of_getElem? (i := 4) rfl))) (notFace_of_selects (args := #[]) (mvT hZ (hw _ (List.mem_of_getElem? (i := 6) rfl)))) (mvT hZ (hw _ (List.mem_of_getElem? (i := 6) rfl))) (mvT hZ (hw _ (List.mem_of_getElem? (i := 5) rfl))) (by decide) (backOf (W := 0) (rm41 l Z a0 hw [] z_LOCKING l_LOCKING h12 n0 Z28 q23) hZ (hw _ (List.mem_of_getElem? (i := 7) rfl)) (hw _ (List.mem_of_getElem? (i := 1) rfl)) (by decide) (by decide)) iq37a iq37c (g := (mkF m 37 #[.val (.int i1), .val (.int v3_2), .val (.ref z_LOCKING), .val (.int (0 : Int32)), .unset, .unset] [(.ref z_LOCKING)])) rfl (by rw [hml]; rfl) (Steps.refl _) (argsL := []) (rest := []) (lenOf pd_1 rfl) rfl (by show 2 * 0 + _ ≤ _; exact Nat.le_of_eq rfl) (hb hby at_37) (fun _ _ => ⟨rfl, eh33, (by decide : 2 + 0 ≤ _), (by decide : 20 + 0 ≤ _)⟩)
    dsimp only [Pt.U, Pt.locs, Pt.cells, Pt.slots] at X36 l36 y36 z36 st36 hQ36
    subst l36 y36 z36
    replace X36 := own_cs X36 (c' := 2) (s' := 20) (by decide) (by decide)
    obtain ⟨rfl, N38, eh39⟩ := hQ36
    have N40 := Fr.app Nx35 N38
    refine Go.via st36 ?_
    obtain ⟨Lx41, Xx41, Nx41⟩ := own_locs X36 N40
    show Go p e below Qo T36 (mkF m 40 #[.val (.int i1), .val (.int v3_2), .val (.ref z_LOCKING), .val (.int (0 : Int32)), .unset, .unset] [(.ref l_LOCKING)])
    have wS42 : ∀ d ∈ Bundle.stringAtoms, d.before a0 Z = true := fun d hd => hw d ((by decide +kernel : ∀ d ∈ Bundle.stringAtoms, d ∈ tables_1) d hd)
    have ht42 : (∀ c ∈ ("locking" : String).toList, c.toNat < 256) ∧ ("locking" : String).toList.map (fun c => Value.int (Jvm.Lit.byteI c.toNat.toUInt16)) = [(.int (108 : Int32)), (.int (111 : Int32)), (.int (99 : Int32)), (.int (107 : Int32)), (.int (105 : Int32)), (.int (110 : Int32)), (.int (103 : Int32))] := by first | (decide +kernel) | (refine ⟨by decide, ?_⟩; rfl) | (simp [Jvm.Lit.byteI])
    obtain ⟨a42, T42, h42, k42, b42, kc42, X42, e42, E42, hS42, hk42, hZ, hown, q42a, q42b, q42c, q42d, lt42a, lt42b, I42, st42⟩ := ldcSV Xx41 hx hZ hown (hw _ (List.mem_of_getElem? (i := 32) rfl)) wS42 eh39 hS12 hk12 (by rw [hh, ← hn0]; exact Nx41) hkp I12 (by first | decide | (decide +kernel) | simp) hd28 hcw ht42 (z := (7 : Int32)) (by decide) (by decide) (g := (mkF m 40 #[.val (.int i1), .val (.int v3_2), .val (.ref z_LOCKING), .val (.int (0 : Int32)), .unset, .unset] [(.ref l_LOCKING)])) rfl (hb hby at_40) (n := 28) (by first | decide | (decide +kernel) | simp) (by decide) (by decide) (by decide)
    have q43 := q13.ext E42
    have q44 := q14.ext E42
    have q45 := q15.ext E42
    have q46 := q16.ext E42
    have q47 := q17.ext E42
    have q48 := q18.ext E42
    have q49 := q19.ext E42
    have q50 := q20.ext E42
    have q51 := q21.ext E42
    have q52 := q22.ext E42
    have q53 := q23.ext E42
    have q54 := q24.ext E42
    have q55 := q25.ext E42
    have q56 := q26.ext E42
    have q57 := q27.ext E42
    have Z58 : n0 ≤ h42.size := Nat.le_trans Z28 E42.1
    replace X42 := own_cs X42 (c' := 4) (s' := 52) (by decide) (by decide)
    refine Go.of st42 ?_
    show Go p e below Qo T42 (mkF m 42 #[.val (.int i1), .val (.int v3_2), .val (.ref z_LOCKING), .val (.int (0 : Int32)), .unset, .unset] [(.ref a42), (.ref l_LOCKING)])
    obtain ⟨ciq60, kiq60, iq60a, iq60b, iq60c⟩ := isOf hZ e42 q52
    obtain ⟨_, _, ⟨T59, L59, k59, n59⟩, -, X59, ⟨Lc59, hQ59, l59, y59, z59⟩, st59⟩ := X42.virtualBack hx (y := (⟨"java/lang/String", "equals", "(Ljava/lang/Object;)Z"⟩ : MethodName)) (z := (⟨"java/lang/String", "equals", "(Ljava/lang/Object;)Z"⟩ : MethodName)) hown (mvT hZ (hw _ (List.mem_of_getElem? (i := 18) rfl))) (mvT hZ (hw _ (List.mem_of_getElem? (i := 19) rfl))) (notFace_of_selects (args := #[]) (mvT hZ (hw _ (List.mem_of_getElem? (i := 21) rfl)))) (mvT hZ (hw _ (List.mem_of_getElem? (i := 21) rfl))) (mvT hZ (hw _ (List.mem_of_getElem? (i := 20) rfl))) (by decide) (backOf (W := 0) (rm31 l Z a0 hw [] l_LOCKING a42 zc b_LOCKING k_LOCKING b42 kc42 h42 n0 Z58 q57 q52 q54 q55 q56 q42a q42b q42c q42d (hz)) hZ (hw _ (List.mem_of_getElem? (i := 22) rfl)) (hw _ (List.mem_of_getElem? (i := 11) rfl)) (by decide) (by decide)) iq60a iq60c (g := (mkF m 42 #[.val (.int i1), .val (.int v3_2), .val (.ref z_LOCKING), .val (.int (0 : Int32)), .unset, .unset] [(.ref a42), (.ref l_LOCKING)])) rfl (by rw [hml]; rfl) (Steps.refl _) (argsL := [(.ref a42)]) (rest := []) (lenOf pd_2 rfl) rfl (by show 2 * 0 + _ ≤ _; exact Nat.le_of_eq rfl) (hb hby at_42) (fun _ _ => ⟨rfl, e42, (by decide : 4 + 0 ≤ _), (by decide : 52 + 0 ≤ _)⟩)
    dsimp only [Pt.U, Pt.locs, Pt.cells, Pt.slots] at X59 l59 y59 z59 st59 hQ59
    subst l59 y59 z59
    replace X59 := own_cs X59 (c' := 4) (s' := 52) (by decide) (by decide)
    obtain ⟨rfl, N61, eh62⟩ := hQ59
    have N63 := Fr.app Nx41 N61
    refine Go.via st59 ?_
    obtain ⟨Lx64, Xx64, Nx64⟩ := own_locs X59 N63
    show Go p e below Qo T59 (mkF m 45 #[.val (.int i1), .val (.int v3_2), .val (.ref z_LOCKING), .val (.int (0 : Int32)), .unset, .unset] [(.int (1 : Int32))])
    refine Go.of (fun t k => XS.istore Xx64.here hx rfl (hb hby at_45) rfl (l' := #[.val (.int i1), .val (.int v3_2), .val (.ref z_LOCKING), .val (.int (0 : Int32)), .val (.int (1 : Int32)), .unset]) rfl k) ?_
    show Go p e below Qo T59 (mkF m 47 #[.val (.int i1), .val (.int v3_2), .val (.ref z_LOCKING), .val (.int (0 : Int32)), .val (.int (1 : Int32)), .unset] [])
    refine Go.of (fun t k => XS.iloadN Xx64.here hx rfl (hb hby at_47) rfl  k) ?_
    show Go p e below Qo T59 (mkF m 48 #[.val (.int i1), .val (.int v3_2), .val (.ref z_LOCKING), .val (.int (0 : Int32)), .val (.int (1 : Int32)), .unset] [(.int (0 : Int32))])
    refine Go.of (fun t k => XS.iload Xx64.here hx rfl (hb hby at_48) rfl  k) ?_
    show Go p e below Qo T59 (mkF m 50 #[.val (.int i1), .val (.int v3_2), .val (.ref z_LOCKING), .val (.int (0 : Int32)), .val (.int (1 : Int32)), .unset] [(.int (1 : Int32)), (.int (0 : Int32))])
    refine Go.of (fun t k => XS.icmpYes Xx64.here hx rfl (pc0 := 50) (pc' := 55) rfl (hb hby at_50) rfl (feq (by decide : ¬ ((0 : Int32) = (1 : Int32)))).2 (by decide) (by decide) k) ?_
    show Go p e below Qo T59 (mkF m 55 #[.val (.int i1), .val (.int v3_2), .val (.ref z_LOCKING), .val (.int (0 : Int32)), .val (.int (1 : Int32)), .unset] [])
    refine Go.of (fun t k => XS.iloadN Xx64.here hx rfl (hb hby at_55) rfl  k) ?_
    show Go p e below Qo T59 (mkF m 56 #[.val (.int i1), .val (.int v3_2), .val (.ref z_LOCKING), .val (.int (0 : Int32)), .val (.int (1 : Int32)), .unset] [(.int (0 : Int32))])
    refine Go.of (fun t k => XS.istore Xx64.here hx rfl (hb hby at_56) rfl (l' := #[.val (.int i1), .val (.int v3_2), .val (.ref z_LOCKING), .val (.int (0 : Int32)), .val (.int (1 : Int32)), .val (.int (0 : Int32))]) rfl k) ?_
    show Go p e below Qo T59 (mkF m 58 #[.val (.int i1), .val (.int v3_2), .val (.ref z_LOCKING), .val (.int (0 : Int32)), .val (.int (1 : Int32)), .val (.int (0 : Int32))] [])
    refine Go.of (fun t k => XS.aloadN Xx64.here hx rfl (hb hby at_58) rfl rfl k) ?_
    show Go p e below Qo T59 (mkF m 59 #[.val (.int i1), .val (.int v3_2), .val (.ref z_LOCKING), .val (.int (0 : Int32)), .val (.int (1 : Int32)), .val (.int (0 : Int32))] [(.ref z_LOCKING)])
    obtain ⟨ciq66, kiq66, iq66a, iq66b, iq66c⟩ := isOf hZ eh62 q51
    obtain ⟨_, _, ⟨T65, L65, k65, n65⟩, -, X65, ⟨Lc65, hQ65, l65, y65, z65⟩, st65⟩ := Xx64.virtualBack hx (y := (⟨"com/example/interleave/interleave/Protocol", "checksCommitsForCycles", "()Z"⟩ : MethodName)) (z := (⟨"com/example/interleave/interleave/Protocol", "checksCommitsForCycles", "()Z"⟩ : MethodName)) hown (mvT hZ (hw _ (List.mem_of_getElem? (i := 33) rfl))) (mvT hZ (hw _ (List.mem_of_getElem? (i := 34) rfl))) (notFace_of_selects (args := #[]) (mvT hZ (hw _ (List.mem_of_getElem? (i := 36) rfl)))) (mvT hZ (hw _ (List.mem_of_getElem? (i := 36) rfl))) (mvT hZ (hw _ (List.mem_of_getElem? (i := 35) rfl))) (by decide) (backOf (W := 0) (rm43 l Z a0 hw [] z_LOCKING z_MVCC h42 n0 Z58 q43 (Ne.symm ne_z_MVCC_z_LOCKING)) hZ (hw _ (List.mem_of_getElem? (i := 37) rfl)) (hw _ (List.mem_of_getElem? (i := 1) rfl)) (by decide) (by decide)) iq66a iq66c (g := (mkF m 59 #[.val (.int i1), .val (.int v3_2), .val (.ref z_LOCKING), .val (.int (0 : Int32)), .val (.int (1 : Int32)), .val (.int (0 : Int32))] [(.ref z_LOCKING)])) rfl (by rw [hml]; rfl) (Steps.refl _) (argsL := []) (rest := []) (lenOf pd_3 rfl) rfl (by show 2 * 0 + _ ≤ _; exact Nat.le_of_eq rfl) (hb hby at_59) (fun _ _ => ⟨rfl, eh62, (by decide : 4 + 0 ≤ _), (by decide : 52 + 0 ≤ _)⟩)
    dsimp only [Pt.U, Pt.locs, Pt.cells, Pt.slots] at X65 l65 y65 z65 st65 hQ65
    subst l65 y65 z65
    replace X65 := own_cs X65 (c' := 4) (s' := 52) (by decide) (by decide)
    obtain ⟨rfl, N67, eh68⟩ := hQ65
    have N69 := Fr.app Nx64 N67
    refine Go.via st65 ?_
    obtain ⟨Lx70, Xx70, Nx70⟩ := own_locs X65 N69
    show Go p e below Qo T65 (mkF m 62 #[.val (.int i1), .val (.int v3_2), .val (.ref z_LOCKING), .val (.int (0 : Int32)), .val (.int (1 : Int32)), .val (.int (0 : Int32))] [(.int (0 : Int32))])
    refine Go.of (fun t k => XS.iload Xx70.here hx rfl (hb hby at_62) rfl  k) ?_
    show Go p e below Qo T65 (mkF m 64 #[.val (.int i1), .val (.int v3_2), .val (.ref z_LOCKING), .val (.int (0 : Int32)), .val (.int (1 : Int32)), .val (.int (0 : Int32))] [(.int (0 : Int32)), (.int (0 : Int32))])
    refine Go.of (fun t k => XS.icmpNo Xx70.here hx rfl (hb hby at_64) rfl (teq (by decide : (0 : Int32) = (0 : Int32))).2 k) ?_
    show Go p e below Qo T65 (mkF m 67 #[.val (.int i1), .val (.int v3_2), .val (.ref z_LOCKING), .val (.int (0 : Int32)), .val (.int (1 : Int32)), .val (.int (0 : Int32))] [])
    refine Go.of (fun t k => XS.iconst Xx70.here hx rfl (hb hby at_67) k) ?_
    show Go p e below Qo T65 (mkF m 68 #[.val (.int i1), .val (.int v3_2), .val (.ref z_LOCKING), .val (.int (0 : Int32)), .val (.int (1 : Int32)), .val (.int (0 : Int32))] [(.int (1 : Int32))])
    refine Go.of (fun t k => XS.goto Xx70.here hx rfl (pc0 := 68) (pc' := 72) rfl (hb hby at_68) (by decide) (by decide) k) ?_
    show Go p e below Qo T65 (mkF m 72 #[.val (.int i1), .val (.int v3_2), .val (.ref z_LOCKING), .val (.int (0 : Int32)), .val (.int (1 : Int32)), .val (.int (0 : Int32))] [(.int (1 : Int32))])
    exact own_retNW Xx70 hS42 (by rw [eh68]; exact hk42) hx Bd.notSynchronized (t := .boolean) Bd.returns (by simp) (hb hby at_72) (fun u hu hF => hQo _ _ _ ⟨rfl, Nx70⟩ (own_monoW hF (by decide) (by decide)))
  refine Go.of (fun t k => XS.ifNo X0.here hx rfl (hb hby at_13) rfl ((if0 _ _).trans (feq hc13_4).1) k) ?_
  show Go p e below Qo s₁ (mkF m 16 #[.val (.int i1), .val (.int v3_2), .unset, .unset, .unset, .unset] [])
  obtain ⟨T71, X71, e71, st71⟩ := getS X0 hx hZ (host := "") hown (hw _ (List.mem_of_getElem? (i := 0) rfl)) Via.refl e0 f0 (g := (mkF m 16 #[.val (.int i1), .val (.int v3_2), .unset, .unset, .unset, .unset] [])) rfl (hb hby at_16)
  refine Go.of st71 ?_
  show Go p e below Qo T71 (mkF m 19 #[.val (.int i1), .val (.int v3_2), .unset, .unset, .unset, .unset] [(.ref z_MVCC)])
  refine Go.of (fun t k => XS.goto X71.here hx rfl (pc0 := 19) (pc' := 25) rfl (hb hby at_19) (by decide) (by decide) k) ?_
  show Go p e below Qo T71 (mkF m 25 #[.val (.int i1), .val (.int v3_2), .unset, .unset, .unset, .unset] [(.ref z_MVCC)])
  refine Go.of (fun t k => XS.astoreN X71.here hx rfl (hb hby at_25) rfl rfl (l' := #[.val (.int i1), .val (.int v3_2), .val (.ref z_MVCC), .unset, .unset, .unset]) rfl k) ?_
  show Go p e below Qo T71 (mkF m 26 #[.val (.int i1), .val (.int v3_2), .val (.ref z_MVCC), .unset, .unset, .unset] [])
  refine Go.of (fun t k => XS.aloadN X71.here hx rfl (hb hby at_26) rfl rfl k) ?_
  show Go p e below Qo T71 (mkF m 27 #[.val (.int i1), .val (.int v3_2), .val (.ref z_MVCC), .unset, .unset, .unset] [(.ref z_MVCC)])
  obtain ⟨ciq73, kiq73, iq73a, iq73b, iq73c⟩ := isOf hZ e71 f1
  obtain ⟨_, _, ⟨T72, L72, k72, n72⟩, -, X72, ⟨Lc72, hQ72, l72, y72, z72⟩, st72⟩ := X71.virtualBack hx (y := (⟨"com/example/interleave/interleave/Protocol", "label", "()Ljava/lang/String;"⟩ : MethodName)) (z := (⟨"com/example/interleave/interleave/Protocol", "label", "()Ljava/lang/String;"⟩ : MethodName)) hown (mvT hZ (hw _ (List.mem_of_getElem? (i := 3) rfl))) (mvT hZ (hw _ (List.mem_of_getElem? (i := 4) rfl))) (notFace_of_selects (args := #[]) (mvT hZ (hw _ (List.mem_of_getElem? (i := 6) rfl)))) (mvT hZ (hw _ (List.mem_of_getElem? (i := 6) rfl))) (mvT hZ (hw _ (List.mem_of_getElem? (i := 5) rfl))) (by decide) (backOf (W := 0) (rm41 l Z a0 hw [] z_MVCC l_MVCC h0 n0 Z0 f3) hZ (hw _ (List.mem_of_getElem? (i := 7) rfl)) (hw _ (List.mem_of_getElem? (i := 1) rfl)) (by decide) (by decide)) iq73a iq73c (g := (mkF m 27 #[.val (.int i1), .val (.int v3_2), .val (.ref z_MVCC), .unset, .unset, .unset] [(.ref z_MVCC)])) rfl (by rw [hml]; rfl) (Steps.refl _) (argsL := []) (rest := []) (lenOf pd_1 rfl) rfl (by show 2 * 0 + _ ≤ _; exact Nat.le_of_eq rfl) (hb hby at_27) (fun _ _ => ⟨rfl, e71, (by decide : 0 + 0 ≤ _), (by decide : 0 + 0 ≤ _)⟩)
  dsimp only [Pt.U, Pt.locs, Pt.cells, Pt.slots] at X72 l72 y72 z72 st72 hQ72
  subst l72 y72 z72
  replace X72 := own_cs X72 (c' := 0) (s' := 0) (by decide) (by decide)
  obtain ⟨rfl, N74, eh75⟩ := hQ72
  have N76 := Fr.app N0 N74
  refine Go.via st72 ?_
  obtain ⟨Lx77, Xx77, Nx77⟩ := own_locs X72 N76
  show Go p e below Qo T72 (mkF m 30 #[.val (.int i1), .val (.int v3_2), .val (.ref z_MVCC), .unset, .unset, .unset] [(.ref l_MVCC)])
  have wS78 : ∀ d ∈ Bundle.stringAtoms, d.before a0 Z = true := fun d hd => hw d ((by decide +kernel : ∀ d ∈ Bundle.stringAtoms, d ∈ tables_1) d hd)
  have ht78 : (∀ c ∈ ("mvcc" : String).toList, c.toNat < 256) ∧ ("mvcc" : String).toList.map (fun c => Value.int (Jvm.Lit.byteI c.toNat.toUInt16)) = [(.int (109 : Int32)), (.int (118 : Int32)), (.int (99 : Int32)), (.int (99 : Int32))] := by first | (decide +kernel) | (refine ⟨by decide, ?_⟩; rfl) | (simp [Jvm.Lit.byteI])
  obtain ⟨a78, T78, h78, k78, b78, kc78, X78, e78, E78, hS78, hk78, hZ, hown, q78a, q78b, q78c, q78d, lt78a, lt78b, I78, st78⟩ := ldcSV Xx77 hx hZ hown (hw _ (List.mem_of_getElem? (i := 10) rfl)) wS78 eh75 hS0 hk0 (by rw [hh, ← hn0]; exact Nx77) hkp I0 (by first | decide | (decide +kernel) | simp) hd20 hcw ht78 (z := (4 : Int32)) (by decide) (by decide) (g := (mkF m 30 #[.val (.int i1), .val (.int v3_2), .val (.ref z_MVCC), .unset, .unset, .unset] [(.ref l_MVCC)])) rfl (hb hby at_30) (n := 16) (by first | decide | (decide +kernel) | simp) (by decide) (by decide) (by decide)
  have q79 := f0.ext E78
  have q80 := f1.ext E78
  have q81 := f2.ext E78
  have q82 := f3.ext E78
  have q83 := f4.ext E78
  have q84 := f5.ext E78
  have q85 := f6.ext E78
  have q86 := f7.ext E78
  have q87 := f8.ext E78
  have q88 := f9.ext E78
  have q89 := f10.ext E78
  have q90 := f11.ext E78
  have q91 := f12.ext E78
  have q92 := f13.ext E78
  have q93 := f14.ext E78
  have Z94 : n0 ≤ h78.size := Nat.le_trans Z0 E78.1
  replace X78 := own_cs X78 (c' := 2) (s' := 20) (by decide) (by decide)
  refine Go.of st78 ?_
  show Go p e below Qo T78 (mkF m 32 #[.val (.int i1), .val (.int v3_2), .val (.ref z_MVCC), .unset, .unset, .unset] [(.ref a78), (.ref l_MVCC)])
  obtain ⟨ciq96, kiq96, iq96a, iq96b, iq96c⟩ := isOf hZ e78 q81
  obtain ⟨_, _, ⟨T95, L95, k95, n95⟩, -, X95, ⟨Lc95, hQ95, l95, y95, z95⟩, st95⟩ := X78.virtualBack hx (y := (⟨"java/lang/String", "equals", "(Ljava/lang/Object;)Z"⟩ : MethodName)) (z := (⟨"java/lang/String", "equals", "(Ljava/lang/Object;)Z"⟩ : MethodName)) hown (mvT hZ (hw _ (List.mem_of_getElem? (i := 18) rfl))) (mvT hZ (hw _ (List.mem_of_getElem? (i := 19) rfl))) (notFace_of_selects (args := #[]) (mvT hZ (hw _ (List.mem_of_getElem? (i := 21) rfl)))) (mvT hZ (hw _ (List.mem_of_getElem? (i := 21) rfl))) (mvT hZ (hw _ (List.mem_of_getElem? (i := 20) rfl))) (by decide) (backOf (W := 0) (rm30 l Z a0 hw [] l_MVCC a78 zc b_MVCC k_MVCC b78 kc78 h78 n0 Z94 q93 q81 q83 q84 q85 q78a q78b q78c q78d (hz)) hZ (hw _ (List.mem_of_getElem? (i := 22) rfl)) (hw _ (List.mem_of_getElem? (i := 11) rfl)) (by decide) (by decide)) iq96a iq96c (g := (mkF m 32 #[.val (.int i1), .val (.int v3_2), .val (.ref z_MVCC), .unset, .unset, .unset] [(.ref a78), (.ref l_MVCC)])) rfl (by rw [hml]; rfl) (Steps.refl _) (argsL := [(.ref a78)]) (rest := []) (lenOf pd_2 rfl) rfl (by show 2 * 0 + _ ≤ _; exact Nat.le_of_eq rfl) (hb hby at_32) (fun _ _ => ⟨rfl, e78, (by decide : 2 + 0 ≤ _), (by decide : 20 + 0 ≤ _)⟩)
  dsimp only [Pt.U, Pt.locs, Pt.cells, Pt.slots] at X95 l95 y95 z95 st95 hQ95
  subst l95 y95 z95
  replace X95 := own_cs X95 (c' := 2) (s' := 20) (by decide) (by decide)
  obtain ⟨rfl, N97, eh98⟩ := hQ95
  have N99 := Fr.app Nx77 N97
  refine Go.via st95 ?_
  obtain ⟨Lx100, Xx100, Nx100⟩ := own_locs X95 N99
  show Go p e below Qo T95 (mkF m 35 #[.val (.int i1), .val (.int v3_2), .val (.ref z_MVCC), .unset, .unset, .unset] [(.int (1 : Int32))])
  refine Go.of (fun t k => XS.istoreN Xx100.here hx rfl (hb hby at_35) rfl (l' := #[.val (.int i1), .val (.int v3_2), .val (.ref z_MVCC), .val (.int (1 : Int32)), .unset, .unset]) rfl k) ?_
  show Go p e below Qo T95 (mkF m 36 #[.val (.int i1), .val (.int v3_2), .val (.ref z_MVCC), .val (.int (1 : Int32)), .unset, .unset] [])
  refine Go.of (fun t k => XS.aloadN Xx100.here hx rfl (hb hby at_36) rfl rfl k) ?_
  show Go p e below Qo T95 (mkF m 37 #[.val (.int i1), .val (.int v3_2), .val (.ref z_MVCC), .val (.int (1 : Int32)), .unset, .unset] [(.ref z_MVCC)])
  obtain ⟨ciq102, kiq102, iq102a, iq102b, iq102c⟩ := isOf hZ eh98 q80
  obtain ⟨_, _, ⟨T101, L101, k101, n101⟩, -, X101, ⟨Lc101, hQ101, l101, y101, z101⟩, st101⟩ := Xx100.virtualBack hx (y := (⟨"com/example/interleave/interleave/Protocol", "label", "()Ljava/lang/String;"⟩ : MethodName)) (z := (⟨"com/example/interleave/interleave/Protocol", "label", "()Ljava/lang/String;"⟩ : MethodName)) hown (mvT hZ (hw _ (List.mem_of_getElem? (i := 3) rfl))) (mvT hZ (hw _ (List.mem_of_getElem? (i := 4) rfl))) (notFace_of_selects (args := #[]) (mvT hZ (hw _ (List.mem_of_getElem? (i := 6) rfl)))) (mvT hZ (hw _ (List.mem_of_getElem? (i := 6) rfl))) (mvT hZ (hw _ (List.mem_of_getElem? (i := 5) rfl))) (by decide) (backOf (W := 0) (rm41 l Z a0 hw [] z_MVCC l_MVCC h78 n0 Z94 q82) hZ (hw _ (List.mem_of_getElem? (i := 7) rfl)) (hw _ (List.mem_of_getElem? (i := 1) rfl)) (by decide) (by decide)) iq102a iq102c (g := (mkF m 37 #[.val (.int i1), .val (.int v3_2), .val (.ref z_MVCC), .val (.int (1 : Int32)), .unset, .unset] [(.ref z_MVCC)])) rfl (by rw [hml]; rfl) (Steps.refl _) (argsL := []) (rest := []) (lenOf pd_1 rfl) rfl (by show 2 * 0 + _ ≤ _; exact Nat.le_of_eq rfl) (hb hby at_37) (fun _ _ => ⟨rfl, eh98, (by decide : 2 + 0 ≤ _), (by decide : 20 + 0 ≤ _)⟩)
  dsimp only [Pt.U, Pt.locs, Pt.cells, Pt.slots] at X101 l101 y101 z101 st101 hQ101
  subst l101 y101 z101
  replace X101 := own_cs X101 (c' := 2) (s' := 20) (by decide) (by decide)
  obtain ⟨rfl, N103, eh104⟩ := hQ101
  have N105 := Fr.app Nx100 N103
  refine Go.via st101 ?_
  obtain ⟨Lx106, Xx106, Nx106⟩ := own_locs X101 N105
  show Go p e below Qo T101 (mkF m 40 #[.val (.int i1), .val (.int v3_2), .val (.ref z_MVCC), .val (.int (1 : Int32)), .unset, .unset] [(.ref l_MVCC)])
  have wS107 : ∀ d ∈ Bundle.stringAtoms, d.before a0 Z = true := fun d hd => hw d ((by decide +kernel : ∀ d ∈ Bundle.stringAtoms, d ∈ tables_1) d hd)
  have ht107 : (∀ c ∈ ("locking" : String).toList, c.toNat < 256) ∧ ("locking" : String).toList.map (fun c => Value.int (Jvm.Lit.byteI c.toNat.toUInt16)) = [(.int (108 : Int32)), (.int (111 : Int32)), (.int (99 : Int32)), (.int (107 : Int32)), (.int (105 : Int32)), (.int (110 : Int32)), (.int (103 : Int32))] := by first | (decide +kernel) | (refine ⟨by decide, ?_⟩; rfl) | (simp [Jvm.Lit.byteI])
  obtain ⟨a107, T107, h107, k107, b107, kc107, X107, e107, E107, hS107, hk107, hZ, hown, q107a, q107b, q107c, q107d, lt107a, lt107b, I107, st107⟩ := ldcSV Xx106 hx hZ hown (hw _ (List.mem_of_getElem? (i := 32) rfl)) wS107 eh104 hS78 hk78 (by rw [hh, ← hn0]; exact Nx106) hkp I78 (by first | decide | (decide +kernel) | simp) hd28 hcw ht107 (z := (7 : Int32)) (by decide) (by decide) (g := (mkF m 40 #[.val (.int i1), .val (.int v3_2), .val (.ref z_MVCC), .val (.int (1 : Int32)), .unset, .unset] [(.ref l_MVCC)])) rfl (hb hby at_40) (n := 28) (by first | decide | (decide +kernel) | simp) (by decide) (by decide) (by decide)
  have q108 := q79.ext E107
  have q109 := q80.ext E107
  have q110 := q81.ext E107
  have q111 := q82.ext E107
  have q112 := q83.ext E107
  have q113 := q84.ext E107
  have q114 := q85.ext E107
  have q115 := q86.ext E107
  have q116 := q87.ext E107
  have q117 := q88.ext E107
  have q118 := q89.ext E107
  have q119 := q90.ext E107
  have q120 := q91.ext E107
  have q121 := q92.ext E107
  have q122 := q93.ext E107
  have Z123 : n0 ≤ h107.size := Nat.le_trans Z94 E107.1
  replace X107 := own_cs X107 (c' := 4) (s' := 52) (by decide) (by decide)
  refine Go.of st107 ?_
  show Go p e below Qo T107 (mkF m 42 #[.val (.int i1), .val (.int v3_2), .val (.ref z_MVCC), .val (.int (1 : Int32)), .unset, .unset] [(.ref a107), (.ref l_MVCC)])
  have ne124 : l_MVCC ≠ a107 := own_strNe q113 q107c q114 q107d (by decide)
  obtain ⟨ciq126, kiq126, iq126a, iq126b, iq126c⟩ := isOf hZ e107 q110
  obtain ⟨_, _, ⟨T125, L125, k125, n125⟩, -, X125, ⟨Lc125, hQ125, l125, y125, z125⟩, st125⟩ := X107.virtualBack hx (y := (⟨"java/lang/String", "equals", "(Ljava/lang/Object;)Z"⟩ : MethodName)) (z := (⟨"java/lang/String", "equals", "(Ljava/lang/Object;)Z"⟩ : MethodName)) hown (mvT hZ (hw _ (List.mem_of_getElem? (i := 18) rfl))) (mvT hZ (hw _ (List.mem_of_getElem? (i := 19) rfl))) (notFace_of_selects (args := #[]) (mvT hZ (hw _ (List.mem_of_getElem? (i := 21) rfl)))) (mvT hZ (hw _ (List.mem_of_getElem? (i := 21) rfl))) (mvT hZ (hw _ (List.mem_of_getElem? (i := 20) rfl))) (by decide) (backOf (W := 0) (rm32 l Z a0 hw [] l_MVCC a107 zc b_MVCC k_MVCC b107 kc107 h107 n0 Z123 q122 q110 q112 q113 q114 q107a q107b q107c q107d ne124 (hz)) hZ (hw _ (List.mem_of_getElem? (i := 22) rfl)) (hw _ (List.mem_of_getElem? (i := 11) rfl)) (by decide) (by decide)) iq126a iq126c (g := (mkF m 42 #[.val (.int i1), .val (.int v3_2), .val (.ref z_MVCC), .val (.int (1 : Int32)), .unset, .unset] [(.ref a107), (.ref l_MVCC)])) rfl (by rw [hml]; rfl) (Steps.refl _) (argsL := [(.ref a107)]) (rest := []) (lenOf pd_2 rfl) rfl (by show 2 * 0 + _ ≤ _; exact Nat.le_of_eq rfl) (hb hby at_42) (fun _ _ => ⟨rfl, e107, (by decide : 4 + 0 ≤ _), (by decide : 52 + 0 ≤ _)⟩)
  dsimp only [Pt.U, Pt.locs, Pt.cells, Pt.slots] at X125 l125 y125 z125 st125 hQ125
  subst l125 y125 z125
  replace X125 := own_cs X125 (c' := 4) (s' := 52) (by decide) (by decide)
  obtain ⟨rfl, N127, eh128⟩ := hQ125
  have N129 := Fr.app Nx106 N127
  refine Go.via st125 ?_
  obtain ⟨Lx130, Xx130, Nx130⟩ := own_locs X125 N129
  show Go p e below Qo T125 (mkF m 45 #[.val (.int i1), .val (.int v3_2), .val (.ref z_MVCC), .val (.int (1 : Int32)), .unset, .unset] [(.int (0 : Int32))])
  refine Go.of (fun t k => XS.istore Xx130.here hx rfl (hb hby at_45) rfl (l' := #[.val (.int i1), .val (.int v3_2), .val (.ref z_MVCC), .val (.int (1 : Int32)), .val (.int (0 : Int32)), .unset]) rfl k) ?_
  show Go p e below Qo T125 (mkF m 47 #[.val (.int i1), .val (.int v3_2), .val (.ref z_MVCC), .val (.int (1 : Int32)), .val (.int (0 : Int32)), .unset] [])
  refine Go.of (fun t k => XS.iloadN Xx130.here hx rfl (hb hby at_47) rfl  k) ?_
  show Go p e below Qo T125 (mkF m 48 #[.val (.int i1), .val (.int v3_2), .val (.ref z_MVCC), .val (.int (1 : Int32)), .val (.int (0 : Int32)), .unset] [(.int (1 : Int32))])
  refine Go.of (fun t k => XS.iload Xx130.here hx rfl (hb hby at_48) rfl  k) ?_
  show Go p e below Qo T125 (mkF m 50 #[.val (.int i1), .val (.int v3_2), .val (.ref z_MVCC), .val (.int (1 : Int32)), .val (.int (0 : Int32)), .unset] [(.int (0 : Int32)), (.int (1 : Int32))])
  refine Go.of (fun t k => XS.icmpYes Xx130.here hx rfl (pc0 := 50) (pc' := 55) rfl (hb hby at_50) rfl (feq (by decide : ¬ ((1 : Int32) = (0 : Int32)))).2 (by decide) (by decide) k) ?_
  show Go p e below Qo T125 (mkF m 55 #[.val (.int i1), .val (.int v3_2), .val (.ref z_MVCC), .val (.int (1 : Int32)), .val (.int (0 : Int32)), .unset] [])
  refine Go.of (fun t k => XS.iloadN Xx130.here hx rfl (hb hby at_55) rfl  k) ?_
  show Go p e below Qo T125 (mkF m 56 #[.val (.int i1), .val (.int v3_2), .val (.ref z_MVCC), .val (.int (1 : Int32)), .val (.int (0 : Int32)), .unset] [(.int (1 : Int32))])
  refine Go.of (fun t k => XS.istore Xx130.here hx rfl (hb hby at_56) rfl (l' := #[.val (.int i1), .val (.int v3_2), .val (.ref z_MVCC), .val (.int (1 : Int32)), .val (.int (0 : Int32)), .val (.int (1 : Int32))]) rfl k) ?_
  show Go p e below Qo T125 (mkF m 58 #[.val (.int i1), .val (.int v3_2), .val (.ref z_MVCC), .val (.int (1 : Int32)), .val (.int (0 : Int32)), .val (.int (1 : Int32))] [])
  refine Go.of (fun t k => XS.aloadN Xx130.here hx rfl (hb hby at_58) rfl rfl k) ?_
  show Go p e below Qo T125 (mkF m 59 #[.val (.int i1), .val (.int v3_2), .val (.ref z_MVCC), .val (.int (1 : Int32)), .val (.int (0 : Int32)), .val (.int (1 : Int32))] [(.ref z_MVCC)])
  obtain ⟨ciq132, kiq132, iq132a, iq132b, iq132c⟩ := isOf hZ eh128 q109
  obtain ⟨_, _, ⟨T131, L131, k131, n131⟩, -, X131, ⟨Lc131, hQ131, l131, y131, z131⟩, st131⟩ := Xx130.virtualBack hx (y := (⟨"com/example/interleave/interleave/Protocol", "checksCommitsForCycles", "()Z"⟩ : MethodName)) (z := (⟨"com/example/interleave/interleave/Protocol", "checksCommitsForCycles", "()Z"⟩ : MethodName)) hown (mvT hZ (hw _ (List.mem_of_getElem? (i := 33) rfl))) (mvT hZ (hw _ (List.mem_of_getElem? (i := 34) rfl))) (notFace_of_selects (args := #[]) (mvT hZ (hw _ (List.mem_of_getElem? (i := 36) rfl)))) (mvT hZ (hw _ (List.mem_of_getElem? (i := 36) rfl))) (mvT hZ (hw _ (List.mem_of_getElem? (i := 35) rfl))) (by decide) (backOf (W := 0) (rm42 l Z a0 hw [] z_MVCC h107 n0 Z123 q108) hZ (hw _ (List.mem_of_getElem? (i := 37) rfl)) (hw _ (List.mem_of_getElem? (i := 1) rfl)) (by decide) (by decide)) iq132a iq132c (g := (mkF m 59 #[.val (.int i1), .val (.int v3_2), .val (.ref z_MVCC), .val (.int (1 : Int32)), .val (.int (0 : Int32)), .val (.int (1 : Int32))] [(.ref z_MVCC)])) rfl (by rw [hml]; rfl) (Steps.refl _) (argsL := []) (rest := []) (lenOf pd_3 rfl) rfl (by show 2 * 0 + _ ≤ _; exact Nat.le_of_eq rfl) (hb hby at_59) (fun _ _ => ⟨rfl, eh128, (by decide : 4 + 0 ≤ _), (by decide : 52 + 0 ≤ _)⟩)
  dsimp only [Pt.U, Pt.locs, Pt.cells, Pt.slots] at X131 l131 y131 z131 st131 hQ131
  subst l131 y131 z131
  replace X131 := own_cs X131 (c' := 4) (s' := 52) (by decide) (by decide)
  obtain ⟨rfl, N133, eh134⟩ := hQ131
  have N135 := Fr.app Nx130 N133
  refine Go.via st131 ?_
  obtain ⟨Lx136, Xx136, Nx136⟩ := own_locs X131 N135
  show Go p e below Qo T131 (mkF m 62 #[.val (.int i1), .val (.int v3_2), .val (.ref z_MVCC), .val (.int (1 : Int32)), .val (.int (0 : Int32)), .val (.int (1 : Int32))] [(.int (1 : Int32))])
  refine Go.of (fun t k => XS.iload Xx136.here hx rfl (hb hby at_62) rfl  k) ?_
  show Go p e below Qo T131 (mkF m 64 #[.val (.int i1), .val (.int v3_2), .val (.ref z_MVCC), .val (.int (1 : Int32)), .val (.int (0 : Int32)), .val (.int (1 : Int32))] [(.int (1 : Int32)), (.int (1 : Int32))])
  refine Go.of (fun t k => XS.icmpNo Xx136.here hx rfl (hb hby at_64) rfl (teq (by decide : (1 : Int32) = (1 : Int32))).2 k) ?_
  show Go p e below Qo T131 (mkF m 67 #[.val (.int i1), .val (.int v3_2), .val (.ref z_MVCC), .val (.int (1 : Int32)), .val (.int (0 : Int32)), .val (.int (1 : Int32))] [])
  refine Go.of (fun t k => XS.iconst Xx136.here hx rfl (hb hby at_67) k) ?_
  show Go p e below Qo T131 (mkF m 68 #[.val (.int i1), .val (.int v3_2), .val (.ref z_MVCC), .val (.int (1 : Int32)), .val (.int (0 : Int32)), .val (.int (1 : Int32))] [(.int (1 : Int32))])
  refine Go.of (fun t k => XS.goto Xx136.here hx rfl (pc0 := 68) (pc' := 72) rfl (hb hby at_68) (by decide) (by decide) k) ?_
  show Go p e below Qo T131 (mkF m 72 #[.val (.int i1), .val (.int v3_2), .val (.ref z_MVCC), .val (.int (1 : Int32)), .val (.int (0 : Int32)), .val (.int (1 : Int32))] [(.int (1 : Int32))])
  exact own_retNW Xx136 hS107 (by rw [eh134]; exact hk107) hx Bd.notSynchronized (t := .boolean) Bd.returns (by simp) (hb hby at_72) (fun u hu hF => hQo _ _ _ ⟨rfl, Nx136⟩ (own_monoW hF (by decide) (by decide)))
set_option maxRecDepth 65536 in
set_option maxHeartbeats 40000000 in
theorem comes_1 {Post : Tables → Env → Array Value → State → Outcome → State → Prop} (hpost : ∀ tb e args s v u, (limb_1_1.after args s (.returned v) u = true ∧ limb_1_2.after args s (.returned v) u = true ∧ True) → FramedW s (.returned v) u (Jvm.fieldLocs frame_1_writes args s ++ Jvm.arrayLocs frame_1_arrays args s ++ Jvm.staticLocs frame_1_statics s) 8 2112 → Post tb e args s (.returned v) u) :
    ArmFor flags0 classFile x code maxLocals ret World_1 tables_1 room_1 Calls_1 rest_1 Pre_1 Post := by
  intro l hfl _ _ p e ha hc hk s m args below hf hA hF happ hP
  obtain ⟨hcalls, hrest, hpre⟩ := hP
  obtain ⟨-, -, -, hnamed, -, -, -, hat⟩ := (Spec.applies_iff hf).mp happ
  obtain ⟨hg, hn⟩ := and_e (Cond.before_iff.mp (show (Jvm.Cond.and given_1 narrow_1).before args s = true from hpre))
  obtain ⟨hg0, hgr0⟩ := and_e hg
  obtain ⟨w0, rfl⟩ : ∃ w0 : Value, args = #[w0] := by
    have hs : args.size = 1 := by simpa [Cond.value, given_1] using hg0
    obtain ⟨L⟩ := args
    match L, hs with
    | [w0], _ => exact ⟨w0, rfl⟩
  have hw := fun d (hd : d ∈ tables_1) => atoms_spec (ws := Jvm.Cond.code x code maxLocals ret :: tables_1) hat d (List.mem_cons_of_mem _ hd)
  have hfit : Fit s := fun {y c} hc i hi => by
    obtain ⟨ha, rfl⟩ := Array.getElem?_eq_some_iff.mp hc
    have q := List.all_eq_true.mp ((Array.all_eq_true_iff_forall_mem.mp hF) _ (Array.getElem_mem ha)) i (List.mem_range.mpr hi)
    simpa [Array.getElem?_eq_getElem hi] using q
  obtain ⟨hsets, hown0⟩ := atoms_of _ (rest_1_c_eq ▸ (show rest_1_c.before _ s = true from hrest))
  obtain ⟨i0, ei0⟩ := is_v hgr0
  obtain rfl : w0 = (.int i0) := Option.some.inj ei0
  obtain ⟨hs0, hr0⟩ := and_e hn
  obtain ⟨hs1, hr1⟩ := and_e hr0
  obtain ⟨hs2, hr2⟩ := and_e hr1
  obtain ⟨hs3, hr3⟩ := and_e hr2
  obtain ⟨hs4, hr4⟩ := and_e hr3
  obtain ⟨hs5, hr5⟩ := and_e hr4
  obtain ⟨hs6, hr6⟩ := and_e hr5
  obtain ⟨hs7, hr7⟩ := and_e hr6
  obtain ⟨hs8, hr8⟩ := and_e hr7
  obtain ⟨hs9, hr9⟩ := and_e hr8
  obtain ⟨hs10, hr10⟩ := and_e hr9
  obtain ⟨hs11, hr11⟩ := and_e hr10
  obtain ⟨hs12, hr12⟩ := and_e hr11
  obtain ⟨hs13, hr13⟩ := and_e hr12
  obtain ⟨hs14, hr14⟩ := and_e hr13
  obtain ⟨hs15, hr15⟩ := and_e hr14
  obtain ⟨hs16, hr16⟩ := and_e hr15
  obtain ⟨hs17, hr17⟩ := and_e hr16
  obtain ⟨hs18, hr18⟩ := and_e hr17
  obtain ⟨hs19, hr19⟩ := and_e hr18
  obtain ⟨hs20, hr20⟩ := and_e hr19
  obtain ⟨hs21, hr21⟩ := and_e hr20
  obtain ⟨z_MVCC, ev_MVCC⟩ := exa_v hs0
  have S_MVCC : Sta s s.heap "com/example/interleave/interleave/Protocol" "MVCC" "Lcom/example/interleave/interleave/Protocol;" (.ref z_MVCC) := Sta.start ev_MVCC (Or.inr ⟨(hw _ (List.mem_of_getElem? (i := 1) rfl)), (hw _ (List.mem_of_getElem? (i := 2) rfl))⟩)
  have E_MVCC := Exa.start ev_MVCC hs0
  obtain ⟨l_MVCC, el_MVCC⟩ := exa_v hs1
  have G_MVCC := Exa.start el_MVCC hs1
  have L_MVCC : Fld s s.heap z_MVCC "com/example/interleave/interleave/Protocol" "label" "Ljava/lang/String;" (.ref l_MVCC) := Fld.start ((fld_at ev_MVCC).symm.trans el_MVCC)
  have C_MVCC : Fld s s.heap l_MVCC "java/lang/String" "coder" "B" (.int (0 : Int32)) := Fld.start ((fld_at el_MVCC).symm.trans (own_eqI hs2))
  obtain ⟨b_MVCC, eb_MVCC⟩ := arr_v hs3
  have V_MVCC : Fld s s.heap l_MVCC "java/lang/String" "value" "[B" (.ref b_MVCC) := Fld.start ((fld_at el_MVCC).symm.trans eb_MVCC)
  obtain ⟨cl_MVCC, A_MVCC⟩ := Arr.start eb_MVCC hs3
  obtain ⟨qa_MVCC, qb_MVCC⟩ := IntBox.length_fwd (Cond.before_iff.mpr hs4) eb_MVCC A_MVCC.1 A_MVCC.2.1 A_MVCC.2.2
  have w0_MVCC : cl_MVCC.slots[0]? = some (.int (109 : Int32)) := (elem_in (own_eqI hs5) eb_MVCC (Term.int_eval _) A_MVCC.1).2
  have w1_MVCC : cl_MVCC.slots[1]? = some (.int (118 : Int32)) := (elem_in (own_eqI hs6) eb_MVCC (Term.int_eval _) A_MVCC.1).2
  have w2_MVCC : cl_MVCC.slots[2]? = some (.int (99 : Int32)) := (elem_in (own_eqI hs7) eb_MVCC (Term.int_eval _) A_MVCC.1).2
  have w3_MVCC : cl_MVCC.slots[3]? = some (.int (99 : Int32)) := (elem_in (own_eqI hs8) eb_MVCC (Term.int_eval _) A_MVCC.1).2
  have U_MVCC : Arv s s.heap b_MVCC cl_MVCC.cls .byte (4 : Int32) [(.int (109 : Int32)), (.int (118 : Int32)), (.int (99 : Int32)), (.int (99 : Int32))] (.int 0) := Arv.start hfit A_MVCC qa_MVCC qb_MVCC (by decide) (by decide) ⟨w0_MVCC, w1_MVCC, w2_MVCC, w3_MVCC, trivial⟩
  obtain ⟨z_LOCKING, ev_LOCKING⟩ := exa_v hs9
  have S_LOCKING : Sta s s.heap "com/example/interleave/interleave/Protocol" "LOCKING" "Lcom/example/interleave/interleave/Protocol;" (.ref z_LOCKING) := Sta.start ev_LOCKING (Or.inr ⟨(hw _ (List.mem_of_getElem? (i := 1) rfl)), (hw _ (List.mem_of_getElem? (i := 40) rfl))⟩)
  have E_LOCKING := Exa.start ev_LOCKING hs9
  obtain ⟨l_LOCKING, el_LOCKING⟩ := exa_v hs10
  have G_LOCKING := Exa.start el_LOCKING hs10
  have L_LOCKING : Fld s s.heap z_LOCKING "com/example/interleave/interleave/Protocol" "label" "Ljava/lang/String;" (.ref l_LOCKING) := Fld.start ((fld_at ev_LOCKING).symm.trans el_LOCKING)
  have C_LOCKING : Fld s s.heap l_LOCKING "java/lang/String" "coder" "B" (.int (0 : Int32)) := Fld.start ((fld_at el_LOCKING).symm.trans (own_eqI hs11))
  obtain ⟨b_LOCKING, eb_LOCKING⟩ := arr_v hs12
  have V_LOCKING : Fld s s.heap l_LOCKING "java/lang/String" "value" "[B" (.ref b_LOCKING) := Fld.start ((fld_at el_LOCKING).symm.trans eb_LOCKING)
  obtain ⟨cl_LOCKING, A_LOCKING⟩ := Arr.start eb_LOCKING hs12
  obtain ⟨qa_LOCKING, qb_LOCKING⟩ := IntBox.length_fwd (Cond.before_iff.mpr hs13) eb_LOCKING A_LOCKING.1 A_LOCKING.2.1 A_LOCKING.2.2
  have w0_LOCKING : cl_LOCKING.slots[0]? = some (.int (108 : Int32)) := (elem_in (own_eqI hs16) eb_LOCKING (Term.int_eval _) A_LOCKING.1).2
  have w1_LOCKING : cl_LOCKING.slots[1]? = some (.int (111 : Int32)) := (elem_in (own_eqI hs17) eb_LOCKING (Term.int_eval _) A_LOCKING.1).2
  have w2_LOCKING : cl_LOCKING.slots[2]? = some (.int (99 : Int32)) := (elem_in (own_eqI hs18) eb_LOCKING (Term.int_eval _) A_LOCKING.1).2
  have w3_LOCKING : cl_LOCKING.slots[3]? = some (.int (107 : Int32)) := (elem_in (own_eqI hs19) eb_LOCKING (Term.int_eval _) A_LOCKING.1).2
  have w4_LOCKING : cl_LOCKING.slots[4]? = some (.int (105 : Int32)) := (elem_in (own_eqI hs20) eb_LOCKING (Term.int_eval _) A_LOCKING.1).2
  have w5_LOCKING : cl_LOCKING.slots[5]? = some (.int (110 : Int32)) := (elem_in (own_eqI hs21) eb_LOCKING (Term.int_eval _) A_LOCKING.1).2
  have w6_LOCKING : cl_LOCKING.slots[6]? = some (.int (103 : Int32)) := (elem_in (own_eqI hr21) eb_LOCKING (Term.int_eval _) A_LOCKING.1).2
  have U_LOCKING : Arv s s.heap b_LOCKING cl_LOCKING.cls .byte (7 : Int32) [(.int (108 : Int32)), (.int (111 : Int32)), (.int (99 : Int32)), (.int (107 : Int32)), (.int (105 : Int32)), (.int (110 : Int32)), (.int (103 : Int32))] (.int 0) := Arv.start hfit A_LOCKING qa_LOCKING qb_LOCKING (by decide) (by decide) ⟨w0_LOCKING, w1_LOCKING, w2_LOCKING, w3_LOCKING, w4_LOCKING, w5_LOCKING, w6_LOCKING, trivial⟩
  obtain ⟨zc, evz⟩ := is_v (Cond.before_iff.mp (hsets _ (List.mem_of_getElem? (i := 1) rfl)))
  have Sz : Sta s s.heap "java/lang/String" "COMPACT_STRINGS" "Z" (.int zc) := Sta.start evz (Or.inl (hsets _ (List.mem_of_getElem? (i := 0) rfl)))
  have hz : ¬ zc = 0 := own_neI evz (hsets _ (List.mem_of_getElem? (i := 2) rfl))
  have hneL : l_MVCC ≠ l_LOCKING := own_strNe V_MVCC V_LOCKING U_MVCC U_LOCKING (by decide)
  have hneZ : z_MVCC ≠ z_LOCKING := Fld.ne L_MVCC L_LOCKING fun q => hneL (Value.ref.inj q)
  have hd20 : Jvm.Lit.constHeld s "com/example/interleave/interleave/ProtocolChecksCommitsForCyclesPinLaw" 20 := hcalls.1 ("com/example/interleave/interleave/ProtocolChecksCommitsForCyclesPinLaw", 20) (List.mem_of_getElem? (i := 0) rfl)
  have hd28 : Jvm.Lit.constHeld s "com/example/interleave/interleave/ProtocolChecksCommitsForCyclesPinLaw" 28 := hcalls.1 ("com/example/interleave/interleave/ProtocolChecksCommitsForCyclesPinLaw", 28) (List.mem_of_getElem? (i := 1) rfl)
  have hcw : Jvm.Lit.compactW.before #[.int i0] s = true := (hsets _ (List.mem_of_getElem? (i := 2) rfl))
  obtain ⟨n, o, h1, h2, h3, _, L, rfl, ⟨rfl, N⟩, hq⟩ := rm0 l s _ hw tables_1 i0 z_MVCC l_MVCC b_MVCC cl_MVCC.cls z_LOCKING l_LOCKING b_LOCKING cl_LOCKING.cls zc s.heap s.heap.size (Nat.le_refl _) S_MVCC E_MVCC G_MVCC L_MVCC C_MVCC V_MVCC U_MVCC S_LOCKING E_LOCKING G_LOCKING L_LOCKING C_LOCKING V_LOCKING U_LOCKING Sz hneZ hz rfl hd20 hd28 hcw p e ha hc hk s m _ below hf ((Spec.applies_iff_loose hf).mp happ).1 ⟨rfl, State.Warmed39.refl s, rfl, rfl⟩ trivial
  refine ⟨n, _, h1, h2, h3, hpost _ _ _ _ _ _ ⟨Cond.after_iff.mpr rfl, Cond.after_iff.mpr (eq_i res_at (Term.int_eval (1)) rfl), trivial⟩ ⟨hq.1, hq.2.1, hq.2.2.1, (hq.2.2.2.sift fun y hy => Or.inr (N y hy)).mono (by decide) (by decide)⟩⟩
theorem main_1_1 : Claimed_1_1 := comes_1 fun _ _ _ _ _ _ h hF => ⟨h.1, hF⟩
theorem main_1_2 : Claimed_1_2 := comes_1 fun _ _ _ _ _ _ h hF => ⟨h.2.1, hF⟩
end Jvm.Pilot.@@N@@
namespace Jvm.Pilot.@@N@@
open Jvm Jvm.ClassFile Sem Op Lib Jvm.Free Jvm.Stand Jvm.Pilot.@@N@@.Jvm.D
/-! MADE BY PROGRAM (witnessworld.py) out of the Statement's table words and the real class files: 18 classes; the members and pool entries that the words name. The judged class is class 1, her method 1. -/
namespace start1
open Jvm.ClassFile
def u (s : String) : CpInfo := .utf8 (stringToUtf16 s)
/-- a pool by its gaps: so many unusable entries, then the entry; so many at the end -/
def gap : Nat → List CpInfo → List CpInfo
  | 0, r => r
  | n + 1, r => .unusable :: gap n r
def poolList (es : List (Nat × CpInfo)) (last : Nat) : List CpInfo := es.foldr (fun e r => gap e.1 (e.2 :: r)) (gap last [])
def pool (es : List (Nat × CpInfo)) (last : Nat) : Array CpInfo := ⟨poolList es last⟩
def fileOf (pool : Array CpInfo) (this : Nat) (attrs : Array Attribute := #[]) (ms : Array MethodInfo := #[]) (fl : Nat := 33) (sup : Nat := 0) (ifs : Array Nat := #[]) (fds : Array FieldInfo := #[]) : ClassFile where
  minorVersion := 0
  majorVersion := 65
  constantPool := pool
  accessFlags := fl
  thisClass := this
  superClass := sup
  interfaces := ifs
  fields := fds
  methods := ms
  attributes := attrs
def plain (name : String) (sup : Option ClassId) : Class where
  name := name
  kind := .ordinary
  loader := none
  accessFlags := 33
  super := sup
  interfaces := #[]
  cf := none
  fields := #[]
  methods := #[]
  instanceTypes := #[]
  staticTypes := #[]
  resolved := #[]
  callSites := []
  init := .initialized
  statics := none
  mirror := none

def pool0 : Array CpInfo := pool [(5, u "<init>"), (0, u "()V"), (1, .class_ 10), (1, u "java/lang/Object")] 113

def k0m0 : Method := { name := "<init>", desc := "()V", sig := { parameters := [], returnType := none }, accessFlags := 1, code := none }
/-- java/lang/Object -/
def k0 : Class := { plain "java/lang/Object" none with
  accessFlags := 33
  interfaces := #[]
  cf := some (fileOf pool0 8 #[] #[{ accessFlags := 1, nameIndex := 5, descriptorIndex := 6, attributes := #[] }] 33 0 #[] #[])
  fields := #[]
  methods := #[k0m0]
  instanceTypes := #[]
  staticTypes := #[]
  resolved := Array.replicate 124 none
  statics := none }

def pool1 : Array CpInfo := pool [(2, .class_ 4), (1, u "java/lang/Object"), (0, u "<init>"), (0, u "()V"), (0, .fieldref 8 9), (0, .class_ 10), (0, .nameAndType 11 12), (0, u "com/example/interleave/interleave/Protocol"), (0, u "MVCC"), (0, u "Lcom/example/interleave/interleave/Protocol;"), (0, .fieldref 8 14), (0, .nameAndType 15 12), (0, u "LOCKING"), (0, .methodref 8 17), (0, .nameAndType 18 19), (0, u "label"), (0, u "()Ljava/lang/String;"), (0, .string 21), (0, u "mvcc"), (0, .methodref 23 24), (0, .class_ 25), (0, .nameAndType 26 27), (0, u "java/lang/String"), (0, u "equals"), (0, u "(Ljava/lang/Object;)Z"), (0, .string 29), (0, u "locking"), (0, .methodref 8 31), (0, .nameAndType 32 33), (0, u "checksCommitsForCycles"), (0, u "()Z"), (0, .class_ 35), (0, u "com/example/interleave/interleave/ProtocolChecksCommitsForCyclesPinLaw"), (2, u "law"), (0, u "(I)Z")] 3

def k1m0 : Method := { name := "<init>", desc := "()V", sig := { parameters := [], returnType := none }, accessFlags := 2, code := none }
def k1c1 : Code := { maxStack := 2, maxLocals := 6, code := code, exceptionTable := #[], attributes := #[] }
def k1m1 : Method := { name := "law", desc := "(I)Z", sig := { parameters := [.int], returnType := some .boolean }, accessFlags := 9, code := some k1c1 }
/-- com/example/interleave/interleave/ProtocolChecksCommitsForCyclesPinLaw -/
def k1 : Class := { plain "com/example/interleave/interleave/ProtocolChecksCommitsForCyclesPinLaw" (some 0) with
  accessFlags := 49
  interfaces := #[]
  cf := some (fileOf pool1 34 #[] #[{ accessFlags := 2, nameIndex := 5, descriptorIndex := 6, attributes := #[] }, { accessFlags := 9, nameIndex := 38, descriptorIndex := 39, attributes := #[] }] 49 2 #[] #[])
  fields := #[]
  methods := #[k1m0, k1m1]
  instanceTypes := #[]
  staticTypes := #[]
  resolved := Array.replicate 43 none
  statics := none }

def pool2 : Array CpInfo := pool [(1, .class_ 2), (0, u "java/lang/constant/Constable"), (0, .class_ 4), (0, u "java/lang/Object")] 6

/-- java/lang/constant/Constable -/
def k2 : Class := { plain "java/lang/constant/Constable" (some 0) with
  accessFlags := 1537
  interfaces := #[]
  cf := some (fileOf pool2 1 #[] #[] 1537 3 #[] #[])
  fields := #[]
  methods := #[]
  instanceTypes := #[]
  staticTypes := #[]
  resolved := Array.replicate 11 none
  statics := none }

def pool3 : Array CpInfo := pool [(1, .class_ 2), (0, u "java/lang/Comparable"), (0, .class_ 4), (0, u "java/lang/Object")] 7

/-- java/lang/Comparable -/
def k3 : Class := { plain "java/lang/Comparable" (some 0) with
  accessFlags := 1537
  interfaces := #[]
  cf := some (fileOf pool3 1 #[] #[] 1537 3 #[] #[])
  fields := #[]
  methods := #[]
  instanceTypes := #[]
  staticTypes := #[]
  resolved := Array.replicate 12 none
  statics := none }

def pool4 : Array CpInfo := pool [(1, .class_ 2), (0, u "java/io/Serializable"), (0, .class_ 4), (0, u "java/lang/Object")] 2

/-- java/io/Serializable -/
def k4 : Class := { plain "java/io/Serializable" (some 0) with
  accessFlags := 1537
  interfaces := #[]
  cf := some (fileOf pool4 1 #[] #[] 1537 3 #[] #[])
  fields := #[]
  methods := #[]
  instanceTypes := #[]
  staticTypes := #[]
  resolved := Array.replicate 7 none
  statics := none }

def pool5 : Array CpInfo := pool [(2, .class_ 4), (1, u "java/lang/Enum"), (0, u "name"), (0, u "Ljava/lang/String;"), (2, u "ordinal"), (0, u "I"), (1, .class_ 14), (1, u "java/lang/Object"), (4, u "hash"), (86, .class_ 108), (1, u "java/lang/Enum$EnumDesc"), (2, .class_ 112), (0, u "java/lang/constant/Constable"), (0, .class_ 114), (0, u "java/lang/Comparable"), (0, .class_ 116), (0, u "java/io/Serializable")] 87

/-- java/lang/Enum -/
def k5 : Class := { plain "java/lang/Enum" (some 0) with
  accessFlags := 1057
  interfaces := #[2, 3, 4]
  cf := some (fileOf pool5 2 #[.nestMembers #[106]] #[] 1057 12 #[111, 113, 115] #[{ accessFlags := 18, nameIndex := 5, descriptorIndex := 6, attributes := #[] }, { accessFlags := 18, nameIndex := 9, descriptorIndex := 10, attributes := #[] }, { accessFlags := 2, nameIndex := 19, descriptorIndex := 10, attributes := #[] }])
  fields := #[{ name := "name", type := (.object "java/lang/String"), accessFlags := 18, slot := 0, constantValue := 0 }, { name := "ordinal", type := .int, accessFlags := 18, slot := 1, constantValue := 0 }, { name := "hash", type := .int, accessFlags := 2, slot := 2, constantValue := 0 }]
  methods := #[]
  instanceTypes := #[(.object "java/lang/String"), .int, .int]
  staticTypes := #[]
  resolved := Array.replicate 204 none
  statics := none }

def pool6 : Array CpInfo := pool [(1, .class_ 2), (0, u "com/example/interleave/interleave/Protocol"), (0, .fieldref 1 4), (0, .nameAndType 5 6), (0, u "MVCC"), (0, u "Lcom/example/interleave/interleave/Protocol;"), (2, u "LOCKING"), (2, u "$VALUES"), (0, u "[Lcom/example/interleave/interleave/Protocol;"), (6, .class_ 22), (1, u "java/lang/Enum"), (6, .fieldref 1 30), (0, .nameAndType 31 32), (0, u "label"), (0, u "Ljava/lang/String;"), (51, u "DEFAULT"), (5, u "()Ljava/lang/String;"), (2, u "checksCommitsForCycles"), (0, u "()Z")] 29

def k6c0 : Code := { maxStack := 1, maxLocals := 1, code := prog_31_method_4_code, exceptionTable := #[], attributes := #[] }
def k6m0 : Method := { name := "label", desc := "()Ljava/lang/String;", sig := { parameters := [], returnType := some (.object "java/lang/String") }, accessFlags := 1, code := some k6c0 }
def k6c1 : Code := { maxStack := 2, maxLocals := 1, code := prog_31_method_7_code, exceptionTable := #[], attributes := #[] }
def k6m1 : Method := { name := "checksCommitsForCycles", desc := "()Z", sig := { parameters := [], returnType := some .boolean }, accessFlags := 0, code := some k6c1 }
/-- com/example/interleave/interleave/Protocol -/
def k6 : Class := { plain "com/example/interleave/interleave/Protocol" (some 5) with
  accessFlags := 16433
  interfaces := #[]
  cf := some (fileOf pool6 1 #[] #[{ accessFlags := 1, nameIndex := 31, descriptorIndex := 90, attributes := #[] }, { accessFlags := 0, nameIndex := 93, descriptorIndex := 94, attributes := #[] }] 16433 20 #[] #[{ accessFlags := 16409, nameIndex := 5, descriptorIndex := 6, attributes := #[] }, { accessFlags := 16409, nameIndex := 9, descriptorIndex := 6, attributes := #[] }, { accessFlags := 25, nameIndex := 84, descriptorIndex := 6, attributes := #[] }, { accessFlags := 18, nameIndex := 31, descriptorIndex := 32, attributes := #[] }, { accessFlags := 4122, nameIndex := 12, descriptorIndex := 13, attributes := #[] }])
  fields := #[{ name := "MVCC", type := (.object "com/example/interleave/interleave/Protocol"), accessFlags := 16409, slot := 0, constantValue := 0 }, { name := "LOCKING", type := (.object "com/example/interleave/interleave/Protocol"), accessFlags := 16409, slot := 1, constantValue := 0 }, { name := "DEFAULT", type := (.object "com/example/interleave/interleave/Protocol"), accessFlags := 25, slot := 2, constantValue := 0 }, { name := "label", type := (.object "java/lang/String"), accessFlags := 18, slot := 3, constantValue := 0 }, { name := "$VALUES", type := (.array (.object "com/example/interleave/interleave/Protocol")), accessFlags := 4122, slot := 3, constantValue := 0 }]
  methods := #[k6m0, k6m1]
  instanceTypes := #[(.object "java/lang/String"), .int, .int, (.object "java/lang/String")]
  staticTypes := #[(.object "com/example/interleave/interleave/Protocol"), (.object "com/example/interleave/interleave/Protocol"), (.object "com/example/interleave/interleave/Protocol"), (.array (.object "com/example/interleave/interleave/Protocol"))]
  resolved := Array.replicate 124 none
  statics := some 0 }

def pool7 : Array CpInfo := pool [(2, .class_ 4), (1, u "java/lang/CharSequence"), (42, .class_ 48), (0, u "java/lang/CharSequence$1CodePointIterator"), (10, .class_ 60), (0, u "java/lang/CharSequence$1CharIterator"), (5, .class_ 67), (0, u "java/lang/Object")] 63

/-- java/lang/CharSequence -/
def k7 : Class := { plain "java/lang/CharSequence" (some 0) with
  accessFlags := 1537
  interfaces := #[]
  cf := some (fileOf pool7 2 #[.nestMembers #[47, 59]] #[] 1537 66 #[] #[])
  fields := #[]
  methods := #[]
  instanceTypes := #[]
  staticTypes := #[]
  resolved := Array.replicate 131 none
  statics := none }

def pool8 : Array CpInfo := pool [(1, .class_ 2), (0, u "java/lang/constant/ConstantDesc"), (0, .class_ 4), (0, u "java/lang/Object")] 32

/-- java/lang/constant/ConstantDesc -/
def k8 : Class := { plain "java/lang/constant/ConstantDesc" (some 0) with
  accessFlags := 1537
  interfaces := #[]
  cf := some (fileOf pool8 1 #[] #[] 1537 3 #[] #[])
  fields := #[]
  methods := #[]
  instanceTypes := #[]
  staticTypes := #[]
  resolved := Array.replicate 37 none
  statics := none }

def pool9 : Array CpInfo := pool [(2, .class_ 4), (1, u "java/lang/Object"), (0, u "<init>"), (0, u "()V"), (2, .fieldref 10 11), (0, .class_ 12), (0, .nameAndType 13 14), (0, u "java/lang/String"), (0, u "value"), (0, u "[B"), (0, .fieldref 10 16), (0, .nameAndType 17 18), (0, u "coder"), (0, u "B"), (2, u "hash"), (0, u "I"), (2, u "hashIsZero"), (0, u "Z"), (11, .fieldref 10 39), (0, .nameAndType 40 26), (0, u "COMPACT_STRINGS"), (66, .class_ 109), (1, u "java/lang/StringLatin1"), (431, .methodref 107 542), (0, .nameAndType 543 544), (0, u "equals"), (0, u "([B[B)Z"), (28, u "(Ljava/lang/Object;)Z"), (1, .class_ 576), (0, u "java/lang/CharSequence"), (22, u "CASE_INSENSITIVE_ORDER"), (0, u "Ljava/util/Comparator;"), (500, u "serialPersistentFields"), (0, u "[Ljava/io/ObjectStreamField;"), (0, .class_ 1104), (0, u "java/lang/String$CaseInsensitiveComparator"), (1, .class_ 1107), (0, u "java/io/Serializable"), (0, .class_ 1109), (0, u "java/lang/Comparable"), (0, .class_ 1111), (0, u "java/lang/constant/Constable"), (0, .class_ 1113), (0, u "java/lang/constant/ConstantDesc"), (2, u "serialVersionUID"), (0, u "J"), (3, u "REPL"), (0, u "C"), (2, u "LATIN1"), (1, u "UTF16")] 323

def k9m0 : Method := { name := "<init>", desc := "()V", sig := { parameters := [], returnType := none }, accessFlags := 1, code := none }
def k9c1 : Code := { maxStack := 2, maxLocals := 3, code := jdk_42_method_66_code, exceptionTable := #[], attributes := #[] }
def k9m1 : Method := { name := "equals", desc := "(Ljava/lang/Object;)Z", sig := { parameters := [(.object "java/lang/Object")], returnType := some .boolean }, accessFlags := 1, code := some k9c1 }
/-- java/lang/String -/
def k9 : Class := { plain "java/lang/String" (some 0) with
  accessFlags := 49
  interfaces := #[4, 3, 7, 2, 8]
  cf := some (fileOf pool9 10 #[.nestMembers #[1103]] #[{ accessFlags := 1, nameIndex := 5, descriptorIndex := 6, attributes := #[] }, { accessFlags := 1, nameIndex := 543, descriptorIndex := 573, attributes := #[] }] 49 2 #[1106, 1108, 575, 1110, 1112] #[{ accessFlags := 18, nameIndex := 13, descriptorIndex := 14, attributes := #[] }, { accessFlags := 18, nameIndex := 17, descriptorIndex := 18, attributes := #[] }, { accessFlags := 2, nameIndex := 21, descriptorIndex := 22, attributes := #[] }, { accessFlags := 2, nameIndex := 25, descriptorIndex := 26, attributes := #[] }, { accessFlags := 26, nameIndex := 1116, descriptorIndex := 1117, attributes := #[] }, { accessFlags := 24, nameIndex := 40, descriptorIndex := 26, attributes := #[] }, { accessFlags := 26, nameIndex := 1101, descriptorIndex := 1102, attributes := #[] }, { accessFlags := 26, nameIndex := 1121, descriptorIndex := 1122, attributes := #[] }, { accessFlags := 25, nameIndex := 599, descriptorIndex := 600, attributes := #[] }, { accessFlags := 24, nameIndex := 1125, descriptorIndex := 18, attributes := #[] }, { accessFlags := 24, nameIndex := 1127, descriptorIndex := 18, attributes := #[] }])
  fields := #[{ name := "value", type := (.array .byte), accessFlags := 18, slot := 0, constantValue := 0 }, { name := "coder", type := .byte, accessFlags := 18, slot := 1, constantValue := 0 }, { name := "hash", type := .int, accessFlags := 2, slot := 2, constantValue := 0 }, { name := "hashIsZero", type := .boolean, accessFlags := 2, slot := 3, constantValue := 0 }, { name := "serialVersionUID", type := .long, accessFlags := 26, slot := 0, constantValue := 0 }, { name := "COMPACT_STRINGS", type := .boolean, accessFlags := 24, slot := 1, constantValue := 0 }, { name := "serialPersistentFields", type := (.array (.object "java/io/ObjectStreamField")), accessFlags := 26, slot := 2, constantValue := 0 }, { name := "REPL", type := .char, accessFlags := 26, slot := 3, constantValue := 0 }, { name := "CASE_INSENSITIVE_ORDER", type := (.object "java/util/Comparator"), accessFlags := 25, slot := 4, constantValue := 0 }, { name := "LATIN1", type := .byte, accessFlags := 24, slot := 5, constantValue := 0 }, { name := "UTF16", type := .byte, accessFlags := 24, slot := 6, constantValue := 0 }]
  methods := #[k9m0, k9m1]
  instanceTypes := #[(.array .byte), .byte, .int, .boolean]
  staticTypes := #[.long, .boolean, (.array (.object "java/io/ObjectStreamField")), .char, (.object "java/util/Comparator"), .byte, .byte]
  resolved := Array.replicate 1451 none
  statics := some 1 }

def pool10 : Array CpInfo := pool [(4, .class_ 6), (1, u "java/lang/Object"), (0, u "<init>"), (0, u "()V"), (5, .class_ 16), (1, u "java/lang/StringLatin1"), (104, u "$assertionsDisabled"), (0, u "Z"), (98, .class_ 223), (1, u "java/lang/StringLatin1$LinesSpliterator"), (57, u "equals"), (0, u "([B[B)Z"), (107, .class_ 391), (0, u "java/lang/StringLatin1$CharsSpliterator")] 3

def k10m0 : Method := { name := "<init>", desc := "()V", sig := { parameters := [], returnType := none }, accessFlags := 0, code := none }
def k10c1 : Code := { maxStack := 3, maxLocals := 3, code := jdk_43_method_13_code, exceptionTable := #[], attributes := #[] }
def k10m1 : Method := { name := "equals", desc := "([B[B)Z", sig := { parameters := [(.array .byte), (.array .byte)], returnType := some .boolean }, accessFlags := 9, code := some k10c1 }
/-- java/lang/StringLatin1 -/
def k10 : Class := { plain "java/lang/StringLatin1" (some 0) with
  accessFlags := 48
  interfaces := #[]
  cf := some (fileOf pool10 14 #[.nestMembers #[390, 221]] #[{ accessFlags := 0, nameIndex := 7, descriptorIndex := 8, attributes := #[] }, { accessFlags := 9, nameIndex := 281, descriptorIndex := 282, attributes := #[] }] 48 4 #[] #[{ accessFlags := 4120, nameIndex := 121, descriptorIndex := 122, attributes := #[] }])
  fields := #[{ name := "$assertionsDisabled", type := .boolean, accessFlags := 4120, slot := 0, constantValue := 0 }]
  methods := #[k10m0, k10m1]
  instanceTypes := #[]
  staticTypes := #[.boolean]
  resolved := Array.replicate 395 none
  statics := none }

def pool11 : Array CpInfo := pool [(2, .class_ 4), (1, u "java/lang/Object"), (0, u "<init>"), (0, u "()V"), (17, .class_ 26), (1, u "jdk/internal/util/Preconditions"), (28, .class_ 56), (0, u "jdk/internal/util/Preconditions$4"), (57, .class_ 115), (0, u "jdk/internal/util/Preconditions$1"), (7, u "SIOOBE_FORMATTER"), (0, u "Ljava/util/function/BiFunction;"), (0, .class_ 126), (0, u "jdk/internal/util/Preconditions$2"), (3, u "AIOOBE_FORMATTER"), (0, .class_ 132), (0, u "jdk/internal/util/Preconditions$3"), (3, u "IOOBE_FORMATTER")] 57

def k11m0 : Method := { name := "<init>", desc := "()V", sig := { parameters := [], returnType := none }, accessFlags := 1, code := none }
/-- jdk/internal/util/Preconditions -/
def k11 : Class := { plain "jdk/internal/util/Preconditions" (some 0) with
  accessFlags := 33
  interfaces := #[]
  cf := some (fileOf pool11 24 #[.nestMembers #[55, 131, 125, 114]] #[{ accessFlags := 1, nameIndex := 5, descriptorIndex := 6, attributes := #[] }] 33 2 #[] #[{ accessFlags := 25, nameIndex := 123, descriptorIndex := 124, attributes := #[] }, { accessFlags := 25, nameIndex := 130, descriptorIndex := 124, attributes := #[] }, { accessFlags := 25, nameIndex := 136, descriptorIndex := 124, attributes := #[] }])
  fields := #[{ name := "SIOOBE_FORMATTER", type := (.object "java/util/function/BiFunction"), accessFlags := 25, slot := 0, constantValue := 0 }, { name := "AIOOBE_FORMATTER", type := (.object "java/util/function/BiFunction"), accessFlags := 25, slot := 1, constantValue := 0 }, { name := "IOOBE_FORMATTER", type := (.object "java/util/function/BiFunction"), accessFlags := 25, slot := 2, constantValue := 0 }]
  methods := #[k11m0]
  instanceTypes := #[]
  staticTypes := #[(.object "java/util/function/BiFunction"), (.object "java/util/function/BiFunction"), (.object "java/util/function/BiFunction")]
  resolved := Array.replicate 194 none
  statics := some 2 }

def pool12 : Array CpInfo := pool [(9, u "<init>"), (6, .class_ 18), (1, u "java/lang/Object"), (0, u "()V"), (1, .class_ 23), (1, u "jdk/internal/util/ArraysSupport"), (0, u "LOG2_ARRAY_LONG_INDEX_SCALE"), (0, u "I"), (2, u "U"), (0, u "Ljdk/internal/misc/Unsafe;"), (8, u "BIG_ENDIAN"), (0, u "Z"), (8, u "LOG2_BYTE_BIT_SIZE"), (4, u "LOG2_ARRAY_INT_INDEX_SCALE"), (54, u "JLA"), (0, u "Ljdk/internal/access/JavaLangAccess;"), (11, u "LOG2_ARRAY_BOOLEAN_INDEX_SCALE"), (9, u "LOG2_ARRAY_BYTE_INDEX_SCALE"), (5, u "LOG2_ARRAY_CHAR_INDEX_SCALE"), (5, u "LOG2_ARRAY_SHORT_INDEX_SCALE"), (18, u "LOG2_ARRAY_FLOAT_INDEX_SCALE"), (24, u "LOG2_ARRAY_DOUBLE_INDEX_SCALE"), (89, u "T_BOOLEAN"), (2, u "T_CHAR"), (1, u "T_FLOAT"), (1, u "T_DOUBLE"), (1, u "T_BYTE"), (1, u "T_SHORT"), (1, u "T_INT"), (1, u "T_LONG"), (1, u "SOFT_MAX_ARRAY_LENGTH")] 83

def k12m0 : Method := { name := "<init>", desc := "()V", sig := { parameters := [], returnType := none }, accessFlags := 2, code := none }
/-- jdk/internal/util/ArraysSupport -/
def k12 : Class := { plain "jdk/internal/util/ArraysSupport" (some 0) with
  accessFlags := 33
  interfaces := #[]
  cf := some (fileOf pool12 21 #[] #[{ accessFlags := 2, nameIndex := 9, descriptorIndex := 19, attributes := #[] }] 33 16 #[] #[{ accessFlags := 24, nameIndex := 28, descriptorIndex := 29, attributes := #[] }, { accessFlags := 26, nameIndex := 38, descriptorIndex := 39, attributes := #[] }, { accessFlags := 25, nameIndex := 121, descriptorIndex := 25, attributes := #[] }, { accessFlags := 25, nameIndex := 131, descriptorIndex := 25, attributes := #[] }, { accessFlags := 25, nameIndex := 137, descriptorIndex := 25, attributes := #[] }, { accessFlags := 25, nameIndex := 143, descriptorIndex := 25, attributes := #[] }, { accessFlags := 25, nameIndex := 53, descriptorIndex := 25, attributes := #[] }, { accessFlags := 25, nameIndex := 24, descriptorIndex := 25, attributes := #[] }, { accessFlags := 25, nameIndex := 162, descriptorIndex := 25, attributes := #[] }, { accessFlags := 25, nameIndex := 187, descriptorIndex := 25, attributes := #[] }, { accessFlags := 26, nameIndex := 48, descriptorIndex := 25, attributes := #[] }, { accessFlags := 25, nameIndex := 277, descriptorIndex := 25, attributes := #[] }, { accessFlags := 25, nameIndex := 280, descriptorIndex := 25, attributes := #[] }, { accessFlags := 25, nameIndex := 282, descriptorIndex := 25, attributes := #[] }, { accessFlags := 25, nameIndex := 284, descriptorIndex := 25, attributes := #[] }, { accessFlags := 25, nameIndex := 286, descriptorIndex := 25, attributes := #[] }, { accessFlags := 25, nameIndex := 288, descriptorIndex := 25, attributes := #[] }, { accessFlags := 25, nameIndex := 290, descriptorIndex := 25, attributes := #[] }, { accessFlags := 25, nameIndex := 292, descriptorIndex := 25, attributes := #[] }, { accessFlags := 26, nameIndex := 108, descriptorIndex := 109, attributes := #[] }, { accessFlags := 25, nameIndex := 294, descriptorIndex := 25, attributes := #[] }])
  fields := #[{ name := "U", type := (.object "jdk/internal/misc/Unsafe"), accessFlags := 24, slot := 0, constantValue := 0 }, { name := "BIG_ENDIAN", type := .boolean, accessFlags := 26, slot := 1, constantValue := 0 }, { name := "LOG2_ARRAY_BOOLEAN_INDEX_SCALE", type := .int, accessFlags := 25, slot := 2, constantValue := 0 }, { name := "LOG2_ARRAY_BYTE_INDEX_SCALE", type := .int, accessFlags := 25, slot := 3, constantValue := 0 }, { name := "LOG2_ARRAY_CHAR_INDEX_SCALE", type := .int, accessFlags := 25, slot := 4, constantValue := 0 }, { name := "LOG2_ARRAY_SHORT_INDEX_SCALE", type := .int, accessFlags := 25, slot := 5, constantValue := 0 }, { name := "LOG2_ARRAY_INT_INDEX_SCALE", type := .int, accessFlags := 25, slot := 6, constantValue := 0 }, { name := "LOG2_ARRAY_LONG_INDEX_SCALE", type := .int, accessFlags := 25, slot := 7, constantValue := 0 }, { name := "LOG2_ARRAY_FLOAT_INDEX_SCALE", type := .int, accessFlags := 25, slot := 8, constantValue := 0 }, { name := "LOG2_ARRAY_DOUBLE_INDEX_SCALE", type := .int, accessFlags := 25, slot := 9, constantValue := 0 }, { name := "LOG2_BYTE_BIT_SIZE", type := .int, accessFlags := 26, slot := 10, constantValue := 0 }, { name := "T_BOOLEAN", type := .int, accessFlags := 25, slot := 11, constantValue := 0 }, { name := "T_CHAR", type := .int, accessFlags := 25, slot := 12, constantValue := 0 }, { name := "T_FLOAT", type := .int, accessFlags := 25, slot := 13, constantValue := 0 }, { name := "T_DOUBLE", type := .int, accessFlags := 25, slot := 14, constantValue := 0 }, { name := "T_BYTE", type := .int, accessFlags := 25, slot := 15, constantValue := 0 }, { name := "T_SHORT", type := .int, accessFlags := 25, slot := 16, constantValue := 0 }, { name := "T_INT", type := .int, accessFlags := 25, slot := 17, constantValue := 0 }, { name := "T_LONG", type := .int, accessFlags := 25, slot := 18, constantValue := 0 }, { name := "JLA", type := (.object "jdk/internal/access/JavaLangAccess"), accessFlags := 26, slot := 19, constantValue := 0 }, { name := "SOFT_MAX_ARRAY_LENGTH", type := .int, accessFlags := 25, slot := 20, constantValue := 0 }]
  methods := #[k12m0]
  instanceTypes := #[]
  staticTypes := #[(.object "jdk/internal/misc/Unsafe"), .boolean, .int, .int, .int, .int, .int, .int, .int, .int, .int, .int, .int, .int, .int, .int, .int, .int, .int, (.object "jdk/internal/access/JavaLangAccess"), .int]
  resolved := Array.replicate 378 none
  statics := none }

def pool13 : Array CpInfo := pool [(1, u "java/lang/Cloneable"), (0, .class_ 1), (0, u "java/lang/Object"), (0, .class_ 3)] 3

/-- java/lang/Cloneable -/
def k13 : Class := { plain "java/lang/Cloneable" (some 0) with
  accessFlags := 1537
  interfaces := #[]
  cf := some (fileOf pool13 2 #[] #[] 1537 4 #[] #[])
  fields := #[]
  methods := #[]
  instanceTypes := #[]
  staticTypes := #[]
  resolved := Array.replicate 8 none
  statics := none }

/-- the primitive byte -/
def k14 : Class := { plain "byte" none with kind := .primitive 'B', accessFlags := 0x411 }
/-- [B -/
def k15 : Class := { plain "[B" (some 0) with kind := .array 14 .byte, interfaces := #[13, 4], accessFlags := 1041 }

/-- the primitive int -/
def k16 : Class := { plain "int" none with kind := .primitive 'I', accessFlags := 0x411 }
/-- [I -/
def k17 : Class := { plain "[I" (some 0) with kind := .array 16 .int, interfaces := #[13, 4], accessFlags := 1041 }

def heap : Heap := #[{ cls := 6, slots := #[.ref 3, .ref 4, .null, .null], vm := .statics 6 },
  { cls := 9, slots := #[.long 0, .int 1, .null, .int 0, .null, .int 0, .int 0], vm := .statics 9 },
  { cls := 11, slots := #[.null, .null, .null], vm := .statics 11 },
  { cls := 6, slots := #[.null, .int 0, .int 0, .ref 5], vm := .none },
  { cls := 6, slots := #[.null, .int 1, .int 0, .ref 6], vm := .none },
  { cls := 9, slots := #[.ref 7, .int 0, .int 0, .int 0], vm := .none },
  { cls := 9, slots := #[.ref 8, .int 0, .int 0, .int 0], vm := .none },
  { cls := 15, slots := #[.int 109, .int 118, .int 99, .int 99], vm := .none },
  { cls := 15, slots := #[.int 108, .int 111, .int 99, .int 107, .int 105, .int 110, .int 103], vm := .none }]
def classes : Array Class := #[k0, k1, k2, k3, k4, k5, k6, k7, k8, k9, k10, k11, k12, k13, k14, k15, k16, k17]
def interned : List (Array UInt16 × Addr) := []
def slotsUsed : Nat := 41
def theMethod : MethodId := ⟨1, 1⟩
def args0 : Array Value := #[.int 5]
def aboutOver (below : List Frame) : State where
  vm := { classes := classes, interned := interned.toArray }
  heap := heap
  slotsUsed := slotsUsed
  threads := #[{ frames := .invoking theMethod args0 :: below }]
def below0 : List Frame := [.native { method := ⟨0, 0⟩, args := #[] }]
def about1 : State := aboutOver below0
def p0 : Program := .bare "" "" ""
def e0 : Env := launch0.env 0 0 0
theorem w_frames : about1.frames = Frame.invoking theMethod args0 :: below0 := rfl
set_option maxRecDepth 65536 in
theorem w_args : argsFit about1.vm theMethod args0 = true := by decide +kernel
set_option maxRecDepth 65536 in
theorem w_heap : heapFits about1 = true := by decide +kernel
set_option maxRecDepth 65536 in
theorem w_runnable : about1.curStatus? = some .runnable := by decide +kernel
set_option maxRecDepth 65536 in
theorem w_alone : about1.alone = true := by decide +kernel
set_option maxRecDepth 65536 in
theorem w_named : about1.methodNamed? x = some theMethod := by decide +kernel
set_option maxRecDepth 65536 in
theorem w_hears : about1.hears theMethod below0 = true := by decide +kernel
set_option maxRecDepth 65536 in
theorem w_ripe : about1.ripe theMethod args0 below0 = true := by decide +kernel
theorem w_running : about1.status = .running := rfl
set_option maxRecDepth 65536 in
theorem w_room : about1.hasRoom e0.platform room_1 = true :=
  launch0.hasRoom_least _ room_1 (by decide +kernel) (by decide +kernel) (by decide +kernel) (by decide +kernel) (by decide +kernel) (by decide +kernel)
theorem allAtoms_all (ts : List Jvm.Cond) (a : Array Jvm.Value) (st : Jvm.State) : (allAtoms ts).before a st = ts.all (fun c => c.before a st) := by
  induction ts with
  | nil => rfl
  | cons c t ih =>
    show (Jvm.Cond.and c (allAtoms t)).before a st = _
    rw [Jvm.Cond.before_and, ih, List.all_cons]
def words1 : List Jvm.Cond := Jvm.Cond.code x code maxLocals ret :: tables_1
/-- a 'code' word, met by the world's own term for the bytes: nothing is compared byte by byte -/
theorem code_word {y : MethodName} {bytes : ByteArray} {mx : Nat} {rt : Option FieldType} {a : Array Value} {s : State} {m : MethodId} {meth : Method} {c : Code} (h1 : s.methodNamed? y = some m) (h2 : s.vm.method? m = some meth) (h3 : meth.code = some c) (h4 : c.code = bytes)
    (h5 : (c.maxLocals == mx && c.exceptionTable.isEmpty && decide (c.maxStack ≤ mostOperands) && decide (meth.sig.returnType = rt) && !meth.locks && decide (parseMethodDescriptor y.desc = some meth.sig)) = true) : (Jvm.Cond.code y bytes mx rt).before a s = true := by
  simp only [Bool.and_eq_true, beq_iff_eq, Bool.not_eq_true', decide_eq_true_eq] at h5
  obtain ⟨⟨⟨⟨⟨g1, g2⟩, g3⟩, g4⟩, g5⟩, g6⟩ := h5
  simp [Cond.before, Cond.holds, Cond.value, h1, h2, h3, h4, g1, g2, g3, g4, g5, g6]
def isCode : Jvm.Cond → Bool
  | .code _ _ _ _ => true
  | _ => false
theorem all_split {L : List Jvm.Cond} {P : Jvm.Cond → Bool} (h1 : L.all (fun c => isCode c || P c) = true) (h2 : ∀ c ∈ L.filter isCode, P c = true) : L.all P = true := by
  refine List.all_eq_true.mpr fun c hc => ?_
  have h := List.all_eq_true.mp h1 c hc
  rcases Bool.eq_false_or_eq_true (isCode c) with hi | hi
  · exact h2 c (List.mem_filter.mpr ⟨hc, hi⟩)
  · simpa [hi] using h
set_option maxRecDepth 65536 in
theorem w_c0 : (Jvm.Cond.code x code maxLocals ret).before args0 about1 = true := code_word (m := ⟨1, 1⟩) (meth := k1m1) (c := k1c1) (by decide +kernel) rfl rfl rfl (by decide +kernel)
set_option maxRecDepth 65536 in
theorem w_c1 : (Jvm.Cond.code ({ cls := "com/example/interleave/interleave/Protocol", name := "label", desc := "()Ljava/lang/String;" } : Jvm.MethodName) prog_31_method_4_code (1 : Nat) (Option.some (Jvm.ClassFile.FieldType.object "java/lang/String"))).before args0 about1 = true := code_word (m := ⟨6, 0⟩) (meth := k6m0) (c := k6c0) (by decide +kernel) rfl rfl rfl (by decide +kernel)
set_option maxRecDepth 65536 in
theorem w_c2 : (Jvm.Cond.code ({ cls := "java/lang/String", name := "equals", desc := "(Ljava/lang/Object;)Z" } : Jvm.MethodName) jdk_42_method_66_code (3 : Nat) (Option.some Jvm.ClassFile.FieldType.boolean)).before args0 about1 = true := code_word (m := ⟨9, 1⟩) (meth := k9m1) (c := k9c1) (by decide +kernel) rfl rfl rfl (by decide +kernel)
set_option maxRecDepth 65536 in
theorem w_c3 : (Jvm.Cond.code ({ cls := "java/lang/StringLatin1", name := "equals", desc := "([B[B)Z" } : Jvm.MethodName) jdk_43_method_13_code (3 : Nat) (Option.some Jvm.ClassFile.FieldType.boolean)).before args0 about1 = true := code_word (m := ⟨10, 1⟩) (meth := k10m1) (c := k10c1) (by decide +kernel) rfl rfl rfl (by decide +kernel)
set_option maxRecDepth 65536 in
theorem w_c4 : (Jvm.Cond.code ({ cls := "com/example/interleave/interleave/Protocol", name := "checksCommitsForCycles", desc := "()Z" } : Jvm.MethodName) prog_31_method_7_code (1 : Nat) (Option.some Jvm.ClassFile.FieldType.boolean)).before args0 about1 = true := code_word (m := ⟨6, 1⟩) (meth := k6m1) (c := k6c1) (by decide +kernel) rfl rfl rfl (by decide +kernel)
def codes1 : List Jvm.Cond := [Jvm.Cond.code x code maxLocals ret, Jvm.Cond.code ({ cls := "com/example/interleave/interleave/Protocol", name := "label", desc := "()Ljava/lang/String;" } : Jvm.MethodName) prog_31_method_4_code (1 : Nat) (Option.some (Jvm.ClassFile.FieldType.object "java/lang/String")), Jvm.Cond.code ({ cls := "java/lang/String", name := "equals", desc := "(Ljava/lang/Object;)Z" } : Jvm.MethodName) jdk_42_method_66_code (3 : Nat) (Option.some Jvm.ClassFile.FieldType.boolean), Jvm.Cond.code ({ cls := "java/lang/StringLatin1", name := "equals", desc := "([B[B)Z" } : Jvm.MethodName) jdk_43_method_13_code (3 : Nat) (Option.some Jvm.ClassFile.FieldType.boolean), Jvm.Cond.code ({ cls := "com/example/interleave/interleave/Protocol", name := "checksCommitsForCycles", desc := "()Z" } : Jvm.MethodName) prog_31_method_7_code (1 : Nat) (Option.some Jvm.ClassFile.FieldType.boolean)]
set_option maxRecDepth 65536 in
theorem codes_eq : words1.filter isCode = codes1 := rfl
theorem w_codes : ∀ c ∈ words1.filter isCode, c.before args0 about1 = true := by
  rw [codes_eq]
  intro c hc
  simp only [codes1, List.mem_cons, List.not_mem_nil, or_false] at hc
  rcases hc with rfl | rfl | rfl | rfl | rfl
  · exact w_c0
  · exact w_c1
  · exact w_c2
  · exact w_c3
  · exact w_c4
set_option maxRecDepth 65536 in
theorem w_t1 : (words1.take 24).all (fun c => isCode c || c.before args0 about1) = true := by decide +kernel
set_option maxRecDepth 65536 in
theorem w_t2 : (words1.drop 24).all (fun c => isCode c || c.before args0 about1) = true := by decide +kernel
theorem w_tables : (allAtoms (Jvm.Cond.code x code maxLocals ret :: tables_1)).before args0 about1 = true := by
  rw [allAtoms_all]
  show words1.all (fun c => c.before args0 about1) = true
  refine all_split ?_ w_codes
  rw [← List.take_append_drop 24 words1, List.all_append, w_t1, w_t2]
  rfl
set_option maxRecDepth 65536 in
theorem w_rest : rest_1_c.before args0 about1 = true := by decide +kernel
set_option maxRecDepth 65536 in
theorem w_case : (Jvm.Cond.and given_1 narrow_1).before args0 about1 = true := by decide +kernel
set_option maxRecDepth 65536 in
theorem w_consts : constsHeld consts_1 about1 := Jvm.Lit.constsHeldB_iff.mp (by decide +kernel)
theorem w_applies : (headSpec (Jvm.Cond.code x code maxLocals ret :: tables_1) room_1).applies x e0.platform about1 = true :=
  (Spec.applies_iff w_frames).mpr ⟨w_running, w_runnable, w_alone, w_named, w_hears, w_ripe, w_room, w_tables⟩
theorem atStart : AtStart classFile x code maxLocals ret World_1 tables_1 room_1 Calls_1 rest_1 Pre_1 launch0 p0 e0 about1 theMethod args0 below0 :=
  ⟨lists_1, trivial, launch0.admits_env _ _ _, launch0.least_env, fairChoices_fair.cas, fairChoices_fair.clock, w_frames, w_args, w_heap, w_applies, ⟨w_consts, trivial⟩, w_rest, w_case⟩
end start1
theorem witness_1 : WitnessClaimed_1 := ⟨start1.p0, start1.e0, start1.about1, start1.theMethod, start1.args0, start1.below0, start1.atStart⟩
end Jvm.Pilot.@@N@@
