import JvmDerived
import JvmDerived.Pilot.@@N@@Statement
import JvmDerived.Pilot.@@N@@Code
set_option linter.unusedVariables false
set_option linter.unusedSimpArgs false
namespace Jvm.Pilot.@@N@@
open Jvm Jvm.ClassFile Sem Op Lib Jvm.Free Jvm.Stand Jvm.LawKit Jvm.RoadKit Bundle Jvm.Pilot.@@N@@.Jvm.D
/-! the run comes to an end that answers Q -/
def Go (p : Program) (e : Env) (below : List Frame) (Q : Outcome → State → Prop) (T : State) (g : JFrame) : Prop :=
  ∃ s₂ o, Steps p.tables e below (T.setTop g) s₂ ∧ s₂.status = .running ∧ Ended s₂ below o ∧ Q o s₂
section Own
variable {p : Program} {l : Launch} {e : Env} {R : Room} {s : State} {m : MethodId} {args : Array Value} {below : List Frame} {meth : Method} {c : Code} {T T' : State} {locs : List Loc} {cells slots : Nat} {Q : Outcome → State → Prop} {g g' : JFrame}
theorem Go.of (k : ∀ t, Steps p.tables e below (T'.setTop g') t → Steps p.tables e below (T.setTop g) t) (h : Go p e below Q T' g') : Go p e below Q T g := by
  obtain ⟨u, o, h1, h2⟩ := h
  exact ⟨u, o, k _ h1, h2⟩
theorem Go.via (k : Steps p.tables e below (T.setTop g) (T'.setTop g')) (h : Go p e below Q T' g') : Go p e below Q T g := by
  obtain ⟨u, o, h1, h2⟩ := h
  exact ⟨u, o, k.trans h1, h2⟩
theorem Go.cast (q : g = g') (h : Go p e below Q T g') : Go p e below Q T g := q ▸ h
theorem own_out (X : Stand p l e R s m args below meth c T locs cells slots) {v : Option Value} (hv : meth.sig.returnType = none → v = none) (hlocks : meth.locks = false)
    (k : ∀ fs : List Frame, (∀ (f : JFrame) (acts : List Action), f.method = m → f.locked = none → f.entered = [] → (doReturn e (T.setTop f) acts v).1 = T.setFrames fs) → Steps p.tables e below (T.setTop g) (T.setFrames fs))
    (hQ : ∀ u : State, u.heap = T.heap → FrameEnd s (.returned v) u locs cells slots → Q (.returned v) u) : Go p e below Q T g := by
  obtain ⟨fs, hr, hrun, hended, hW, hsame⟩ := X.leave hv hlocks
  exact ⟨_, _, k fs hr, hrun, hended, hQ _ rfl ⟨⟨_, rfl⟩, hW, hsame⟩⟩
theorem own_retN (X : Stand p l e R s m args below meth c T locs cells slots) (hx : p.tables.exec = Jvm.exec) (hlocks : meth.locks = false) {pc : Nat} {Ls : Array Slot} {z : Int32} {t : FieldType} {rest : List Value} (hret : meth.sig.returnType = some t) (ht : t = .boolean ∨ t = .byte ∨ t = .char ∨ t = .short)
    (hd : decode c.code pc = .ok (.ireturn, 1)) (hQ : ∀ u : State, u.heap = T.heap → FrameEnd s (.returned (some (.int (nar t z)))) u locs cells slots → Q (.returned (some (.int (nar t z)))) u) : Go p e below Q T (mkF m pc Ls (.int z :: rest)) :=
  own_out X (fun h => by rw [hret] at h; cases h) hlocks (fun fs hr => retN X hx hret ht hd hr) hQ
theorem own_retW (X : Stand p l e R s m args below meth c T locs cells slots) (hx : p.tables.exec = Jvm.exec) (hlocks : meth.locks = false) {pc : Nat} {Ls : Array Slot} {w : Value} {t : FieldType} {i : Instr} {rest : List Value} (hret : meth.sig.returnType = some t) (hn : narrow t w = w)
    (hi : (i = .ireturn ∧ (t = .int ∨ t = .boolean ∨ t = .byte ∨ t = .char ∨ t = .short) ∧ ∃ z, w = .int z) ∨ (i = .lreturn ∧ t = .long ∧ ∃ z, w = .long z) ∨ (i = .dreturn ∧ t = .double ∧ ∃ z, w = .double z) ∨ (i = .freturn ∧ t = .float ∧ ∃ z, w = .float z) ∨ (i = .areturn ∧ t.isReference = true ∧ w.isRef = true))
    (hd : decode c.code pc = .ok (i, 1)) (hQ : ∀ u : State, u.heap = T.heap → FrameEnd s (.returned (some w)) u locs cells slots → Q (.returned (some w)) u) : Go p e below Q T (mkF m pc Ls (w :: rest)) :=
  own_out X (fun h => by rw [hret] at h; cases h) hlocks (fun fs hr => retOut X hx hret hn hi hd hr) hQ
theorem own_ret0 (X : Stand p l e R s m args below meth c T locs cells slots) (hx : p.tables.exec = Jvm.exec) (hlocks : meth.locks = false) {pc : Nat} {Ls : Array Slot} (hret : meth.sig.returnType = none)
    (hd : decode c.code pc = .ok (.return_, 1)) (hQ : ∀ u : State, u.heap = T.heap → FrameEnd s (.returned none) u locs cells slots → Q (.returned none) u) : Go p e below Q T (mkF m pc Ls []) :=
  own_out X (fun _ => rfl) hlocks (fun fs hr => X.returnOut hx hret hd hr) hQ
theorem own_cs {c' s' : Nat} (X : Stand p l e R s m args below meth c T locs cells slots) (hc : cells = c') (hs : slots = s') : Stand p l e R s m args below meth c T locs c' s' := by subst hc hs; exact X
theorem own_locs {n0 : Nat} (X : Stand p l e R s m args below meth c T locs cells slots) (N : Fr n0 locs) : ∃ L, Stand p l e R s m args below meth c T L cells slots ∧ Fr n0 L := ⟨_, X, N⟩
theorem own_mono {o : Outcome} {u : State} {k n k' n' : Nat} (h : FrameEnd s o u locs k n) (hk : k ≤ k') (hn : n ≤ n') : FrameEnd s o u locs k' n' := ⟨h.1, h.2.1, h.2.2.mono hk hn⟩
end Own
theorem own_eqI {args : Array Value} {s : State} {t : Term} {k : Int32} (h : (Cond.eq t (.int k)).value args s none s [] = some true) : t.eval args s none [] s = some (.int k) := by
  simp only [Cond.value, Term.eval] at h
  cases ht : t.eval args s none [] s with
  | none => simp [ht] at h
  | some x => cases x <;> simp [ht] at h ⊢; exact h
theorem own_staKeep {Z : State} {h h' : Heap} {C n d : String} {v : Value} {ws : List Addr} (F : Sta Z h C n d v) (K : Keep h h' ws) (q : ∀ x ∈ ws, ∀ cell : Cell, h[x]? = some cell → cell.vm.isStatics = false) : Sta Z h' C n d v := by
  obtain ⟨cf, i, k, f, st, cell, h1, h2, h3, h4, h5, h6, h7⟩ := F
  have hn : st ∉ ws := fun y => by have := q st y cell h5; rw [this] at h6; cases h6
  exact ⟨cf, i, k, f, st, cell, h1, h2, h3, h4, K.2.1 st cell h5 hn, h6, h7⟩
theorem own_plainE {Z : State} {h : Heap} {a : Addr} {C : String} (F : Exa Z h a C) : ∀ cell : Cell, h[a]? = some cell → cell.vm.isStatics = false := fun cell hc => by
  obtain ⟨c, _, h1, -, -, h4, -⟩ := F
  cases h1.symm.trans hc; exact h4
theorem own_plainV {Z : State} {h : Heap} {a : Addr} {k : ClassId} {ty : FieldType} {n : Int32} {vs : List Value} {d : Value} (F : Arv Z h a k ty n vs d) : ∀ cell : Cell, h[a]? = some cell → cell.vm.isStatics = false := fun cell hc => by
  obtain ⟨c, A, -⟩ := F
  cases A.1.symm.trans hc; exact A.plain
theorem own_narR {t : FieldType} {w : Value} (h : w.isRef = true) : narrow t w = w := by rcases ref_cases h with rfl | ⟨_, rfl⟩ <;> cases t <;> rfl
theorem own_fitR {C : String} {w : Value} (h : w.isRef = true) : fits (.object C) w = true := by rcases ref_cases h with rfl | ⟨_, rfl⟩ <;> rfl
theorem own_getR {L : List Value} {d : Value} (h : ∀ v ∈ L, v.isRef = true) (hd : d.isRef = true) (j : Nat) : (L.getD j d).isRef = true := by
  rw [List.getD_eq_getElem?_getD]
  cases q : L[j]? with
  | none => exact hd
  | some v => exact h v (List.mem_of_getElem? q)
/-! a synchronized method: its object's monitor is free before and behind -/
def own_mon (h : Heap) (a : Addr) : Prop := ∃ cell : Cell, h[a]? = some cell ∧ cell.monitor = {}
def own_ob (a : Addr) (L : List Loc) : Prop := ∀ y ∈ L, y.base = a
section Sync
variable {p : Program} {l : Launch} {e : Env} {R : Room} {s : State} {m : MethodId} {args : Array Value} {below : List Frame} {meth : Method} {c : Code} {T T' : State} {locs : List Loc} {cells slots : Nat} {Q : Outcome → State → Prop} {g g' : JFrame} {Z : State} {a0 : Array Value} {h h' : Heap} {a b : Addr} {sl : Nat} {v : Value} {ws : List Addr}
theorem own_mon.ext (F : own_mon h a) (E : Ext h h') : own_mon h' a := by obtain ⟨d, h1, h2⟩ := F; exact ⟨d, E.2 _ _ h1, h2⟩
theorem own_mon.wr (F : own_mon h a) (W : Wr h h' b sl v) : own_mon h' a := by
  obtain ⟨d, h1, h2⟩ := F
  obtain ⟨d', e1, -, -, -, e5, -, e7⟩ := wr_at W h1
  by_cases q : a = b
  · exact ⟨d', e1, by rw [(e7 q).1]; exact h2⟩
  · exact ⟨d', e1, by rw [e5 q]; exact h2⟩
theorem own_mon.keep (F : own_mon h a) (K : Keep h h' ws) (q : a ∉ ws) : own_mon h' a := by obtain ⟨d, h1, h2⟩ := F; exact ⟨d, K.2.1 _ _ h1 q, h2⟩
theorem own_obNil : own_ob a [] := fun _ q => nomatch q
theorem own_obSnoc (X : Stand p l e R s m args below meth c T (locs ++ [⟨a, sl⟩]) cells slots) (N : own_ob a locs) : own_ob a (locs ++ [⟨a, sl⟩]) := fun y hy => (List.mem_append.mp hy).elim (N y) (fun q => by cases List.mem_singleton.mp q; rfl)
theorem own_obNil2 (N : own_ob a locs) : own_ob a (locs ++ []) := (List.append_nil locs).symm ▸ N
theorem own_obFr {n0 : Nat} (N : own_ob a locs) (q : n0 ≤ a) : Fr n0 locs := fun y hy => (N y hy) ▸ q
theorem own_locsO (X : Stand p l e R s m args below meth c T locs cells slots) (N : own_ob a locs) : ∃ L, Stand p l e R s m args below meth c T L cells slots ∧ own_ob a L := ⟨_, X, N⟩
theorem own_keepS {o : Outcome} {u : State} (hh : s.heap = h) (F : FrameEnd s o u locs cells slots) (N : own_ob a locs) : Keep h u.heap [a] := by
  obtain ⟨-, -, -, h2, -, -, -, h6⟩ := F
  subst hh
  refine ⟨h2, fun x d hx hn => ?_, fun x d hx => ?_⟩
  · obtain ⟨d', q1, q2, q3, q4⟩ := h6 x d hx
    have e : d'.slots = d.slots := by
      apply Array.ext' ; apply List.ext_getElem?
      intro i
      have nz : ∀ z : (⟨x, i⟩ : Loc) ∈ locs, x = a := fun z => N _ z
      have := q4 i (fun z => hn (by rw [nz z]; exact List.mem_singleton.mpr rfl))
      simpa using this
    have : d' = d := by rw [q2, e]
    rw [← this]; exact q1
  · obtain ⟨d', q1, q2, q3, -⟩ := h6 x d hx
    exact ⟨d', q1, by rw [q2], by rw [q2], q3⟩
theorem own_monU {o : Outcome} {u : State} (hh : s.heap = h) (F : FrameEnd s o u locs cells slots) (M : own_mon h b) : own_mon u.heap b := by
  obtain ⟨-, -, -, h2, -, -, -, h6⟩ := F
  subst hh
  obtain ⟨d, h1, h3⟩ := M
  obtain ⟨d', q1, q2, -⟩ := h6 b d h1
  exact ⟨d', q1, by rw [q2]; exact h3⟩
theorem own_retS {cell : Cell} (X : Stand p l e R (s.setCell a (cell.withEntry s.cur)) m args below meth c T locs cells slots) (hx : p.tables.exec = Jvm.exec) (hc : s.heap[a]? = some cell) (ho : cell.enterable s.cur) (hl : meth.locks = true) {pc : Nat} {Ls : Array Slot} {st : List Value} (hret : meth.sig.returnType = none)
    (hd : decode c.code pc = .ok (.return_, 1)) (hQ : ∀ u : State, Mon T.heap u.heap → FrameEnd s (.returned none) u locs cells slots → Q (.returned none) u) : Go p e below Q T (mkL a m pc Ls st) := by
  obtain ⟨V, hr, hrun, hended, M1, hW, hsame⟩ := leaveS X hc ho hl (v := none) (fun _ => rfl)
  exact ⟨V, _, retS0 X hx hret hd hr, hrun, hended, hQ V M1 ⟨⟨_, rfl⟩, hW, hsame⟩⟩
theorem own_backS {y : MethodName} {bytes : ByteArray} {maxL : Nat} {ret : Option FieldType} {rm : Room} {len W : Nat} {as' : Array Value} {Q : Option Value → Heap → List Loc → Prop}
    (hM : MetFree l y (head1 (Cond.codeSync y bytes maxL ret :: [Cond.instanceMethod y]) rm) (fun as U => as = as' ∧ Z.Warmed39 U.vm ∧ U.heap = h ∧ ∃ cell : Cell, h[a]? = some cell ∧ cell.enterable U.cur) (fun _ _ _ _ _ => True) (fun _ U o U' => ∃ v L, o = .returned v ∧ Q v U'.heap L ∧ FrameEnd U o U' L rm.cells rm.slots))
    (hZ : Z.Warmed39 s.vm) (wc : (Cond.codeSync y bytes maxL ret).before a0 Z = true) (wi : (Cond.instanceMethod y).before a0 Z = true) (wz : (Cond.initialized y.cls).before a0 Z = true) (N : own_mon h a) (hf : rm.frames + 1 ≤ R.frames) (hl : W + (maxL + 11) + rm.locals ≤ R.locals) :
    Back l R p e below s args y len W (fun A as => as = as' ∧ A.U.heap = h ∧ A.cells + rm.cells ≤ R.cells ∧ A.slots + rm.slots ≤ R.slots)
      (fun A _ v B => ∃ L, Q v B.U.heap L ∧ B.locs = A.locs ++ L ∧ B.cells = A.cells + rm.cells ∧ B.slots = A.slots + rm.slots) :=
  Jvm.Free.XT.back_of_sync (bytes := bytes) (maxL := maxL) (ret := ret) (E := fun _ _ o t L k n => k = rm.cells ∧ n = rm.slots ∧ ∃ v, o = .returned v ∧ Q v t.heap L) hM hf hl
    (fun m meth c A as Y hp => have hU : Z.Warmed39 A.U.vm := wtrans hZ Y.warmed
      ⟨by show (Cond.and _ (Cond.and _ .tt)).before as A.U = true; rw [Cond.before_and, Cond.before_and, mv hU wc, mv hU wi]; rfl, mv hU wc, mv hU wz, hp.2.2.1, hp.2.2.2⟩)
    (fun m meth c A as g mk Y hp => ⟨hp.1, wtrans hZ Y.warmed, hp.2.1, by obtain ⟨cl, u1, u3⟩ := N; exact ⟨cl, u1, by rw [Cell.enterable, u3]; simp⟩⟩)
    (fun _ _ _ _ _ _ _ _ _ => trivial)
    (fun _ _ _ _ ⟨v, L, h1, h2, h3⟩ => ⟨L, _, _, h3, rfl, rfl, v, h1, h2⟩)
    (fun m meth c A a g mk v t L k n Y hp _ _ ⟨e1, e2, v', e3, e4⟩ => by cases e3; subst e1 e2; exact ⟨L, e4, rfl, rfl, rfl⟩)
end Sync
abbrev zU : Slot := .unset
abbrev zS : Slot := .second
abbrev sI (z : Int32) : Slot := .val (.int z)
abbrev sJ (z : Int64) : Slot := .val (.long z)
abbrev sR (z : Addr) : Slot := .val (.ref z)
abbrev sN : Slot := .val .null
theorem wk {a0 : Array Value} {Z : State} (hw : ∀ d ∈ tables_1, d.before a0 Z = true) (i : Nat) {d : Jvm.Cond} (h : tables_1[i]? = some d) : d.before a0 Z = true := hw d (List.mem_of_getElem? h)
abbrev kT : String := "com/example/examwright/examwright/Tally"
abbrev kA : String := "com/example/examwright/examwright/Method$Attempt"
abbrev kL : String := "com/example/examwright/examwright/TallyReportedPinLaw"
abbrev kD : String := "Lcom/example/examwright/examwright/Method$Attempt;"
/-! what the sheet says of Integer's cache -/
def own_cache (Z : State) (rc : Addr) : Prop := ∃ cl : Cell, Arr Z Z.heap rc cl (.object "java/lang/Integer") ∧ cl.slots.size = 256 ∧ ∀ i, i < 256 → ∃ a, cl.slots[i]? = some (.ref a) ∧ Exa Z Z.heap a "java/lang/Integer"
theorem own_cache_start {s : State} {args : Array Value} {rc : Addr} (ev : (Term.static "java/lang/Integer$IntegerCache" "cache" "[Ljava/lang/Integer;").eval args s none [] s = some (.ref rc)) (h13 : (Cond.arrayOf (Term.static "java/lang/Integer$IntegerCache" "cache" "[Ljava/lang/Integer;") (.object "java/lang/Integer")).before args s = true)
    (h15 : (Cond.eq (.length (Term.static "java/lang/Integer$IntegerCache" "cache" "[Ljava/lang/Integer;")) (.int 256)).before args s = true) {d : Jvm.Cond} (h16 : (Cond.all (Term.static "java/lang/Integer$IntegerCache" "cache" "[Ljava/lang/Integer;") (.and (.exactly (.elem (Term.static "java/lang/Integer$IntegerCache" "cache" "[Ljava/lang/Integer;") (.index 0)) "java/lang/Integer") d)).before args s = true) : own_cache s rc := by
  obtain ⟨cl, A⟩ := Arr.start ev (Cond.before_iff.mp h13)
  obtain ⟨q1, q2⟩ := IntBox.length_fwd h15 ev A.1 A.2.1 A.2.2
  have hs : cl.slots.size = 256 := by
    have k := len_toInt q1
    rw [q2] at k
    have e : (256 : Int32).toInt = 256 := by decide
    omega
  refine ⟨cl, A, hs, fun i hi => ?_⟩
  have hat := IntBox.arrayAt_of A.1 A.2.1 A.2.2
  have k := Cond.all_elim ev hat (Cond.before_iff.mp h16) i (by omega)
  obtain ⟨k1, -⟩ := and_e k
  obtain ⟨a, ea⟩ := exa_v k1
  have ev' : (Term.static "java/lang/Integer$IntegerCache" "cache" "[Ljava/lang/Integer;").eval args s none [i] s = some (.ref rc) := ev
  have ej : (Term.index 0).eval args s none [i] s = some (.int i.toInt32) := rfl
  have ez := elem_f ev' ej hat (IntBox.place_nonneg i hi).1
  rw [(IntBox.place_nonneg i hi).2, ea] at ez
  exact ⟨a, ez.symm, exa_at ea k1⟩
theorem own_ix (x : Int32) (h1 : ¬ x < (-128 : Int32)) (h2 : ¬ (127 : Int32) < x) : ¬ (x + (128 : Int32)) < 0 ∧ (x + (128 : Int32)).toNatClampNeg < 256 := by
  have a := c_iadd x 128
  have e1 : (-128 : Int32).toInt = -128 := by decide
  have e2 : (127 : Int32).toInt = 127 := by decide
  have e3 : (128 : Int32).toInt = 128 := by decide
  have e0 : (0 : Int32).toInt = 0 := by decide
  have r := rng32 x
  have r2 := rng32 (x + 128)
  rw [Int32.lt_iff_toInt_lt] at h1 h2
  have h3 : ¬ (x + (128 : Int32)) < 0 := by rw [Int32.lt_iff_toInt_lt]; omega
  have h4 := nat_of h3
  exact ⟨h3, by omega⟩
theorem d2_0 : decode jdk_30_method_1_code 0 = .ok (.aload_n 0, 1) := by decide +kernel
theorem d2_1 : decode jdk_30_method_1_code 1 = .ok (.invokespecial 1, 3) := by decide +kernel
theorem d2_4 : decode jdk_30_method_1_code 4 = .ok (.return_, 1) := by decide +kernel
theorem pn_0 : plainName "java/lang/Record" = true := by first | (simp [plainName, overriddenIn]; done) | decide +kernel
theorem ef_2 (m : MethodId) (r1 : Addr)  : entryFrame m #[(.ref r1)] 1 = mkF m 0 #[.val (.ref r1)] [] := by
  first | (simp [entryFrame, mkF, argsToLocals, Value.category]; done) | rfl
def Q2 (Z : State) (r1 : Addr) (h0 : Heap) (n0 : Nat) (v : Option Value) (h : Heap) (L : List Loc) : Prop := v = none ∧ Fr n0 L ∧ h = h0
set_option maxRecDepth 65536 in
set_option maxHeartbeats 40000000 in
theorem rm2 (l : Launch) (Z : State) (a0 : Array Value) (hw : ∀ d ∈ tables_1, d.before a0 Z = true) (ws : List Jvm.Cond) (r1 : Addr) (h0 : Heap) (n0 : Nat) (Z0 : n0 ≤ h0.size)  :
    MetFree l (⟨"java/lang/Record", "<init>", "()V"⟩ : MethodName) (head1 (Jvm.Cond.code (⟨"java/lang/Record", "<init>", "()V"⟩ : MethodName) jdk_30_method_1_code 1 none :: ws) ({ frames := 1, cells := 0, slots := 0, locals := 12 } : Room)) (fun a U => a = #[(.ref r1)] ∧ Z.Warmed39 U.vm ∧ U.heap = h0) (fun _ _ _ _ _ => True) (fun _ U o U' => ∃ v L, o = .returned v ∧ Q2 Z r1 h0 n0 v U'.heap L ∧ FrameEnd U o U' L ({ frames := 1, cells := 0, slots := 0, locals := 12 } : Room).cells ({ frames := 1, cells := 0, slots := 0, locals := 12 } : Room).slots) := by
  refine MetFree.of_bodySF (plainFor_of_name pn_0) hisR ?_
  intro p e s m args below meth c s₁ Bd hml0 hP hK
  obtain ⟨rfl, hZ, hh⟩ := hP
  have hx := Bd.exec
  have hby := Bd.bytes
  have hml : c.maxLocals = 1 := hml0
  have hown : s.vm.findClass "java/lang/Record" = some m.cls := findClass_of_methodNamed Bd.named
  have hnm := (name_of_methodNamed Bd.named Bd.method).1
  have X0 : Stand p l e ({ frames := 1, cells := 0, slots := 0, locals := 12 } : Room) s m #[(.ref r1)] below meth c s₁ [] 0 0 := Stand.of_body Bd
  have e0 : s₁.heap = h0 := by rw [← hh, Bd.state]; rfl
  have N0 := Fr.nil n0
  suffices H : ∀ Qo : Outcome → State → Prop, (∀ (v : Option Value) (u : State) (L : List Loc), Q2 Z r1 h0 n0 v u.heap L → FrameEnd s (.returned v) u L ({ frames := 1, cells := 0, slots := 0, locals := 12 } : Room).cells ({ frames := 1, cells := 0, slots := 0, locals := 12 } : Room).slots → Qo (.returned v) u) → Go p e below Qo s₁ (mkF m 0 #[.val (.ref r1)] []) from
    Go.cast (ef_2 m r1) (H _ fun v u L h1 h2 => ⟨v, L, rfl, h1, h2⟩)
  intro Qo hQo
  show Go p e below Qo s₁ (mkF m 0 #[sR r1] [])
  refine Go.of (fun t k => XS.aloadN X0.here hx rfl (hb hby d2_0) rfl rfl k) ?_
  show Go p e below Qo s₁ (mkF m 1 #[sR r1] [(.ref r1)])
  obtain ⟨T1, X1, e1, st1⟩ := initO X0 hx hZ hown (wk hw 11 rfl) (wk hw 12 rfl) (wk hw 13 rfl) e0 (g := (mkF m 1 #[sR r1] [(.ref r1)])) rfl (by rw [hml]; rfl) rfl (hb hby d2_1) (by decide) (W := 0) (by show 2 * 0 + _ ≤ _; exact Nat.le_of_eq rfl) (by decide)
  refine Go.of st1 ?_
  show Go p e below Qo T1 (mkF m 4 #[sR r1] [])
  exact own_ret0 X1 hx Bd.notSynchronized Bd.returns (hb hby d2_4) (fun u hu hF => hQo _ _ _ ⟨rfl, N0, by rw [hu, e1]⟩ (own_mono hF (by decide) (by decide)))
theorem pd_0 : parseMethodDescriptor "()V" = some ⟨[], none⟩ := by decide +kernel
theorem sn_0 {Z : State} {a0 : Array Value} (hw : ∀ d ∈ tables_1, d.before a0 Z = true) : Jvm.RoadKit.slotOf Z kA "choices" "Ljava/util/List;" ≠ Jvm.RoadKit.slotOf Z kA "run" "Ljava/lang/Object;" := slot_ne (Or.inr (wk hw 17 rfl)) (Or.inr (wk hw 15 rfl)) (by decide) (t := (.object "java/util/List")) (t' := (.object "java/lang/Object")) (by decide) (by decide)
theorem sn_1 {Z : State} {a0 : Array Value} (hw : ∀ d ∈ tables_1, d.before a0 Z = true) : Jvm.RoadKit.slotOf Z kA "run" "Ljava/lang/Object;" ≠ Jvm.RoadKit.slotOf Z kA "choices" "Ljava/util/List;" := slot_ne (Or.inr (wk hw 15 rfl)) (Or.inr (wk hw 17 rfl)) (by decide) (t := (.object "java/lang/Object")) (t' := (.object "java/util/List")) (by decide) (by decide)
theorem d1_0 : decode prog_26_method_1_code 0 = .ok (.aload_n 0, 1) := by decide +kernel
theorem d1_1 : decode prog_26_method_1_code 1 = .ok (.invokespecial 1, 3) := by decide +kernel
theorem d1_4 : decode prog_26_method_1_code 4 = .ok (.aload_n 0, 1) := by decide +kernel
theorem d1_5 : decode prog_26_method_1_code 5 = .ok (.aload_n 1, 1) := by decide +kernel
theorem d1_6 : decode prog_26_method_1_code 6 = .ok (.putfield 7, 3) := by decide +kernel
theorem d1_9 : decode prog_26_method_1_code 9 = .ok (.aload_n 0, 1) := by decide +kernel
theorem d1_10 : decode prog_26_method_1_code 10 = .ok (.aload_n 2, 1) := by decide +kernel
theorem d1_11 : decode prog_26_method_1_code 11 = .ok (.putfield 13, 3) := by decide +kernel
theorem d1_14 : decode prog_26_method_1_code 14 = .ok (.return_, 1) := by decide +kernel
theorem pn_1 : plainName kA = true := by first | (simp [plainName, overriddenIn]; done) | decide +kernel
theorem ef_1 (m : MethodId) (r1 : Addr) (x1 : Value) (x2 : Value) (ir_x1 : x1.isRef = true) (ir_x2 : x2.isRef = true) : entryFrame m #[(.ref r1), x1, x2] 3 = mkF m 0 #[.val (.ref r1), .val x1, .val x2] [] := by
  rcases ref_cases ir_x1 with rfl | ⟨_, rfl⟩ <;> rcases ref_cases ir_x2 with rfl | ⟨_, rfl⟩ <;> first | (simp [entryFrame, mkF, argsToLocals, Value.category]; done) | rfl
def Q1 (Z : State) (r1 : Addr) (x1 : Value) (x2 : Value) (u_0 : Value) (u_1 : Value) (h0 : Heap) (n0 : Nat) (v : Option Value) (h : Heap) (L : List Loc) : Prop := v = none ∧ Fr n0 L ∧ Keep h0 h [r1] ∧ Exa Z h r1 kA ∧ Fld Z h r1 kA "run" "Ljava/lang/Object;" x1 ∧ Fld Z h r1 kA "choices" "Ljava/util/List;" x2
set_option maxRecDepth 65536 in
set_option maxHeartbeats 40000000 in
theorem rm1 (l : Launch) (Z : State) (a0 : Array Value) (hw : ∀ d ∈ tables_1, d.before a0 Z = true) (ws : List Jvm.Cond) (r1 : Addr) (x1 : Value) (x2 : Value) (u_0 : Value) (u_1 : Value) (h0 : Heap) (n0 : Nat) (Z0 : n0 ≤ h0.size) (f0 : Exa Z h0 r1 kA) (f1 : Fld Z h0 r1 kA "run" "Ljava/lang/Object;" u_0) (f2 : Fld Z h0 r1 kA "choices" "Ljava/util/List;" u_1) (g_r1 : n0 ≤ r1) (ir_x1 : x1.isRef = true) (ir_x2 : x2.isRef = true) :
    MetFree l (⟨kA, "<init>", "(Ljava/lang/Object;Ljava/util/List;)V"⟩ : MethodName) (head1 (Jvm.Cond.code (⟨kA, "<init>", "(Ljava/lang/Object;Ljava/util/List;)V"⟩ : MethodName) prog_26_method_1_code 3 none :: ws) ({ frames := 2, cells := 0, slots := 0, locals := 24 } : Room)) (fun a U => a = #[(.ref r1), x1, x2] ∧ Z.Warmed39 U.vm ∧ U.heap = h0) (fun _ _ _ _ _ => True) (fun _ U o U' => ∃ v L, o = .returned v ∧ Q1 Z r1 x1 x2 u_0 u_1 h0 n0 v U'.heap L ∧ FrameEnd U o U' L ({ frames := 2, cells := 0, slots := 0, locals := 24 } : Room).cells ({ frames := 2, cells := 0, slots := 0, locals := 24 } : Room).slots) := by
  refine MetFree.of_bodySF (plainFor_of_name pn_1) hisR ?_
  intro p e s m args below meth c s₁ Bd hml0 hP hK
  obtain ⟨rfl, hZ, hh⟩ := hP
  have hx := Bd.exec
  have hby := Bd.bytes
  have hml : c.maxLocals = 3 := hml0
  have hown : s.vm.findClass kA = some m.cls := findClass_of_methodNamed Bd.named
  have hnm := (name_of_methodNamed Bd.named Bd.method).1
  have X0 : Stand p l e ({ frames := 2, cells := 0, slots := 0, locals := 24 } : Room) s m #[(.ref r1), x1, x2] below meth c s₁ [] 0 0 := Stand.of_body Bd
  have e0 : s₁.heap = h0 := by rw [← hh, Bd.state]; rfl
  have N0 := Fr.nil n0
  suffices H : ∀ Qo : Outcome → State → Prop, (∀ (v : Option Value) (u : State) (L : List Loc), Q1 Z r1 x1 x2 u_0 u_1 h0 n0 v u.heap L → FrameEnd s (.returned v) u L ({ frames := 2, cells := 0, slots := 0, locals := 24 } : Room).cells ({ frames := 2, cells := 0, slots := 0, locals := 24 } : Room).slots → Qo (.returned v) u) → Go p e below Qo s₁ (mkF m 0 #[.val (.ref r1), .val x1, .val x2] []) from
    Go.cast (ef_1 m r1 x1 x2 ir_x1 ir_x2) (H _ fun v u L h1 h2 => ⟨v, L, rfl, h1, h2⟩)
  intro Qo hQo
  show Go p e below Qo s₁ (mkF m 0 #[sR r1, .val x1, .val x2] [])
  refine Go.of (fun t k => XS.aloadN X0.here hx rfl (hb hby d1_0) rfl rfl k) ?_
  show Go p e below Qo s₁ (mkF m 1 #[sR r1, .val x1, .val x2] [(.ref r1)])
  obtain ⟨_, _, ⟨T1, L1, k1, n1⟩, -, X1, ⟨Lc1, hQ1, l1, y1, z1⟩, st1⟩ := X0.specialBack hx (y := (⟨"java/lang/Record", "<init>", "()V"⟩ : MethodName)) rfl hown (mvT hZ (wk hw 6 rfl)) (mvT hZ (wk hw 7 rfl)) (mvT hZ (wk hw 10 rfl)) (by decide) (backOf (W := 0) (rm2 l Z a0 hw [] r1 h0 n0 Z0 ) hZ (wk hw 10 rfl) (wk hw 9 rfl) (by decide) (by decide)) (g := (mkF m 1 #[sR r1, .val x1, .val x2] [(.ref r1)])) rfl (by rw [hml]; rfl) (Steps.refl _) (a := r1) (argsL := []) (rest := []) (lenOf pd_0 rfl) rfl (by show 2 * 0 + _ ≤ _; exact Nat.le_of_eq rfl) (hb hby d1_1) (fun _ _ => ⟨rfl, e0, (by decide : 0 + 0 ≤ _), (by decide : 0 + 0 ≤ _)⟩)
  dsimp only [Pt.U, Pt.locs, Pt.cells, Pt.slots] at X1 l1 y1 z1 st1 hQ1
  subst l1 y1 z1
  replace X1 := own_cs X1 (c' := 0) (s' := 0) (by decide) (by decide)
  obtain ⟨rfl, N2, eh3⟩ := hQ1
  have N4 := Fr.app N0 N2
  refine Go.via st1 ?_
  obtain ⟨Lx5, Xx5, Nx5⟩ := own_locs X1 N4
  show Go p e below Qo T1 (mkF m 4 #[sR r1, .val x1, .val x2] [])
  refine Go.of (fun t k => XS.aloadN Xx5.here hx rfl (hb hby d1_4) rfl rfl k) ?_
  show Go p e below Qo T1 (mkF m 5 #[sR r1, .val x1, .val x2] [(.ref r1)])
  refine Go.of (fun t k => XS.aloadN Xx5.here hx rfl (hb hby d1_5) rfl ir_x1 k) ?_
  show Go p e below Qo T1 (mkF m 6 #[sR r1, .val x1, .val x2] [x1, (.ref r1)])
  obtain ⟨T6, h6, X6, e6, W6, st6⟩ := putF Xx5 hx hZ hown (host := "") (Or.inl (wk hw 14 rfl)) Via.refl eh3 f1 f0 (Or.inr ⟨(wk hw 15 rfl), rfl, hnm⟩) (wk hw 1 rfl) (ty := (.object "java/lang/Object")) (by decide) (own_narR ir_x1) (own_fitR ir_x1) (g := (mkF m 6 #[sR r1, .val x1, .val x2] [x1, (.ref r1)])) rfl rfl (hb hby d1_6)
  have q7 := f0.wr W6
  have q8 : Fld Z h6 r1 kA "run" "Ljava/lang/Object;" x1 := f1.same W6
  have q9 := f2.other W6 (Or.inr (sn_0 hw))
  have Z10 : n0 ≤ h6.size := Nat.le_trans Z0 (Keep.of_wr W6).1
  have K11 : Keep h0 h6 [r1] := (Keep.refl h0 [r1]).wr W6 (Or.inl (List.mem_of_getElem? (i := 0) rfl))
  have N12 := Fr.snoc X6 Nx5 g_r1
  obtain ⟨Lx13, Xx13, Nx13⟩ := own_locs X6 N12
  refine Go.of st6 ?_
  show Go p e below Qo T6 (mkF m 9 #[sR r1, .val x1, .val x2] [])
  refine Go.of (fun t k => XS.aloadN Xx13.here hx rfl (hb hby d1_9) rfl rfl k) ?_
  show Go p e below Qo T6 (mkF m 10 #[sR r1, .val x1, .val x2] [(.ref r1)])
  refine Go.of (fun t k => XS.aloadN Xx13.here hx rfl (hb hby d1_10) rfl ir_x2 k) ?_
  show Go p e below Qo T6 (mkF m 11 #[sR r1, .val x1, .val x2] [x2, (.ref r1)])
  obtain ⟨T14, h14, X14, e14, W14, st14⟩ := putF Xx13 hx hZ hown (host := "") (Or.inl (wk hw 16 rfl)) Via.refl e6 q9 q7 (Or.inr ⟨(wk hw 17 rfl), rfl, hnm⟩) (wk hw 1 rfl) (ty := (.object "java/util/List")) (by decide) (own_narR ir_x2) (own_fitR ir_x2) (g := (mkF m 11 #[sR r1, .val x1, .val x2] [x2, (.ref r1)])) rfl rfl (hb hby d1_11)
  have q15 := q7.wr W14
  have q16 := q8.other W14 (Or.inr (sn_1 hw))
  have q17 : Fld Z h14 r1 kA "choices" "Ljava/util/List;" x2 := q9.same W14
  have Z18 : n0 ≤ h14.size := Nat.le_trans Z10 (Keep.of_wr W14).1
  have K19 : Keep h0 h14 [r1] := K11.wr W14 (Or.inl (List.mem_of_getElem? (i := 0) rfl))
  have N20 := Fr.snoc X14 Nx13 g_r1
  obtain ⟨Lx21, Xx21, Nx21⟩ := own_locs X14 N20
  refine Go.of st14 ?_
  show Go p e below Qo T14 (mkF m 14 #[sR r1, .val x1, .val x2] [])
  exact own_ret0 Xx21 hx Bd.notSynchronized Bd.returns (hb hby d1_14) (fun u hu hF => hQo _ _ _ ⟨rfl, Nx21, by rw [hu, e14]; exact K19, by rw [hu, e14]; exact q15, by rw [hu, e14]; exact q16, by rw [hu, e14]; exact q17⟩ (own_mono hF (by decide) (by decide)))
theorem d5_0 : decode prog_38_method_1_code 0 = .ok (.aload_n 0, 1) := by decide +kernel
theorem d5_1 : decode prog_38_method_1_code 1 = .ok (.invokespecial 1, 3) := by decide +kernel
theorem d5_4 : decode prog_38_method_1_code 4 = .ok (.return_, 1) := by decide +kernel
theorem pn_2 : plainName kT = true := by first | (simp [plainName, overriddenIn]; done) | decide +kernel
theorem ef_5 (m : MethodId) (r1 : Addr)  : entryFrame m #[(.ref r1)] 1 = mkF m 0 #[.val (.ref r1)] [] := by
  first | (simp [entryFrame, mkF, argsToLocals, Value.category]; done) | rfl
def Q5 (Z : State) (r1 : Addr) (h0 : Heap) (n0 : Nat) (v : Option Value) (h : Heap) (L : List Loc) : Prop := v = none ∧ Fr n0 L ∧ h = h0
set_option maxRecDepth 65536 in
set_option maxHeartbeats 40000000 in
theorem rm5 (l : Launch) (Z : State) (a0 : Array Value) (hw : ∀ d ∈ tables_1, d.before a0 Z = true) (ws : List Jvm.Cond) (r1 : Addr) (h0 : Heap) (n0 : Nat) (Z0 : n0 ≤ h0.size)  :
    MetFree l (⟨kT, "<init>", "()V"⟩ : MethodName) (head1 (Jvm.Cond.code (⟨kT, "<init>", "()V"⟩ : MethodName) prog_38_method_1_code 1 none :: ws) ({ frames := 1, cells := 0, slots := 0, locals := 12 } : Room)) (fun a U => a = #[(.ref r1)] ∧ Z.Warmed39 U.vm ∧ U.heap = h0) (fun _ _ _ _ _ => True) (fun _ U o U' => ∃ v L, o = .returned v ∧ Q5 Z r1 h0 n0 v U'.heap L ∧ FrameEnd U o U' L ({ frames := 1, cells := 0, slots := 0, locals := 12 } : Room).cells ({ frames := 1, cells := 0, slots := 0, locals := 12 } : Room).slots) := by
  refine MetFree.of_bodySF (plainFor_of_name pn_2) hisR ?_
  intro p e s m args below meth c s₁ Bd hml0 hP hK
  obtain ⟨rfl, hZ, hh⟩ := hP
  have hx := Bd.exec
  have hby := Bd.bytes
  have hml : c.maxLocals = 1 := hml0
  have hown : s.vm.findClass kT = some m.cls := findClass_of_methodNamed Bd.named
  have hnm := (name_of_methodNamed Bd.named Bd.method).1
  have X0 : Stand p l e ({ frames := 1, cells := 0, slots := 0, locals := 12 } : Room) s m #[(.ref r1)] below meth c s₁ [] 0 0 := Stand.of_body Bd
  have e0 : s₁.heap = h0 := by rw [← hh, Bd.state]; rfl
  have N0 := Fr.nil n0
  suffices H : ∀ Qo : Outcome → State → Prop, (∀ (v : Option Value) (u : State) (L : List Loc), Q5 Z r1 h0 n0 v u.heap L → FrameEnd s (.returned v) u L ({ frames := 1, cells := 0, slots := 0, locals := 12 } : Room).cells ({ frames := 1, cells := 0, slots := 0, locals := 12 } : Room).slots → Qo (.returned v) u) → Go p e below Qo s₁ (mkF m 0 #[.val (.ref r1)] []) from
    Go.cast (ef_5 m r1) (H _ fun v u L h1 h2 => ⟨v, L, rfl, h1, h2⟩)
  intro Qo hQo
  show Go p e below Qo s₁ (mkF m 0 #[sR r1] [])
  refine Go.of (fun t k => XS.aloadN X0.here hx rfl (hb hby d5_0) rfl rfl k) ?_
  show Go p e below Qo s₁ (mkF m 1 #[sR r1] [(.ref r1)])
  obtain ⟨T1, X1, e1, st1⟩ := initO X0 hx hZ hown (wk hw 31 rfl) (wk hw 12 rfl) (wk hw 13 rfl) e0 (g := (mkF m 1 #[sR r1] [(.ref r1)])) rfl (by rw [hml]; rfl) rfl (hb hby d5_1) (by decide) (W := 0) (by show 2 * 0 + _ ≤ _; exact Nat.le_of_eq rfl) (by decide)
  refine Go.of st1 ?_
  show Go p e below Qo T1 (mkF m 4 #[sR r1] [])
  exact own_ret0 X1 hx Bd.notSynchronized Bd.returns (hb hby d5_4) (fun u hu hF => hQo _ _ _ ⟨rfl, N0, by rw [hu, e1]⟩ (own_mono hF (by decide) (by decide)))
theorem d41_0 : decode jdk_33_method_22_code 0 = .ok (.iload_n 0, 1) := by decide +kernel
theorem d41_1 : decode jdk_33_method_22_code 1 = .ok (.bipush (-128), 2) := by decide +kernel
theorem d41_3 : decode jdk_33_method_22_code 3 = .ok (.if_icmp .lt 20, 3) := by decide +kernel
theorem d41_6 : decode jdk_33_method_22_code 6 = .ok (.iload_n 0, 1) := by decide +kernel
theorem d41_7 : decode jdk_33_method_22_code 7 = .ok (.getstatic 191, 3) := by decide +kernel
theorem d41_10 : decode jdk_33_method_22_code 10 = .ok (.if_icmp .gt 13, 3) := by decide +kernel
theorem d41_13 : decode jdk_33_method_22_code 13 = .ok (.getstatic 195, 3) := by decide +kernel
theorem d41_16 : decode jdk_33_method_22_code 16 = .ok (.iload_n 0, 1) := by decide +kernel
theorem d41_17 : decode jdk_33_method_22_code 17 = .ok (.sipush 128, 3) := by decide +kernel
theorem d41_20 : decode jdk_33_method_22_code 20 = .ok (.iadd, 1) := by decide +kernel
theorem d41_21 : decode jdk_33_method_22_code 21 = .ok (.aaload, 1) := by decide +kernel
theorem d41_22 : decode jdk_33_method_22_code 22 = .ok (.areturn, 1) := by decide +kernel
theorem pn_3 : plainName "java/lang/Integer" = true := by first | (simp [plainName, overriddenIn]; done) | decide +kernel
theorem ef_41 (m : MethodId) (i1 : Int32)  : entryFrame m #[(.int i1)] 1 = mkF m 0 #[.val (.int i1)] [] := by
  first | (simp [entryFrame, mkF, argsToLocals, Value.category]; done) | rfl
def Q41 (Z : State) (i1 : Int32) (rc : Addr) (h0 : Heap) (n0 : Nat) (v : Option Value) (h : Heap) (L : List Loc) : Prop := ∃ rb : Addr, v = some (.ref rb) ∧ Fr n0 L ∧ Keep h0 h [] ∧ Exa Z h rb "java/lang/Integer"
set_option maxRecDepth 65536 in
set_option maxHeartbeats 40000000 in
theorem rm41 (l : Launch) (Z : State) (a0 : Array Value) (hw : ∀ d ∈ tables_1, d.before a0 Z = true) (ws : List Jvm.Cond) (i1 : Int32) (rc : Addr) (h0 : Heap) (n0 : Nat) (Z0 : n0 ≤ h0.size) (f0 : Sta Z h0 "java/lang/Integer$IntegerCache" "high" "I" (.int (127 : Int32))) (f1 : Sta Z h0 "java/lang/Integer$IntegerCache" "cache" "[Ljava/lang/Integer;" (.ref rc)) (f2 : Old Z n0 h0) (hC : own_cache Z rc) (ho : i1 = (1 : Int32)) :
    MetFree l (⟨"java/lang/Integer", "valueOf", "(I)Ljava/lang/Integer;"⟩ : MethodName) (head1 (Jvm.Cond.code (⟨"java/lang/Integer", "valueOf", "(I)Ljava/lang/Integer;"⟩ : MethodName) jdk_33_method_22_code 1 (some (.object "java/lang/Integer")) :: ws) ({ frames := 0, cells := 0, slots := 0, locals := 0 } : Room)) (fun a U => a = #[(.int i1)] ∧ Z.Warmed39 U.vm ∧ U.heap = h0) (fun _ _ _ _ _ => True) (fun _ U o U' => ∃ v L, o = .returned v ∧ Q41 Z i1 rc h0 n0 v U'.heap L ∧ FrameEnd U o U' L ({ frames := 0, cells := 0, slots := 0, locals := 0 } : Room).cells ({ frames := 0, cells := 0, slots := 0, locals := 0 } : Room).slots) := by
  refine MetFree.of_bodySF (plainFor_of_name pn_3) hisR ?_
  intro p e s m args below meth c s₁ Bd hml0 hP hK
  obtain ⟨rfl, hZ, hh⟩ := hP
  have hx := Bd.exec
  have hby := Bd.bytes
  have hml : c.maxLocals = 1 := hml0
  have hown : s.vm.findClass "java/lang/Integer" = some m.cls := findClass_of_methodNamed Bd.named
  have hnm := (name_of_methodNamed Bd.named Bd.method).1
  have X0 : Stand p l e ({ frames := 0, cells := 0, slots := 0, locals := 0 } : Room) s m #[(.int i1)] below meth c s₁ [] 0 0 := Stand.of_body Bd
  have e0 : s₁.heap = h0 := by rw [← hh, Bd.state]; rfl
  have N0 := Fr.nil n0
  suffices H : ∀ Qo : Outcome → State → Prop, (∀ (v : Option Value) (u : State) (L : List Loc), Q41 Z i1 rc h0 n0 v u.heap L → FrameEnd s (.returned v) u L ({ frames := 0, cells := 0, slots := 0, locals := 0 } : Room).cells ({ frames := 0, cells := 0, slots := 0, locals := 0 } : Room).slots → Qo (.returned v) u) → Go p e below Qo s₁ (mkF m 0 #[.val (.int i1)] []) from
    Go.cast (ef_41 m i1) (H _ fun v u L h1 h2 => ⟨v, L, rfl, h1, h2⟩)
  intro Qo hQo
  subst ho
  show Go p e below Qo s₁ (mkF m 0 #[sI (1 : Int32)] [])
  refine Go.of (fun t k => XS.iloadN X0.here hx rfl (hb hby d41_0) rfl  k) ?_
  show Go p e below Qo s₁ (mkF m 1 #[sI (1 : Int32)] [(.int (1 : Int32))])
  refine Go.of (fun t k => XS.bipush X0.here hx rfl (hb hby d41_1) k) ?_
  show Go p e below Qo s₁ (mkF m 3 #[sI (1 : Int32)] [(.int (-128 : Int32)), (.int (1 : Int32))])
  refine Go.of (fun t k => XS.icmpNo X0.here hx rfl (hb hby d41_3) rfl (flt (by decide : ¬ ((1 : Int32) < (-128 : Int32)))).1 k) ?_
  show Go p e below Qo s₁ (mkF m 6 #[sI (1 : Int32)] [])
  refine Go.of (fun t k => XS.iloadN X0.here hx rfl (hb hby d41_6) rfl  k) ?_
  show Go p e below Qo s₁ (mkF m 7 #[sI (1 : Int32)] [(.int (1 : Int32))])
  obtain ⟨T1, X1, e1, st1⟩ := getS X0 hx hZ (host := "") hown (wk hw 22 rfl) Via.refl e0 f0 (g := (mkF m 7 #[sI (1 : Int32)] [(.int (1 : Int32))])) rfl (hb hby d41_7)
  refine Go.of st1 ?_
  show Go p e below Qo T1 (mkF m 10 #[sI (1 : Int32)] [(.int (127 : Int32)), (.int (1 : Int32))])
  refine Go.of (fun t k => XS.icmpNo X1.here hx rfl (hb hby d41_10) rfl (flt (by decide : ¬ ((127 : Int32) < (1 : Int32)))).2.2.1 k) ?_
  show Go p e below Qo T1 (mkF m 13 #[sI (1 : Int32)] [])
  obtain ⟨T2, X2, e2, st2⟩ := getS X1 hx hZ (host := "") hown (wk hw 24 rfl) Via.refl e1 f1 (g := (mkF m 13 #[sI (1 : Int32)] [])) rfl (hb hby d41_13)
  refine Go.of st2 ?_
  show Go p e below Qo T2 (mkF m 16 #[sI (1 : Int32)] [(.ref rc)])
  refine Go.of (fun t k => XS.iloadN X2.here hx rfl (hb hby d41_16) rfl  k) ?_
  show Go p e below Qo T2 (mkF m 17 #[sI (1 : Int32)] [(.int (1 : Int32)), (.ref rc)])
  refine Go.of (fun t k => XS.sipush X2.here hx rfl (hb hby d41_17) k) ?_
  show Go p e below Qo T2 (mkF m 20 #[sI (1 : Int32)] [(.int (128 : Int32)), (.int (1 : Int32)), (.ref rc)])
  refine Go.of (fun t k => XS.iadd X2.here hx rfl (hb hby d41_20) rfl k) ?_
  show Go p e below Qo T2 (mkF m 21 #[sI (1 : Int32)] [(.int (129 : Int32)), (.ref rc)])
  obtain ⟨clz, Az, Sz, Hz⟩ := hC
  have Ay : Arr Z h0 rc clz (.object "java/lang/Integer") := Az.ext f2.2
  obtain ⟨az, hz1, hz2⟩ := Hz ((129 : Int32) : Int32).toNatClampNeg (by decide)
  have hin : ¬ ((129 : Int32) < 0 ∨ clz.slots.size ≤ (129 : Int32).toNatClampNeg) := by rw [Sz]; decide
  refine Go.of (fun t k => X2.aaload hx (j := (129 : Int32)) (v := .ref az) (by rw [e2]; exact Ay.1) (State.isArrayOf_alike hZ.alike Ay.2.1) rfl Ay.2.2 hin hz1 (g := (mkF m 21 #[sI (1 : Int32)] [(.int (129 : Int32)), (.ref rc)])) rfl rfl (hb hby d41_21) t k) ?_
  have Ey : Exa Z h0 az "java/lang/Integer" := hz2.ext f2.2
  show Go p e below Qo T2 (mkF m 22 #[sI (1 : Int32)] [(.ref az)])
  exact own_retW X2 hx Bd.notSynchronized Bd.returns rfl (Or.inr (Or.inr (Or.inr (Or.inr ⟨rfl, rfl, rfl⟩)))) (hb hby d41_22) (fun u hu hF => hQo _ _ _ ⟨az, rfl, N0, by rw [hu, e2]; exact (Keep.refl h0 []), by rw [hu, e2]; exact Ey⟩ (own_mono hF (by decide) (by decide)))
theorem d42_0 : decode jdk_33_method_22_code 0 = .ok (.iload_n 0, 1) := by decide +kernel
theorem d42_1 : decode jdk_33_method_22_code 1 = .ok (.bipush (-128), 2) := by decide +kernel
theorem d42_3 : decode jdk_33_method_22_code 3 = .ok (.if_icmp .lt 20, 3) := by decide +kernel
theorem d42_6 : decode jdk_33_method_22_code 6 = .ok (.iload_n 0, 1) := by decide +kernel
theorem d42_7 : decode jdk_33_method_22_code 7 = .ok (.getstatic 191, 3) := by decide +kernel
theorem d42_10 : decode jdk_33_method_22_code 10 = .ok (.if_icmp .gt 13, 3) := by decide +kernel
theorem d42_13 : decode jdk_33_method_22_code 13 = .ok (.getstatic 195, 3) := by decide +kernel
theorem d42_16 : decode jdk_33_method_22_code 16 = .ok (.iload_n 0, 1) := by decide +kernel
theorem d42_17 : decode jdk_33_method_22_code 17 = .ok (.sipush 128, 3) := by decide +kernel
theorem d42_20 : decode jdk_33_method_22_code 20 = .ok (.iadd, 1) := by decide +kernel
theorem d42_21 : decode jdk_33_method_22_code 21 = .ok (.aaload, 1) := by decide +kernel
theorem d42_22 : decode jdk_33_method_22_code 22 = .ok (.areturn, 1) := by decide +kernel
theorem ef_42 (m : MethodId) (i1 : Int32)  : entryFrame m #[(.int i1)] 1 = mkF m 0 #[.val (.int i1)] [] := by
  first | (simp [entryFrame, mkF, argsToLocals, Value.category]; done) | rfl
def Q42 (Z : State) (i1 : Int32) (rc : Addr) (h0 : Heap) (n0 : Nat) (v : Option Value) (h : Heap) (L : List Loc) : Prop := ∃ rb : Addr, v = some (.ref rb) ∧ Fr n0 L ∧ Keep h0 h [] ∧ Exa Z h rb "java/lang/Integer"
set_option maxRecDepth 65536 in
set_option maxHeartbeats 40000000 in
theorem rm42 (l : Launch) (Z : State) (a0 : Array Value) (hw : ∀ d ∈ tables_1, d.before a0 Z = true) (ws : List Jvm.Cond) (i1 : Int32) (rc : Addr) (h0 : Heap) (n0 : Nat) (Z0 : n0 ≤ h0.size) (f0 : Sta Z h0 "java/lang/Integer$IntegerCache" "high" "I" (.int (127 : Int32))) (f1 : Sta Z h0 "java/lang/Integer$IntegerCache" "cache" "[Ljava/lang/Integer;" (.ref rc)) (f2 : Old Z n0 h0) (hC : own_cache Z rc) (ho : i1 = (2 : Int32)) :
    MetFree l (⟨"java/lang/Integer", "valueOf", "(I)Ljava/lang/Integer;"⟩ : MethodName) (head1 (Jvm.Cond.code (⟨"java/lang/Integer", "valueOf", "(I)Ljava/lang/Integer;"⟩ : MethodName) jdk_33_method_22_code 1 (some (.object "java/lang/Integer")) :: ws) ({ frames := 0, cells := 0, slots := 0, locals := 0 } : Room)) (fun a U => a = #[(.int i1)] ∧ Z.Warmed39 U.vm ∧ U.heap = h0) (fun _ _ _ _ _ => True) (fun _ U o U' => ∃ v L, o = .returned v ∧ Q42 Z i1 rc h0 n0 v U'.heap L ∧ FrameEnd U o U' L ({ frames := 0, cells := 0, slots := 0, locals := 0 } : Room).cells ({ frames := 0, cells := 0, slots := 0, locals := 0 } : Room).slots) := by
  refine MetFree.of_bodySF (plainFor_of_name pn_3) hisR ?_
  intro p e s m args below meth c s₁ Bd hml0 hP hK
  obtain ⟨rfl, hZ, hh⟩ := hP
  have hx := Bd.exec
  have hby := Bd.bytes
  have hml : c.maxLocals = 1 := hml0
  have hown : s.vm.findClass "java/lang/Integer" = some m.cls := findClass_of_methodNamed Bd.named
  have hnm := (name_of_methodNamed Bd.named Bd.method).1
  have X0 : Stand p l e ({ frames := 0, cells := 0, slots := 0, locals := 0 } : Room) s m #[(.int i1)] below meth c s₁ [] 0 0 := Stand.of_body Bd
  have e0 : s₁.heap = h0 := by rw [← hh, Bd.state]; rfl
  have N0 := Fr.nil n0
  suffices H : ∀ Qo : Outcome → State → Prop, (∀ (v : Option Value) (u : State) (L : List Loc), Q42 Z i1 rc h0 n0 v u.heap L → FrameEnd s (.returned v) u L ({ frames := 0, cells := 0, slots := 0, locals := 0 } : Room).cells ({ frames := 0, cells := 0, slots := 0, locals := 0 } : Room).slots → Qo (.returned v) u) → Go p e below Qo s₁ (mkF m 0 #[.val (.int i1)] []) from
    Go.cast (ef_42 m i1) (H _ fun v u L h1 h2 => ⟨v, L, rfl, h1, h2⟩)
  intro Qo hQo
  subst ho
  show Go p e below Qo s₁ (mkF m 0 #[sI (2 : Int32)] [])
  refine Go.of (fun t k => XS.iloadN X0.here hx rfl (hb hby d42_0) rfl  k) ?_
  show Go p e below Qo s₁ (mkF m 1 #[sI (2 : Int32)] [(.int (2 : Int32))])
  refine Go.of (fun t k => XS.bipush X0.here hx rfl (hb hby d42_1) k) ?_
  show Go p e below Qo s₁ (mkF m 3 #[sI (2 : Int32)] [(.int (-128 : Int32)), (.int (2 : Int32))])
  refine Go.of (fun t k => XS.icmpNo X0.here hx rfl (hb hby d42_3) rfl (flt (by decide : ¬ ((2 : Int32) < (-128 : Int32)))).1 k) ?_
  show Go p e below Qo s₁ (mkF m 6 #[sI (2 : Int32)] [])
  refine Go.of (fun t k => XS.iloadN X0.here hx rfl (hb hby d42_6) rfl  k) ?_
  show Go p e below Qo s₁ (mkF m 7 #[sI (2 : Int32)] [(.int (2 : Int32))])
  obtain ⟨T1, X1, e1, st1⟩ := getS X0 hx hZ (host := "") hown (wk hw 22 rfl) Via.refl e0 f0 (g := (mkF m 7 #[sI (2 : Int32)] [(.int (2 : Int32))])) rfl (hb hby d42_7)
  refine Go.of st1 ?_
  show Go p e below Qo T1 (mkF m 10 #[sI (2 : Int32)] [(.int (127 : Int32)), (.int (2 : Int32))])
  refine Go.of (fun t k => XS.icmpNo X1.here hx rfl (hb hby d42_10) rfl (flt (by decide : ¬ ((127 : Int32) < (2 : Int32)))).2.2.1 k) ?_
  show Go p e below Qo T1 (mkF m 13 #[sI (2 : Int32)] [])
  obtain ⟨T2, X2, e2, st2⟩ := getS X1 hx hZ (host := "") hown (wk hw 24 rfl) Via.refl e1 f1 (g := (mkF m 13 #[sI (2 : Int32)] [])) rfl (hb hby d42_13)
  refine Go.of st2 ?_
  show Go p e below Qo T2 (mkF m 16 #[sI (2 : Int32)] [(.ref rc)])
  refine Go.of (fun t k => XS.iloadN X2.here hx rfl (hb hby d42_16) rfl  k) ?_
  show Go p e below Qo T2 (mkF m 17 #[sI (2 : Int32)] [(.int (2 : Int32)), (.ref rc)])
  refine Go.of (fun t k => XS.sipush X2.here hx rfl (hb hby d42_17) k) ?_
  show Go p e below Qo T2 (mkF m 20 #[sI (2 : Int32)] [(.int (128 : Int32)), (.int (2 : Int32)), (.ref rc)])
  refine Go.of (fun t k => XS.iadd X2.here hx rfl (hb hby d42_20) rfl k) ?_
  show Go p e below Qo T2 (mkF m 21 #[sI (2 : Int32)] [(.int (130 : Int32)), (.ref rc)])
  obtain ⟨clz, Az, Sz, Hz⟩ := hC
  have Ay : Arr Z h0 rc clz (.object "java/lang/Integer") := Az.ext f2.2
  obtain ⟨az, hz1, hz2⟩ := Hz ((130 : Int32) : Int32).toNatClampNeg (by decide)
  have hin : ¬ ((130 : Int32) < 0 ∨ clz.slots.size ≤ (130 : Int32).toNatClampNeg) := by rw [Sz]; decide
  refine Go.of (fun t k => X2.aaload hx (j := (130 : Int32)) (v := .ref az) (by rw [e2]; exact Ay.1) (State.isArrayOf_alike hZ.alike Ay.2.1) rfl Ay.2.2 hin hz1 (g := (mkF m 21 #[sI (2 : Int32)] [(.int (130 : Int32)), (.ref rc)])) rfl rfl (hb hby d42_21) t k) ?_
  have Ey : Exa Z h0 az "java/lang/Integer" := hz2.ext f2.2
  show Go p e below Qo T2 (mkF m 22 #[sI (2 : Int32)] [(.ref az)])
  exact own_retW X2 hx Bd.notSynchronized Bd.returns rfl (Or.inr (Or.inr (Or.inr (Or.inr ⟨rfl, rfl, rfl⟩)))) (hb hby d42_22) (fun u hu hF => hQo _ _ _ ⟨az, rfl, N0, by rw [hu, e2]; exact (Keep.refl h0 []), by rw [hu, e2]; exact Ey⟩ (own_mono hF (by decide) (by decide)))
theorem d43_0 : decode jdk_33_method_22_code 0 = .ok (.iload_n 0, 1) := by decide +kernel
theorem d43_1 : decode jdk_33_method_22_code 1 = .ok (.bipush (-128), 2) := by decide +kernel
theorem d43_3 : decode jdk_33_method_22_code 3 = .ok (.if_icmp .lt 20, 3) := by decide +kernel
theorem d43_6 : decode jdk_33_method_22_code 6 = .ok (.iload_n 0, 1) := by decide +kernel
theorem d43_7 : decode jdk_33_method_22_code 7 = .ok (.getstatic 191, 3) := by decide +kernel
theorem d43_10 : decode jdk_33_method_22_code 10 = .ok (.if_icmp .gt 13, 3) := by decide +kernel
theorem d43_13 : decode jdk_33_method_22_code 13 = .ok (.getstatic 195, 3) := by decide +kernel
theorem d43_16 : decode jdk_33_method_22_code 16 = .ok (.iload_n 0, 1) := by decide +kernel
theorem d43_17 : decode jdk_33_method_22_code 17 = .ok (.sipush 128, 3) := by decide +kernel
theorem d43_20 : decode jdk_33_method_22_code 20 = .ok (.iadd, 1) := by decide +kernel
theorem d43_21 : decode jdk_33_method_22_code 21 = .ok (.aaload, 1) := by decide +kernel
theorem d43_22 : decode jdk_33_method_22_code 22 = .ok (.areturn, 1) := by decide +kernel
theorem ef_43 (m : MethodId) (i1 : Int32)  : entryFrame m #[(.int i1)] 1 = mkF m 0 #[.val (.int i1)] [] := by
  first | (simp [entryFrame, mkF, argsToLocals, Value.category]; done) | rfl
def Q43 (Z : State) (i1 : Int32) (rc : Addr) (h0 : Heap) (n0 : Nat) (v : Option Value) (h : Heap) (L : List Loc) : Prop := ∃ rb : Addr, v = some (.ref rb) ∧ Fr n0 L ∧ Keep h0 h [] ∧ Exa Z h rb "java/lang/Integer"
set_option maxRecDepth 65536 in
set_option maxHeartbeats 40000000 in
theorem rm43 (l : Launch) (Z : State) (a0 : Array Value) (hw : ∀ d ∈ tables_1, d.before a0 Z = true) (ws : List Jvm.Cond) (i1 : Int32) (rc : Addr) (h0 : Heap) (n0 : Nat) (Z0 : n0 ≤ h0.size) (f0 : Sta Z h0 "java/lang/Integer$IntegerCache" "high" "I" (.int (127 : Int32))) (f1 : Sta Z h0 "java/lang/Integer$IntegerCache" "cache" "[Ljava/lang/Integer;" (.ref rc)) (f2 : Old Z n0 h0) (hC : own_cache Z rc) (ho : i1 = (3 : Int32)) :
    MetFree l (⟨"java/lang/Integer", "valueOf", "(I)Ljava/lang/Integer;"⟩ : MethodName) (head1 (Jvm.Cond.code (⟨"java/lang/Integer", "valueOf", "(I)Ljava/lang/Integer;"⟩ : MethodName) jdk_33_method_22_code 1 (some (.object "java/lang/Integer")) :: ws) ({ frames := 0, cells := 0, slots := 0, locals := 0 } : Room)) (fun a U => a = #[(.int i1)] ∧ Z.Warmed39 U.vm ∧ U.heap = h0) (fun _ _ _ _ _ => True) (fun _ U o U' => ∃ v L, o = .returned v ∧ Q43 Z i1 rc h0 n0 v U'.heap L ∧ FrameEnd U o U' L ({ frames := 0, cells := 0, slots := 0, locals := 0 } : Room).cells ({ frames := 0, cells := 0, slots := 0, locals := 0 } : Room).slots) := by
  refine MetFree.of_bodySF (plainFor_of_name pn_3) hisR ?_
  intro p e s m args below meth c s₁ Bd hml0 hP hK
  obtain ⟨rfl, hZ, hh⟩ := hP
  have hx := Bd.exec
  have hby := Bd.bytes
  have hml : c.maxLocals = 1 := hml0
  have hown : s.vm.findClass "java/lang/Integer" = some m.cls := findClass_of_methodNamed Bd.named
  have hnm := (name_of_methodNamed Bd.named Bd.method).1
  have X0 : Stand p l e ({ frames := 0, cells := 0, slots := 0, locals := 0 } : Room) s m #[(.int i1)] below meth c s₁ [] 0 0 := Stand.of_body Bd
  have e0 : s₁.heap = h0 := by rw [← hh, Bd.state]; rfl
  have N0 := Fr.nil n0
  suffices H : ∀ Qo : Outcome → State → Prop, (∀ (v : Option Value) (u : State) (L : List Loc), Q43 Z i1 rc h0 n0 v u.heap L → FrameEnd s (.returned v) u L ({ frames := 0, cells := 0, slots := 0, locals := 0 } : Room).cells ({ frames := 0, cells := 0, slots := 0, locals := 0 } : Room).slots → Qo (.returned v) u) → Go p e below Qo s₁ (mkF m 0 #[.val (.int i1)] []) from
    Go.cast (ef_43 m i1) (H _ fun v u L h1 h2 => ⟨v, L, rfl, h1, h2⟩)
  intro Qo hQo
  subst ho
  show Go p e below Qo s₁ (mkF m 0 #[sI (3 : Int32)] [])
  refine Go.of (fun t k => XS.iloadN X0.here hx rfl (hb hby d43_0) rfl  k) ?_
  show Go p e below Qo s₁ (mkF m 1 #[sI (3 : Int32)] [(.int (3 : Int32))])
  refine Go.of (fun t k => XS.bipush X0.here hx rfl (hb hby d43_1) k) ?_
  show Go p e below Qo s₁ (mkF m 3 #[sI (3 : Int32)] [(.int (-128 : Int32)), (.int (3 : Int32))])
  refine Go.of (fun t k => XS.icmpNo X0.here hx rfl (hb hby d43_3) rfl (flt (by decide : ¬ ((3 : Int32) < (-128 : Int32)))).1 k) ?_
  show Go p e below Qo s₁ (mkF m 6 #[sI (3 : Int32)] [])
  refine Go.of (fun t k => XS.iloadN X0.here hx rfl (hb hby d43_6) rfl  k) ?_
  show Go p e below Qo s₁ (mkF m 7 #[sI (3 : Int32)] [(.int (3 : Int32))])
  obtain ⟨T1, X1, e1, st1⟩ := getS X0 hx hZ (host := "") hown (wk hw 22 rfl) Via.refl e0 f0 (g := (mkF m 7 #[sI (3 : Int32)] [(.int (3 : Int32))])) rfl (hb hby d43_7)
  refine Go.of st1 ?_
  show Go p e below Qo T1 (mkF m 10 #[sI (3 : Int32)] [(.int (127 : Int32)), (.int (3 : Int32))])
  refine Go.of (fun t k => XS.icmpNo X1.here hx rfl (hb hby d43_10) rfl (flt (by decide : ¬ ((127 : Int32) < (3 : Int32)))).2.2.1 k) ?_
  show Go p e below Qo T1 (mkF m 13 #[sI (3 : Int32)] [])
  obtain ⟨T2, X2, e2, st2⟩ := getS X1 hx hZ (host := "") hown (wk hw 24 rfl) Via.refl e1 f1 (g := (mkF m 13 #[sI (3 : Int32)] [])) rfl (hb hby d43_13)
  refine Go.of st2 ?_
  show Go p e below Qo T2 (mkF m 16 #[sI (3 : Int32)] [(.ref rc)])
  refine Go.of (fun t k => XS.iloadN X2.here hx rfl (hb hby d43_16) rfl  k) ?_
  show Go p e below Qo T2 (mkF m 17 #[sI (3 : Int32)] [(.int (3 : Int32)), (.ref rc)])
  refine Go.of (fun t k => XS.sipush X2.here hx rfl (hb hby d43_17) k) ?_
  show Go p e below Qo T2 (mkF m 20 #[sI (3 : Int32)] [(.int (128 : Int32)), (.int (3 : Int32)), (.ref rc)])
  refine Go.of (fun t k => XS.iadd X2.here hx rfl (hb hby d43_20) rfl k) ?_
  show Go p e below Qo T2 (mkF m 21 #[sI (3 : Int32)] [(.int (131 : Int32)), (.ref rc)])
  obtain ⟨clz, Az, Sz, Hz⟩ := hC
  have Ay : Arr Z h0 rc clz (.object "java/lang/Integer") := Az.ext f2.2
  obtain ⟨az, hz1, hz2⟩ := Hz ((131 : Int32) : Int32).toNatClampNeg (by decide)
  have hin : ¬ ((131 : Int32) < 0 ∨ clz.slots.size ≤ (131 : Int32).toNatClampNeg) := by rw [Sz]; decide
  refine Go.of (fun t k => X2.aaload hx (j := (131 : Int32)) (v := .ref az) (by rw [e2]; exact Ay.1) (State.isArrayOf_alike hZ.alike Ay.2.1) rfl Ay.2.2 hin hz1 (g := (mkF m 21 #[sI (3 : Int32)] [(.int (131 : Int32)), (.ref rc)])) rfl rfl (hb hby d43_21) t k) ?_
  have Ey : Exa Z h0 az "java/lang/Integer" := hz2.ext f2.2
  show Go p e below Qo T2 (mkF m 22 #[sI (3 : Int32)] [(.ref az)])
  exact own_retW X2 hx Bd.notSynchronized Bd.returns rfl (Or.inr (Or.inr (Or.inr (Or.inr ⟨rfl, rfl, rfl⟩)))) (hb hby d43_22) (fun u hu hF => hQo _ _ _ ⟨az, rfl, N0, by rw [hu, e2]; exact (Keep.refl h0 []), by rw [hu, e2]; exact Ey⟩ (own_mono hF (by decide) (by decide)))
theorem d61_0 : decode prog_38_method_10_code 0 = .ok (.aload_n 0, 1) := by decide +kernel
theorem d61_1 : decode prog_38_method_10_code 1 = .ok (.getfield 128, 3) := by decide +kernel
theorem d61_4 : decode prog_38_method_10_code 4 = .ok (.ifnonnull 10, 3) := by decide +kernel
theorem d61_7 : decode prog_38_method_10_code 7 = .ok (.aload_n 0, 1) := by decide +kernel
theorem d61_8 : decode prog_38_method_10_code 8 = .ok (.getfield 115, 3) := by decide +kernel
theorem d61_11 : decode prog_38_method_10_code 11 = .ok (.goto 7, 3) := by decide +kernel
theorem d61_18 : decode prog_38_method_10_code 18 = .ok (.areturn, 1) := by decide +kernel
theorem ef_61 (m : MethodId) (r1 : Addr)  : entryFrame m #[(.ref r1)] 1 = mkF m 0 #[.val (.ref r1)] [] := by
  first | (simp [entryFrame, mkF, argsToLocals, Value.category]; done) | rfl
def Q61 (Z : State) (r1 : Addr) (h0 : Heap) (n0 : Nat) (v : Option Value) (h : Heap) (L : List Loc) : Prop := v = some .null ∧ Fr n0 L ∧ h = h0
set_option maxRecDepth 65536 in
set_option maxHeartbeats 40000000 in
theorem rm61 (l : Launch) (Z : State) (a0 : Array Value) (hw : ∀ d ∈ tables_1, d.before a0 Z = true) (ws : List Jvm.Cond) (r1 : Addr) (h0 : Heap) (n0 : Nat) (Z0 : n0 ≤ h0.size) (f0 : Fld Z h0 r1 kT "best" kD .null) (f1 : Fld Z h0 r1 kT "first" kD .null) :
    MetFree l (⟨kT, "reported", "()Lcom/example/examwright/examwright/Method$Attempt;"⟩ : MethodName) (head1 (Jvm.Cond.code (⟨kT, "reported", "()Lcom/example/examwright/examwright/Method$Attempt;"⟩ : MethodName) prog_38_method_10_code 1 (some (.object kA)) :: ws) ({ frames := 0, cells := 0, slots := 0, locals := 0 } : Room)) (fun a U => a = #[(.ref r1)] ∧ Z.Warmed39 U.vm ∧ U.heap = h0) (fun _ _ _ _ _ => True) (fun _ U o U' => ∃ v L, o = .returned v ∧ Q61 Z r1 h0 n0 v U'.heap L ∧ FrameEnd U o U' L ({ frames := 0, cells := 0, slots := 0, locals := 0 } : Room).cells ({ frames := 0, cells := 0, slots := 0, locals := 0 } : Room).slots) := by
  refine MetFree.of_bodySF (plainFor_of_name pn_2) hisR ?_
  intro p e s m args below meth c s₁ Bd hml0 hP hK
  obtain ⟨rfl, hZ, hh⟩ := hP
  have hx := Bd.exec
  have hby := Bd.bytes
  have hml : c.maxLocals = 1 := hml0
  have hown : s.vm.findClass kT = some m.cls := findClass_of_methodNamed Bd.named
  have hnm := (name_of_methodNamed Bd.named Bd.method).1
  have X0 : Stand p l e ({ frames := 0, cells := 0, slots := 0, locals := 0 } : Room) s m #[(.ref r1)] below meth c s₁ [] 0 0 := Stand.of_body Bd
  have e0 : s₁.heap = h0 := by rw [← hh, Bd.state]; rfl
  have N0 := Fr.nil n0
  suffices H : ∀ Qo : Outcome → State → Prop, (∀ (v : Option Value) (u : State) (L : List Loc), Q61 Z r1 h0 n0 v u.heap L → FrameEnd s (.returned v) u L ({ frames := 0, cells := 0, slots := 0, locals := 0 } : Room).cells ({ frames := 0, cells := 0, slots := 0, locals := 0 } : Room).slots → Qo (.returned v) u) → Go p e below Qo s₁ (mkF m 0 #[.val (.ref r1)] []) from
    Go.cast (ef_61 m r1) (H _ fun v u L h1 h2 => ⟨v, L, rfl, h1, h2⟩)
  intro Qo hQo
  show Go p e below Qo s₁ (mkF m 0 #[sR r1] [])
  refine Go.of (fun t k => XS.aloadN X0.here hx rfl (hb hby d61_0) rfl rfl k) ?_
  show Go p e below Qo s₁ (mkF m 1 #[sR r1] [(.ref r1)])
  obtain ⟨T1, X1, e1, st1⟩ := getF X0 hx hZ hown (host := "") (Or.inl (wk hw 37 rfl)) Via.refl e0 f0 (g := (mkF m 1 #[sR r1] [(.ref r1)])) rfl rfl (hb hby d61_1)
  refine Go.of st1 ?_
  show Go p e below Qo T1 (mkF m 4 #[sR r1] [.null])
  refine Go.of (fun t k => XS.ifnonnullNo X1.here hx rfl (hb hby d61_4) rfl k) ?_
  show Go p e below Qo T1 (mkF m 7 #[sR r1] [])
  refine Go.of (fun t k => XS.aloadN X1.here hx rfl (hb hby d61_7) rfl rfl k) ?_
  show Go p e below Qo T1 (mkF m 8 #[sR r1] [(.ref r1)])
  obtain ⟨T2, X2, e2, st2⟩ := getF X1 hx hZ hown (host := "") (Or.inl (wk hw 39 rfl)) Via.refl e1 f1 (g := (mkF m 8 #[sR r1] [(.ref r1)])) rfl rfl (hb hby d61_8)
  refine Go.of st2 ?_
  show Go p e below Qo T2 (mkF m 11 #[sR r1] [.null])
  refine Go.of (fun t k => XS.goto X2.here hx rfl (pc0 := 11) (pc' := 18) rfl (hb hby d61_11) (by decide) (by decide) k) ?_
  show Go p e below Qo T2 (mkF m 18 #[sR r1] [.null])
  exact own_retW X2 hx Bd.notSynchronized Bd.returns rfl (Or.inr (Or.inr (Or.inr (Or.inr ⟨rfl, rfl, rfl⟩)))) (hb hby d61_18) (fun u hu hF => hQo _ _ _ ⟨rfl, N0, by rw [hu, e2]⟩ (own_mono hF (by decide) (by decide)))
theorem d62_0 : decode prog_38_method_10_code 0 = .ok (.aload_n 0, 1) := by decide +kernel
theorem d62_1 : decode prog_38_method_10_code 1 = .ok (.getfield 128, 3) := by decide +kernel
theorem d62_4 : decode prog_38_method_10_code 4 = .ok (.ifnonnull 10, 3) := by decide +kernel
theorem d62_7 : decode prog_38_method_10_code 7 = .ok (.aload_n 0, 1) := by decide +kernel
theorem d62_8 : decode prog_38_method_10_code 8 = .ok (.getfield 115, 3) := by decide +kernel
theorem d62_11 : decode prog_38_method_10_code 11 = .ok (.goto 7, 3) := by decide +kernel
theorem d62_18 : decode prog_38_method_10_code 18 = .ok (.areturn, 1) := by decide +kernel
theorem ef_62 (m : MethodId) (r1 : Addr)  : entryFrame m #[(.ref r1)] 1 = mkF m 0 #[.val (.ref r1)] [] := by
  first | (simp [entryFrame, mkF, argsToLocals, Value.category]; done) | rfl
def Q62 (Z : State) (r1 : Addr) (rf : Addr) (h0 : Heap) (n0 : Nat) (v : Option Value) (h : Heap) (L : List Loc) : Prop := v = some (.ref rf) ∧ Fr n0 L ∧ h = h0
set_option maxRecDepth 65536 in
set_option maxHeartbeats 40000000 in
theorem rm62 (l : Launch) (Z : State) (a0 : Array Value) (hw : ∀ d ∈ tables_1, d.before a0 Z = true) (ws : List Jvm.Cond) (r1 : Addr) (rf : Addr) (h0 : Heap) (n0 : Nat) (Z0 : n0 ≤ h0.size) (f0 : Fld Z h0 r1 kT "best" kD .null) (f1 : Fld Z h0 r1 kT "first" kD (.ref rf)) :
    MetFree l (⟨kT, "reported", "()Lcom/example/examwright/examwright/Method$Attempt;"⟩ : MethodName) (head1 (Jvm.Cond.code (⟨kT, "reported", "()Lcom/example/examwright/examwright/Method$Attempt;"⟩ : MethodName) prog_38_method_10_code 1 (some (.object kA)) :: ws) ({ frames := 0, cells := 0, slots := 0, locals := 0 } : Room)) (fun a U => a = #[(.ref r1)] ∧ Z.Warmed39 U.vm ∧ U.heap = h0) (fun _ _ _ _ _ => True) (fun _ U o U' => ∃ v L, o = .returned v ∧ Q62 Z r1 rf h0 n0 v U'.heap L ∧ FrameEnd U o U' L ({ frames := 0, cells := 0, slots := 0, locals := 0 } : Room).cells ({ frames := 0, cells := 0, slots := 0, locals := 0 } : Room).slots) := by
  refine MetFree.of_bodySF (plainFor_of_name pn_2) hisR ?_
  intro p e s m args below meth c s₁ Bd hml0 hP hK
  obtain ⟨rfl, hZ, hh⟩ := hP
  have hx := Bd.exec
  have hby := Bd.bytes
  have hml : c.maxLocals = 1 := hml0
  have hown : s.vm.findClass kT = some m.cls := findClass_of_methodNamed Bd.named
  have hnm := (name_of_methodNamed Bd.named Bd.method).1
  have X0 : Stand p l e ({ frames := 0, cells := 0, slots := 0, locals := 0 } : Room) s m #[(.ref r1)] below meth c s₁ [] 0 0 := Stand.of_body Bd
  have e0 : s₁.heap = h0 := by rw [← hh, Bd.state]; rfl
  have N0 := Fr.nil n0
  suffices H : ∀ Qo : Outcome → State → Prop, (∀ (v : Option Value) (u : State) (L : List Loc), Q62 Z r1 rf h0 n0 v u.heap L → FrameEnd s (.returned v) u L ({ frames := 0, cells := 0, slots := 0, locals := 0 } : Room).cells ({ frames := 0, cells := 0, slots := 0, locals := 0 } : Room).slots → Qo (.returned v) u) → Go p e below Qo s₁ (mkF m 0 #[.val (.ref r1)] []) from
    Go.cast (ef_62 m r1) (H _ fun v u L h1 h2 => ⟨v, L, rfl, h1, h2⟩)
  intro Qo hQo
  show Go p e below Qo s₁ (mkF m 0 #[sR r1] [])
  refine Go.of (fun t k => XS.aloadN X0.here hx rfl (hb hby d62_0) rfl rfl k) ?_
  show Go p e below Qo s₁ (mkF m 1 #[sR r1] [(.ref r1)])
  obtain ⟨T1, X1, e1, st1⟩ := getF X0 hx hZ hown (host := "") (Or.inl (wk hw 37 rfl)) Via.refl e0 f0 (g := (mkF m 1 #[sR r1] [(.ref r1)])) rfl rfl (hb hby d62_1)
  refine Go.of st1 ?_
  show Go p e below Qo T1 (mkF m 4 #[sR r1] [.null])
  refine Go.of (fun t k => XS.ifnonnullNo X1.here hx rfl (hb hby d62_4) rfl k) ?_
  show Go p e below Qo T1 (mkF m 7 #[sR r1] [])
  refine Go.of (fun t k => XS.aloadN X1.here hx rfl (hb hby d62_7) rfl rfl k) ?_
  show Go p e below Qo T1 (mkF m 8 #[sR r1] [(.ref r1)])
  obtain ⟨T2, X2, e2, st2⟩ := getF X1 hx hZ hown (host := "") (Or.inl (wk hw 39 rfl)) Via.refl e1 f1 (g := (mkF m 8 #[sR r1] [(.ref r1)])) rfl rfl (hb hby d62_8)
  refine Go.of st2 ?_
  show Go p e below Qo T2 (mkF m 11 #[sR r1] [(.ref rf)])
  refine Go.of (fun t k => XS.goto X2.here hx rfl (pc0 := 11) (pc' := 18) rfl (hb hby d62_11) (by decide) (by decide) k) ?_
  show Go p e below Qo T2 (mkF m 18 #[sR r1] [(.ref rf)])
  exact own_retW X2 hx Bd.notSynchronized Bd.returns rfl (Or.inr (Or.inr (Or.inr (Or.inr ⟨rfl, rfl, rfl⟩)))) (hb hby d62_18) (fun u hu hF => hQo _ _ _ ⟨rfl, N0, by rw [hu, e2]⟩ (own_mono hF (by decide) (by decide)))
theorem d63_0 : decode prog_38_method_10_code 0 = .ok (.aload_n 0, 1) := by decide +kernel
theorem d63_1 : decode prog_38_method_10_code 1 = .ok (.getfield 128, 3) := by decide +kernel
theorem d63_4 : decode prog_38_method_10_code 4 = .ok (.ifnonnull 10, 3) := by decide +kernel
theorem d63_14 : decode prog_38_method_10_code 14 = .ok (.aload_n 0, 1) := by decide +kernel
theorem d63_15 : decode prog_38_method_10_code 15 = .ok (.getfield 128, 3) := by decide +kernel
theorem d63_18 : decode prog_38_method_10_code 18 = .ok (.areturn, 1) := by decide +kernel
theorem ef_63 (m : MethodId) (r1 : Addr)  : entryFrame m #[(.ref r1)] 1 = mkF m 0 #[.val (.ref r1)] [] := by
  first | (simp [entryFrame, mkF, argsToLocals, Value.category]; done) | rfl
def Q63 (Z : State) (r1 : Addr) (rf : Addr) (h0 : Heap) (n0 : Nat) (v : Option Value) (h : Heap) (L : List Loc) : Prop := v = some (.ref rf) ∧ Fr n0 L ∧ h = h0
set_option maxRecDepth 65536 in
set_option maxHeartbeats 40000000 in
theorem rm63 (l : Launch) (Z : State) (a0 : Array Value) (hw : ∀ d ∈ tables_1, d.before a0 Z = true) (ws : List Jvm.Cond) (r1 : Addr) (rf : Addr) (h0 : Heap) (n0 : Nat) (Z0 : n0 ≤ h0.size) (f0 : Fld Z h0 r1 kT "best" kD (.ref rf)) :
    MetFree l (⟨kT, "reported", "()Lcom/example/examwright/examwright/Method$Attempt;"⟩ : MethodName) (head1 (Jvm.Cond.code (⟨kT, "reported", "()Lcom/example/examwright/examwright/Method$Attempt;"⟩ : MethodName) prog_38_method_10_code 1 (some (.object kA)) :: ws) ({ frames := 0, cells := 0, slots := 0, locals := 0 } : Room)) (fun a U => a = #[(.ref r1)] ∧ Z.Warmed39 U.vm ∧ U.heap = h0) (fun _ _ _ _ _ => True) (fun _ U o U' => ∃ v L, o = .returned v ∧ Q63 Z r1 rf h0 n0 v U'.heap L ∧ FrameEnd U o U' L ({ frames := 0, cells := 0, slots := 0, locals := 0 } : Room).cells ({ frames := 0, cells := 0, slots := 0, locals := 0 } : Room).slots) := by
  refine MetFree.of_bodySF (plainFor_of_name pn_2) hisR ?_
  intro p e s m args below meth c s₁ Bd hml0 hP hK
  obtain ⟨rfl, hZ, hh⟩ := hP
  have hx := Bd.exec
  have hby := Bd.bytes
  have hml : c.maxLocals = 1 := hml0
  have hown : s.vm.findClass kT = some m.cls := findClass_of_methodNamed Bd.named
  have hnm := (name_of_methodNamed Bd.named Bd.method).1
  have X0 : Stand p l e ({ frames := 0, cells := 0, slots := 0, locals := 0 } : Room) s m #[(.ref r1)] below meth c s₁ [] 0 0 := Stand.of_body Bd
  have e0 : s₁.heap = h0 := by rw [← hh, Bd.state]; rfl
  have N0 := Fr.nil n0
  suffices H : ∀ Qo : Outcome → State → Prop, (∀ (v : Option Value) (u : State) (L : List Loc), Q63 Z r1 rf h0 n0 v u.heap L → FrameEnd s (.returned v) u L ({ frames := 0, cells := 0, slots := 0, locals := 0 } : Room).cells ({ frames := 0, cells := 0, slots := 0, locals := 0 } : Room).slots → Qo (.returned v) u) → Go p e below Qo s₁ (mkF m 0 #[.val (.ref r1)] []) from
    Go.cast (ef_63 m r1) (H _ fun v u L h1 h2 => ⟨v, L, rfl, h1, h2⟩)
  intro Qo hQo
  show Go p e below Qo s₁ (mkF m 0 #[sR r1] [])
  refine Go.of (fun t k => XS.aloadN X0.here hx rfl (hb hby d63_0) rfl rfl k) ?_
  show Go p e below Qo s₁ (mkF m 1 #[sR r1] [(.ref r1)])
  obtain ⟨T1, X1, e1, st1⟩ := getF X0 hx hZ hown (host := "") (Or.inl (wk hw 37 rfl)) Via.refl e0 f0 (g := (mkF m 1 #[sR r1] [(.ref r1)])) rfl rfl (hb hby d63_1)
  refine Go.of st1 ?_
  show Go p e below Qo T1 (mkF m 4 #[sR r1] [(.ref rf)])
  refine Go.of (fun t k => XS.ifnonnullYes X1.here hx rfl (pc0 := 4) (pc' := 14) rfl (hb hby d63_4) rfl (by decide) (by decide) k) ?_
  show Go p e below Qo T1 (mkF m 14 #[sR r1] [])
  refine Go.of (fun t k => XS.aloadN X1.here hx rfl (hb hby d63_14) rfl rfl k) ?_
  show Go p e below Qo T1 (mkF m 15 #[sR r1] [(.ref r1)])
  obtain ⟨T2, X2, e2, st2⟩ := getF X1 hx hZ hown (host := "") (Or.inl (wk hw 37 rfl)) Via.refl e1 f0 (g := (mkF m 15 #[sR r1] [(.ref r1)])) rfl rfl (hb hby d63_15)
  refine Go.of st2 ?_
  show Go p e below Qo T2 (mkF m 18 #[sR r1] [(.ref rf)])
  exact own_retW X2 hx Bd.notSynchronized Bd.returns rfl (Or.inr (Or.inr (Or.inr (Or.inr ⟨rfl, rfl, rfl⟩)))) (hb hby d63_18) (fun u hu hF => hQo _ _ _ ⟨rfl, N0, by rw [hu, e2]⟩ (own_mono hF (by decide) (by decide)))
theorem d81_0 : decode prog_26_method_5_code 0 = .ok (.aload_n 0, 1) := by decide +kernel
theorem d81_1 : decode prog_26_method_5_code 1 = .ok (.getfield 7, 3) := by decide +kernel
theorem d81_4 : decode prog_26_method_5_code 4 = .ok (.areturn, 1) := by decide +kernel
theorem ef_81 (m : MethodId) (r1 : Addr)  : entryFrame m #[(.ref r1)] 1 = mkF m 0 #[.val (.ref r1)] [] := by
  first | (simp [entryFrame, mkF, argsToLocals, Value.category]; done) | rfl
def Q81 (Z : State) (r1 : Addr) (h0 : Heap) (n0 : Nat) (v : Option Value) (h : Heap) (L : List Loc) : Prop := v = some .null ∧ L = [] ∧ h = h0
set_option maxRecDepth 65536 in
set_option maxHeartbeats 40000000 in
theorem rm81 (l : Launch) (Z : State) (a0 : Array Value) (hw : ∀ d ∈ tables_1, d.before a0 Z = true) (ws : List Jvm.Cond) (r1 : Addr) (h0 : Heap) (n0 : Nat) (Z0 : n0 ≤ h0.size) (f0 : Fld Z h0 r1 kA "run" "Ljava/lang/Object;" .null) :
    MetFree l (⟨kA, "run", "()Ljava/lang/Object;"⟩ : MethodName) (head1 (Jvm.Cond.code (⟨kA, "run", "()Ljava/lang/Object;"⟩ : MethodName) prog_26_method_5_code 1 (some (.object "java/lang/Object")) :: ws) ({ frames := 0, cells := 0, slots := 0, locals := 0 } : Room)) (fun a U => a = #[(.ref r1)] ∧ Z.Warmed39 U.vm ∧ U.heap = h0) (fun _ _ _ _ _ => True) (fun _ U o U' => ∃ v L, o = .returned v ∧ Q81 Z r1 h0 n0 v U'.heap L ∧ FrameEnd U o U' L ({ frames := 0, cells := 0, slots := 0, locals := 0 } : Room).cells ({ frames := 0, cells := 0, slots := 0, locals := 0 } : Room).slots) := by
  refine MetFree.of_bodySF (plainFor_of_name pn_1) hisR ?_
  intro p e s m args below meth c s₁ Bd hml0 hP hK
  obtain ⟨rfl, hZ, hh⟩ := hP
  have hx := Bd.exec
  have hby := Bd.bytes
  have hml : c.maxLocals = 1 := hml0
  have hown : s.vm.findClass kA = some m.cls := findClass_of_methodNamed Bd.named
  have hnm := (name_of_methodNamed Bd.named Bd.method).1
  have X0 : Stand p l e ({ frames := 0, cells := 0, slots := 0, locals := 0 } : Room) s m #[(.ref r1)] below meth c s₁ [] 0 0 := Stand.of_body Bd
  have e0 : s₁.heap = h0 := by rw [← hh, Bd.state]; rfl
  have N0 := Fr.nil n0
  suffices H : ∀ Qo : Outcome → State → Prop, (∀ (v : Option Value) (u : State) (L : List Loc), Q81 Z r1 h0 n0 v u.heap L → FrameEnd s (.returned v) u L ({ frames := 0, cells := 0, slots := 0, locals := 0 } : Room).cells ({ frames := 0, cells := 0, slots := 0, locals := 0 } : Room).slots → Qo (.returned v) u) → Go p e below Qo s₁ (mkF m 0 #[.val (.ref r1)] []) from
    Go.cast (ef_81 m r1) (H _ fun v u L h1 h2 => ⟨v, L, rfl, h1, h2⟩)
  intro Qo hQo
  show Go p e below Qo s₁ (mkF m 0 #[sR r1] [])
  refine Go.of (fun t k => XS.aloadN X0.here hx rfl (hb hby d81_0) rfl rfl k) ?_
  show Go p e below Qo s₁ (mkF m 1 #[sR r1] [(.ref r1)])
  obtain ⟨T1, X1, e1, st1⟩ := getF X0 hx hZ hown (host := "") (Or.inl (wk hw 14 rfl)) Via.refl e0 f0 (g := (mkF m 1 #[sR r1] [(.ref r1)])) rfl rfl (hb hby d81_1)
  refine Go.of st1 ?_
  show Go p e below Qo T1 (mkF m 4 #[sR r1] [.null])
  exact own_retW X1 hx Bd.notSynchronized Bd.returns rfl (Or.inr (Or.inr (Or.inr (Or.inr ⟨rfl, rfl, rfl⟩)))) (hb hby d81_4) (fun u hu hF => hQo _ _ _ ⟨rfl, rfl, by rw [hu, e1]⟩ (own_mono hF (by decide) (by decide)))
theorem d82_0 : decode prog_26_method_5_code 0 = .ok (.aload_n 0, 1) := by decide +kernel
theorem d82_1 : decode prog_26_method_5_code 1 = .ok (.getfield 7, 3) := by decide +kernel
theorem d82_4 : decode prog_26_method_5_code 4 = .ok (.areturn, 1) := by decide +kernel
theorem ef_82 (m : MethodId) (r1 : Addr)  : entryFrame m #[(.ref r1)] 1 = mkF m 0 #[.val (.ref r1)] [] := by
  first | (simp [entryFrame, mkF, argsToLocals, Value.category]; done) | rfl
def Q82 (Z : State) (r1 : Addr) (rr : Addr) (h0 : Heap) (n0 : Nat) (v : Option Value) (h : Heap) (L : List Loc) : Prop := v = some (.ref rr) ∧ L = [] ∧ h = h0
set_option maxRecDepth 65536 in
set_option maxHeartbeats 40000000 in
theorem rm82 (l : Launch) (Z : State) (a0 : Array Value) (hw : ∀ d ∈ tables_1, d.before a0 Z = true) (ws : List Jvm.Cond) (r1 : Addr) (rr : Addr) (h0 : Heap) (n0 : Nat) (Z0 : n0 ≤ h0.size) (f0 : Fld Z h0 r1 kA "run" "Ljava/lang/Object;" (.ref rr)) :
    MetFree l (⟨kA, "run", "()Ljava/lang/Object;"⟩ : MethodName) (head1 (Jvm.Cond.code (⟨kA, "run", "()Ljava/lang/Object;"⟩ : MethodName) prog_26_method_5_code 1 (some (.object "java/lang/Object")) :: ws) ({ frames := 0, cells := 0, slots := 0, locals := 0 } : Room)) (fun a U => a = #[(.ref r1)] ∧ Z.Warmed39 U.vm ∧ U.heap = h0) (fun _ _ _ _ _ => True) (fun _ U o U' => ∃ v L, o = .returned v ∧ Q82 Z r1 rr h0 n0 v U'.heap L ∧ FrameEnd U o U' L ({ frames := 0, cells := 0, slots := 0, locals := 0 } : Room).cells ({ frames := 0, cells := 0, slots := 0, locals := 0 } : Room).slots) := by
  refine MetFree.of_bodySF (plainFor_of_name pn_1) hisR ?_
  intro p e s m args below meth c s₁ Bd hml0 hP hK
  obtain ⟨rfl, hZ, hh⟩ := hP
  have hx := Bd.exec
  have hby := Bd.bytes
  have hml : c.maxLocals = 1 := hml0
  have hown : s.vm.findClass kA = some m.cls := findClass_of_methodNamed Bd.named
  have hnm := (name_of_methodNamed Bd.named Bd.method).1
  have X0 : Stand p l e ({ frames := 0, cells := 0, slots := 0, locals := 0 } : Room) s m #[(.ref r1)] below meth c s₁ [] 0 0 := Stand.of_body Bd
  have e0 : s₁.heap = h0 := by rw [← hh, Bd.state]; rfl
  have N0 := Fr.nil n0
  suffices H : ∀ Qo : Outcome → State → Prop, (∀ (v : Option Value) (u : State) (L : List Loc), Q82 Z r1 rr h0 n0 v u.heap L → FrameEnd s (.returned v) u L ({ frames := 0, cells := 0, slots := 0, locals := 0 } : Room).cells ({ frames := 0, cells := 0, slots := 0, locals := 0 } : Room).slots → Qo (.returned v) u) → Go p e below Qo s₁ (mkF m 0 #[.val (.ref r1)] []) from
    Go.cast (ef_82 m r1) (H _ fun v u L h1 h2 => ⟨v, L, rfl, h1, h2⟩)
  intro Qo hQo
  show Go p e below Qo s₁ (mkF m 0 #[sR r1] [])
  refine Go.of (fun t k => XS.aloadN X0.here hx rfl (hb hby d82_0) rfl rfl k) ?_
  show Go p e below Qo s₁ (mkF m 1 #[sR r1] [(.ref r1)])
  obtain ⟨T1, X1, e1, st1⟩ := getF X0 hx hZ hown (host := "") (Or.inl (wk hw 14 rfl)) Via.refl e0 f0 (g := (mkF m 1 #[sR r1] [(.ref r1)])) rfl rfl (hb hby d82_1)
  refine Go.of st1 ?_
  show Go p e below Qo T1 (mkF m 4 #[sR r1] [(.ref rr)])
  exact own_retW X1 hx Bd.notSynchronized Bd.returns rfl (Or.inr (Or.inr (Or.inr (Or.inr ⟨rfl, rfl, rfl⟩)))) (hb hby d82_4) (fun u hu hF => hQo _ _ _ ⟨rfl, rfl, by rw [hu, e1]⟩ (own_mono hF (by decide) (by decide)))
theorem d9_0 : decode jdk_29_method_66_code 0 = .ok (.lload_n 0, 1) := by decide +kernel
theorem d9_1 : decode jdk_29_method_66_code 1 = .ok (.lload_n 2, 1) := by decide +kernel
theorem d9_2 : decode jdk_29_method_66_code 2 = .ok (.lcmp, 1) := by decide +kernel
theorem d9_3 : decode jdk_29_method_66_code 3 = .ok (.ifCond .lt 7, 3) := by decide +kernel
theorem d9_6 : decode jdk_29_method_66_code 6 = .ok (.lload_n 0, 1) := by decide +kernel
theorem d9_7 : decode jdk_29_method_66_code 7 = .ok (.goto 4, 3) := by decide +kernel
theorem d9_10 : decode jdk_29_method_66_code 10 = .ok (.lload_n 2, 1) := by decide +kernel
theorem d9_11 : decode jdk_29_method_66_code 11 = .ok (.lreturn, 1) := by decide +kernel
theorem ef_9 (m : MethodId) (j1 : Int64) (j2 : Int64)  : entryFrame m #[(.long j1), (.long j2)] 4 = mkF m 0 #[.val (.long j1), .second, .val (.long j2), .second] [] := by
  first | (simp [entryFrame, mkF, argsToLocals, Value.category]; done) | rfl
def F9 (j1 : Int64) (j2 : Int64) : Int64 := (if j1 < j2 then j2 else j1)
def Q9 (Z : State) (j1 : Int64) (j2 : Int64) (h0 : Heap) (n0 : Nat) (v : Option Value) (h : Heap) (L : List Loc) : Prop := v = some (.long (F9 j1 j2)) ∧ L = [] ∧ h = h0
set_option maxRecDepth 65536 in
set_option maxHeartbeats 40000000 in
theorem rm9 (l : Launch) (Z : State) (a0 : Array Value) (hw : ∀ d ∈ tables_1, d.before a0 Z = true) (ws : List Jvm.Cond) (j1 : Int64) (j2 : Int64) (h0 : Heap) (n0 : Nat) (Z0 : n0 ≤ h0.size)  :
    MetFree l (⟨"java/lang/Math", "max", "(JJ)J"⟩ : MethodName) (head1 (Jvm.Cond.code (⟨"java/lang/Math", "max", "(JJ)J"⟩ : MethodName) jdk_29_method_66_code 4 (some .long) :: ws) ({ frames := 0, cells := 0, slots := 0, locals := 0 } : Room)) (fun a U => a = #[(.long j1), (.long j2)] ∧ Z.Warmed39 U.vm ∧ U.heap = h0) (fun _ _ _ _ _ => True) (fun _ U o U' => ∃ v L, o = .returned v ∧ Q9 Z j1 j2 h0 n0 v U'.heap L ∧ FrameEnd U o U' L ({ frames := 0, cells := 0, slots := 0, locals := 0 } : Room).cells ({ frames := 0, cells := 0, slots := 0, locals := 0 } : Room).slots) := by
  refine MetFree.of_bodySF (Jvm.Free.JP.mathPlain rfl (by decide +kernel)) hisR ?_
  intro p e s m args below meth c s₁ Bd hml0 hP hK
  obtain ⟨rfl, hZ, hh⟩ := hP
  have hx := Bd.exec
  have hby := Bd.bytes
  have hml : c.maxLocals = 4 := hml0
  have hown : s.vm.findClass "java/lang/Math" = some m.cls := findClass_of_methodNamed Bd.named
  have hnm := (name_of_methodNamed Bd.named Bd.method).1
  have X0 : Stand p l e ({ frames := 0, cells := 0, slots := 0, locals := 0 } : Room) s m #[(.long j1), (.long j2)] below meth c s₁ [] 0 0 := Stand.of_body Bd
  have e0 : s₁.heap = h0 := by rw [← hh, Bd.state]; rfl
  have N0 := Fr.nil n0
  suffices H : ∀ Qo : Outcome → State → Prop, (∀ (v : Option Value) (u : State) (L : List Loc), Q9 Z j1 j2 h0 n0 v u.heap L → FrameEnd s (.returned v) u L ({ frames := 0, cells := 0, slots := 0, locals := 0 } : Room).cells ({ frames := 0, cells := 0, slots := 0, locals := 0 } : Room).slots → Qo (.returned v) u) → Go p e below Qo s₁ (mkF m 0 #[.val (.long j1), .second, .val (.long j2), .second] []) from
    Go.cast (ef_9 m j1 j2) (H _ fun v u L h1 h2 => ⟨v, L, rfl, h1, h2⟩)
  intro Qo hQo
  show Go p e below Qo s₁ (mkF m 0 #[sJ j1, zS, sJ j2, zS] [])
  refine Go.of (fun t k => XS.lloadN X0.here hx rfl (hb hby d9_0) rfl  k) ?_
  show Go p e below Qo s₁ (mkF m 1 #[sJ j1, zS, sJ j2, zS] [(.long j1)])
  refine Go.of (fun t k => XS.lloadN X0.here hx rfl (hb hby d9_1) rfl  k) ?_
  show Go p e below Qo s₁ (mkF m 2 #[sJ j1, zS, sJ j2, zS] [(.long j2), (.long j1)])
  refine Go.of (fun t k => XS.lcmp X0.here hx rfl (hb hby d9_2) rfl k) ?_
  show Go p e below Qo s₁ (mkF m 3 #[sJ j1, zS, sJ j2, zS] [(.int (lcmpW j1 j2))])
  by_cases hc3_1 : j1 < j2
  · refine Go.of (fun t k => XS.ifYes X0.here hx rfl (pc0 := 3) (pc' := 10) rfl (hb hby d9_3) rfl ((if0 _ _).trans (tlt ((lw_lt j1 j2).mpr hc3_1)).1) (by decide) (by decide) k) ?_
    show Go p e below Qo s₁ (mkF m 10 #[sJ j1, zS, sJ j2, zS] [])
    refine Go.of (fun t k => XS.lloadN X0.here hx rfl (hb hby d9_10) rfl  k) ?_
    show Go p e below Qo s₁ (mkF m 11 #[sJ j1, zS, sJ j2, zS] [(.long j2)])
    exact own_retW X0 hx Bd.notSynchronized Bd.returns rfl (Or.inr (Or.inl ⟨rfl, rfl, _, rfl⟩)) (hb hby d9_11) (fun u hu hF => hQo _ _ _ ⟨by rw [show (F9 j1 j2) = j2 from by rw [F9, if_pos hc3_1]], rfl, by rw [hu, e0]⟩ (own_mono hF (by decide) (by decide)))
  refine Go.of (fun t k => XS.ifNo X0.here hx rfl (hb hby d9_3) rfl ((if0 _ _).trans (flt (fun z => hc3_1 ((lw_lt j1 j2).mp z))).1) k) ?_
  show Go p e below Qo s₁ (mkF m 6 #[sJ j1, zS, sJ j2, zS] [])
  refine Go.of (fun t k => XS.lloadN X0.here hx rfl (hb hby d9_6) rfl  k) ?_
  show Go p e below Qo s₁ (mkF m 7 #[sJ j1, zS, sJ j2, zS] [(.long j1)])
  refine Go.of (fun t k => XS.goto X0.here hx rfl (pc0 := 7) (pc' := 11) rfl (hb hby d9_7) (by decide) (by decide) k) ?_
  show Go p e below Qo s₁ (mkF m 11 #[sJ j1, zS, sJ j2, zS] [(.long j1)])
  exact own_retW X0 hx Bd.notSynchronized Bd.returns rfl (Or.inr (Or.inl ⟨rfl, rfl, _, rfl⟩)) (hb hby d9_11) (fun u hu hF => hQo _ _ _ ⟨by rw [show (F9 j1 j2) = j1 from by rw [F9, if_neg hc3_1]], rfl, by rw [hu, e0]⟩ (own_mono hF (by decide) (by decide)))
theorem d10_0 : decode method_2_code 0 = .ok (.lload_n 0, 1) := by decide +kernel
theorem d10_1 : decode method_2_code 1 = .ok (.lload 4, 2) := by decide +kernel
theorem d10_3 : decode method_2_code 3 = .ok (.lcmp, 1) := by decide +kernel
theorem d10_4 : decode method_2_code 4 = .ok (.ifCond .lt 17, 3) := by decide +kernel
theorem d10_7 : decode method_2_code 7 = .ok (.lload_n 0, 1) := by decide +kernel
theorem d10_8 : decode method_2_code 8 = .ok (.lload 4, 2) := by decide +kernel
theorem d10_10 : decode method_2_code 10 = .ok (.lcmp, 1) := by decide +kernel
theorem d10_11 : decode method_2_code 11 = .ok (.ifCond .ne 14, 3) := by decide +kernel
theorem d10_14 : decode method_2_code 14 = .ok (.lload_n 2, 1) := by decide +kernel
theorem d10_15 : decode method_2_code 15 = .ok (.lload 6, 2) := by decide +kernel
theorem d10_17 : decode method_2_code 17 = .ok (.lcmp, 1) := by decide +kernel
theorem d10_18 : decode method_2_code 18 = .ok (.ifCond .gt 7, 3) := by decide +kernel
theorem d10_21 : decode method_2_code 21 = .ok (.iconst 1, 1) := by decide +kernel
theorem d10_22 : decode method_2_code 22 = .ok (.goto 4, 3) := by decide +kernel
theorem d10_25 : decode method_2_code 25 = .ok (.iconst 0, 1) := by decide +kernel
theorem d10_26 : decode method_2_code 26 = .ok (.ireturn, 1) := by decide +kernel
theorem pn_4 : plainName kL = true := by first | (simp [plainName, overriddenIn]; done) | decide +kernel
theorem ef_10 (m : MethodId) (j1 : Int64) (j2 : Int64) (j3 : Int64) (j4 : Int64)  : entryFrame m #[(.long j1), (.long j2), (.long j3), (.long j4)] 8 = mkF m 0 #[.val (.long j1), .second, .val (.long j2), .second, .val (.long j3), .second, .val (.long j4), .second] [] := by
  first | (simp [entryFrame, mkF, argsToLocals, Value.category]; done) | rfl
def F10 (j1 : Int64) (j2 : Int64) (j3 : Int64) (j4 : Int64) : Int32 := (if j1 < j3 then (nar .boolean (1 : Int32)) else (if j1 = j3 then (if j4 < j2 then (nar .boolean (0 : Int32)) else (nar .boolean (1 : Int32))) else (nar .boolean (0 : Int32))))
def Q10 (Z : State) (j1 : Int64) (j2 : Int64) (j3 : Int64) (j4 : Int64) (h0 : Heap) (n0 : Nat) (v : Option Value) (h : Heap) (L : List Loc) : Prop := v = some (.int (F10 j1 j2 j3 j4)) ∧ Fr n0 L ∧ h = h0
set_option maxRecDepth 65536 in
set_option maxHeartbeats 40000000 in
theorem rm10 (l : Launch) (Z : State) (a0 : Array Value) (hw : ∀ d ∈ tables_1, d.before a0 Z = true) (ws : List Jvm.Cond) (j1 : Int64) (j2 : Int64) (j3 : Int64) (j4 : Int64) (h0 : Heap) (n0 : Nat) (Z0 : n0 ≤ h0.size)  :
    MetFree l (⟨kL, "le", "(JJJJ)Z"⟩ : MethodName) (head1 (Jvm.Cond.code (⟨kL, "le", "(JJJJ)Z"⟩ : MethodName) method_2_code 8 (some .boolean) :: ws) ({ frames := 0, cells := 0, slots := 0, locals := 0 } : Room)) (fun a U => a = #[(.long j1), (.long j2), (.long j3), (.long j4)] ∧ Z.Warmed39 U.vm ∧ U.heap = h0) (fun _ _ _ _ _ => True) (fun _ U o U' => ∃ v L, o = .returned v ∧ Q10 Z j1 j2 j3 j4 h0 n0 v U'.heap L ∧ FrameEnd U o U' L ({ frames := 0, cells := 0, slots := 0, locals := 0 } : Room).cells ({ frames := 0, cells := 0, slots := 0, locals := 0 } : Room).slots) := by
  refine MetFree.of_bodySF (plainFor_of_name pn_4) hisR ?_
  intro p e s m args below meth c s₁ Bd hml0 hP hK
  obtain ⟨rfl, hZ, hh⟩ := hP
  have hx := Bd.exec
  have hby := Bd.bytes
  have hml : c.maxLocals = 8 := hml0
  have hown : s.vm.findClass kL = some m.cls := findClass_of_methodNamed Bd.named
  have hnm := (name_of_methodNamed Bd.named Bd.method).1
  have X0 : Stand p l e ({ frames := 0, cells := 0, slots := 0, locals := 0 } : Room) s m #[(.long j1), (.long j2), (.long j3), (.long j4)] below meth c s₁ [] 0 0 := Stand.of_body Bd
  have e0 : s₁.heap = h0 := by rw [← hh, Bd.state]; rfl
  have N0 := Fr.nil n0
  suffices H : ∀ Qo : Outcome → State → Prop, (∀ (v : Option Value) (u : State) (L : List Loc), Q10 Z j1 j2 j3 j4 h0 n0 v u.heap L → FrameEnd s (.returned v) u L ({ frames := 0, cells := 0, slots := 0, locals := 0 } : Room).cells ({ frames := 0, cells := 0, slots := 0, locals := 0 } : Room).slots → Qo (.returned v) u) → Go p e below Qo s₁ (mkF m 0 #[.val (.long j1), .second, .val (.long j2), .second, .val (.long j3), .second, .val (.long j4), .second] []) from
    Go.cast (ef_10 m j1 j2 j3 j4) (H _ fun v u L h1 h2 => ⟨v, L, rfl, h1, h2⟩)
  intro Qo hQo
  show Go p e below Qo s₁ (mkF m 0 #[sJ j1, zS, sJ j2, zS, sJ j3, zS, sJ j4, zS] [])
  refine Go.of (fun t k => XS.lloadN X0.here hx rfl (hb hby d10_0) rfl  k) ?_
  show Go p e below Qo s₁ (mkF m 1 #[sJ j1, zS, sJ j2, zS, sJ j3, zS, sJ j4, zS] [(.long j1)])
  refine Go.of (fun t k => XS.lload X0.here hx rfl (hb hby d10_1) rfl  k) ?_
  show Go p e below Qo s₁ (mkF m 3 #[sJ j1, zS, sJ j2, zS, sJ j3, zS, sJ j4, zS] [(.long j3), (.long j1)])
  refine Go.of (fun t k => XS.lcmp X0.here hx rfl (hb hby d10_3) rfl k) ?_
  show Go p e below Qo s₁ (mkF m 4 #[sJ j1, zS, sJ j2, zS, sJ j3, zS, sJ j4, zS] [(.int (lcmpW j1 j3))])
  by_cases hc4_1 : j1 < j3
  · refine Go.of (fun t k => XS.ifYes X0.here hx rfl (pc0 := 4) (pc' := 21) rfl (hb hby d10_4) rfl ((if0 _ _).trans (tlt ((lw_lt j1 j3).mpr hc4_1)).1) (by decide) (by decide) k) ?_
    show Go p e below Qo s₁ (mkF m 21 #[sJ j1, zS, sJ j2, zS, sJ j3, zS, sJ j4, zS] [])
    refine Go.of (fun t k => XS.iconst X0.here hx rfl (hb hby d10_21) k) ?_
    show Go p e below Qo s₁ (mkF m 22 #[sJ j1, zS, sJ j2, zS, sJ j3, zS, sJ j4, zS] [(.int (1 : Int32))])
    refine Go.of (fun t k => XS.goto X0.here hx rfl (pc0 := 22) (pc' := 26) rfl (hb hby d10_22) (by decide) (by decide) k) ?_
    show Go p e below Qo s₁ (mkF m 26 #[sJ j1, zS, sJ j2, zS, sJ j3, zS, sJ j4, zS] [(.int (1 : Int32))])
    exact own_retN X0 hx Bd.notSynchronized (t := .boolean) Bd.returns (by simp) (hb hby d10_26) (fun u hu hF => hQo _ _ _ ⟨by rw [show (F10 j1 j2 j3 j4) = nar .boolean (1 : Int32) from by rw [F10, if_pos hc4_1]], N0, by rw [hu, e0]⟩ (own_mono hF (by decide) (by decide)))
  refine Go.of (fun t k => XS.ifNo X0.here hx rfl (hb hby d10_4) rfl ((if0 _ _).trans (flt (fun z => hc4_1 ((lw_lt j1 j3).mp z))).1) k) ?_
  show Go p e below Qo s₁ (mkF m 7 #[sJ j1, zS, sJ j2, zS, sJ j3, zS, sJ j4, zS] [])
  refine Go.of (fun t k => XS.lloadN X0.here hx rfl (hb hby d10_7) rfl  k) ?_
  show Go p e below Qo s₁ (mkF m 8 #[sJ j1, zS, sJ j2, zS, sJ j3, zS, sJ j4, zS] [(.long j1)])
  refine Go.of (fun t k => XS.lload X0.here hx rfl (hb hby d10_8) rfl  k) ?_
  show Go p e below Qo s₁ (mkF m 10 #[sJ j1, zS, sJ j2, zS, sJ j3, zS, sJ j4, zS] [(.long j3), (.long j1)])
  refine Go.of (fun t k => XS.lcmp X0.here hx rfl (hb hby d10_10) rfl k) ?_
  show Go p e below Qo s₁ (mkF m 11 #[sJ j1, zS, sJ j2, zS, sJ j3, zS, sJ j4, zS] [(.int (lcmpW j1 j3))])
  by_cases hc11_2 : j1 = j3
  · refine Go.of (fun t k => XS.ifNo X0.here hx rfl (hb hby d10_11) rfl ((if0 _ _).trans (teq ((lw_eq j1 j3).mpr hc11_2)).2) k) ?_
    show Go p e below Qo s₁ (mkF m 14 #[sJ j1, zS, sJ j2, zS, sJ j3, zS, sJ j4, zS] [])
    refine Go.of (fun t k => XS.lloadN X0.here hx rfl (hb hby d10_14) rfl  k) ?_
    show Go p e below Qo s₁ (mkF m 15 #[sJ j1, zS, sJ j2, zS, sJ j3, zS, sJ j4, zS] [(.long j2)])
    refine Go.of (fun t k => XS.lload X0.here hx rfl (hb hby d10_15) rfl  k) ?_
    show Go p e below Qo s₁ (mkF m 17 #[sJ j1, zS, sJ j2, zS, sJ j3, zS, sJ j4, zS] [(.long j4), (.long j2)])
    refine Go.of (fun t k => XS.lcmp X0.here hx rfl (hb hby d10_17) rfl k) ?_
    show Go p e below Qo s₁ (mkF m 18 #[sJ j1, zS, sJ j2, zS, sJ j3, zS, sJ j4, zS] [(.int (lcmpW j2 j4))])
    by_cases hc18_3 : j4 < j2
    · refine Go.of (fun t k => XS.ifYes X0.here hx rfl (pc0 := 18) (pc' := 25) rfl (hb hby d10_18) rfl ((if0 _ _).trans (tlt ((lw_gt j2 j4).mpr hc18_3)).2.2.1) (by decide) (by decide) k) ?_
      show Go p e below Qo s₁ (mkF m 25 #[sJ j1, zS, sJ j2, zS, sJ j3, zS, sJ j4, zS] [])
      refine Go.of (fun t k => XS.iconst X0.here hx rfl (hb hby d10_25) k) ?_
      show Go p e below Qo s₁ (mkF m 26 #[sJ j1, zS, sJ j2, zS, sJ j3, zS, sJ j4, zS] [(.int (0 : Int32))])
      exact own_retN X0 hx Bd.notSynchronized (t := .boolean) Bd.returns (by simp) (hb hby d10_26) (fun u hu hF => hQo _ _ _ ⟨by rw [show (F10 j1 j2 j3 j4) = nar .boolean (0 : Int32) from by rw [F10, if_neg hc4_1, if_pos hc11_2, if_pos hc18_3]], N0, by rw [hu, e0]⟩ (own_mono hF (by decide) (by decide)))
    refine Go.of (fun t k => XS.ifNo X0.here hx rfl (hb hby d10_18) rfl ((if0 _ _).trans (flt (fun z => hc18_3 ((lw_gt j2 j4).mp z))).2.2.1) k) ?_
    show Go p e below Qo s₁ (mkF m 21 #[sJ j1, zS, sJ j2, zS, sJ j3, zS, sJ j4, zS] [])
    refine Go.of (fun t k => XS.iconst X0.here hx rfl (hb hby d10_21) k) ?_
    show Go p e below Qo s₁ (mkF m 22 #[sJ j1, zS, sJ j2, zS, sJ j3, zS, sJ j4, zS] [(.int (1 : Int32))])
    refine Go.of (fun t k => XS.goto X0.here hx rfl (pc0 := 22) (pc' := 26) rfl (hb hby d10_22) (by decide) (by decide) k) ?_
    show Go p e below Qo s₁ (mkF m 26 #[sJ j1, zS, sJ j2, zS, sJ j3, zS, sJ j4, zS] [(.int (1 : Int32))])
    exact own_retN X0 hx Bd.notSynchronized (t := .boolean) Bd.returns (by simp) (hb hby d10_26) (fun u hu hF => hQo _ _ _ ⟨by rw [show (F10 j1 j2 j3 j4) = nar .boolean (1 : Int32) from by rw [F10, if_neg hc4_1, if_pos hc11_2, if_neg hc18_3]], N0, by rw [hu, e0]⟩ (own_mono hF (by decide) (by decide)))
  refine Go.of (fun t k => XS.ifYes X0.here hx rfl (pc0 := 11) (pc' := 25) rfl (hb hby d10_11) rfl ((if0 _ _).trans (feq (fun z => hc11_2 ((lw_eq j1 j3).mp z))).2) (by decide) (by decide) k) ?_
  show Go p e below Qo s₁ (mkF m 25 #[sJ j1, zS, sJ j2, zS, sJ j3, zS, sJ j4, zS] [])
  refine Go.of (fun t k => XS.iconst X0.here hx rfl (hb hby d10_25) k) ?_
  show Go p e below Qo s₁ (mkF m 26 #[sJ j1, zS, sJ j2, zS, sJ j3, zS, sJ j4, zS] [(.int (0 : Int32))])
  exact own_retN X0 hx Bd.notSynchronized (t := .boolean) Bd.returns (by simp) (hb hby d10_26) (fun u hu hF => hQo _ _ _ ⟨by rw [show (F10 j1 j2 j3 j4) = nar .boolean (0 : Int32) from by rw [F10, if_neg hc4_1, if_neg hc11_2]], N0, by rw [hu, e0]⟩ (own_mono hF (by decide) (by decide)))
theorem sn_2 {Z : State} {a0 : Array Value} (hw : ∀ d ∈ tables_1, d.before a0 Z = true) : Jvm.RoadKit.slotOf Z kT "firstSeed" "J" ≠ Jvm.RoadKit.slotOf Z kT "first" kD := slot_ne (Or.inl (wk hw 47 rfl)) (Or.inl (wk hw 40 rfl)) (by decide) (t := .long) (t' := (.object kA)) (by decide) (by decide)
theorem sn_3 {Z : State} {a0 : Array Value} (hw : ∀ d ∈ tables_1, d.before a0 Z = true) : Jvm.RoadKit.slotOf Z kT "best" kD ≠ Jvm.RoadKit.slotOf Z kT "first" kD := slot_ne (Or.inl (wk hw 38 rfl)) (Or.inl (wk hw 40 rfl)) (by decide) (t := (.object kA)) (t' := (.object kA)) (by decide) (by decide)
theorem sn_4 {Z : State} {a0 : Array Value} (hw : ∀ d ∈ tables_1, d.before a0 Z = true) : Jvm.RoadKit.slotOf Z kT "bestSeed" "J" ≠ Jvm.RoadKit.slotOf Z kT "first" kD := slot_ne (Or.inl (wk hw 54 rfl)) (Or.inl (wk hw 40 rfl)) (by decide) (t := .long) (t' := (.object kA)) (by decide) (by decide)
theorem sn_5 {Z : State} {a0 : Array Value} (hw : ∀ d ∈ tables_1, d.before a0 Z = true) : Jvm.RoadKit.slotOf Z kT "bestPenalty" "J" ≠ Jvm.RoadKit.slotOf Z kT "first" kD := slot_ne (Or.inl (wk hw 56 rfl)) (Or.inl (wk hw 40 rfl)) (by decide) (t := .long) (t' := (.object kA)) (by decide) (by decide)
theorem sn_6 {Z : State} {a0 : Array Value} (hw : ∀ d ∈ tables_1, d.before a0 Z = true) : Jvm.RoadKit.slotOf Z kT "worstPenalty" "J" ≠ Jvm.RoadKit.slotOf Z kT "first" kD := slot_ne (Or.inl (wk hw 58 rfl)) (Or.inl (wk hw 40 rfl)) (by decide) (t := .long) (t' := (.object kA)) (by decide) (by decide)
theorem sn_7 {Z : State} {a0 : Array Value} (hw : ∀ d ∈ tables_1, d.before a0 Z = true) : Jvm.RoadKit.slotOf Z kT "penaltySum" "J" ≠ Jvm.RoadKit.slotOf Z kT "first" kD := slot_ne (Or.inl (wk hw 64 rfl)) (Or.inl (wk hw 40 rfl)) (by decide) (t := .long) (t' := (.object kA)) (by decide) (by decide)
theorem sn_8 {Z : State} {a0 : Array Value} (hw : ∀ d ∈ tables_1, d.before a0 Z = true) : Jvm.RoadKit.slotOf Z kT "feasibleRuns" "I" ≠ Jvm.RoadKit.slotOf Z kT "first" kD := slot_ne (Or.inl (wk hw 66 rfl)) (Or.inl (wk hw 40 rfl)) (by decide) (t := .int) (t' := (.object kA)) (by decide) (by decide)
theorem sn_9 {Z : State} {a0 : Array Value} (hw : ∀ d ∈ tables_1, d.before a0 Z = true) : Jvm.RoadKit.slotOf Z kT "first" kD ≠ Jvm.RoadKit.slotOf Z kT "firstSeed" "J" := slot_ne (Or.inl (wk hw 40 rfl)) (Or.inl (wk hw 47 rfl)) (by decide) (t := (.object kA)) (t' := .long) (by decide) (by decide)
theorem sn_10 {Z : State} {a0 : Array Value} (hw : ∀ d ∈ tables_1, d.before a0 Z = true) : Jvm.RoadKit.slotOf Z kT "best" kD ≠ Jvm.RoadKit.slotOf Z kT "firstSeed" "J" := slot_ne (Or.inl (wk hw 38 rfl)) (Or.inl (wk hw 47 rfl)) (by decide) (t := (.object kA)) (t' := .long) (by decide) (by decide)
theorem sn_11 {Z : State} {a0 : Array Value} (hw : ∀ d ∈ tables_1, d.before a0 Z = true) : Jvm.RoadKit.slotOf Z kT "bestSeed" "J" ≠ Jvm.RoadKit.slotOf Z kT "firstSeed" "J" := slot_ne (Or.inl (wk hw 54 rfl)) (Or.inl (wk hw 47 rfl)) (by decide) (t := .long) (t' := .long) (by decide) (by decide)
theorem sn_12 {Z : State} {a0 : Array Value} (hw : ∀ d ∈ tables_1, d.before a0 Z = true) : Jvm.RoadKit.slotOf Z kT "bestPenalty" "J" ≠ Jvm.RoadKit.slotOf Z kT "firstSeed" "J" := slot_ne (Or.inl (wk hw 56 rfl)) (Or.inl (wk hw 47 rfl)) (by decide) (t := .long) (t' := .long) (by decide) (by decide)
theorem sn_13 {Z : State} {a0 : Array Value} (hw : ∀ d ∈ tables_1, d.before a0 Z = true) : Jvm.RoadKit.slotOf Z kT "worstPenalty" "J" ≠ Jvm.RoadKit.slotOf Z kT "firstSeed" "J" := slot_ne (Or.inl (wk hw 58 rfl)) (Or.inl (wk hw 47 rfl)) (by decide) (t := .long) (t' := .long) (by decide) (by decide)
theorem sn_14 {Z : State} {a0 : Array Value} (hw : ∀ d ∈ tables_1, d.before a0 Z = true) : Jvm.RoadKit.slotOf Z kT "penaltySum" "J" ≠ Jvm.RoadKit.slotOf Z kT "firstSeed" "J" := slot_ne (Or.inl (wk hw 64 rfl)) (Or.inl (wk hw 47 rfl)) (by decide) (t := .long) (t' := .long) (by decide) (by decide)
theorem sn_15 {Z : State} {a0 : Array Value} (hw : ∀ d ∈ tables_1, d.before a0 Z = true) : Jvm.RoadKit.slotOf Z kT "feasibleRuns" "I" ≠ Jvm.RoadKit.slotOf Z kT "firstSeed" "J" := slot_ne (Or.inl (wk hw 66 rfl)) (Or.inl (wk hw 47 rfl)) (by decide) (t := .int) (t' := .long) (by decide) (by decide)
theorem pd_1 : parseMethodDescriptor "()Ljava/lang/Object;" = some ⟨[], some (.object "java/lang/Object")⟩ := by decide +kernel
theorem d70_0 : decode prog_38_method_3_code 0 = .ok (.aload_n 0, 1) := by decide +kernel
theorem d70_1 : decode prog_38_method_3_code 1 = .ok (.getfield 115, 3) := by decide +kernel
theorem d70_4 : decode prog_38_method_3_code 4 = .ok (.ifnull 12, 3) := by decide +kernel
theorem d70_16 : decode prog_38_method_3_code 16 = .ok (.aload_n 0, 1) := by decide +kernel
theorem d70_17 : decode prog_38_method_3_code 17 = .ok (.aload_n 3, 1) := by decide +kernel
theorem d70_18 : decode prog_38_method_3_code 18 = .ok (.putfield 115, 3) := by decide +kernel
theorem d70_21 : decode prog_38_method_3_code 21 = .ok (.aload_n 0, 1) := by decide +kernel
theorem d70_22 : decode prog_38_method_3_code 22 = .ok (.lload_n 1, 1) := by decide +kernel
theorem d70_23 : decode prog_38_method_3_code 23 = .ok (.putfield 119, 3) := by decide +kernel
theorem d70_26 : decode prog_38_method_3_code 26 = .ok (.aload_n 3, 1) := by decide +kernel
theorem d70_27 : decode prog_38_method_3_code 27 = .ok (.invokevirtual 123, 3) := by decide +kernel
theorem d70_30 : decode prog_38_method_3_code 30 = .ok (.ifnonnull 4, 3) := by decide +kernel
theorem d70_33 : decode prog_38_method_3_code 33 = .ok (.return_, 1) := by decide +kernel
theorem ef_70 (m : MethodId) (r1 : Addr) (j1 : Int64) (r3 : Addr) (j2 : Int64)  : entryFrame m #[(.ref r1), (.long j1), (.ref r3), (.long j2)] 6 = mkF m 0 #[.val (.ref r1), .val (.long j1), .second, .val (.ref r3), .val (.long j2), .second] [] := by
  first | (simp [entryFrame, mkF, argsToLocals, Value.category]; done) | rfl
def Q70 (Z : State) (r1 : Addr) (j1 : Int64) (r3 : Addr) (j2 : Int64) (fs : Int64) (bs : Int64) (bp : Int64) (wp : Int64) (qs : Int64) (fc : Int32) (h0 : Heap) (n0 : Nat) (v : Option Value) (h : Heap) (L : List Loc) : Prop := ∃ wq : Int64, ∃ qt : Int64, ∃ fd : Int32, v = none ∧ Fr n0 L ∧ Keep h0 h [r1] ∧ Exa Z h r1 kT ∧ own_mon h r1 ∧ Fld Z h r1 kT "first" kD (.ref r3) ∧ Fld Z h r1 kT "firstSeed" "J" (.long j1) ∧ Fld Z h r1 kT "best" kD .null ∧ Fld Z h r1 kT "bestSeed" "J" (.long bs) ∧ Fld Z h r1 kT "bestPenalty" "J" (.long bp) ∧ Fld Z h r1 kT "worstPenalty" "J" (.long wq) ∧ Fld Z h r1 kT "penaltySum" "J" (.long qt) ∧ Fld Z h r1 kT "feasibleRuns" "I" (.int fd)
set_option maxRecDepth 65536 in
set_option maxHeartbeats 40000000 in
theorem rm70 (l : Launch) (Z : State) (a0 : Array Value) (hw : ∀ d ∈ tables_1, d.before a0 Z = true) (r1 : Addr) (j1 : Int64) (r3 : Addr) (j2 : Int64) (fs : Int64) (bs : Int64) (bp : Int64) (wp : Int64) (qs : Int64) (fc : Int32) (h0 : Heap) (n0 : Nat) (Z0 : n0 ≤ h0.size) (f0 : Exa Z h0 r1 kT) (f1 : own_mon h0 r1) (f2 : Fld Z h0 r1 kT "first" kD .null) (f3 : Fld Z h0 r1 kT "firstSeed" "J" (.long fs)) (f4 : Fld Z h0 r1 kT "best" kD .null) (f5 : Fld Z h0 r1 kT "bestSeed" "J" (.long bs)) (f6 : Fld Z h0 r1 kT "bestPenalty" "J" (.long bp)) (f7 : Fld Z h0 r1 kT "worstPenalty" "J" (.long wp)) (f8 : Fld Z h0 r1 kT "penaltySum" "J" (.long qs)) (f9 : Fld Z h0 r1 kT "feasibleRuns" "I" (.int fc)) (f10 : Exa Z h0 r3 kA) (f11 : Fld Z h0 r3 kA "run" "Ljava/lang/Object;" .null) (g_r1 : n0 ≤ r1) (ne_r3_r1 : r3 ≠ r1) :
    MetFree l (⟨kT, "add", "(JLcom/example/examwright/examwright/Method$Attempt;J)V"⟩ : MethodName) (head1 (Jvm.Cond.codeSync (⟨kT, "add", "(JLcom/example/examwright/examwright/Method$Attempt;J)V"⟩ : MethodName) prog_38_method_3_code 6 none :: [Jvm.Cond.instanceMethod (⟨kT, "add", "(JLcom/example/examwright/examwright/Method$Attempt;J)V"⟩ : MethodName)]) ({ frames := 1, cells := 0, slots := 0, locals := 14 } : Room)) (fun a U => a = #[(.ref r1), (.long j1), (.ref r3), (.long j2)] ∧ Z.Warmed39 U.vm ∧ U.heap = h0 ∧ ∃ cell : Cell, h0[r1]? = some cell ∧ cell.enterable U.cur) (fun _ _ _ _ _ => True) (fun _ U o U' => ∃ v L, o = .returned v ∧ Q70 Z r1 j1 r3 j2 fs bs bp wp qs fc h0 n0 v U'.heap L ∧ FrameEnd U o U' L ({ frames := 1, cells := 0, slots := 0, locals := 14 } : Room).cells ({ frames := 1, cells := 0, slots := 0, locals := 14 } : Room).slots) := by
  refine MetFree.of_bodySync (plainFor_of_name pn_2) (hisS (List.mem_cons_self ..)) (fun _ s _ ⟨h1, _, h2, cl, h3, h4⟩ => ⟨r1, cl, by rw [h1]; rfl, by rw [h2]; exact h3, h4⟩) ?_
  intro p e s m args below meth c a' cell s₁ Bd hml0 hP hK
  obtain ⟨rfl, hZ0, hh, -⟩ := hP
  cases Bd.receiver
  have hx := Bd.exec
  have hby := Bd.bytes
  have hml : c.maxLocals = 6 := hml0
  have X0 : Stand p l e ({ frames := 1, cells := 0, slots := 0, locals := 14 } : Room) (s.setCell r1 (cell.withEntry s.cur)) m #[(.ref r1), (.long j1), (.ref r3), (.long j2)] below meth c s₁ [] 0 0 := Stand.of_bodySync Bd
  have hZ : Z.Warmed39 (s.setCell r1 (cell.withEntry s.cur)).vm := hZ0
  have hown : (s.setCell r1 (cell.withEntry s.cur)).vm.findClass kT = some m.cls := (findClass_of_methodNamed Bd.named :)
  have M0 : Mon h0 s₁.heap := by rw [← hh, Bd.state]; exact mon_set Bd.object _
  have Z1 : n0 ≤ s₁.heap.size := by rw [M0.size]; exact Z0
  have N0 : own_ob r1 [] := own_obNil
  have m0 := f0.mon M0
  have m2 := f2.mon M0
  have m3 := f3.mon M0
  have m4 := f4.mon M0
  have m5 := f5.mon M0
  have m6 := f6.mon M0
  have m7 := f7.mon M0
  have m8 := f8.mon M0
  have m9 := f9.mon M0
  have m10 := f10.mon M0
  have m11 := f11.mon M0
  suffices H : ∀ Qo : Outcome → State → Prop, (∀ (v : Option Value) (u : State) (L : List Loc), Q70 Z r1 j1 r3 j2 fs bs bp wp qs fc h0 n0 v u.heap L → FrameEnd s (.returned v) u L ({ frames := 1, cells := 0, slots := 0, locals := 14 } : Room).cells ({ frames := 1, cells := 0, slots := 0, locals := 14 } : Room).slots → Qo (.returned v) u) → Go p e below Qo s₁ (mkL r1 m 0 #[.val (.ref r1), .val (.long j1), .second, .val (.ref r3), .val (.long j2), .second] []) from
    H _ fun v u L h1 h2 => ⟨v, L, rfl, h1, h2⟩
  intro Qo hQo
  show Go p e below Qo s₁ (mkL r1 m 0 #[sR r1, sJ j1, zS, sR r3, sJ j2, zS] [])
  refine Go.of (fun t k => XS.aloadN X0.here hx rfl (hb hby d70_0) rfl rfl k) ?_
  obtain ⟨T1, X1, e1, st1⟩ := getF X0 hx hZ hown (host := "") (Or.inl (wk hw 39 rfl)) Via.refl rfl m2 (g := (mkL r1 m 1 #[sR r1, sJ j1, zS, sR r3, sJ j2, zS] [(.ref r1)])) rfl rfl (hb hby d70_1)
  refine Go.of st1 ?_
  show Go p e below Qo T1 (mkL r1 m 4 #[sR r1, sJ j1, zS, sR r3, sJ j2, zS] [.null])
  refine Go.of (fun t k => XS.ifnullYes X1.here hx rfl (pc0 := 4) (pc' := 16) rfl (hb hby d70_4) rfl (by decide) (by decide) k) ?_
  refine Go.of (fun t k => XS.aloadN X1.here hx rfl (hb hby d70_16) rfl rfl k) ?_
  refine Go.of (fun t k => XS.aloadN X1.here hx rfl (hb hby d70_17) rfl rfl k) ?_
  obtain ⟨T2, h2, X2, e2, W2, st2⟩ := putF X1 hx hZ hown (host := "") (Or.inl (wk hw 39 rfl)) Via.refl e1 m2 m0 (Or.inl (wk hw 40 rfl)) (wk hw 26 rfl) (ty := (.object kA)) (by decide) rfl rfl (g := (mkL r1 m 18 #[sR r1, sJ j1, zS, sR r3, sJ j2, zS] [(.ref r3), (.ref r1)])) rfl rfl (hb hby d70_18)
  have q3 := m0.wr W2
  have q4 : Fld Z h2 r1 kT "first" kD (.ref r3) := m2.same W2
  have q5 := m3.other W2 (Or.inr (sn_2 hw))
  have q6 := m4.other W2 (Or.inr (sn_3 hw))
  have q7 := m5.other W2 (Or.inr (sn_4 hw))
  have q8 := m6.other W2 (Or.inr (sn_5 hw))
  have q9 := m7.other W2 (Or.inr (sn_6 hw))
  have q10 := m8.other W2 (Or.inr (sn_7 hw))
  have q11 := m9.other W2 (Or.inr (sn_8 hw))
  have q12 := m10.wr W2
  have q13 := m11.other W2 (Or.inl ne_r3_r1)
  have Z14 : n0 ≤ h2.size := Nat.le_trans Z1 (Keep.of_wr W2).1
  have N15 := own_obSnoc X2 N0
  obtain ⟨Lx16, Xx16, Nx16⟩ := own_locsO X2 N15
  refine Go.of st2 ?_
  show Go p e below Qo T2 (mkL r1 m 21 #[sR r1, sJ j1, zS, sR r3, sJ j2, zS] [])
  refine Go.of (fun t k => XS.aloadN Xx16.here hx rfl (hb hby d70_21) rfl rfl k) ?_
  refine Go.of (fun t k => XS.lloadN Xx16.here hx rfl (hb hby d70_22) rfl  k) ?_
  show Go p e below Qo T2 (mkL r1 m 23 #[sR r1, sJ j1, zS, sR r3, sJ j2, zS] [(.long j1), (.ref r1)])
  obtain ⟨T17, h17, X17, e17, W17, st17⟩ := putF Xx16 hx hZ hown (host := "") (Or.inl (wk hw 46 rfl)) Via.refl e2 q5 q3 (Or.inl (wk hw 47 rfl)) (wk hw 26 rfl) (ty := .long) (by decide) rfl rfl (g := (mkL r1 m 23 #[sR r1, sJ j1, zS, sR r3, sJ j2, zS] [(.long j1), (.ref r1)])) rfl rfl (hb hby d70_23)
  have q18 := q3.wr W17
  have q19 := q4.other W17 (Or.inr (sn_9 hw))
  have q20 : Fld Z h17 r1 kT "firstSeed" "J" (.long j1) := q5.same W17
  have q21 := q6.other W17 (Or.inr (sn_10 hw))
  have q22 := q7.other W17 (Or.inr (sn_11 hw))
  have q23 := q8.other W17 (Or.inr (sn_12 hw))
  have q24 := q9.other W17 (Or.inr (sn_13 hw))
  have q25 := q10.other W17 (Or.inr (sn_14 hw))
  have q26 := q11.other W17 (Or.inr (sn_15 hw))
  have q27 := q12.wr W17
  have q28 := q13.other W17 (Or.inl ne_r3_r1)
  have Z29 : n0 ≤ h17.size := Nat.le_trans Z14 (Keep.of_wr W17).1
  have N30 := own_obSnoc X17 Nx16
  obtain ⟨Lx31, Xx31, Nx31⟩ := own_locsO X17 N30
  refine Go.of st17 ?_
  show Go p e below Qo T17 (mkL r1 m 26 #[sR r1, sJ j1, zS, sR r3, sJ j2, zS] [])
  refine Go.of (fun t k => XS.aloadN Xx31.here hx rfl (hb hby d70_26) rfl rfl k) ?_
  obtain ⟨ciq33, kiq33, iq33a, iq33b, iq33c⟩ := isOf hZ e17 q27
  obtain ⟨_, _, ⟨T32, L32, k32, n32⟩, -, X32, ⟨Lc32, hQ32, l32, y32, z32⟩, st32⟩ := Xx31.virtualBack hx (y := (⟨kA, "run", "()Ljava/lang/Object;"⟩ : MethodName)) (z := (⟨kA, "run", "()Ljava/lang/Object;"⟩ : MethodName)) hown (mvT hZ (wk hw 48 rfl)) (mvT hZ (wk hw 49 rfl)) (notFace_of_selects (args := #[]) (mvT hZ (wk hw 51 rfl))) (mvT hZ (wk hw 51 rfl)) (mvT hZ (wk hw 50 rfl)) (by decide) (backOf (W := 2) (rm81 l Z a0 hw [] r3 h17 n0 Z29 q28) hZ (wk hw 52 rfl) (wk hw 2 rfl) (by decide) (by decide)) iq33a iq33c (g := (mkL r1 m 27 #[sR r1, sJ j1, zS, sR r3, sJ j2, zS] [(.ref r3)])) rfl (by rw [hml]; rfl) (Steps.refl _) (argsL := []) (rest := []) (lenOf pd_1 rfl) rfl (by show 2 * 1 + _ ≤ _; exact Nat.le_of_eq rfl) (hb hby d70_27) (fun _ _ => ⟨rfl, e17, (by decide : 0 + 0 ≤ _), (by decide : 0 + 0 ≤ _)⟩)
  dsimp only [Pt.U, Pt.locs, Pt.cells, Pt.slots] at X32 l32 y32 z32 st32 hQ32
  subst l32 y32 z32
  replace X32 := own_cs X32 (c' := 0) (s' := 0) (by decide) (by decide)
  obtain ⟨rfl, N34, eh35⟩ := hQ32
  subst N34
  have N36 := own_obNil2 Nx31
  refine Go.via st32 ?_
  obtain ⟨Lx37, Xx37, Nx37⟩ := own_locsO X32 N36
  show Go p e below Qo T32 (mkL r1 m 30 #[sR r1, sJ j1, zS, sR r3, sJ j2, zS] [.null])
  refine Go.of (fun t k => XS.ifnonnullNo Xx37.here hx rfl (hb hby d70_30) rfl k) ?_
  refine own_retS Xx37 hx Bd.object Bd.enterable Bd.synchronized Bd.returns (hb hby d70_33) (fun u hM hF => ?_)
  rw [eh35] at hM
  exact hQo _ _ _ ⟨wp, qs, fc, rfl, own_obFr Nx37 g_r1, own_keepS hh hF Nx37, (by exact q18.mon hM), own_monU hh hF f1, (by exact q19.mon hM), (by exact q20.mon hM), (by exact q21.mon hM), (by exact q22.mon hM), (by exact q23.mon hM), (by exact q24.mon hM), (by exact q25.mon hM), (by exact q26.mon hM)⟩ (own_mono hF (by decide) (by decide))
theorem sn_16 {Z : State} {a0 : Array Value} (hw : ∀ d ∈ tables_1, d.before a0 Z = true) : Jvm.RoadKit.slotOf Z kT "first" kD ≠ Jvm.RoadKit.slotOf Z kT "best" kD := slot_ne (Or.inl (wk hw 40 rfl)) (Or.inl (wk hw 38 rfl)) (by decide) (t := (.object kA)) (t' := (.object kA)) (by decide) (by decide)
theorem sn_17 {Z : State} {a0 : Array Value} (hw : ∀ d ∈ tables_1, d.before a0 Z = true) : Jvm.RoadKit.slotOf Z kT "firstSeed" "J" ≠ Jvm.RoadKit.slotOf Z kT "best" kD := slot_ne (Or.inl (wk hw 47 rfl)) (Or.inl (wk hw 38 rfl)) (by decide) (t := .long) (t' := (.object kA)) (by decide) (by decide)
theorem sn_18 {Z : State} {a0 : Array Value} (hw : ∀ d ∈ tables_1, d.before a0 Z = true) : Jvm.RoadKit.slotOf Z kT "bestSeed" "J" ≠ Jvm.RoadKit.slotOf Z kT "best" kD := slot_ne (Or.inl (wk hw 54 rfl)) (Or.inl (wk hw 38 rfl)) (by decide) (t := .long) (t' := (.object kA)) (by decide) (by decide)
theorem sn_19 {Z : State} {a0 : Array Value} (hw : ∀ d ∈ tables_1, d.before a0 Z = true) : Jvm.RoadKit.slotOf Z kT "bestPenalty" "J" ≠ Jvm.RoadKit.slotOf Z kT "best" kD := slot_ne (Or.inl (wk hw 56 rfl)) (Or.inl (wk hw 38 rfl)) (by decide) (t := .long) (t' := (.object kA)) (by decide) (by decide)
theorem sn_20 {Z : State} {a0 : Array Value} (hw : ∀ d ∈ tables_1, d.before a0 Z = true) : Jvm.RoadKit.slotOf Z kT "worstPenalty" "J" ≠ Jvm.RoadKit.slotOf Z kT "best" kD := slot_ne (Or.inl (wk hw 58 rfl)) (Or.inl (wk hw 38 rfl)) (by decide) (t := .long) (t' := (.object kA)) (by decide) (by decide)
theorem sn_21 {Z : State} {a0 : Array Value} (hw : ∀ d ∈ tables_1, d.before a0 Z = true) : Jvm.RoadKit.slotOf Z kT "penaltySum" "J" ≠ Jvm.RoadKit.slotOf Z kT "best" kD := slot_ne (Or.inl (wk hw 64 rfl)) (Or.inl (wk hw 38 rfl)) (by decide) (t := .long) (t' := (.object kA)) (by decide) (by decide)
theorem sn_22 {Z : State} {a0 : Array Value} (hw : ∀ d ∈ tables_1, d.before a0 Z = true) : Jvm.RoadKit.slotOf Z kT "feasibleRuns" "I" ≠ Jvm.RoadKit.slotOf Z kT "best" kD := slot_ne (Or.inl (wk hw 66 rfl)) (Or.inl (wk hw 38 rfl)) (by decide) (t := .int) (t' := (.object kA)) (by decide) (by decide)
theorem sn_23 {Z : State} {a0 : Array Value} (hw : ∀ d ∈ tables_1, d.before a0 Z = true) : Jvm.RoadKit.slotOf Z kT "first" kD ≠ Jvm.RoadKit.slotOf Z kT "bestSeed" "J" := slot_ne (Or.inl (wk hw 40 rfl)) (Or.inl (wk hw 54 rfl)) (by decide) (t := (.object kA)) (t' := .long) (by decide) (by decide)
theorem sn_24 {Z : State} {a0 : Array Value} (hw : ∀ d ∈ tables_1, d.before a0 Z = true) : Jvm.RoadKit.slotOf Z kT "firstSeed" "J" ≠ Jvm.RoadKit.slotOf Z kT "bestSeed" "J" := slot_ne (Or.inl (wk hw 47 rfl)) (Or.inl (wk hw 54 rfl)) (by decide) (t := .long) (t' := .long) (by decide) (by decide)
theorem sn_25 {Z : State} {a0 : Array Value} (hw : ∀ d ∈ tables_1, d.before a0 Z = true) : Jvm.RoadKit.slotOf Z kT "best" kD ≠ Jvm.RoadKit.slotOf Z kT "bestSeed" "J" := slot_ne (Or.inl (wk hw 38 rfl)) (Or.inl (wk hw 54 rfl)) (by decide) (t := (.object kA)) (t' := .long) (by decide) (by decide)
theorem sn_26 {Z : State} {a0 : Array Value} (hw : ∀ d ∈ tables_1, d.before a0 Z = true) : Jvm.RoadKit.slotOf Z kT "bestPenalty" "J" ≠ Jvm.RoadKit.slotOf Z kT "bestSeed" "J" := slot_ne (Or.inl (wk hw 56 rfl)) (Or.inl (wk hw 54 rfl)) (by decide) (t := .long) (t' := .long) (by decide) (by decide)
theorem sn_27 {Z : State} {a0 : Array Value} (hw : ∀ d ∈ tables_1, d.before a0 Z = true) : Jvm.RoadKit.slotOf Z kT "worstPenalty" "J" ≠ Jvm.RoadKit.slotOf Z kT "bestSeed" "J" := slot_ne (Or.inl (wk hw 58 rfl)) (Or.inl (wk hw 54 rfl)) (by decide) (t := .long) (t' := .long) (by decide) (by decide)
theorem sn_28 {Z : State} {a0 : Array Value} (hw : ∀ d ∈ tables_1, d.before a0 Z = true) : Jvm.RoadKit.slotOf Z kT "penaltySum" "J" ≠ Jvm.RoadKit.slotOf Z kT "bestSeed" "J" := slot_ne (Or.inl (wk hw 64 rfl)) (Or.inl (wk hw 54 rfl)) (by decide) (t := .long) (t' := .long) (by decide) (by decide)
theorem sn_29 {Z : State} {a0 : Array Value} (hw : ∀ d ∈ tables_1, d.before a0 Z = true) : Jvm.RoadKit.slotOf Z kT "feasibleRuns" "I" ≠ Jvm.RoadKit.slotOf Z kT "bestSeed" "J" := slot_ne (Or.inl (wk hw 66 rfl)) (Or.inl (wk hw 54 rfl)) (by decide) (t := .int) (t' := .long) (by decide) (by decide)
theorem sn_30 {Z : State} {a0 : Array Value} (hw : ∀ d ∈ tables_1, d.before a0 Z = true) : Jvm.RoadKit.slotOf Z kT "first" kD ≠ Jvm.RoadKit.slotOf Z kT "bestPenalty" "J" := slot_ne (Or.inl (wk hw 40 rfl)) (Or.inl (wk hw 56 rfl)) (by decide) (t := (.object kA)) (t' := .long) (by decide) (by decide)
theorem sn_31 {Z : State} {a0 : Array Value} (hw : ∀ d ∈ tables_1, d.before a0 Z = true) : Jvm.RoadKit.slotOf Z kT "firstSeed" "J" ≠ Jvm.RoadKit.slotOf Z kT "bestPenalty" "J" := slot_ne (Or.inl (wk hw 47 rfl)) (Or.inl (wk hw 56 rfl)) (by decide) (t := .long) (t' := .long) (by decide) (by decide)
theorem sn_32 {Z : State} {a0 : Array Value} (hw : ∀ d ∈ tables_1, d.before a0 Z = true) : Jvm.RoadKit.slotOf Z kT "best" kD ≠ Jvm.RoadKit.slotOf Z kT "bestPenalty" "J" := slot_ne (Or.inl (wk hw 38 rfl)) (Or.inl (wk hw 56 rfl)) (by decide) (t := (.object kA)) (t' := .long) (by decide) (by decide)
theorem sn_33 {Z : State} {a0 : Array Value} (hw : ∀ d ∈ tables_1, d.before a0 Z = true) : Jvm.RoadKit.slotOf Z kT "bestSeed" "J" ≠ Jvm.RoadKit.slotOf Z kT "bestPenalty" "J" := slot_ne (Or.inl (wk hw 54 rfl)) (Or.inl (wk hw 56 rfl)) (by decide) (t := .long) (t' := .long) (by decide) (by decide)
theorem sn_34 {Z : State} {a0 : Array Value} (hw : ∀ d ∈ tables_1, d.before a0 Z = true) : Jvm.RoadKit.slotOf Z kT "worstPenalty" "J" ≠ Jvm.RoadKit.slotOf Z kT "bestPenalty" "J" := slot_ne (Or.inl (wk hw 58 rfl)) (Or.inl (wk hw 56 rfl)) (by decide) (t := .long) (t' := .long) (by decide) (by decide)
theorem sn_35 {Z : State} {a0 : Array Value} (hw : ∀ d ∈ tables_1, d.before a0 Z = true) : Jvm.RoadKit.slotOf Z kT "penaltySum" "J" ≠ Jvm.RoadKit.slotOf Z kT "bestPenalty" "J" := slot_ne (Or.inl (wk hw 64 rfl)) (Or.inl (wk hw 56 rfl)) (by decide) (t := .long) (t' := .long) (by decide) (by decide)
theorem sn_36 {Z : State} {a0 : Array Value} (hw : ∀ d ∈ tables_1, d.before a0 Z = true) : Jvm.RoadKit.slotOf Z kT "feasibleRuns" "I" ≠ Jvm.RoadKit.slotOf Z kT "bestPenalty" "J" := slot_ne (Or.inl (wk hw 66 rfl)) (Or.inl (wk hw 56 rfl)) (by decide) (t := .int) (t' := .long) (by decide) (by decide)
theorem pd_2 : parseMethodDescriptor "(JJ)J" = some ⟨[.long, .long], some .long⟩ := by decide +kernel
theorem sn_37 {Z : State} {a0 : Array Value} (hw : ∀ d ∈ tables_1, d.before a0 Z = true) : Jvm.RoadKit.slotOf Z kT "first" kD ≠ Jvm.RoadKit.slotOf Z kT "worstPenalty" "J" := slot_ne (Or.inl (wk hw 40 rfl)) (Or.inl (wk hw 58 rfl)) (by decide) (t := (.object kA)) (t' := .long) (by decide) (by decide)
theorem sn_38 {Z : State} {a0 : Array Value} (hw : ∀ d ∈ tables_1, d.before a0 Z = true) : Jvm.RoadKit.slotOf Z kT "firstSeed" "J" ≠ Jvm.RoadKit.slotOf Z kT "worstPenalty" "J" := slot_ne (Or.inl (wk hw 47 rfl)) (Or.inl (wk hw 58 rfl)) (by decide) (t := .long) (t' := .long) (by decide) (by decide)
theorem sn_39 {Z : State} {a0 : Array Value} (hw : ∀ d ∈ tables_1, d.before a0 Z = true) : Jvm.RoadKit.slotOf Z kT "best" kD ≠ Jvm.RoadKit.slotOf Z kT "worstPenalty" "J" := slot_ne (Or.inl (wk hw 38 rfl)) (Or.inl (wk hw 58 rfl)) (by decide) (t := (.object kA)) (t' := .long) (by decide) (by decide)
theorem sn_40 {Z : State} {a0 : Array Value} (hw : ∀ d ∈ tables_1, d.before a0 Z = true) : Jvm.RoadKit.slotOf Z kT "bestSeed" "J" ≠ Jvm.RoadKit.slotOf Z kT "worstPenalty" "J" := slot_ne (Or.inl (wk hw 54 rfl)) (Or.inl (wk hw 58 rfl)) (by decide) (t := .long) (t' := .long) (by decide) (by decide)
theorem sn_41 {Z : State} {a0 : Array Value} (hw : ∀ d ∈ tables_1, d.before a0 Z = true) : Jvm.RoadKit.slotOf Z kT "bestPenalty" "J" ≠ Jvm.RoadKit.slotOf Z kT "worstPenalty" "J" := slot_ne (Or.inl (wk hw 56 rfl)) (Or.inl (wk hw 58 rfl)) (by decide) (t := .long) (t' := .long) (by decide) (by decide)
theorem sn_42 {Z : State} {a0 : Array Value} (hw : ∀ d ∈ tables_1, d.before a0 Z = true) : Jvm.RoadKit.slotOf Z kT "penaltySum" "J" ≠ Jvm.RoadKit.slotOf Z kT "worstPenalty" "J" := slot_ne (Or.inl (wk hw 64 rfl)) (Or.inl (wk hw 58 rfl)) (by decide) (t := .long) (t' := .long) (by decide) (by decide)
theorem sn_43 {Z : State} {a0 : Array Value} (hw : ∀ d ∈ tables_1, d.before a0 Z = true) : Jvm.RoadKit.slotOf Z kT "feasibleRuns" "I" ≠ Jvm.RoadKit.slotOf Z kT "worstPenalty" "J" := slot_ne (Or.inl (wk hw 66 rfl)) (Or.inl (wk hw 58 rfl)) (by decide) (t := .int) (t' := .long) (by decide) (by decide)
theorem sn_44 {Z : State} {a0 : Array Value} (hw : ∀ d ∈ tables_1, d.before a0 Z = true) : Jvm.RoadKit.slotOf Z kT "first" kD ≠ Jvm.RoadKit.slotOf Z kT "penaltySum" "J" := slot_ne (Or.inl (wk hw 40 rfl)) (Or.inl (wk hw 64 rfl)) (by decide) (t := (.object kA)) (t' := .long) (by decide) (by decide)
theorem sn_45 {Z : State} {a0 : Array Value} (hw : ∀ d ∈ tables_1, d.before a0 Z = true) : Jvm.RoadKit.slotOf Z kT "firstSeed" "J" ≠ Jvm.RoadKit.slotOf Z kT "penaltySum" "J" := slot_ne (Or.inl (wk hw 47 rfl)) (Or.inl (wk hw 64 rfl)) (by decide) (t := .long) (t' := .long) (by decide) (by decide)
theorem sn_46 {Z : State} {a0 : Array Value} (hw : ∀ d ∈ tables_1, d.before a0 Z = true) : Jvm.RoadKit.slotOf Z kT "best" kD ≠ Jvm.RoadKit.slotOf Z kT "penaltySum" "J" := slot_ne (Or.inl (wk hw 38 rfl)) (Or.inl (wk hw 64 rfl)) (by decide) (t := (.object kA)) (t' := .long) (by decide) (by decide)
theorem sn_47 {Z : State} {a0 : Array Value} (hw : ∀ d ∈ tables_1, d.before a0 Z = true) : Jvm.RoadKit.slotOf Z kT "bestSeed" "J" ≠ Jvm.RoadKit.slotOf Z kT "penaltySum" "J" := slot_ne (Or.inl (wk hw 54 rfl)) (Or.inl (wk hw 64 rfl)) (by decide) (t := .long) (t' := .long) (by decide) (by decide)
theorem sn_48 {Z : State} {a0 : Array Value} (hw : ∀ d ∈ tables_1, d.before a0 Z = true) : Jvm.RoadKit.slotOf Z kT "bestPenalty" "J" ≠ Jvm.RoadKit.slotOf Z kT "penaltySum" "J" := slot_ne (Or.inl (wk hw 56 rfl)) (Or.inl (wk hw 64 rfl)) (by decide) (t := .long) (t' := .long) (by decide) (by decide)
theorem sn_49 {Z : State} {a0 : Array Value} (hw : ∀ d ∈ tables_1, d.before a0 Z = true) : Jvm.RoadKit.slotOf Z kT "worstPenalty" "J" ≠ Jvm.RoadKit.slotOf Z kT "penaltySum" "J" := slot_ne (Or.inl (wk hw 58 rfl)) (Or.inl (wk hw 64 rfl)) (by decide) (t := .long) (t' := .long) (by decide) (by decide)
theorem sn_50 {Z : State} {a0 : Array Value} (hw : ∀ d ∈ tables_1, d.before a0 Z = true) : Jvm.RoadKit.slotOf Z kT "feasibleRuns" "I" ≠ Jvm.RoadKit.slotOf Z kT "penaltySum" "J" := slot_ne (Or.inl (wk hw 66 rfl)) (Or.inl (wk hw 64 rfl)) (by decide) (t := .int) (t' := .long) (by decide) (by decide)
theorem sn_51 {Z : State} {a0 : Array Value} (hw : ∀ d ∈ tables_1, d.before a0 Z = true) : Jvm.RoadKit.slotOf Z kT "first" kD ≠ Jvm.RoadKit.slotOf Z kT "feasibleRuns" "I" := slot_ne (Or.inl (wk hw 40 rfl)) (Or.inl (wk hw 66 rfl)) (by decide) (t := (.object kA)) (t' := .int) (by decide) (by decide)
theorem sn_52 {Z : State} {a0 : Array Value} (hw : ∀ d ∈ tables_1, d.before a0 Z = true) : Jvm.RoadKit.slotOf Z kT "firstSeed" "J" ≠ Jvm.RoadKit.slotOf Z kT "feasibleRuns" "I" := slot_ne (Or.inl (wk hw 47 rfl)) (Or.inl (wk hw 66 rfl)) (by decide) (t := .long) (t' := .int) (by decide) (by decide)
theorem sn_53 {Z : State} {a0 : Array Value} (hw : ∀ d ∈ tables_1, d.before a0 Z = true) : Jvm.RoadKit.slotOf Z kT "best" kD ≠ Jvm.RoadKit.slotOf Z kT "feasibleRuns" "I" := slot_ne (Or.inl (wk hw 38 rfl)) (Or.inl (wk hw 66 rfl)) (by decide) (t := (.object kA)) (t' := .int) (by decide) (by decide)
theorem sn_54 {Z : State} {a0 : Array Value} (hw : ∀ d ∈ tables_1, d.before a0 Z = true) : Jvm.RoadKit.slotOf Z kT "bestSeed" "J" ≠ Jvm.RoadKit.slotOf Z kT "feasibleRuns" "I" := slot_ne (Or.inl (wk hw 54 rfl)) (Or.inl (wk hw 66 rfl)) (by decide) (t := .long) (t' := .int) (by decide) (by decide)
theorem sn_55 {Z : State} {a0 : Array Value} (hw : ∀ d ∈ tables_1, d.before a0 Z = true) : Jvm.RoadKit.slotOf Z kT "bestPenalty" "J" ≠ Jvm.RoadKit.slotOf Z kT "feasibleRuns" "I" := slot_ne (Or.inl (wk hw 56 rfl)) (Or.inl (wk hw 66 rfl)) (by decide) (t := .long) (t' := .int) (by decide) (by decide)
theorem sn_56 {Z : State} {a0 : Array Value} (hw : ∀ d ∈ tables_1, d.before a0 Z = true) : Jvm.RoadKit.slotOf Z kT "worstPenalty" "J" ≠ Jvm.RoadKit.slotOf Z kT "feasibleRuns" "I" := slot_ne (Or.inl (wk hw 58 rfl)) (Or.inl (wk hw 66 rfl)) (by decide) (t := .long) (t' := .int) (by decide) (by decide)
theorem sn_57 {Z : State} {a0 : Array Value} (hw : ∀ d ∈ tables_1, d.before a0 Z = true) : Jvm.RoadKit.slotOf Z kT "penaltySum" "J" ≠ Jvm.RoadKit.slotOf Z kT "feasibleRuns" "I" := slot_ne (Or.inl (wk hw 64 rfl)) (Or.inl (wk hw 66 rfl)) (by decide) (t := .long) (t' := .int) (by decide) (by decide)
theorem d71_0 : decode prog_38_method_3_code 0 = .ok (.aload_n 0, 1) := by decide +kernel
theorem d71_1 : decode prog_38_method_3_code 1 = .ok (.getfield 115, 3) := by decide +kernel
theorem d71_4 : decode prog_38_method_3_code 4 = .ok (.ifnull 12, 3) := by decide +kernel
theorem d71_16 : decode prog_38_method_3_code 16 = .ok (.aload_n 0, 1) := by decide +kernel
theorem d71_17 : decode prog_38_method_3_code 17 = .ok (.aload_n 3, 1) := by decide +kernel
theorem d71_18 : decode prog_38_method_3_code 18 = .ok (.putfield 115, 3) := by decide +kernel
theorem d71_21 : decode prog_38_method_3_code 21 = .ok (.aload_n 0, 1) := by decide +kernel
theorem d71_22 : decode prog_38_method_3_code 22 = .ok (.lload_n 1, 1) := by decide +kernel
theorem d71_23 : decode prog_38_method_3_code 23 = .ok (.putfield 119, 3) := by decide +kernel
theorem d71_26 : decode prog_38_method_3_code 26 = .ok (.aload_n 3, 1) := by decide +kernel
theorem d71_27 : decode prog_38_method_3_code 27 = .ok (.invokevirtual 123, 3) := by decide +kernel
theorem d71_30 : decode prog_38_method_3_code 30 = .ok (.ifnonnull 4, 3) := by decide +kernel
theorem d71_34 : decode prog_38_method_3_code 34 = .ok (.aload_n 0, 1) := by decide +kernel
theorem d71_35 : decode prog_38_method_3_code 35 = .ok (.getfield 128, 3) := by decide +kernel
theorem d71_38 : decode prog_38_method_3_code 38 = .ok (.ifnull 32, 3) := by decide +kernel
theorem d71_70 : decode prog_38_method_3_code 70 = .ok (.aload_n 0, 1) := by decide +kernel
theorem d71_71 : decode prog_38_method_3_code 71 = .ok (.aload_n 3, 1) := by decide +kernel
theorem d71_72 : decode prog_38_method_3_code 72 = .ok (.putfield 128, 3) := by decide +kernel
theorem d71_75 : decode prog_38_method_3_code 75 = .ok (.aload_n 0, 1) := by decide +kernel
theorem d71_76 : decode prog_38_method_3_code 76 = .ok (.lload_n 1, 1) := by decide +kernel
theorem d71_77 : decode prog_38_method_3_code 77 = .ok (.putfield 134, 3) := by decide +kernel
theorem d71_80 : decode prog_38_method_3_code 80 = .ok (.aload_n 0, 1) := by decide +kernel
theorem d71_81 : decode prog_38_method_3_code 81 = .ok (.lload 4, 2) := by decide +kernel
theorem d71_83 : decode prog_38_method_3_code 83 = .ok (.putfield 131, 3) := by decide +kernel
theorem d71_86 : decode prog_38_method_3_code 86 = .ok (.aload_n 0, 1) := by decide +kernel
theorem d71_87 : decode prog_38_method_3_code 87 = .ok (.aload_n 0, 1) := by decide +kernel
theorem d71_88 : decode prog_38_method_3_code 88 = .ok (.getfield 137, 3) := by decide +kernel
theorem d71_91 : decode prog_38_method_3_code 91 = .ok (.lload 4, 2) := by decide +kernel
theorem d71_93 : decode prog_38_method_3_code 93 = .ok (.invokestatic 140, 3) := by decide +kernel
theorem d71_96 : decode prog_38_method_3_code 96 = .ok (.putfield 137, 3) := by decide +kernel
theorem d71_99 : decode prog_38_method_3_code 99 = .ok (.aload_n 0, 1) := by decide +kernel
theorem d71_100 : decode prog_38_method_3_code 100 = .ok (.dup, 1) := by decide +kernel
theorem d71_101 : decode prog_38_method_3_code 101 = .ok (.getfield 144, 3) := by decide +kernel
theorem d71_104 : decode prog_38_method_3_code 104 = .ok (.lload 4, 2) := by decide +kernel
theorem d71_106 : decode prog_38_method_3_code 106 = .ok (.ladd, 1) := by decide +kernel
theorem d71_107 : decode prog_38_method_3_code 107 = .ok (.putfield 144, 3) := by decide +kernel
theorem d71_110 : decode prog_38_method_3_code 110 = .ok (.aload_n 0, 1) := by decide +kernel
theorem d71_111 : decode prog_38_method_3_code 111 = .ok (.dup, 1) := by decide +kernel
theorem d71_112 : decode prog_38_method_3_code 112 = .ok (.getfield 147, 3) := by decide +kernel
theorem d71_115 : decode prog_38_method_3_code 115 = .ok (.iconst 1, 1) := by decide +kernel
theorem d71_116 : decode prog_38_method_3_code 116 = .ok (.iadd, 1) := by decide +kernel
theorem d71_117 : decode prog_38_method_3_code 117 = .ok (.putfield 147, 3) := by decide +kernel
theorem d71_120 : decode prog_38_method_3_code 120 = .ok (.return_, 1) := by decide +kernel
theorem ef_71 (m : MethodId) (r1 : Addr) (j1 : Int64) (r3 : Addr) (j2 : Int64)  : entryFrame m #[(.ref r1), (.long j1), (.ref r3), (.long j2)] 6 = mkF m 0 #[.val (.ref r1), .val (.long j1), .second, .val (.ref r3), .val (.long j2), .second] [] := by
  first | (simp [entryFrame, mkF, argsToLocals, Value.category]; done) | rfl
def Q71 (Z : State) (r1 : Addr) (j1 : Int64) (r3 : Addr) (j2 : Int64) (fs : Int64) (bs : Int64) (bp : Int64) (wp : Int64) (qs : Int64) (fc : Int32) (rr : Addr) (h0 : Heap) (n0 : Nat) (v : Option Value) (h : Heap) (L : List Loc) : Prop := ∃ wq : Int64, ∃ qt : Int64, ∃ fd : Int32, v = none ∧ Fr n0 L ∧ Keep h0 h [r1] ∧ Exa Z h r1 kT ∧ own_mon h r1 ∧ Fld Z h r1 kT "first" kD (.ref r3) ∧ Fld Z h r1 kT "firstSeed" "J" (.long j1) ∧ Fld Z h r1 kT "best" kD (.ref r3) ∧ Fld Z h r1 kT "bestSeed" "J" (.long j1) ∧ Fld Z h r1 kT "bestPenalty" "J" (.long j2) ∧ Fld Z h r1 kT "worstPenalty" "J" (.long wq) ∧ Fld Z h r1 kT "penaltySum" "J" (.long qt) ∧ Fld Z h r1 kT "feasibleRuns" "I" (.int fd)
set_option maxRecDepth 65536 in
set_option maxHeartbeats 40000000 in
theorem rm71 (l : Launch) (Z : State) (a0 : Array Value) (hw : ∀ d ∈ tables_1, d.before a0 Z = true) (r1 : Addr) (j1 : Int64) (r3 : Addr) (j2 : Int64) (fs : Int64) (bs : Int64) (bp : Int64) (wp : Int64) (qs : Int64) (fc : Int32) (rr : Addr) (h0 : Heap) (n0 : Nat) (Z0 : n0 ≤ h0.size) (f0 : Exa Z h0 r1 kT) (f1 : own_mon h0 r1) (f2 : Fld Z h0 r1 kT "first" kD .null) (f3 : Fld Z h0 r1 kT "firstSeed" "J" (.long fs)) (f4 : Fld Z h0 r1 kT "best" kD .null) (f5 : Fld Z h0 r1 kT "bestSeed" "J" (.long bs)) (f6 : Fld Z h0 r1 kT "bestPenalty" "J" (.long bp)) (f7 : Fld Z h0 r1 kT "worstPenalty" "J" (.long wp)) (f8 : Fld Z h0 r1 kT "penaltySum" "J" (.long qs)) (f9 : Fld Z h0 r1 kT "feasibleRuns" "I" (.int fc)) (f10 : Exa Z h0 r3 kA) (f11 : Fld Z h0 r3 kA "run" "Ljava/lang/Object;" (.ref rr)) (g_r1 : n0 ≤ r1) (ne_r3_r1 : r3 ≠ r1) :
    MetFree l (⟨kT, "add", "(JLcom/example/examwright/examwright/Method$Attempt;J)V"⟩ : MethodName) (head1 (Jvm.Cond.codeSync (⟨kT, "add", "(JLcom/example/examwright/examwright/Method$Attempt;J)V"⟩ : MethodName) prog_38_method_3_code 6 none :: [Jvm.Cond.instanceMethod (⟨kT, "add", "(JLcom/example/examwright/examwright/Method$Attempt;J)V"⟩ : MethodName)]) ({ frames := 1, cells := 0, slots := 0, locals := 18 } : Room)) (fun a U => a = #[(.ref r1), (.long j1), (.ref r3), (.long j2)] ∧ Z.Warmed39 U.vm ∧ U.heap = h0 ∧ ∃ cell : Cell, h0[r1]? = some cell ∧ cell.enterable U.cur) (fun _ _ _ _ _ => True) (fun _ U o U' => ∃ v L, o = .returned v ∧ Q71 Z r1 j1 r3 j2 fs bs bp wp qs fc rr h0 n0 v U'.heap L ∧ FrameEnd U o U' L ({ frames := 1, cells := 0, slots := 0, locals := 18 } : Room).cells ({ frames := 1, cells := 0, slots := 0, locals := 18 } : Room).slots) := by
  refine MetFree.of_bodySync (plainFor_of_name pn_2) (hisS (List.mem_cons_self ..)) (fun _ s _ ⟨h1, _, h2, cl, h3, h4⟩ => ⟨r1, cl, by rw [h1]; rfl, by rw [h2]; exact h3, h4⟩) ?_
  intro p e s m args below meth c a' cell s₁ Bd hml0 hP hK
  obtain ⟨rfl, hZ0, hh, -⟩ := hP
  cases Bd.receiver
  have hx := Bd.exec
  have hby := Bd.bytes
  have hml : c.maxLocals = 6 := hml0
  have X0 : Stand p l e ({ frames := 1, cells := 0, slots := 0, locals := 18 } : Room) (s.setCell r1 (cell.withEntry s.cur)) m #[(.ref r1), (.long j1), (.ref r3), (.long j2)] below meth c s₁ [] 0 0 := Stand.of_bodySync Bd
  have hZ : Z.Warmed39 (s.setCell r1 (cell.withEntry s.cur)).vm := hZ0
  have hown : (s.setCell r1 (cell.withEntry s.cur)).vm.findClass kT = some m.cls := (findClass_of_methodNamed Bd.named :)
  have M0 : Mon h0 s₁.heap := by rw [← hh, Bd.state]; exact mon_set Bd.object _
  have Z1 : n0 ≤ s₁.heap.size := by rw [M0.size]; exact Z0
  have N0 : own_ob r1 [] := own_obNil
  have m0 := f0.mon M0
  have m2 := f2.mon M0
  have m3 := f3.mon M0
  have m4 := f4.mon M0
  have m5 := f5.mon M0
  have m6 := f6.mon M0
  have m7 := f7.mon M0
  have m8 := f8.mon M0
  have m9 := f9.mon M0
  have m10 := f10.mon M0
  have m11 := f11.mon M0
  suffices H : ∀ Qo : Outcome → State → Prop, (∀ (v : Option Value) (u : State) (L : List Loc), Q71 Z r1 j1 r3 j2 fs bs bp wp qs fc rr h0 n0 v u.heap L → FrameEnd s (.returned v) u L ({ frames := 1, cells := 0, slots := 0, locals := 18 } : Room).cells ({ frames := 1, cells := 0, slots := 0, locals := 18 } : Room).slots → Qo (.returned v) u) → Go p e below Qo s₁ (mkL r1 m 0 #[.val (.ref r1), .val (.long j1), .second, .val (.ref r3), .val (.long j2), .second] []) from
    H _ fun v u L h1 h2 => ⟨v, L, rfl, h1, h2⟩
  intro Qo hQo
  show Go p e below Qo s₁ (mkL r1 m 0 #[sR r1, sJ j1, zS, sR r3, sJ j2, zS] [])
  refine Go.of (fun t k => XS.aloadN X0.here hx rfl (hb hby d71_0) rfl rfl k) ?_
  obtain ⟨T1, X1, e1, st1⟩ := getF X0 hx hZ hown (host := "") (Or.inl (wk hw 39 rfl)) Via.refl rfl m2 (g := (mkL r1 m 1 #[sR r1, sJ j1, zS, sR r3, sJ j2, zS] [(.ref r1)])) rfl rfl (hb hby d71_1)
  refine Go.of st1 ?_
  show Go p e below Qo T1 (mkL r1 m 4 #[sR r1, sJ j1, zS, sR r3, sJ j2, zS] [.null])
  refine Go.of (fun t k => XS.ifnullYes X1.here hx rfl (pc0 := 4) (pc' := 16) rfl (hb hby d71_4) rfl (by decide) (by decide) k) ?_
  refine Go.of (fun t k => XS.aloadN X1.here hx rfl (hb hby d71_16) rfl rfl k) ?_
  refine Go.of (fun t k => XS.aloadN X1.here hx rfl (hb hby d71_17) rfl rfl k) ?_
  obtain ⟨T2, h2, X2, e2, W2, st2⟩ := putF X1 hx hZ hown (host := "") (Or.inl (wk hw 39 rfl)) Via.refl e1 m2 m0 (Or.inl (wk hw 40 rfl)) (wk hw 26 rfl) (ty := (.object kA)) (by decide) rfl rfl (g := (mkL r1 m 18 #[sR r1, sJ j1, zS, sR r3, sJ j2, zS] [(.ref r3), (.ref r1)])) rfl rfl (hb hby d71_18)
  have q3 := m0.wr W2
  have q4 : Fld Z h2 r1 kT "first" kD (.ref r3) := m2.same W2
  have q5 := m3.other W2 (Or.inr (sn_2 hw))
  have q6 := m4.other W2 (Or.inr (sn_3 hw))
  have q7 := m5.other W2 (Or.inr (sn_4 hw))
  have q8 := m6.other W2 (Or.inr (sn_5 hw))
  have q9 := m7.other W2 (Or.inr (sn_6 hw))
  have q10 := m8.other W2 (Or.inr (sn_7 hw))
  have q11 := m9.other W2 (Or.inr (sn_8 hw))
  have q12 := m10.wr W2
  have q13 := m11.other W2 (Or.inl ne_r3_r1)
  have Z14 : n0 ≤ h2.size := Nat.le_trans Z1 (Keep.of_wr W2).1
  have N15 := own_obSnoc X2 N0
  obtain ⟨Lx16, Xx16, Nx16⟩ := own_locsO X2 N15
  refine Go.of st2 ?_
  show Go p e below Qo T2 (mkL r1 m 21 #[sR r1, sJ j1, zS, sR r3, sJ j2, zS] [])
  refine Go.of (fun t k => XS.aloadN Xx16.here hx rfl (hb hby d71_21) rfl rfl k) ?_
  refine Go.of (fun t k => XS.lloadN Xx16.here hx rfl (hb hby d71_22) rfl  k) ?_
  show Go p e below Qo T2 (mkL r1 m 23 #[sR r1, sJ j1, zS, sR r3, sJ j2, zS] [(.long j1), (.ref r1)])
  obtain ⟨T17, h17, X17, e17, W17, st17⟩ := putF Xx16 hx hZ hown (host := "") (Or.inl (wk hw 46 rfl)) Via.refl e2 q5 q3 (Or.inl (wk hw 47 rfl)) (wk hw 26 rfl) (ty := .long) (by decide) rfl rfl (g := (mkL r1 m 23 #[sR r1, sJ j1, zS, sR r3, sJ j2, zS] [(.long j1), (.ref r1)])) rfl rfl (hb hby d71_23)
  have q18 := q3.wr W17
  have q19 := q4.other W17 (Or.inr (sn_9 hw))
  have q20 : Fld Z h17 r1 kT "firstSeed" "J" (.long j1) := q5.same W17
  have q21 := q6.other W17 (Or.inr (sn_10 hw))
  have q22 := q7.other W17 (Or.inr (sn_11 hw))
  have q23 := q8.other W17 (Or.inr (sn_12 hw))
  have q24 := q9.other W17 (Or.inr (sn_13 hw))
  have q25 := q10.other W17 (Or.inr (sn_14 hw))
  have q26 := q11.other W17 (Or.inr (sn_15 hw))
  have q27 := q12.wr W17
  have q28 := q13.other W17 (Or.inl ne_r3_r1)
  have Z29 : n0 ≤ h17.size := Nat.le_trans Z14 (Keep.of_wr W17).1
  have N30 := own_obSnoc X17 Nx16
  obtain ⟨Lx31, Xx31, Nx31⟩ := own_locsO X17 N30
  refine Go.of st17 ?_
  show Go p e below Qo T17 (mkL r1 m 26 #[sR r1, sJ j1, zS, sR r3, sJ j2, zS] [])
  refine Go.of (fun t k => XS.aloadN Xx31.here hx rfl (hb hby d71_26) rfl rfl k) ?_
  obtain ⟨ciq33, kiq33, iq33a, iq33b, iq33c⟩ := isOf hZ e17 q27
  obtain ⟨_, _, ⟨T32, L32, k32, n32⟩, -, X32, ⟨Lc32, hQ32, l32, y32, z32⟩, st32⟩ := Xx31.virtualBack hx (y := (⟨kA, "run", "()Ljava/lang/Object;"⟩ : MethodName)) (z := (⟨kA, "run", "()Ljava/lang/Object;"⟩ : MethodName)) hown (mvT hZ (wk hw 48 rfl)) (mvT hZ (wk hw 49 rfl)) (notFace_of_selects (args := #[]) (mvT hZ (wk hw 51 rfl))) (mvT hZ (wk hw 51 rfl)) (mvT hZ (wk hw 50 rfl)) (by decide) (backOf (W := 2) (rm82 l Z a0 hw [] r3 rr h17 n0 Z29 q28) hZ (wk hw 52 rfl) (wk hw 2 rfl) (by decide) (by decide)) iq33a iq33c (g := (mkL r1 m 27 #[sR r1, sJ j1, zS, sR r3, sJ j2, zS] [(.ref r3)])) rfl (by rw [hml]; rfl) (Steps.refl _) (argsL := []) (rest := []) (lenOf pd_1 rfl) rfl (by show 2 * 1 + _ ≤ _; exact Nat.le_of_eq rfl) (hb hby d71_27) (fun _ _ => ⟨rfl, e17, (by decide : 0 + 0 ≤ _), (by decide : 0 + 0 ≤ _)⟩)
  dsimp only [Pt.U, Pt.locs, Pt.cells, Pt.slots] at X32 l32 y32 z32 st32 hQ32
  subst l32 y32 z32
  replace X32 := own_cs X32 (c' := 0) (s' := 0) (by decide) (by decide)
  obtain ⟨rfl, N34, eh35⟩ := hQ32
  subst N34
  have N36 := own_obNil2 Nx31
  refine Go.via st32 ?_
  obtain ⟨Lx37, Xx37, Nx37⟩ := own_locsO X32 N36
  show Go p e below Qo T32 (mkL r1 m 30 #[sR r1, sJ j1, zS, sR r3, sJ j2, zS] [(.ref rr)])
  refine Go.of (fun t k => XS.ifnonnullYes Xx37.here hx rfl (pc0 := 30) (pc' := 34) rfl (hb hby d71_30) rfl (by decide) (by decide) k) ?_
  refine Go.of (fun t k => XS.aloadN Xx37.here hx rfl (hb hby d71_34) rfl rfl k) ?_
  obtain ⟨T38, X38, e38, st38⟩ := getF Xx37 hx hZ hown (host := "") (Or.inl (wk hw 37 rfl)) Via.refl eh35 q21 (g := (mkL r1 m 35 #[sR r1, sJ j1, zS, sR r3, sJ j2, zS] [(.ref r1)])) rfl rfl (hb hby d71_35)
  refine Go.of st38 ?_
  show Go p e below Qo T38 (mkL r1 m 38 #[sR r1, sJ j1, zS, sR r3, sJ j2, zS] [.null])
  refine Go.of (fun t k => XS.ifnullYes X38.here hx rfl (pc0 := 38) (pc' := 70) rfl (hb hby d71_38) rfl (by decide) (by decide) k) ?_
  refine Go.of (fun t k => XS.aloadN X38.here hx rfl (hb hby d71_70) rfl rfl k) ?_
  refine Go.of (fun t k => XS.aloadN X38.here hx rfl (hb hby d71_71) rfl rfl k) ?_
  show Go p e below Qo T38 (mkL r1 m 72 #[sR r1, sJ j1, zS, sR r3, sJ j2, zS] [(.ref r3), (.ref r1)])
  obtain ⟨T39, h39, X39, e39, W39, st39⟩ := putF X38 hx hZ hown (host := "") (Or.inl (wk hw 37 rfl)) Via.refl e38 q21 q18 (Or.inl (wk hw 38 rfl)) (wk hw 26 rfl) (ty := (.object kA)) (by decide) rfl rfl (g := (mkL r1 m 72 #[sR r1, sJ j1, zS, sR r3, sJ j2, zS] [(.ref r3), (.ref r1)])) rfl rfl (hb hby d71_72)
  have q40 := q18.wr W39
  have q41 := q19.other W39 (Or.inr (sn_16 hw))
  have q42 := q20.other W39 (Or.inr (sn_17 hw))
  have q43 : Fld Z h39 r1 kT "best" kD (.ref r3) := q21.same W39
  have q44 := q22.other W39 (Or.inr (sn_18 hw))
  have q45 := q23.other W39 (Or.inr (sn_19 hw))
  have q46 := q24.other W39 (Or.inr (sn_20 hw))
  have q47 := q25.other W39 (Or.inr (sn_21 hw))
  have q48 := q26.other W39 (Or.inr (sn_22 hw))
  have q49 := q27.wr W39
  have q50 := q28.other W39 (Or.inl ne_r3_r1)
  have Z51 : n0 ≤ h39.size := Nat.le_trans Z29 (Keep.of_wr W39).1
  have N52 := own_obSnoc X39 Nx37
  obtain ⟨Lx53, Xx53, Nx53⟩ := own_locsO X39 N52
  refine Go.of st39 ?_
  show Go p e below Qo T39 (mkL r1 m 75 #[sR r1, sJ j1, zS, sR r3, sJ j2, zS] [])
  refine Go.of (fun t k => XS.aloadN Xx53.here hx rfl (hb hby d71_75) rfl rfl k) ?_
  refine Go.of (fun t k => XS.lloadN Xx53.here hx rfl (hb hby d71_76) rfl  k) ?_
  obtain ⟨T54, h54, X54, e54, W54, st54⟩ := putF Xx53 hx hZ hown (host := "") (Or.inl (wk hw 53 rfl)) Via.refl e39 q44 q40 (Or.inl (wk hw 54 rfl)) (wk hw 26 rfl) (ty := .long) (by decide) rfl rfl (g := (mkL r1 m 77 #[sR r1, sJ j1, zS, sR r3, sJ j2, zS] [(.long j1), (.ref r1)])) rfl rfl (hb hby d71_77)
  have q55 := q40.wr W54
  have q56 := q41.other W54 (Or.inr (sn_23 hw))
  have q57 := q42.other W54 (Or.inr (sn_24 hw))
  have q58 := q43.other W54 (Or.inr (sn_25 hw))
  have q59 : Fld Z h54 r1 kT "bestSeed" "J" (.long j1) := q44.same W54
  have q60 := q45.other W54 (Or.inr (sn_26 hw))
  have q61 := q46.other W54 (Or.inr (sn_27 hw))
  have q62 := q47.other W54 (Or.inr (sn_28 hw))
  have q63 := q48.other W54 (Or.inr (sn_29 hw))
  have q64 := q49.wr W54
  have q65 := q50.other W54 (Or.inl ne_r3_r1)
  have Z66 : n0 ≤ h54.size := Nat.le_trans Z51 (Keep.of_wr W54).1
  have N67 := own_obSnoc X54 Nx53
  obtain ⟨Lx68, Xx68, Nx68⟩ := own_locsO X54 N67
  refine Go.of st54 ?_
  show Go p e below Qo T54 (mkL r1 m 80 #[sR r1, sJ j1, zS, sR r3, sJ j2, zS] [])
  refine Go.of (fun t k => XS.aloadN Xx68.here hx rfl (hb hby d71_80) rfl rfl k) ?_
  refine Go.of (fun t k => XS.lload Xx68.here hx rfl (hb hby d71_81) rfl  k) ?_
  obtain ⟨T69, h69, X69, e69, W69, st69⟩ := putF Xx68 hx hZ hown (host := "") (Or.inl (wk hw 55 rfl)) Via.refl e54 q60 q55 (Or.inl (wk hw 56 rfl)) (wk hw 26 rfl) (ty := .long) (by decide) rfl rfl (g := (mkL r1 m 83 #[sR r1, sJ j1, zS, sR r3, sJ j2, zS] [(.long j2), (.ref r1)])) rfl rfl (hb hby d71_83)
  have q70 := q55.wr W69
  have q71 := q56.other W69 (Or.inr (sn_30 hw))
  have q72 := q57.other W69 (Or.inr (sn_31 hw))
  have q73 := q58.other W69 (Or.inr (sn_32 hw))
  have q74 := q59.other W69 (Or.inr (sn_33 hw))
  have q75 : Fld Z h69 r1 kT "bestPenalty" "J" (.long j2) := q60.same W69
  have q76 := q61.other W69 (Or.inr (sn_34 hw))
  have q77 := q62.other W69 (Or.inr (sn_35 hw))
  have q78 := q63.other W69 (Or.inr (sn_36 hw))
  have q79 := q64.wr W69
  have q80 := q65.other W69 (Or.inl ne_r3_r1)
  have Z81 : n0 ≤ h69.size := Nat.le_trans Z66 (Keep.of_wr W69).1
  have N82 := own_obSnoc X69 Nx68
  obtain ⟨Lx83, Xx83, Nx83⟩ := own_locsO X69 N82
  refine Go.of st69 ?_
  show Go p e below Qo T69 (mkL r1 m 86 #[sR r1, sJ j1, zS, sR r3, sJ j2, zS] [])
  refine Go.of (fun t k => XS.aloadN Xx83.here hx rfl (hb hby d71_86) rfl rfl k) ?_
  refine Go.of (fun t k => XS.aloadN Xx83.here hx rfl (hb hby d71_87) rfl rfl k) ?_
  show Go p e below Qo T69 (mkL r1 m 88 #[sR r1, sJ j1, zS, sR r3, sJ j2, zS] [(.ref r1), (.ref r1)])
  obtain ⟨T84, X84, e84, st84⟩ := getF Xx83 hx hZ hown (host := "") (Or.inl (wk hw 57 rfl)) Via.refl e69 q76 (g := (mkL r1 m 88 #[sR r1, sJ j1, zS, sR r3, sJ j2, zS] [(.ref r1), (.ref r1)])) rfl rfl (hb hby d71_88)
  refine Go.of st84 ?_
  show Go p e below Qo T84 (mkL r1 m 91 #[sR r1, sJ j1, zS, sR r3, sJ j2, zS] [(.long wp), (.ref r1)])
  refine Go.of (fun t k => XS.lload X84.here hx rfl (hb hby d71_91) rfl  k) ?_
  obtain ⟨_, _, ⟨T85, L85, k85, n85⟩, -, X85, ⟨Lc85, hQ85, l85, y85, z85⟩, st85⟩ := Jvm.LawKit.callS X84 hx (y := (⟨"java/lang/Math", "max", "(JJ)J"⟩ : MethodName)) hown (mvT hZ (wk hw 59 rfl)) (mvT hZ (wk hw 60 rfl)) (mvT hZ (wk hw 61 rfl)) (mvT hZ (wk hw 62 rfl)) (by decide) (backOf (W := 3) (rm9 l Z a0 hw [] wp j2 h69 n0 Z81 ) hZ (wk hw 62 rfl) (wk hw 61 rfl) (by decide) (by decide)) (g := (mkL r1 m 93 #[sR r1, sJ j1, zS, sR r3, sJ j2, zS] [(.long j2), (.long wp), (.ref r1)])) rfl (by rw [hml]; rfl) (argsL := [(.long wp), (.long j2)]) (rest := [(.ref r1)]) (lenOf pd_2 rfl) rfl (by show 2 * 1 + _ ≤ _; exact Nat.le_of_eq rfl) (hb hby d71_93) (fun _ _ => ⟨rfl, e84, (by decide : 0 + 0 ≤ _), (by decide : 0 + 0 ≤ _)⟩)
  dsimp only [Pt.U, Pt.locs, Pt.cells, Pt.slots] at X85 l85 y85 z85 st85 hQ85
  subst l85 y85 z85
  replace X85 := own_cs X85 (c' := 0) (s' := 0) (by decide) (by decide)
  obtain ⟨rfl, N86, eh87⟩ := hQ85
  subst N86
  have N88 := own_obNil2 Nx83
  refine Go.of st85 ?_
  obtain ⟨Lx89, Xx89, Nx89⟩ := own_locsO X85 N88
  show Go p e below Qo T85 (mkL r1 m 96 #[sR r1, sJ j1, zS, sR r3, sJ j2, zS] [(.long (F9 wp j2)), (.ref r1)])
  obtain ⟨T90, h90, X90, e90, W90, st90⟩ := putF Xx89 hx hZ hown (host := "") (Or.inl (wk hw 57 rfl)) Via.refl eh87 q76 q70 (Or.inl (wk hw 58 rfl)) (wk hw 26 rfl) (ty := .long) (by decide) rfl rfl (g := (mkL r1 m 96 #[sR r1, sJ j1, zS, sR r3, sJ j2, zS] [(.long (F9 wp j2)), (.ref r1)])) rfl rfl (hb hby d71_96)
  have q91 := q70.wr W90
  have q92 := q71.other W90 (Or.inr (sn_37 hw))
  have q93 := q72.other W90 (Or.inr (sn_38 hw))
  have q94 := q73.other W90 (Or.inr (sn_39 hw))
  have q95 := q74.other W90 (Or.inr (sn_40 hw))
  have q96 := q75.other W90 (Or.inr (sn_41 hw))
  have q97 : Fld Z h90 r1 kT "worstPenalty" "J" (.long (F9 wp j2)) := q76.same W90
  have q98 := q77.other W90 (Or.inr (sn_42 hw))
  have q99 := q78.other W90 (Or.inr (sn_43 hw))
  have q100 := q79.wr W90
  have q101 := q80.other W90 (Or.inl ne_r3_r1)
  have Z102 : n0 ≤ h90.size := Nat.le_trans Z81 (Keep.of_wr W90).1
  have N103 := own_obSnoc X90 Nx89
  obtain ⟨Lx104, Xx104, Nx104⟩ := own_locsO X90 N103
  refine Go.of st90 ?_
  show Go p e below Qo T90 (mkL r1 m 99 #[sR r1, sJ j1, zS, sR r3, sJ j2, zS] [])
  refine Go.of (fun t k => XS.aloadN Xx104.here hx rfl (hb hby d71_99) rfl rfl k) ?_
  refine Go.of (fun t k => XS.dup Xx104.here hx rfl (hb hby d71_100) rfl rfl k) ?_
  obtain ⟨T105, X105, e105, st105⟩ := getF Xx104 hx hZ hown (host := "") (Or.inl (wk hw 63 rfl)) Via.refl e90 q98 (g := (mkL r1 m 101 #[sR r1, sJ j1, zS, sR r3, sJ j2, zS] [(.ref r1), (.ref r1)])) rfl rfl (hb hby d71_101)
  refine Go.of st105 ?_
  show Go p e below Qo T105 (mkL r1 m 104 #[sR r1, sJ j1, zS, sR r3, sJ j2, zS] [(.long qs), (.ref r1)])
  refine Go.of (fun t k => XS.lload X105.here hx rfl (hb hby d71_104) rfl  k) ?_
  refine Go.of (fun t k => XS.ladd X105.here hx rfl (hb hby d71_106) rfl k) ?_
  obtain ⟨T106, h106, X106, e106, W106, st106⟩ := putF X105 hx hZ hown (host := "") (Or.inl (wk hw 63 rfl)) Via.refl e105 q98 q91 (Or.inl (wk hw 64 rfl)) (wk hw 26 rfl) (ty := .long) (by decide) rfl rfl (g := (mkL r1 m 107 #[sR r1, sJ j1, zS, sR r3, sJ j2, zS] [(.long (qs + j2)), (.ref r1)])) rfl rfl (hb hby d71_107)
  have q107 := q91.wr W106
  have q108 := q92.other W106 (Or.inr (sn_44 hw))
  have q109 := q93.other W106 (Or.inr (sn_45 hw))
  have q110 := q94.other W106 (Or.inr (sn_46 hw))
  have q111 := q95.other W106 (Or.inr (sn_47 hw))
  have q112 := q96.other W106 (Or.inr (sn_48 hw))
  have q113 := q97.other W106 (Or.inr (sn_49 hw))
  have q114 : Fld Z h106 r1 kT "penaltySum" "J" (.long (qs + j2)) := q98.same W106
  have q115 := q99.other W106 (Or.inr (sn_50 hw))
  have q116 := q100.wr W106
  have q117 := q101.other W106 (Or.inl ne_r3_r1)
  have Z118 : n0 ≤ h106.size := Nat.le_trans Z102 (Keep.of_wr W106).1
  have N119 := own_obSnoc X106 Nx104
  obtain ⟨Lx120, Xx120, Nx120⟩ := own_locsO X106 N119
  refine Go.of st106 ?_
  show Go p e below Qo T106 (mkL r1 m 110 #[sR r1, sJ j1, zS, sR r3, sJ j2, zS] [])
  refine Go.of (fun t k => XS.aloadN Xx120.here hx rfl (hb hby d71_110) rfl rfl k) ?_
  show Go p e below Qo T106 (mkL r1 m 111 #[sR r1, sJ j1, zS, sR r3, sJ j2, zS] [(.ref r1)])
  refine Go.of (fun t k => XS.dup Xx120.here hx rfl (hb hby d71_111) rfl rfl k) ?_
  obtain ⟨T121, X121, e121, st121⟩ := getF Xx120 hx hZ hown (host := "") (Or.inl (wk hw 65 rfl)) Via.refl e106 q115 (g := (mkL r1 m 112 #[sR r1, sJ j1, zS, sR r3, sJ j2, zS] [(.ref r1), (.ref r1)])) rfl rfl (hb hby d71_112)
  refine Go.of st121 ?_
  show Go p e below Qo T121 (mkL r1 m 115 #[sR r1, sJ j1, zS, sR r3, sJ j2, zS] [(.int fc), (.ref r1)])
  refine Go.of (fun t k => XS.iconst X121.here hx rfl (hb hby d71_115) k) ?_
  refine Go.of (fun t k => XS.iadd X121.here hx rfl (hb hby d71_116) rfl k) ?_
  obtain ⟨T122, h122, X122, e122, W122, st122⟩ := putF X121 hx hZ hown (host := "") (Or.inl (wk hw 65 rfl)) Via.refl e121 q115 q107 (Or.inl (wk hw 66 rfl)) (wk hw 26 rfl) (ty := .int) (by decide) rfl rfl (g := (mkL r1 m 117 #[sR r1, sJ j1, zS, sR r3, sJ j2, zS] [(.int (fc + (1 : Int32))), (.ref r1)])) rfl rfl (hb hby d71_117)
  have q123 := q107.wr W122
  have q124 := q108.other W122 (Or.inr (sn_51 hw))
  have q125 := q109.other W122 (Or.inr (sn_52 hw))
  have q126 := q110.other W122 (Or.inr (sn_53 hw))
  have q127 := q111.other W122 (Or.inr (sn_54 hw))
  have q128 := q112.other W122 (Or.inr (sn_55 hw))
  have q129 := q113.other W122 (Or.inr (sn_56 hw))
  have q130 := q114.other W122 (Or.inr (sn_57 hw))
  have q131 : Fld Z h122 r1 kT "feasibleRuns" "I" (.int (fc + (1 : Int32))) := q115.same W122
  have q132 := q116.wr W122
  have q133 := q117.other W122 (Or.inl ne_r3_r1)
  have Z134 : n0 ≤ h122.size := Nat.le_trans Z118 (Keep.of_wr W122).1
  have N135 := own_obSnoc X122 Nx120
  obtain ⟨Lx136, Xx136, Nx136⟩ := own_locsO X122 N135
  refine Go.of st122 ?_
  show Go p e below Qo T122 (mkL r1 m 120 #[sR r1, sJ j1, zS, sR r3, sJ j2, zS] [])
  refine own_retS Xx136 hx Bd.object Bd.enterable Bd.synchronized Bd.returns (hb hby d71_120) (fun u hM hF => ?_)
  rw [e122] at hM
  exact hQo _ _ _ ⟨(F9 wp j2), (qs + j2), (fc + (1 : Int32)), rfl, own_obFr Nx136 g_r1, own_keepS hh hF Nx136, (by exact q123.mon hM), own_monU hh hF f1, (by exact q124.mon hM), (by exact q125.mon hM), (by exact q126.mon hM), (by exact q127.mon hM), (by exact q128.mon hM), (by exact q129.mon hM), (by exact q130.mon hM), (by exact q131.mon hM)⟩ (own_mono hF (by decide) (by decide))
theorem d72_0 : decode prog_38_method_3_code 0 = .ok (.aload_n 0, 1) := by decide +kernel
theorem d72_1 : decode prog_38_method_3_code 1 = .ok (.getfield 115, 3) := by decide +kernel
theorem d72_4 : decode prog_38_method_3_code 4 = .ok (.ifnull 12, 3) := by decide +kernel
theorem d72_16 : decode prog_38_method_3_code 16 = .ok (.aload_n 0, 1) := by decide +kernel
theorem d72_17 : decode prog_38_method_3_code 17 = .ok (.aload_n 3, 1) := by decide +kernel
theorem d72_18 : decode prog_38_method_3_code 18 = .ok (.putfield 115, 3) := by decide +kernel
theorem d72_21 : decode prog_38_method_3_code 21 = .ok (.aload_n 0, 1) := by decide +kernel
theorem d72_22 : decode prog_38_method_3_code 22 = .ok (.lload_n 1, 1) := by decide +kernel
theorem d72_23 : decode prog_38_method_3_code 23 = .ok (.putfield 119, 3) := by decide +kernel
theorem d72_26 : decode prog_38_method_3_code 26 = .ok (.aload_n 3, 1) := by decide +kernel
theorem d72_27 : decode prog_38_method_3_code 27 = .ok (.invokevirtual 123, 3) := by decide +kernel
theorem d72_30 : decode prog_38_method_3_code 30 = .ok (.ifnonnull 4, 3) := by decide +kernel
theorem d72_33 : decode prog_38_method_3_code 33 = .ok (.return_, 1) := by decide +kernel
theorem ef_72 (m : MethodId) (r1 : Addr) (j1 : Int64) (r3 : Addr) (j2 : Int64)  : entryFrame m #[(.ref r1), (.long j1), (.ref r3), (.long j2)] 6 = mkF m 0 #[.val (.ref r1), .val (.long j1), .second, .val (.ref r3), .val (.long j2), .second] [] := by
  first | (simp [entryFrame, mkF, argsToLocals, Value.category]; done) | rfl
def Q72 (Z : State) (r1 : Addr) (j1 : Int64) (r3 : Addr) (j2 : Int64) (fs : Int64) (br : Addr) (bs : Int64) (bp : Int64) (wp : Int64) (qs : Int64) (fc : Int32) (h0 : Heap) (n0 : Nat) (v : Option Value) (h : Heap) (L : List Loc) : Prop := ∃ wq : Int64, ∃ qt : Int64, ∃ fd : Int32, v = none ∧ Fr n0 L ∧ Keep h0 h [r1] ∧ Exa Z h r1 kT ∧ own_mon h r1 ∧ Fld Z h r1 kT "first" kD (.ref r3) ∧ Fld Z h r1 kT "firstSeed" "J" (.long j1) ∧ Fld Z h r1 kT "best" kD (.ref br) ∧ Fld Z h r1 kT "bestSeed" "J" (.long bs) ∧ Fld Z h r1 kT "bestPenalty" "J" (.long bp) ∧ Fld Z h r1 kT "worstPenalty" "J" (.long wq) ∧ Fld Z h r1 kT "penaltySum" "J" (.long qt) ∧ Fld Z h r1 kT "feasibleRuns" "I" (.int fd)
set_option maxRecDepth 65536 in
set_option maxHeartbeats 40000000 in
theorem rm72 (l : Launch) (Z : State) (a0 : Array Value) (hw : ∀ d ∈ tables_1, d.before a0 Z = true) (r1 : Addr) (j1 : Int64) (r3 : Addr) (j2 : Int64) (fs : Int64) (br : Addr) (bs : Int64) (bp : Int64) (wp : Int64) (qs : Int64) (fc : Int32) (h0 : Heap) (n0 : Nat) (Z0 : n0 ≤ h0.size) (f0 : Exa Z h0 r1 kT) (f1 : own_mon h0 r1) (f2 : Fld Z h0 r1 kT "first" kD .null) (f3 : Fld Z h0 r1 kT "firstSeed" "J" (.long fs)) (f4 : Fld Z h0 r1 kT "best" kD (.ref br)) (f5 : Fld Z h0 r1 kT "bestSeed" "J" (.long bs)) (f6 : Fld Z h0 r1 kT "bestPenalty" "J" (.long bp)) (f7 : Fld Z h0 r1 kT "worstPenalty" "J" (.long wp)) (f8 : Fld Z h0 r1 kT "penaltySum" "J" (.long qs)) (f9 : Fld Z h0 r1 kT "feasibleRuns" "I" (.int fc)) (f10 : Exa Z h0 r3 kA) (f11 : Fld Z h0 r3 kA "run" "Ljava/lang/Object;" .null) (g_r1 : n0 ≤ r1) (ne_r3_r1 : r3 ≠ r1) :
    MetFree l (⟨kT, "add", "(JLcom/example/examwright/examwright/Method$Attempt;J)V"⟩ : MethodName) (head1 (Jvm.Cond.codeSync (⟨kT, "add", "(JLcom/example/examwright/examwright/Method$Attempt;J)V"⟩ : MethodName) prog_38_method_3_code 6 none :: [Jvm.Cond.instanceMethod (⟨kT, "add", "(JLcom/example/examwright/examwright/Method$Attempt;J)V"⟩ : MethodName)]) ({ frames := 1, cells := 0, slots := 0, locals := 14 } : Room)) (fun a U => a = #[(.ref r1), (.long j1), (.ref r3), (.long j2)] ∧ Z.Warmed39 U.vm ∧ U.heap = h0 ∧ ∃ cell : Cell, h0[r1]? = some cell ∧ cell.enterable U.cur) (fun _ _ _ _ _ => True) (fun _ U o U' => ∃ v L, o = .returned v ∧ Q72 Z r1 j1 r3 j2 fs br bs bp wp qs fc h0 n0 v U'.heap L ∧ FrameEnd U o U' L ({ frames := 1, cells := 0, slots := 0, locals := 14 } : Room).cells ({ frames := 1, cells := 0, slots := 0, locals := 14 } : Room).slots) := by
  refine MetFree.of_bodySync (plainFor_of_name pn_2) (hisS (List.mem_cons_self ..)) (fun _ s _ ⟨h1, _, h2, cl, h3, h4⟩ => ⟨r1, cl, by rw [h1]; rfl, by rw [h2]; exact h3, h4⟩) ?_
  intro p e s m args below meth c a' cell s₁ Bd hml0 hP hK
  obtain ⟨rfl, hZ0, hh, -⟩ := hP
  cases Bd.receiver
  have hx := Bd.exec
  have hby := Bd.bytes
  have hml : c.maxLocals = 6 := hml0
  have X0 : Stand p l e ({ frames := 1, cells := 0, slots := 0, locals := 14 } : Room) (s.setCell r1 (cell.withEntry s.cur)) m #[(.ref r1), (.long j1), (.ref r3), (.long j2)] below meth c s₁ [] 0 0 := Stand.of_bodySync Bd
  have hZ : Z.Warmed39 (s.setCell r1 (cell.withEntry s.cur)).vm := hZ0
  have hown : (s.setCell r1 (cell.withEntry s.cur)).vm.findClass kT = some m.cls := (findClass_of_methodNamed Bd.named :)
  have M0 : Mon h0 s₁.heap := by rw [← hh, Bd.state]; exact mon_set Bd.object _
  have Z1 : n0 ≤ s₁.heap.size := by rw [M0.size]; exact Z0
  have N0 : own_ob r1 [] := own_obNil
  have m0 := f0.mon M0
  have m2 := f2.mon M0
  have m3 := f3.mon M0
  have m4 := f4.mon M0
  have m5 := f5.mon M0
  have m6 := f6.mon M0
  have m7 := f7.mon M0
  have m8 := f8.mon M0
  have m9 := f9.mon M0
  have m10 := f10.mon M0
  have m11 := f11.mon M0
  suffices H : ∀ Qo : Outcome → State → Prop, (∀ (v : Option Value) (u : State) (L : List Loc), Q72 Z r1 j1 r3 j2 fs br bs bp wp qs fc h0 n0 v u.heap L → FrameEnd s (.returned v) u L ({ frames := 1, cells := 0, slots := 0, locals := 14 } : Room).cells ({ frames := 1, cells := 0, slots := 0, locals := 14 } : Room).slots → Qo (.returned v) u) → Go p e below Qo s₁ (mkL r1 m 0 #[.val (.ref r1), .val (.long j1), .second, .val (.ref r3), .val (.long j2), .second] []) from
    H _ fun v u L h1 h2 => ⟨v, L, rfl, h1, h2⟩
  intro Qo hQo
  show Go p e below Qo s₁ (mkL r1 m 0 #[sR r1, sJ j1, zS, sR r3, sJ j2, zS] [])
  refine Go.of (fun t k => XS.aloadN X0.here hx rfl (hb hby d72_0) rfl rfl k) ?_
  obtain ⟨T1, X1, e1, st1⟩ := getF X0 hx hZ hown (host := "") (Or.inl (wk hw 39 rfl)) Via.refl rfl m2 (g := (mkL r1 m 1 #[sR r1, sJ j1, zS, sR r3, sJ j2, zS] [(.ref r1)])) rfl rfl (hb hby d72_1)
  refine Go.of st1 ?_
  show Go p e below Qo T1 (mkL r1 m 4 #[sR r1, sJ j1, zS, sR r3, sJ j2, zS] [.null])
  refine Go.of (fun t k => XS.ifnullYes X1.here hx rfl (pc0 := 4) (pc' := 16) rfl (hb hby d72_4) rfl (by decide) (by decide) k) ?_
  refine Go.of (fun t k => XS.aloadN X1.here hx rfl (hb hby d72_16) rfl rfl k) ?_
  refine Go.of (fun t k => XS.aloadN X1.here hx rfl (hb hby d72_17) rfl rfl k) ?_
  obtain ⟨T2, h2, X2, e2, W2, st2⟩ := putF X1 hx hZ hown (host := "") (Or.inl (wk hw 39 rfl)) Via.refl e1 m2 m0 (Or.inl (wk hw 40 rfl)) (wk hw 26 rfl) (ty := (.object kA)) (by decide) rfl rfl (g := (mkL r1 m 18 #[sR r1, sJ j1, zS, sR r3, sJ j2, zS] [(.ref r3), (.ref r1)])) rfl rfl (hb hby d72_18)
  have q3 := m0.wr W2
  have q4 : Fld Z h2 r1 kT "first" kD (.ref r3) := m2.same W2
  have q5 := m3.other W2 (Or.inr (sn_2 hw))
  have q6 := m4.other W2 (Or.inr (sn_3 hw))
  have q7 := m5.other W2 (Or.inr (sn_4 hw))
  have q8 := m6.other W2 (Or.inr (sn_5 hw))
  have q9 := m7.other W2 (Or.inr (sn_6 hw))
  have q10 := m8.other W2 (Or.inr (sn_7 hw))
  have q11 := m9.other W2 (Or.inr (sn_8 hw))
  have q12 := m10.wr W2
  have q13 := m11.other W2 (Or.inl ne_r3_r1)
  have Z14 : n0 ≤ h2.size := Nat.le_trans Z1 (Keep.of_wr W2).1
  have N15 := own_obSnoc X2 N0
  obtain ⟨Lx16, Xx16, Nx16⟩ := own_locsO X2 N15
  refine Go.of st2 ?_
  show Go p e below Qo T2 (mkL r1 m 21 #[sR r1, sJ j1, zS, sR r3, sJ j2, zS] [])
  refine Go.of (fun t k => XS.aloadN Xx16.here hx rfl (hb hby d72_21) rfl rfl k) ?_
  refine Go.of (fun t k => XS.lloadN Xx16.here hx rfl (hb hby d72_22) rfl  k) ?_
  show Go p e below Qo T2 (mkL r1 m 23 #[sR r1, sJ j1, zS, sR r3, sJ j2, zS] [(.long j1), (.ref r1)])
  obtain ⟨T17, h17, X17, e17, W17, st17⟩ := putF Xx16 hx hZ hown (host := "") (Or.inl (wk hw 46 rfl)) Via.refl e2 q5 q3 (Or.inl (wk hw 47 rfl)) (wk hw 26 rfl) (ty := .long) (by decide) rfl rfl (g := (mkL r1 m 23 #[sR r1, sJ j1, zS, sR r3, sJ j2, zS] [(.long j1), (.ref r1)])) rfl rfl (hb hby d72_23)
  have q18 := q3.wr W17
  have q19 := q4.other W17 (Or.inr (sn_9 hw))
  have q20 : Fld Z h17 r1 kT "firstSeed" "J" (.long j1) := q5.same W17
  have q21 := q6.other W17 (Or.inr (sn_10 hw))
  have q22 := q7.other W17 (Or.inr (sn_11 hw))
  have q23 := q8.other W17 (Or.inr (sn_12 hw))
  have q24 := q9.other W17 (Or.inr (sn_13 hw))
  have q25 := q10.other W17 (Or.inr (sn_14 hw))
  have q26 := q11.other W17 (Or.inr (sn_15 hw))
  have q27 := q12.wr W17
  have q28 := q13.other W17 (Or.inl ne_r3_r1)
  have Z29 : n0 ≤ h17.size := Nat.le_trans Z14 (Keep.of_wr W17).1
  have N30 := own_obSnoc X17 Nx16
  obtain ⟨Lx31, Xx31, Nx31⟩ := own_locsO X17 N30
  refine Go.of st17 ?_
  show Go p e below Qo T17 (mkL r1 m 26 #[sR r1, sJ j1, zS, sR r3, sJ j2, zS] [])
  refine Go.of (fun t k => XS.aloadN Xx31.here hx rfl (hb hby d72_26) rfl rfl k) ?_
  obtain ⟨ciq33, kiq33, iq33a, iq33b, iq33c⟩ := isOf hZ e17 q27
  obtain ⟨_, _, ⟨T32, L32, k32, n32⟩, -, X32, ⟨Lc32, hQ32, l32, y32, z32⟩, st32⟩ := Xx31.virtualBack hx (y := (⟨kA, "run", "()Ljava/lang/Object;"⟩ : MethodName)) (z := (⟨kA, "run", "()Ljava/lang/Object;"⟩ : MethodName)) hown (mvT hZ (wk hw 48 rfl)) (mvT hZ (wk hw 49 rfl)) (notFace_of_selects (args := #[]) (mvT hZ (wk hw 51 rfl))) (mvT hZ (wk hw 51 rfl)) (mvT hZ (wk hw 50 rfl)) (by decide) (backOf (W := 2) (rm81 l Z a0 hw [] r3 h17 n0 Z29 q28) hZ (wk hw 52 rfl) (wk hw 2 rfl) (by decide) (by decide)) iq33a iq33c (g := (mkL r1 m 27 #[sR r1, sJ j1, zS, sR r3, sJ j2, zS] [(.ref r3)])) rfl (by rw [hml]; rfl) (Steps.refl _) (argsL := []) (rest := []) (lenOf pd_1 rfl) rfl (by show 2 * 1 + _ ≤ _; exact Nat.le_of_eq rfl) (hb hby d72_27) (fun _ _ => ⟨rfl, e17, (by decide : 0 + 0 ≤ _), (by decide : 0 + 0 ≤ _)⟩)
  dsimp only [Pt.U, Pt.locs, Pt.cells, Pt.slots] at X32 l32 y32 z32 st32 hQ32
  subst l32 y32 z32
  replace X32 := own_cs X32 (c' := 0) (s' := 0) (by decide) (by decide)
  obtain ⟨rfl, N34, eh35⟩ := hQ32
  subst N34
  have N36 := own_obNil2 Nx31
  refine Go.via st32 ?_
  obtain ⟨Lx37, Xx37, Nx37⟩ := own_locsO X32 N36
  show Go p e below Qo T32 (mkL r1 m 30 #[sR r1, sJ j1, zS, sR r3, sJ j2, zS] [.null])
  refine Go.of (fun t k => XS.ifnonnullNo Xx37.here hx rfl (hb hby d72_30) rfl k) ?_
  refine own_retS Xx37 hx Bd.object Bd.enterable Bd.synchronized Bd.returns (hb hby d72_33) (fun u hM hF => ?_)
  rw [eh35] at hM
  exact hQo _ _ _ ⟨wp, qs, fc, rfl, own_obFr Nx37 g_r1, own_keepS hh hF Nx37, (by exact q18.mon hM), own_monU hh hF f1, (by exact q19.mon hM), (by exact q20.mon hM), (by exact q21.mon hM), (by exact q22.mon hM), (by exact q23.mon hM), (by exact q24.mon hM), (by exact q25.mon hM), (by exact q26.mon hM)⟩ (own_mono hF (by decide) (by decide))
theorem d73_0 : decode prog_38_method_3_code 0 = .ok (.aload_n 0, 1) := by decide +kernel
theorem d73_1 : decode prog_38_method_3_code 1 = .ok (.getfield 115, 3) := by decide +kernel
theorem d73_4 : decode prog_38_method_3_code 4 = .ok (.ifnull 12, 3) := by decide +kernel
theorem d73_16 : decode prog_38_method_3_code 16 = .ok (.aload_n 0, 1) := by decide +kernel
theorem d73_17 : decode prog_38_method_3_code 17 = .ok (.aload_n 3, 1) := by decide +kernel
theorem d73_18 : decode prog_38_method_3_code 18 = .ok (.putfield 115, 3) := by decide +kernel
theorem d73_21 : decode prog_38_method_3_code 21 = .ok (.aload_n 0, 1) := by decide +kernel
theorem d73_22 : decode prog_38_method_3_code 22 = .ok (.lload_n 1, 1) := by decide +kernel
theorem d73_23 : decode prog_38_method_3_code 23 = .ok (.putfield 119, 3) := by decide +kernel
theorem d73_26 : decode prog_38_method_3_code 26 = .ok (.aload_n 3, 1) := by decide +kernel
theorem d73_27 : decode prog_38_method_3_code 27 = .ok (.invokevirtual 123, 3) := by decide +kernel
theorem d73_30 : decode prog_38_method_3_code 30 = .ok (.ifnonnull 4, 3) := by decide +kernel
theorem d73_34 : decode prog_38_method_3_code 34 = .ok (.aload_n 0, 1) := by decide +kernel
theorem d73_35 : decode prog_38_method_3_code 35 = .ok (.getfield 128, 3) := by decide +kernel
theorem d73_38 : decode prog_38_method_3_code 38 = .ok (.ifnull 32, 3) := by decide +kernel
theorem d73_41 : decode prog_38_method_3_code 41 = .ok (.lload 4, 2) := by decide +kernel
theorem d73_43 : decode prog_38_method_3_code 43 = .ok (.aload_n 0, 1) := by decide +kernel
theorem d73_44 : decode prog_38_method_3_code 44 = .ok (.getfield 131, 3) := by decide +kernel
theorem d73_47 : decode prog_38_method_3_code 47 = .ok (.lcmp, 1) := by decide +kernel
theorem d73_48 : decode prog_38_method_3_code 48 = .ok (.ifCond .lt 22, 3) := by decide +kernel
theorem d73_51 : decode prog_38_method_3_code 51 = .ok (.lload 4, 2) := by decide +kernel
theorem d73_53 : decode prog_38_method_3_code 53 = .ok (.aload_n 0, 1) := by decide +kernel
theorem d73_54 : decode prog_38_method_3_code 54 = .ok (.getfield 131, 3) := by decide +kernel
theorem d73_57 : decode prog_38_method_3_code 57 = .ok (.lcmp, 1) := by decide +kernel
theorem d73_58 : decode prog_38_method_3_code 58 = .ok (.ifCond .ne 28, 3) := by decide +kernel
theorem d73_61 : decode prog_38_method_3_code 61 = .ok (.lload_n 1, 1) := by decide +kernel
theorem d73_62 : decode prog_38_method_3_code 62 = .ok (.aload_n 0, 1) := by decide +kernel
theorem d73_63 : decode prog_38_method_3_code 63 = .ok (.getfield 134, 3) := by decide +kernel
theorem d73_66 : decode prog_38_method_3_code 66 = .ok (.lcmp, 1) := by decide +kernel
theorem d73_67 : decode prog_38_method_3_code 67 = .ok (.ifCond .ge 19, 3) := by decide +kernel
theorem d73_70 : decode prog_38_method_3_code 70 = .ok (.aload_n 0, 1) := by decide +kernel
theorem d73_71 : decode prog_38_method_3_code 71 = .ok (.aload_n 3, 1) := by decide +kernel
theorem d73_72 : decode prog_38_method_3_code 72 = .ok (.putfield 128, 3) := by decide +kernel
theorem d73_75 : decode prog_38_method_3_code 75 = .ok (.aload_n 0, 1) := by decide +kernel
theorem d73_76 : decode prog_38_method_3_code 76 = .ok (.lload_n 1, 1) := by decide +kernel
theorem d73_77 : decode prog_38_method_3_code 77 = .ok (.putfield 134, 3) := by decide +kernel
theorem d73_80 : decode prog_38_method_3_code 80 = .ok (.aload_n 0, 1) := by decide +kernel
theorem d73_81 : decode prog_38_method_3_code 81 = .ok (.lload 4, 2) := by decide +kernel
theorem d73_83 : decode prog_38_method_3_code 83 = .ok (.putfield 131, 3) := by decide +kernel
theorem d73_86 : decode prog_38_method_3_code 86 = .ok (.aload_n 0, 1) := by decide +kernel
theorem d73_87 : decode prog_38_method_3_code 87 = .ok (.aload_n 0, 1) := by decide +kernel
theorem d73_88 : decode prog_38_method_3_code 88 = .ok (.getfield 137, 3) := by decide +kernel
theorem d73_91 : decode prog_38_method_3_code 91 = .ok (.lload 4, 2) := by decide +kernel
theorem d73_93 : decode prog_38_method_3_code 93 = .ok (.invokestatic 140, 3) := by decide +kernel
theorem d73_96 : decode prog_38_method_3_code 96 = .ok (.putfield 137, 3) := by decide +kernel
theorem d73_99 : decode prog_38_method_3_code 99 = .ok (.aload_n 0, 1) := by decide +kernel
theorem d73_100 : decode prog_38_method_3_code 100 = .ok (.dup, 1) := by decide +kernel
theorem d73_101 : decode prog_38_method_3_code 101 = .ok (.getfield 144, 3) := by decide +kernel
theorem d73_104 : decode prog_38_method_3_code 104 = .ok (.lload 4, 2) := by decide +kernel
theorem d73_106 : decode prog_38_method_3_code 106 = .ok (.ladd, 1) := by decide +kernel
theorem d73_107 : decode prog_38_method_3_code 107 = .ok (.putfield 144, 3) := by decide +kernel
theorem d73_110 : decode prog_38_method_3_code 110 = .ok (.aload_n 0, 1) := by decide +kernel
theorem d73_111 : decode prog_38_method_3_code 111 = .ok (.dup, 1) := by decide +kernel
theorem d73_112 : decode prog_38_method_3_code 112 = .ok (.getfield 147, 3) := by decide +kernel
theorem d73_115 : decode prog_38_method_3_code 115 = .ok (.iconst 1, 1) := by decide +kernel
theorem d73_116 : decode prog_38_method_3_code 116 = .ok (.iadd, 1) := by decide +kernel
theorem d73_117 : decode prog_38_method_3_code 117 = .ok (.putfield 147, 3) := by decide +kernel
theorem d73_120 : decode prog_38_method_3_code 120 = .ok (.return_, 1) := by decide +kernel
theorem ef_73 (m : MethodId) (r1 : Addr) (j1 : Int64) (r3 : Addr) (j2 : Int64)  : entryFrame m #[(.ref r1), (.long j1), (.ref r3), (.long j2)] 6 = mkF m 0 #[.val (.ref r1), .val (.long j1), .second, .val (.ref r3), .val (.long j2), .second] [] := by
  first | (simp [entryFrame, mkF, argsToLocals, Value.category]; done) | rfl
def Q73 (Z : State) (r1 : Addr) (j1 : Int64) (r3 : Addr) (j2 : Int64) (fs : Int64) (br : Addr) (bs : Int64) (bp : Int64) (wp : Int64) (qs : Int64) (fc : Int32) (rr : Addr) (h0 : Heap) (n0 : Nat) (v : Option Value) (h : Heap) (L : List Loc) : Prop := ∃ wq : Int64, ∃ qt : Int64, ∃ fd : Int32, v = none ∧ Fr n0 L ∧ Keep h0 h [r1] ∧ Exa Z h r1 kT ∧ own_mon h r1 ∧ Fld Z h r1 kT "first" kD (.ref r3) ∧ Fld Z h r1 kT "firstSeed" "J" (.long j1) ∧ Fld Z h r1 kT "best" kD (.ref (if (j2 < bp ∨ (j2 = bp ∧ j1 < bs)) then r3 else br)) ∧ Fld Z h r1 kT "bestSeed" "J" (.long (if (j2 < bp ∨ (j2 = bp ∧ j1 < bs)) then j1 else bs)) ∧ Fld Z h r1 kT "bestPenalty" "J" (.long (if (j2 < bp ∨ (j2 = bp ∧ j1 < bs)) then j2 else bp)) ∧ Fld Z h r1 kT "worstPenalty" "J" (.long wq) ∧ Fld Z h r1 kT "penaltySum" "J" (.long qt) ∧ Fld Z h r1 kT "feasibleRuns" "I" (.int fd)
set_option maxRecDepth 65536 in
set_option maxHeartbeats 40000000 in
theorem rm73 (l : Launch) (Z : State) (a0 : Array Value) (hw : ∀ d ∈ tables_1, d.before a0 Z = true) (r1 : Addr) (j1 : Int64) (r3 : Addr) (j2 : Int64) (fs : Int64) (br : Addr) (bs : Int64) (bp : Int64) (wp : Int64) (qs : Int64) (fc : Int32) (rr : Addr) (h0 : Heap) (n0 : Nat) (Z0 : n0 ≤ h0.size) (f0 : Exa Z h0 r1 kT) (f1 : own_mon h0 r1) (f2 : Fld Z h0 r1 kT "first" kD .null) (f3 : Fld Z h0 r1 kT "firstSeed" "J" (.long fs)) (f4 : Fld Z h0 r1 kT "best" kD (.ref br)) (f5 : Fld Z h0 r1 kT "bestSeed" "J" (.long bs)) (f6 : Fld Z h0 r1 kT "bestPenalty" "J" (.long bp)) (f7 : Fld Z h0 r1 kT "worstPenalty" "J" (.long wp)) (f8 : Fld Z h0 r1 kT "penaltySum" "J" (.long qs)) (f9 : Fld Z h0 r1 kT "feasibleRuns" "I" (.int fc)) (f10 : Exa Z h0 r3 kA) (f11 : Fld Z h0 r3 kA "run" "Ljava/lang/Object;" (.ref rr)) (g_r1 : n0 ≤ r1) (ne_r3_r1 : r3 ≠ r1) :
    MetFree l (⟨kT, "add", "(JLcom/example/examwright/examwright/Method$Attempt;J)V"⟩ : MethodName) (head1 (Jvm.Cond.codeSync (⟨kT, "add", "(JLcom/example/examwright/examwright/Method$Attempt;J)V"⟩ : MethodName) prog_38_method_3_code 6 none :: [Jvm.Cond.instanceMethod (⟨kT, "add", "(JLcom/example/examwright/examwright/Method$Attempt;J)V"⟩ : MethodName)]) ({ frames := 1, cells := 0, slots := 0, locals := 18 } : Room)) (fun a U => a = #[(.ref r1), (.long j1), (.ref r3), (.long j2)] ∧ Z.Warmed39 U.vm ∧ U.heap = h0 ∧ ∃ cell : Cell, h0[r1]? = some cell ∧ cell.enterable U.cur) (fun _ _ _ _ _ => True) (fun _ U o U' => ∃ v L, o = .returned v ∧ Q73 Z r1 j1 r3 j2 fs br bs bp wp qs fc rr h0 n0 v U'.heap L ∧ FrameEnd U o U' L ({ frames := 1, cells := 0, slots := 0, locals := 18 } : Room).cells ({ frames := 1, cells := 0, slots := 0, locals := 18 } : Room).slots) := by
  refine MetFree.of_bodySync (plainFor_of_name pn_2) (hisS (List.mem_cons_self ..)) (fun _ s _ ⟨h1, _, h2, cl, h3, h4⟩ => ⟨r1, cl, by rw [h1]; rfl, by rw [h2]; exact h3, h4⟩) ?_
  intro p e s m args below meth c a' cell s₁ Bd hml0 hP hK
  obtain ⟨rfl, hZ0, hh, -⟩ := hP
  cases Bd.receiver
  have hx := Bd.exec
  have hby := Bd.bytes
  have hml : c.maxLocals = 6 := hml0
  have X0 : Stand p l e ({ frames := 1, cells := 0, slots := 0, locals := 18 } : Room) (s.setCell r1 (cell.withEntry s.cur)) m #[(.ref r1), (.long j1), (.ref r3), (.long j2)] below meth c s₁ [] 0 0 := Stand.of_bodySync Bd
  have hZ : Z.Warmed39 (s.setCell r1 (cell.withEntry s.cur)).vm := hZ0
  have hown : (s.setCell r1 (cell.withEntry s.cur)).vm.findClass kT = some m.cls := (findClass_of_methodNamed Bd.named :)
  have M0 : Mon h0 s₁.heap := by rw [← hh, Bd.state]; exact mon_set Bd.object _
  have Z1 : n0 ≤ s₁.heap.size := by rw [M0.size]; exact Z0
  have N0 : own_ob r1 [] := own_obNil
  have m0 := f0.mon M0
  have m2 := f2.mon M0
  have m3 := f3.mon M0
  have m4 := f4.mon M0
  have m5 := f5.mon M0
  have m6 := f6.mon M0
  have m7 := f7.mon M0
  have m8 := f8.mon M0
  have m9 := f9.mon M0
  have m10 := f10.mon M0
  have m11 := f11.mon M0
  suffices H : ∀ Qo : Outcome → State → Prop, (∀ (v : Option Value) (u : State) (L : List Loc), Q73 Z r1 j1 r3 j2 fs br bs bp wp qs fc rr h0 n0 v u.heap L → FrameEnd s (.returned v) u L ({ frames := 1, cells := 0, slots := 0, locals := 18 } : Room).cells ({ frames := 1, cells := 0, slots := 0, locals := 18 } : Room).slots → Qo (.returned v) u) → Go p e below Qo s₁ (mkL r1 m 0 #[.val (.ref r1), .val (.long j1), .second, .val (.ref r3), .val (.long j2), .second] []) from
    H _ fun v u L h1 h2 => ⟨v, L, rfl, h1, h2⟩
  intro Qo hQo
  show Go p e below Qo s₁ (mkL r1 m 0 #[sR r1, sJ j1, zS, sR r3, sJ j2, zS] [])
  refine Go.of (fun t k => XS.aloadN X0.here hx rfl (hb hby d73_0) rfl rfl k) ?_
  obtain ⟨T1, X1, e1, st1⟩ := getF X0 hx hZ hown (host := "") (Or.inl (wk hw 39 rfl)) Via.refl rfl m2 (g := (mkL r1 m 1 #[sR r1, sJ j1, zS, sR r3, sJ j2, zS] [(.ref r1)])) rfl rfl (hb hby d73_1)
  refine Go.of st1 ?_
  show Go p e below Qo T1 (mkL r1 m 4 #[sR r1, sJ j1, zS, sR r3, sJ j2, zS] [.null])
  refine Go.of (fun t k => XS.ifnullYes X1.here hx rfl (pc0 := 4) (pc' := 16) rfl (hb hby d73_4) rfl (by decide) (by decide) k) ?_
  refine Go.of (fun t k => XS.aloadN X1.here hx rfl (hb hby d73_16) rfl rfl k) ?_
  refine Go.of (fun t k => XS.aloadN X1.here hx rfl (hb hby d73_17) rfl rfl k) ?_
  obtain ⟨T2, h2, X2, e2, W2, st2⟩ := putF X1 hx hZ hown (host := "") (Or.inl (wk hw 39 rfl)) Via.refl e1 m2 m0 (Or.inl (wk hw 40 rfl)) (wk hw 26 rfl) (ty := (.object kA)) (by decide) rfl rfl (g := (mkL r1 m 18 #[sR r1, sJ j1, zS, sR r3, sJ j2, zS] [(.ref r3), (.ref r1)])) rfl rfl (hb hby d73_18)
  have q3 := m0.wr W2
  have q4 : Fld Z h2 r1 kT "first" kD (.ref r3) := m2.same W2
  have q5 := m3.other W2 (Or.inr (sn_2 hw))
  have q6 := m4.other W2 (Or.inr (sn_3 hw))
  have q7 := m5.other W2 (Or.inr (sn_4 hw))
  have q8 := m6.other W2 (Or.inr (sn_5 hw))
  have q9 := m7.other W2 (Or.inr (sn_6 hw))
  have q10 := m8.other W2 (Or.inr (sn_7 hw))
  have q11 := m9.other W2 (Or.inr (sn_8 hw))
  have q12 := m10.wr W2
  have q13 := m11.other W2 (Or.inl ne_r3_r1)
  have Z14 : n0 ≤ h2.size := Nat.le_trans Z1 (Keep.of_wr W2).1
  have N15 := own_obSnoc X2 N0
  obtain ⟨Lx16, Xx16, Nx16⟩ := own_locsO X2 N15
  refine Go.of st2 ?_
  show Go p e below Qo T2 (mkL r1 m 21 #[sR r1, sJ j1, zS, sR r3, sJ j2, zS] [])
  refine Go.of (fun t k => XS.aloadN Xx16.here hx rfl (hb hby d73_21) rfl rfl k) ?_
  refine Go.of (fun t k => XS.lloadN Xx16.here hx rfl (hb hby d73_22) rfl  k) ?_
  show Go p e below Qo T2 (mkL r1 m 23 #[sR r1, sJ j1, zS, sR r3, sJ j2, zS] [(.long j1), (.ref r1)])
  obtain ⟨T17, h17, X17, e17, W17, st17⟩ := putF Xx16 hx hZ hown (host := "") (Or.inl (wk hw 46 rfl)) Via.refl e2 q5 q3 (Or.inl (wk hw 47 rfl)) (wk hw 26 rfl) (ty := .long) (by decide) rfl rfl (g := (mkL r1 m 23 #[sR r1, sJ j1, zS, sR r3, sJ j2, zS] [(.long j1), (.ref r1)])) rfl rfl (hb hby d73_23)
  have q18 := q3.wr W17
  have q19 := q4.other W17 (Or.inr (sn_9 hw))
  have q20 : Fld Z h17 r1 kT "firstSeed" "J" (.long j1) := q5.same W17
  have q21 := q6.other W17 (Or.inr (sn_10 hw))
  have q22 := q7.other W17 (Or.inr (sn_11 hw))
  have q23 := q8.other W17 (Or.inr (sn_12 hw))
  have q24 := q9.other W17 (Or.inr (sn_13 hw))
  have q25 := q10.other W17 (Or.inr (sn_14 hw))
  have q26 := q11.other W17 (Or.inr (sn_15 hw))
  have q27 := q12.wr W17
  have q28 := q13.other W17 (Or.inl ne_r3_r1)
  have Z29 : n0 ≤ h17.size := Nat.le_trans Z14 (Keep.of_wr W17).1
  have N30 := own_obSnoc X17 Nx16
  obtain ⟨Lx31, Xx31, Nx31⟩ := own_locsO X17 N30
  refine Go.of st17 ?_
  show Go p e below Qo T17 (mkL r1 m 26 #[sR r1, sJ j1, zS, sR r3, sJ j2, zS] [])
  refine Go.of (fun t k => XS.aloadN Xx31.here hx rfl (hb hby d73_26) rfl rfl k) ?_
  obtain ⟨ciq33, kiq33, iq33a, iq33b, iq33c⟩ := isOf hZ e17 q27
  obtain ⟨_, _, ⟨T32, L32, k32, n32⟩, -, X32, ⟨Lc32, hQ32, l32, y32, z32⟩, st32⟩ := Xx31.virtualBack hx (y := (⟨kA, "run", "()Ljava/lang/Object;"⟩ : MethodName)) (z := (⟨kA, "run", "()Ljava/lang/Object;"⟩ : MethodName)) hown (mvT hZ (wk hw 48 rfl)) (mvT hZ (wk hw 49 rfl)) (notFace_of_selects (args := #[]) (mvT hZ (wk hw 51 rfl))) (mvT hZ (wk hw 51 rfl)) (mvT hZ (wk hw 50 rfl)) (by decide) (backOf (W := 2) (rm82 l Z a0 hw [] r3 rr h17 n0 Z29 q28) hZ (wk hw 52 rfl) (wk hw 2 rfl) (by decide) (by decide)) iq33a iq33c (g := (mkL r1 m 27 #[sR r1, sJ j1, zS, sR r3, sJ j2, zS] [(.ref r3)])) rfl (by rw [hml]; rfl) (Steps.refl _) (argsL := []) (rest := []) (lenOf pd_1 rfl) rfl (by show 2 * 1 + _ ≤ _; exact Nat.le_of_eq rfl) (hb hby d73_27) (fun _ _ => ⟨rfl, e17, (by decide : 0 + 0 ≤ _), (by decide : 0 + 0 ≤ _)⟩)
  dsimp only [Pt.U, Pt.locs, Pt.cells, Pt.slots] at X32 l32 y32 z32 st32 hQ32
  subst l32 y32 z32
  replace X32 := own_cs X32 (c' := 0) (s' := 0) (by decide) (by decide)
  obtain ⟨rfl, N34, eh35⟩ := hQ32
  subst N34
  have N36 := own_obNil2 Nx31
  refine Go.via st32 ?_
  obtain ⟨Lx37, Xx37, Nx37⟩ := own_locsO X32 N36
  show Go p e below Qo T32 (mkL r1 m 30 #[sR r1, sJ j1, zS, sR r3, sJ j2, zS] [(.ref rr)])
  refine Go.of (fun t k => XS.ifnonnullYes Xx37.here hx rfl (pc0 := 30) (pc' := 34) rfl (hb hby d73_30) rfl (by decide) (by decide) k) ?_
  refine Go.of (fun t k => XS.aloadN Xx37.here hx rfl (hb hby d73_34) rfl rfl k) ?_
  obtain ⟨T38, X38, e38, st38⟩ := getF Xx37 hx hZ hown (host := "") (Or.inl (wk hw 37 rfl)) Via.refl eh35 q21 (g := (mkL r1 m 35 #[sR r1, sJ j1, zS, sR r3, sJ j2, zS] [(.ref r1)])) rfl rfl (hb hby d73_35)
  refine Go.of st38 ?_
  show Go p e below Qo T38 (mkL r1 m 38 #[sR r1, sJ j1, zS, sR r3, sJ j2, zS] [(.ref br)])
  refine Go.of (fun t k => XS.ifnullNo X38.here hx rfl (hb hby d73_38) rfl k) ?_
  refine Go.of (fun t k => XS.lload X38.here hx rfl (hb hby d73_41) rfl  k) ?_
  refine Go.of (fun t k => XS.aloadN X38.here hx rfl (hb hby d73_43) rfl rfl k) ?_
  show Go p e below Qo T38 (mkL r1 m 44 #[sR r1, sJ j1, zS, sR r3, sJ j2, zS] [(.ref r1), (.long j2)])
  obtain ⟨T39, X39, e39, st39⟩ := getF X38 hx hZ hown (host := "") (Or.inl (wk hw 55 rfl)) Via.refl e38 q23 (g := (mkL r1 m 44 #[sR r1, sJ j1, zS, sR r3, sJ j2, zS] [(.ref r1), (.long j2)])) rfl rfl (hb hby d73_44)
  refine Go.of st39 ?_
  show Go p e below Qo T39 (mkL r1 m 47 #[sR r1, sJ j1, zS, sR r3, sJ j2, zS] [(.long bp), (.long j2)])
  refine Go.of (fun t k => XS.lcmp X39.here hx rfl (hb hby d73_47) rfl k) ?_
  by_cases hc48_40 : j2 < bp
  · refine Go.of (fun t k => XS.ifYes X39.here hx rfl (pc0 := 48) (pc' := 70) rfl (hb hby d73_48) rfl ((if0 _ _).trans (tlt ((lw_lt j2 bp).mpr hc48_40)).1) (by decide) (by decide) k) ?_
    refine Go.of (fun t k => XS.aloadN X39.here hx rfl (hb hby d73_70) rfl rfl k) ?_
    show Go p e below Qo T39 (mkL r1 m 71 #[sR r1, sJ j1, zS, sR r3, sJ j2, zS] [(.ref r1)])
    refine Go.of (fun t k => XS.aloadN X39.here hx rfl (hb hby d73_71) rfl rfl k) ?_
    obtain ⟨T41, h41, X41, e41, W41, st41⟩ := putF X39 hx hZ hown (host := "") (Or.inl (wk hw 37 rfl)) Via.refl e39 q21 q18 (Or.inl (wk hw 38 rfl)) (wk hw 26 rfl) (ty := (.object kA)) (by decide) rfl rfl (g := (mkL r1 m 72 #[sR r1, sJ j1, zS, sR r3, sJ j2, zS] [(.ref r3), (.ref r1)])) rfl rfl (hb hby d73_72)
    have q42 := q18.wr W41
    have q43 := q19.other W41 (Or.inr (sn_16 hw))
    have q44 := q20.other W41 (Or.inr (sn_17 hw))
    have q45 : Fld Z h41 r1 kT "best" kD (.ref r3) := q21.same W41
    have q46 := q22.other W41 (Or.inr (sn_18 hw))
    have q47 := q23.other W41 (Or.inr (sn_19 hw))
    have q48 := q24.other W41 (Or.inr (sn_20 hw))
    have q49 := q25.other W41 (Or.inr (sn_21 hw))
    have q50 := q26.other W41 (Or.inr (sn_22 hw))
    have q51 := q27.wr W41
    have q52 := q28.other W41 (Or.inl ne_r3_r1)
    have Z53 : n0 ≤ h41.size := Nat.le_trans Z29 (Keep.of_wr W41).1
    have N54 := own_obSnoc X41 Nx37
    obtain ⟨Lx55, Xx55, Nx55⟩ := own_locsO X41 N54
    refine Go.of st41 ?_
    show Go p e below Qo T41 (mkL r1 m 75 #[sR r1, sJ j1, zS, sR r3, sJ j2, zS] [])
    refine Go.of (fun t k => XS.aloadN Xx55.here hx rfl (hb hby d73_75) rfl rfl k) ?_
    refine Go.of (fun t k => XS.lloadN Xx55.here hx rfl (hb hby d73_76) rfl  k) ?_
    obtain ⟨T56, h56, X56, e56, W56, st56⟩ := putF Xx55 hx hZ hown (host := "") (Or.inl (wk hw 53 rfl)) Via.refl e41 q46 q42 (Or.inl (wk hw 54 rfl)) (wk hw 26 rfl) (ty := .long) (by decide) rfl rfl (g := (mkL r1 m 77 #[sR r1, sJ j1, zS, sR r3, sJ j2, zS] [(.long j1), (.ref r1)])) rfl rfl (hb hby d73_77)
    have q57 := q42.wr W56
    have q58 := q43.other W56 (Or.inr (sn_23 hw))
    have q59 := q44.other W56 (Or.inr (sn_24 hw))
    have q60 := q45.other W56 (Or.inr (sn_25 hw))
    have q61 : Fld Z h56 r1 kT "bestSeed" "J" (.long j1) := q46.same W56
    have q62 := q47.other W56 (Or.inr (sn_26 hw))
    have q63 := q48.other W56 (Or.inr (sn_27 hw))
    have q64 := q49.other W56 (Or.inr (sn_28 hw))
    have q65 := q50.other W56 (Or.inr (sn_29 hw))
    have q66 := q51.wr W56
    have q67 := q52.other W56 (Or.inl ne_r3_r1)
    have Z68 : n0 ≤ h56.size := Nat.le_trans Z53 (Keep.of_wr W56).1
    have N69 := own_obSnoc X56 Nx55
    obtain ⟨Lx70, Xx70, Nx70⟩ := own_locsO X56 N69
    refine Go.of st56 ?_
    show Go p e below Qo T56 (mkL r1 m 80 #[sR r1, sJ j1, zS, sR r3, sJ j2, zS] [])
    refine Go.of (fun t k => XS.aloadN Xx70.here hx rfl (hb hby d73_80) rfl rfl k) ?_
    refine Go.of (fun t k => XS.lload Xx70.here hx rfl (hb hby d73_81) rfl  k) ?_
    obtain ⟨T71, h71, X71, e71, W71, st71⟩ := putF Xx70 hx hZ hown (host := "") (Or.inl (wk hw 55 rfl)) Via.refl e56 q62 q57 (Or.inl (wk hw 56 rfl)) (wk hw 26 rfl) (ty := .long) (by decide) rfl rfl (g := (mkL r1 m 83 #[sR r1, sJ j1, zS, sR r3, sJ j2, zS] [(.long j2), (.ref r1)])) rfl rfl (hb hby d73_83)
    have q72 := q57.wr W71
    have q73 := q58.other W71 (Or.inr (sn_30 hw))
    have q74 := q59.other W71 (Or.inr (sn_31 hw))
    have q75 := q60.other W71 (Or.inr (sn_32 hw))
    have q76 := q61.other W71 (Or.inr (sn_33 hw))
    have q77 : Fld Z h71 r1 kT "bestPenalty" "J" (.long j2) := q62.same W71
    have q78 := q63.other W71 (Or.inr (sn_34 hw))
    have q79 := q64.other W71 (Or.inr (sn_35 hw))
    have q80 := q65.other W71 (Or.inr (sn_36 hw))
    have q81 := q66.wr W71
    have q82 := q67.other W71 (Or.inl ne_r3_r1)
    have Z83 : n0 ≤ h71.size := Nat.le_trans Z68 (Keep.of_wr W71).1
    have N84 := own_obSnoc X71 Nx70
    obtain ⟨Lx85, Xx85, Nx85⟩ := own_locsO X71 N84
    refine Go.of st71 ?_
    show Go p e below Qo T71 (mkL r1 m 86 #[sR r1, sJ j1, zS, sR r3, sJ j2, zS] [])
    refine Go.of (fun t k => XS.aloadN Xx85.here hx rfl (hb hby d73_86) rfl rfl k) ?_
    show Go p e below Qo T71 (mkL r1 m 87 #[sR r1, sJ j1, zS, sR r3, sJ j2, zS] [(.ref r1)])
    refine Go.of (fun t k => XS.aloadN Xx85.here hx rfl (hb hby d73_87) rfl rfl k) ?_
    obtain ⟨T86, X86, e86, st86⟩ := getF Xx85 hx hZ hown (host := "") (Or.inl (wk hw 57 rfl)) Via.refl e71 q78 (g := (mkL r1 m 88 #[sR r1, sJ j1, zS, sR r3, sJ j2, zS] [(.ref r1), (.ref r1)])) rfl rfl (hb hby d73_88)
    refine Go.of st86 ?_
    show Go p e below Qo T86 (mkL r1 m 91 #[sR r1, sJ j1, zS, sR r3, sJ j2, zS] [(.long wp), (.ref r1)])
    refine Go.of (fun t k => XS.lload X86.here hx rfl (hb hby d73_91) rfl  k) ?_
    obtain ⟨_, _, ⟨T87, L87, k87, n87⟩, -, X87, ⟨Lc87, hQ87, l87, y87, z87⟩, st87⟩ := Jvm.LawKit.callS X86 hx (y := (⟨"java/lang/Math", "max", "(JJ)J"⟩ : MethodName)) hown (mvT hZ (wk hw 59 rfl)) (mvT hZ (wk hw 60 rfl)) (mvT hZ (wk hw 61 rfl)) (mvT hZ (wk hw 62 rfl)) (by decide) (backOf (W := 3) (rm9 l Z a0 hw [] wp j2 h71 n0 Z83 ) hZ (wk hw 62 rfl) (wk hw 61 rfl) (by decide) (by decide)) (g := (mkL r1 m 93 #[sR r1, sJ j1, zS, sR r3, sJ j2, zS] [(.long j2), (.long wp), (.ref r1)])) rfl (by rw [hml]; rfl) (argsL := [(.long wp), (.long j2)]) (rest := [(.ref r1)]) (lenOf pd_2 rfl) rfl (by show 2 * 1 + _ ≤ _; exact Nat.le_of_eq rfl) (hb hby d73_93) (fun _ _ => ⟨rfl, e86, (by decide : 0 + 0 ≤ _), (by decide : 0 + 0 ≤ _)⟩)
    dsimp only [Pt.U, Pt.locs, Pt.cells, Pt.slots] at X87 l87 y87 z87 st87 hQ87
    subst l87 y87 z87
    replace X87 := own_cs X87 (c' := 0) (s' := 0) (by decide) (by decide)
    obtain ⟨rfl, N88, eh89⟩ := hQ87
    subst N88
    have N90 := own_obNil2 Nx85
    refine Go.of st87 ?_
    obtain ⟨Lx91, Xx91, Nx91⟩ := own_locsO X87 N90
    show Go p e below Qo T87 (mkL r1 m 96 #[sR r1, sJ j1, zS, sR r3, sJ j2, zS] [(.long (F9 wp j2)), (.ref r1)])
    obtain ⟨T92, h92, X92, e92, W92, st92⟩ := putF Xx91 hx hZ hown (host := "") (Or.inl (wk hw 57 rfl)) Via.refl eh89 q78 q72 (Or.inl (wk hw 58 rfl)) (wk hw 26 rfl) (ty := .long) (by decide) rfl rfl (g := (mkL r1 m 96 #[sR r1, sJ j1, zS, sR r3, sJ j2, zS] [(.long (F9 wp j2)), (.ref r1)])) rfl rfl (hb hby d73_96)
    have q93 := q72.wr W92
    have q94 := q73.other W92 (Or.inr (sn_37 hw))
    have q95 := q74.other W92 (Or.inr (sn_38 hw))
    have q96 := q75.other W92 (Or.inr (sn_39 hw))
    have q97 := q76.other W92 (Or.inr (sn_40 hw))
    have q98 := q77.other W92 (Or.inr (sn_41 hw))
    have q99 : Fld Z h92 r1 kT "worstPenalty" "J" (.long (F9 wp j2)) := q78.same W92
    have q100 := q79.other W92 (Or.inr (sn_42 hw))
    have q101 := q80.other W92 (Or.inr (sn_43 hw))
    have q102 := q81.wr W92
    have q103 := q82.other W92 (Or.inl ne_r3_r1)
    have Z104 : n0 ≤ h92.size := Nat.le_trans Z83 (Keep.of_wr W92).1
    have N105 := own_obSnoc X92 Nx91
    obtain ⟨Lx106, Xx106, Nx106⟩ := own_locsO X92 N105
    refine Go.of st92 ?_
    show Go p e below Qo T92 (mkL r1 m 99 #[sR r1, sJ j1, zS, sR r3, sJ j2, zS] [])
    refine Go.of (fun t k => XS.aloadN Xx106.here hx rfl (hb hby d73_99) rfl rfl k) ?_
    refine Go.of (fun t k => XS.dup Xx106.here hx rfl (hb hby d73_100) rfl rfl k) ?_
    obtain ⟨T107, X107, e107, st107⟩ := getF Xx106 hx hZ hown (host := "") (Or.inl (wk hw 63 rfl)) Via.refl e92 q100 (g := (mkL r1 m 101 #[sR r1, sJ j1, zS, sR r3, sJ j2, zS] [(.ref r1), (.ref r1)])) rfl rfl (hb hby d73_101)
    refine Go.of st107 ?_
    show Go p e below Qo T107 (mkL r1 m 104 #[sR r1, sJ j1, zS, sR r3, sJ j2, zS] [(.long qs), (.ref r1)])
    refine Go.of (fun t k => XS.lload X107.here hx rfl (hb hby d73_104) rfl  k) ?_
    refine Go.of (fun t k => XS.ladd X107.here hx rfl (hb hby d73_106) rfl k) ?_
    show Go p e below Qo T107 (mkL r1 m 107 #[sR r1, sJ j1, zS, sR r3, sJ j2, zS] [(.long (qs + j2)), (.ref r1)])
    obtain ⟨T108, h108, X108, e108, W108, st108⟩ := putF X107 hx hZ hown (host := "") (Or.inl (wk hw 63 rfl)) Via.refl e107 q100 q93 (Or.inl (wk hw 64 rfl)) (wk hw 26 rfl) (ty := .long) (by decide) rfl rfl (g := (mkL r1 m 107 #[sR r1, sJ j1, zS, sR r3, sJ j2, zS] [(.long (qs + j2)), (.ref r1)])) rfl rfl (hb hby d73_107)
    have q109 := q93.wr W108
    have q110 := q94.other W108 (Or.inr (sn_44 hw))
    have q111 := q95.other W108 (Or.inr (sn_45 hw))
    have q112 := q96.other W108 (Or.inr (sn_46 hw))
    have q113 := q97.other W108 (Or.inr (sn_47 hw))
    have q114 := q98.other W108 (Or.inr (sn_48 hw))
    have q115 := q99.other W108 (Or.inr (sn_49 hw))
    have q116 : Fld Z h108 r1 kT "penaltySum" "J" (.long (qs + j2)) := q100.same W108
    have q117 := q101.other W108 (Or.inr (sn_50 hw))
    have q118 := q102.wr W108
    have q119 := q103.other W108 (Or.inl ne_r3_r1)
    have Z120 : n0 ≤ h108.size := Nat.le_trans Z104 (Keep.of_wr W108).1
    have N121 := own_obSnoc X108 Nx106
    obtain ⟨Lx122, Xx122, Nx122⟩ := own_locsO X108 N121
    refine Go.of st108 ?_
    show Go p e below Qo T108 (mkL r1 m 110 #[sR r1, sJ j1, zS, sR r3, sJ j2, zS] [])
    refine Go.of (fun t k => XS.aloadN Xx122.here hx rfl (hb hby d73_110) rfl rfl k) ?_
    refine Go.of (fun t k => XS.dup Xx122.here hx rfl (hb hby d73_111) rfl rfl k) ?_
    obtain ⟨T123, X123, e123, st123⟩ := getF Xx122 hx hZ hown (host := "") (Or.inl (wk hw 65 rfl)) Via.refl e108 q117 (g := (mkL r1 m 112 #[sR r1, sJ j1, zS, sR r3, sJ j2, zS] [(.ref r1), (.ref r1)])) rfl rfl (hb hby d73_112)
    refine Go.of st123 ?_
    show Go p e below Qo T123 (mkL r1 m 115 #[sR r1, sJ j1, zS, sR r3, sJ j2, zS] [(.int fc), (.ref r1)])
    refine Go.of (fun t k => XS.iconst X123.here hx rfl (hb hby d73_115) k) ?_
    refine Go.of (fun t k => XS.iadd X123.here hx rfl (hb hby d73_116) rfl k) ?_
    obtain ⟨T124, h124, X124, e124, W124, st124⟩ := putF X123 hx hZ hown (host := "") (Or.inl (wk hw 65 rfl)) Via.refl e123 q117 q109 (Or.inl (wk hw 66 rfl)) (wk hw 26 rfl) (ty := .int) (by decide) rfl rfl (g := (mkL r1 m 117 #[sR r1, sJ j1, zS, sR r3, sJ j2, zS] [(.int (fc + (1 : Int32))), (.ref r1)])) rfl rfl (hb hby d73_117)
    have q125 := q109.wr W124
    have q126 := q110.other W124 (Or.inr (sn_51 hw))
    have q127 := q111.other W124 (Or.inr (sn_52 hw))
    have q128 := q112.other W124 (Or.inr (sn_53 hw))
    have q129 := q113.other W124 (Or.inr (sn_54 hw))
    have q130 := q114.other W124 (Or.inr (sn_55 hw))
    have q131 := q115.other W124 (Or.inr (sn_56 hw))
    have q132 := q116.other W124 (Or.inr (sn_57 hw))
    have q133 : Fld Z h124 r1 kT "feasibleRuns" "I" (.int (fc + (1 : Int32))) := q117.same W124
    have q134 := q118.wr W124
    have q135 := q119.other W124 (Or.inl ne_r3_r1)
    have Z136 : n0 ≤ h124.size := Nat.le_trans Z120 (Keep.of_wr W124).1
    have N137 := own_obSnoc X124 Nx122
    obtain ⟨Lx138, Xx138, Nx138⟩ := own_locsO X124 N137
    refine Go.of st124 ?_
    show Go p e below Qo T124 (mkL r1 m 120 #[sR r1, sJ j1, zS, sR r3, sJ j2, zS] [])
    refine own_retS Xx138 hx Bd.object Bd.enterable Bd.synchronized Bd.returns (hb hby d73_120) (fun u hM hF => ?_)
    rw [e124] at hM
    exact hQo _ _ _ ⟨(F9 wp j2), (qs + j2), (fc + (1 : Int32)), rfl, own_obFr Nx138 g_r1, own_keepS hh hF Nx138, (by exact q125.mon hM), own_monU hh hF f1, (by exact q126.mon hM), (by exact q127.mon hM), (by rw [if_pos (Or.inl hc48_40)]; exact q128.mon hM), (by rw [if_pos (Or.inl hc48_40)]; exact q129.mon hM), (by rw [if_pos (Or.inl hc48_40)]; exact q130.mon hM), (by exact q131.mon hM), (by exact q132.mon hM), (by exact q133.mon hM)⟩ (own_mono hF (by decide) (by decide))
  refine Go.of (fun t k => XS.ifNo X39.here hx rfl (hb hby d73_48) rfl ((if0 _ _).trans (flt (fun z => hc48_40 ((lw_lt j2 bp).mp z))).1) k) ?_
  refine Go.of (fun t k => XS.lload X39.here hx rfl (hb hby d73_51) rfl  k) ?_
  show Go p e below Qo T39 (mkL r1 m 53 #[sR r1, sJ j1, zS, sR r3, sJ j2, zS] [(.long j2)])
  refine Go.of (fun t k => XS.aloadN X39.here hx rfl (hb hby d73_53) rfl rfl k) ?_
  obtain ⟨T139, X139, e139, st139⟩ := getF X39 hx hZ hown (host := "") (Or.inl (wk hw 55 rfl)) Via.refl e39 q23 (g := (mkL r1 m 54 #[sR r1, sJ j1, zS, sR r3, sJ j2, zS] [(.ref r1), (.long j2)])) rfl rfl (hb hby d73_54)
  refine Go.of st139 ?_
  show Go p e below Qo T139 (mkL r1 m 57 #[sR r1, sJ j1, zS, sR r3, sJ j2, zS] [(.long bp), (.long j2)])
  refine Go.of (fun t k => XS.lcmp X139.here hx rfl (hb hby d73_57) rfl k) ?_
  by_cases hc58_140 : j2 = bp
  · refine Go.of (fun t k => XS.ifNo X139.here hx rfl (hb hby d73_58) rfl ((if0 _ _).trans (teq ((lw_eq j2 bp).mpr hc58_140)).2) k) ?_
    show Go p e below Qo T139 (mkL r1 m 61 #[sR r1, sJ j1, zS, sR r3, sJ j2, zS] [])
    refine Go.of (fun t k => XS.lloadN X139.here hx rfl (hb hby d73_61) rfl  k) ?_
    refine Go.of (fun t k => XS.aloadN X139.here hx rfl (hb hby d73_62) rfl rfl k) ?_
    obtain ⟨T141, X141, e141, st141⟩ := getF X139 hx hZ hown (host := "") (Or.inl (wk hw 53 rfl)) Via.refl e139 q22 (g := (mkL r1 m 63 #[sR r1, sJ j1, zS, sR r3, sJ j2, zS] [(.ref r1), (.long j1)])) rfl rfl (hb hby d73_63)
    refine Go.of st141 ?_
    show Go p e below Qo T141 (mkL r1 m 66 #[sR r1, sJ j1, zS, sR r3, sJ j2, zS] [(.long bs), (.long j1)])
    refine Go.of (fun t k => XS.lcmp X141.here hx rfl (hb hby d73_66) rfl k) ?_
    by_cases hc67_142 : j1 < bs
    · refine Go.of (fun t k => XS.ifNo X141.here hx rfl (hb hby d73_67) rfl ((if0 _ _).trans (tlt ((lw_lt j1 bs).mpr hc67_142)).2.1) k) ?_
      refine Go.of (fun t k => XS.aloadN X141.here hx rfl (hb hby d73_70) rfl rfl k) ?_
      refine Go.of (fun t k => XS.aloadN X141.here hx rfl (hb hby d73_71) rfl rfl k) ?_
      obtain ⟨T143, h143, X143, e143, W143, st143⟩ := putF X141 hx hZ hown (host := "") (Or.inl (wk hw 37 rfl)) Via.refl e141 q21 q18 (Or.inl (wk hw 38 rfl)) (wk hw 26 rfl) (ty := (.object kA)) (by decide) rfl rfl (g := (mkL r1 m 72 #[sR r1, sJ j1, zS, sR r3, sJ j2, zS] [(.ref r3), (.ref r1)])) rfl rfl (hb hby d73_72)
      have q144 := q18.wr W143
      have q145 := q19.other W143 (Or.inr (sn_16 hw))
      have q146 := q20.other W143 (Or.inr (sn_17 hw))
      have q147 : Fld Z h143 r1 kT "best" kD (.ref r3) := q21.same W143
      have q148 := q22.other W143 (Or.inr (sn_18 hw))
      have q149 := q23.other W143 (Or.inr (sn_19 hw))
      have q150 := q24.other W143 (Or.inr (sn_20 hw))
      have q151 := q25.other W143 (Or.inr (sn_21 hw))
      have q152 := q26.other W143 (Or.inr (sn_22 hw))
      have q153 := q27.wr W143
      have q154 := q28.other W143 (Or.inl ne_r3_r1)
      have Z155 : n0 ≤ h143.size := Nat.le_trans Z29 (Keep.of_wr W143).1
      have N156 := own_obSnoc X143 Nx37
      obtain ⟨Lx157, Xx157, Nx157⟩ := own_locsO X143 N156
      refine Go.of st143 ?_
      show Go p e below Qo T143 (mkL r1 m 75 #[sR r1, sJ j1, zS, sR r3, sJ j2, zS] [])
      refine Go.of (fun t k => XS.aloadN Xx157.here hx rfl (hb hby d73_75) rfl rfl k) ?_
      refine Go.of (fun t k => XS.lloadN Xx157.here hx rfl (hb hby d73_76) rfl  k) ?_
      obtain ⟨T158, h158, X158, e158, W158, st158⟩ := putF Xx157 hx hZ hown (host := "") (Or.inl (wk hw 53 rfl)) Via.refl e143 q148 q144 (Or.inl (wk hw 54 rfl)) (wk hw 26 rfl) (ty := .long) (by decide) rfl rfl (g := (mkL r1 m 77 #[sR r1, sJ j1, zS, sR r3, sJ j2, zS] [(.long j1), (.ref r1)])) rfl rfl (hb hby d73_77)
      have q159 := q144.wr W158
      have q160 := q145.other W158 (Or.inr (sn_23 hw))
      have q161 := q146.other W158 (Or.inr (sn_24 hw))
      have q162 := q147.other W158 (Or.inr (sn_25 hw))
      have q163 : Fld Z h158 r1 kT "bestSeed" "J" (.long j1) := q148.same W158
      have q164 := q149.other W158 (Or.inr (sn_26 hw))
      have q165 := q150.other W158 (Or.inr (sn_27 hw))
      have q166 := q151.other W158 (Or.inr (sn_28 hw))
      have q167 := q152.other W158 (Or.inr (sn_29 hw))
      have q168 := q153.wr W158
      have q169 := q154.other W158 (Or.inl ne_r3_r1)
      have Z170 : n0 ≤ h158.size := Nat.le_trans Z155 (Keep.of_wr W158).1
      have N171 := own_obSnoc X158 Nx157
      obtain ⟨Lx172, Xx172, Nx172⟩ := own_locsO X158 N171
      refine Go.of st158 ?_
      show Go p e below Qo T158 (mkL r1 m 80 #[sR r1, sJ j1, zS, sR r3, sJ j2, zS] [])
      refine Go.of (fun t k => XS.aloadN Xx172.here hx rfl (hb hby d73_80) rfl rfl k) ?_
      show Go p e below Qo T158 (mkL r1 m 81 #[sR r1, sJ j1, zS, sR r3, sJ j2, zS] [(.ref r1)])
      refine Go.of (fun t k => XS.lload Xx172.here hx rfl (hb hby d73_81) rfl  k) ?_
      obtain ⟨T173, h173, X173, e173, W173, st173⟩ := putF Xx172 hx hZ hown (host := "") (Or.inl (wk hw 55 rfl)) Via.refl e158 q164 q159 (Or.inl (wk hw 56 rfl)) (wk hw 26 rfl) (ty := .long) (by decide) rfl rfl (g := (mkL r1 m 83 #[sR r1, sJ j1, zS, sR r3, sJ j2, zS] [(.long j2), (.ref r1)])) rfl rfl (hb hby d73_83)
      have q174 := q159.wr W173
      have q175 := q160.other W173 (Or.inr (sn_30 hw))
      have q176 := q161.other W173 (Or.inr (sn_31 hw))
      have q177 := q162.other W173 (Or.inr (sn_32 hw))
      have q178 := q163.other W173 (Or.inr (sn_33 hw))
      have q179 : Fld Z h173 r1 kT "bestPenalty" "J" (.long j2) := q164.same W173
      have q180 := q165.other W173 (Or.inr (sn_34 hw))
      have q181 := q166.other W173 (Or.inr (sn_35 hw))
      have q182 := q167.other W173 (Or.inr (sn_36 hw))
      have q183 := q168.wr W173
      have q184 := q169.other W173 (Or.inl ne_r3_r1)
      have Z185 : n0 ≤ h173.size := Nat.le_trans Z170 (Keep.of_wr W173).1
      have N186 := own_obSnoc X173 Nx172
      obtain ⟨Lx187, Xx187, Nx187⟩ := own_locsO X173 N186
      refine Go.of st173 ?_
      show Go p e below Qo T173 (mkL r1 m 86 #[sR r1, sJ j1, zS, sR r3, sJ j2, zS] [])
      refine Go.of (fun t k => XS.aloadN Xx187.here hx rfl (hb hby d73_86) rfl rfl k) ?_
      refine Go.of (fun t k => XS.aloadN Xx187.here hx rfl (hb hby d73_87) rfl rfl k) ?_
      obtain ⟨T188, X188, e188, st188⟩ := getF Xx187 hx hZ hown (host := "") (Or.inl (wk hw 57 rfl)) Via.refl e173 q180 (g := (mkL r1 m 88 #[sR r1, sJ j1, zS, sR r3, sJ j2, zS] [(.ref r1), (.ref r1)])) rfl rfl (hb hby d73_88)
      refine Go.of st188 ?_
      show Go p e below Qo T188 (mkL r1 m 91 #[sR r1, sJ j1, zS, sR r3, sJ j2, zS] [(.long wp), (.ref r1)])
      refine Go.of (fun t k => XS.lload X188.here hx rfl (hb hby d73_91) rfl  k) ?_
      obtain ⟨_, _, ⟨T189, L189, k189, n189⟩, -, X189, ⟨Lc189, hQ189, l189, y189, z189⟩, st189⟩ := Jvm.LawKit.callS X188 hx (y := (⟨"java/lang/Math", "max", "(JJ)J"⟩ : MethodName)) hown (mvT hZ (wk hw 59 rfl)) (mvT hZ (wk hw 60 rfl)) (mvT hZ (wk hw 61 rfl)) (mvT hZ (wk hw 62 rfl)) (by decide) (backOf (W := 3) (rm9 l Z a0 hw [] wp j2 h173 n0 Z185 ) hZ (wk hw 62 rfl) (wk hw 61 rfl) (by decide) (by decide)) (g := (mkL r1 m 93 #[sR r1, sJ j1, zS, sR r3, sJ j2, zS] [(.long j2), (.long wp), (.ref r1)])) rfl (by rw [hml]; rfl) (argsL := [(.long wp), (.long j2)]) (rest := [(.ref r1)]) (lenOf pd_2 rfl) rfl (by show 2 * 1 + _ ≤ _; exact Nat.le_of_eq rfl) (hb hby d73_93) (fun _ _ => ⟨rfl, e188, (by decide : 0 + 0 ≤ _), (by decide : 0 + 0 ≤ _)⟩)
      dsimp only [Pt.U, Pt.locs, Pt.cells, Pt.slots] at X189 l189 y189 z189 st189 hQ189
      subst l189 y189 z189
      replace X189 := own_cs X189 (c' := 0) (s' := 0) (by decide) (by decide)
      obtain ⟨rfl, N190, eh191⟩ := hQ189
      subst N190
      have N192 := own_obNil2 Nx187
      refine Go.of st189 ?_
      obtain ⟨Lx193, Xx193, Nx193⟩ := own_locsO X189 N192
      show Go p e below Qo T189 (mkL r1 m 96 #[sR r1, sJ j1, zS, sR r3, sJ j2, zS] [(.long (F9 wp j2)), (.ref r1)])
      obtain ⟨T194, h194, X194, e194, W194, st194⟩ := putF Xx193 hx hZ hown (host := "") (Or.inl (wk hw 57 rfl)) Via.refl eh191 q180 q174 (Or.inl (wk hw 58 rfl)) (wk hw 26 rfl) (ty := .long) (by decide) rfl rfl (g := (mkL r1 m 96 #[sR r1, sJ j1, zS, sR r3, sJ j2, zS] [(.long (F9 wp j2)), (.ref r1)])) rfl rfl (hb hby d73_96)
      have q195 := q174.wr W194
      have q196 := q175.other W194 (Or.inr (sn_37 hw))
      have q197 := q176.other W194 (Or.inr (sn_38 hw))
      have q198 := q177.other W194 (Or.inr (sn_39 hw))
      have q199 := q178.other W194 (Or.inr (sn_40 hw))
      have q200 := q179.other W194 (Or.inr (sn_41 hw))
      have q201 : Fld Z h194 r1 kT "worstPenalty" "J" (.long (F9 wp j2)) := q180.same W194
      have q202 := q181.other W194 (Or.inr (sn_42 hw))
      have q203 := q182.other W194 (Or.inr (sn_43 hw))
      have q204 := q183.wr W194
      have q205 := q184.other W194 (Or.inl ne_r3_r1)
      have Z206 : n0 ≤ h194.size := Nat.le_trans Z185 (Keep.of_wr W194).1
      have N207 := own_obSnoc X194 Nx193
      obtain ⟨Lx208, Xx208, Nx208⟩ := own_locsO X194 N207
      refine Go.of st194 ?_
      show Go p e below Qo T194 (mkL r1 m 99 #[sR r1, sJ j1, zS, sR r3, sJ j2, zS] [])
      refine Go.of (fun t k => XS.aloadN Xx208.here hx rfl (hb hby d73_99) rfl rfl k) ?_
      refine Go.of (fun t k => XS.dup Xx208.here hx rfl (hb hby d73_100) rfl rfl k) ?_
      show Go p e below Qo T194 (mkL r1 m 101 #[sR r1, sJ j1, zS, sR r3, sJ j2, zS] [(.ref r1), (.ref r1)])
      obtain ⟨T209, X209, e209, st209⟩ := getF Xx208 hx hZ hown (host := "") (Or.inl (wk hw 63 rfl)) Via.refl e194 q202 (g := (mkL r1 m 101 #[sR r1, sJ j1, zS, sR r3, sJ j2, zS] [(.ref r1), (.ref r1)])) rfl rfl (hb hby d73_101)
      refine Go.of st209 ?_
      show Go p e below Qo T209 (mkL r1 m 104 #[sR r1, sJ j1, zS, sR r3, sJ j2, zS] [(.long qs), (.ref r1)])
      refine Go.of (fun t k => XS.lload X209.here hx rfl (hb hby d73_104) rfl  k) ?_
      refine Go.of (fun t k => XS.ladd X209.here hx rfl (hb hby d73_106) rfl k) ?_
      obtain ⟨T210, h210, X210, e210, W210, st210⟩ := putF X209 hx hZ hown (host := "") (Or.inl (wk hw 63 rfl)) Via.refl e209 q202 q195 (Or.inl (wk hw 64 rfl)) (wk hw 26 rfl) (ty := .long) (by decide) rfl rfl (g := (mkL r1 m 107 #[sR r1, sJ j1, zS, sR r3, sJ j2, zS] [(.long (qs + j2)), (.ref r1)])) rfl rfl (hb hby d73_107)
      have q211 := q195.wr W210
      have q212 := q196.other W210 (Or.inr (sn_44 hw))
      have q213 := q197.other W210 (Or.inr (sn_45 hw))
      have q214 := q198.other W210 (Or.inr (sn_46 hw))
      have q215 := q199.other W210 (Or.inr (sn_47 hw))
      have q216 := q200.other W210 (Or.inr (sn_48 hw))
      have q217 := q201.other W210 (Or.inr (sn_49 hw))
      have q218 : Fld Z h210 r1 kT "penaltySum" "J" (.long (qs + j2)) := q202.same W210
      have q219 := q203.other W210 (Or.inr (sn_50 hw))
      have q220 := q204.wr W210
      have q221 := q205.other W210 (Or.inl ne_r3_r1)
      have Z222 : n0 ≤ h210.size := Nat.le_trans Z206 (Keep.of_wr W210).1
      have N223 := own_obSnoc X210 Nx208
      obtain ⟨Lx224, Xx224, Nx224⟩ := own_locsO X210 N223
      refine Go.of st210 ?_
      show Go p e below Qo T210 (mkL r1 m 110 #[sR r1, sJ j1, zS, sR r3, sJ j2, zS] [])
      refine Go.of (fun t k => XS.aloadN Xx224.here hx rfl (hb hby d73_110) rfl rfl k) ?_
      refine Go.of (fun t k => XS.dup Xx224.here hx rfl (hb hby d73_111) rfl rfl k) ?_
      obtain ⟨T225, X225, e225, st225⟩ := getF Xx224 hx hZ hown (host := "") (Or.inl (wk hw 65 rfl)) Via.refl e210 q219 (g := (mkL r1 m 112 #[sR r1, sJ j1, zS, sR r3, sJ j2, zS] [(.ref r1), (.ref r1)])) rfl rfl (hb hby d73_112)
      refine Go.of st225 ?_
      show Go p e below Qo T225 (mkL r1 m 115 #[sR r1, sJ j1, zS, sR r3, sJ j2, zS] [(.int fc), (.ref r1)])
      refine Go.of (fun t k => XS.iconst X225.here hx rfl (hb hby d73_115) k) ?_
      refine Go.of (fun t k => XS.iadd X225.here hx rfl (hb hby d73_116) rfl k) ?_
      show Go p e below Qo T225 (mkL r1 m 117 #[sR r1, sJ j1, zS, sR r3, sJ j2, zS] [(.int (fc + (1 : Int32))), (.ref r1)])
      obtain ⟨T226, h226, X226, e226, W226, st226⟩ := putF X225 hx hZ hown (host := "") (Or.inl (wk hw 65 rfl)) Via.refl e225 q219 q211 (Or.inl (wk hw 66 rfl)) (wk hw 26 rfl) (ty := .int) (by decide) rfl rfl (g := (mkL r1 m 117 #[sR r1, sJ j1, zS, sR r3, sJ j2, zS] [(.int (fc + (1 : Int32))), (.ref r1)])) rfl rfl (hb hby d73_117)
      have q227 := q211.wr W226
      have q228 := q212.other W226 (Or.inr (sn_51 hw))
      have q229 := q213.other W226 (Or.inr (sn_52 hw))
      have q230 := q214.other W226 (Or.inr (sn_53 hw))
      have q231 := q215.other W226 (Or.inr (sn_54 hw))
      have q232 := q216.other W226 (Or.inr (sn_55 hw))
      have q233 := q217.other W226 (Or.inr (sn_56 hw))
      have q234 := q218.other W226 (Or.inr (sn_57 hw))
      have q235 : Fld Z h226 r1 kT "feasibleRuns" "I" (.int (fc + (1 : Int32))) := q219.same W226
      have q236 := q220.wr W226
      have q237 := q221.other W226 (Or.inl ne_r3_r1)
      have Z238 : n0 ≤ h226.size := Nat.le_trans Z222 (Keep.of_wr W226).1
      have N239 := own_obSnoc X226 Nx224
      obtain ⟨Lx240, Xx240, Nx240⟩ := own_locsO X226 N239
      refine Go.of st226 ?_
      show Go p e below Qo T226 (mkL r1 m 120 #[sR r1, sJ j1, zS, sR r3, sJ j2, zS] [])
      refine own_retS Xx240 hx Bd.object Bd.enterable Bd.synchronized Bd.returns (hb hby d73_120) (fun u hM hF => ?_)
      rw [e226] at hM
      exact hQo _ _ _ ⟨(F9 wp j2), (qs + j2), (fc + (1 : Int32)), rfl, own_obFr Nx240 g_r1, own_keepS hh hF Nx240, (by exact q227.mon hM), own_monU hh hF f1, (by exact q228.mon hM), (by exact q229.mon hM), (by rw [if_pos (Or.inr ⟨hc58_140, hc67_142⟩)]; exact q230.mon hM), (by rw [if_pos (Or.inr ⟨hc58_140, hc67_142⟩)]; exact q231.mon hM), (by rw [if_pos (Or.inr ⟨hc58_140, hc67_142⟩)]; exact q232.mon hM), (by exact q233.mon hM), (by exact q234.mon hM), (by exact q235.mon hM)⟩ (own_mono hF (by decide) (by decide))
    refine Go.of (fun t k => XS.ifYes X141.here hx rfl (pc0 := 67) (pc' := 86) rfl (hb hby d73_67) rfl ((if0 _ _).trans (flt (fun z => hc67_142 ((lw_lt j1 bs).mp z))).2.1) (by decide) (by decide) k) ?_
    refine Go.of (fun t k => XS.aloadN X141.here hx rfl (hb hby d73_86) rfl rfl k) ?_
    refine Go.of (fun t k => XS.aloadN X141.here hx rfl (hb hby d73_87) rfl rfl k) ?_
    obtain ⟨T241, X241, e241, st241⟩ := getF X141 hx hZ hown (host := "") (Or.inl (wk hw 57 rfl)) Via.refl e141 q24 (g := (mkL r1 m 88 #[sR r1, sJ j1, zS, sR r3, sJ j2, zS] [(.ref r1), (.ref r1)])) rfl rfl (hb hby d73_88)
    refine Go.of st241 ?_
    show Go p e below Qo T241 (mkL r1 m 91 #[sR r1, sJ j1, zS, sR r3, sJ j2, zS] [(.long wp), (.ref r1)])
    refine Go.of (fun t k => XS.lload X241.here hx rfl (hb hby d73_91) rfl  k) ?_
    obtain ⟨_, _, ⟨T242, L242, k242, n242⟩, -, X242, ⟨Lc242, hQ242, l242, y242, z242⟩, st242⟩ := Jvm.LawKit.callS X241 hx (y := (⟨"java/lang/Math", "max", "(JJ)J"⟩ : MethodName)) hown (mvT hZ (wk hw 59 rfl)) (mvT hZ (wk hw 60 rfl)) (mvT hZ (wk hw 61 rfl)) (mvT hZ (wk hw 62 rfl)) (by decide) (backOf (W := 3) (rm9 l Z a0 hw [] wp j2 h17 n0 Z29 ) hZ (wk hw 62 rfl) (wk hw 61 rfl) (by decide) (by decide)) (g := (mkL r1 m 93 #[sR r1, sJ j1, zS, sR r3, sJ j2, zS] [(.long j2), (.long wp), (.ref r1)])) rfl (by rw [hml]; rfl) (argsL := [(.long wp), (.long j2)]) (rest := [(.ref r1)]) (lenOf pd_2 rfl) rfl (by show 2 * 1 + _ ≤ _; exact Nat.le_of_eq rfl) (hb hby d73_93) (fun _ _ => ⟨rfl, e241, (by decide : 0 + 0 ≤ _), (by decide : 0 + 0 ≤ _)⟩)
    dsimp only [Pt.U, Pt.locs, Pt.cells, Pt.slots] at X242 l242 y242 z242 st242 hQ242
    subst l242 y242 z242
    replace X242 := own_cs X242 (c' := 0) (s' := 0) (by decide) (by decide)
    obtain ⟨rfl, N243, eh244⟩ := hQ242
    subst N243
    have N245 := own_obNil2 Nx37
    refine Go.of st242 ?_
    obtain ⟨Lx246, Xx246, Nx246⟩ := own_locsO X242 N245
    show Go p e below Qo T242 (mkL r1 m 96 #[sR r1, sJ j1, zS, sR r3, sJ j2, zS] [(.long (F9 wp j2)), (.ref r1)])
    obtain ⟨T247, h247, X247, e247, W247, st247⟩ := putF Xx246 hx hZ hown (host := "") (Or.inl (wk hw 57 rfl)) Via.refl eh244 q24 q18 (Or.inl (wk hw 58 rfl)) (wk hw 26 rfl) (ty := .long) (by decide) rfl rfl (g := (mkL r1 m 96 #[sR r1, sJ j1, zS, sR r3, sJ j2, zS] [(.long (F9 wp j2)), (.ref r1)])) rfl rfl (hb hby d73_96)
    have q248 := q18.wr W247
    have q249 := q19.other W247 (Or.inr (sn_37 hw))
    have q250 := q20.other W247 (Or.inr (sn_38 hw))
    have q251 := q21.other W247 (Or.inr (sn_39 hw))
    have q252 := q22.other W247 (Or.inr (sn_40 hw))
    have q253 := q23.other W247 (Or.inr (sn_41 hw))
    have q254 : Fld Z h247 r1 kT "worstPenalty" "J" (.long (F9 wp j2)) := q24.same W247
    have q255 := q25.other W247 (Or.inr (sn_42 hw))
    have q256 := q26.other W247 (Or.inr (sn_43 hw))
    have q257 := q27.wr W247
    have q258 := q28.other W247 (Or.inl ne_r3_r1)
    have Z259 : n0 ≤ h247.size := Nat.le_trans Z29 (Keep.of_wr W247).1
    have N260 := own_obSnoc X247 Nx246
    obtain ⟨Lx261, Xx261, Nx261⟩ := own_locsO X247 N260
    refine Go.of st247 ?_
    show Go p e below Qo T247 (mkL r1 m 99 #[sR r1, sJ j1, zS, sR r3, sJ j2, zS] [])
    refine Go.of (fun t k => XS.aloadN Xx261.here hx rfl (hb hby d73_99) rfl rfl k) ?_
    refine Go.of (fun t k => XS.dup Xx261.here hx rfl (hb hby d73_100) rfl rfl k) ?_
    show Go p e below Qo T247 (mkL r1 m 101 #[sR r1, sJ j1, zS, sR r3, sJ j2, zS] [(.ref r1), (.ref r1)])
    obtain ⟨T262, X262, e262, st262⟩ := getF Xx261 hx hZ hown (host := "") (Or.inl (wk hw 63 rfl)) Via.refl e247 q255 (g := (mkL r1 m 101 #[sR r1, sJ j1, zS, sR r3, sJ j2, zS] [(.ref r1), (.ref r1)])) rfl rfl (hb hby d73_101)
    refine Go.of st262 ?_
    show Go p e below Qo T262 (mkL r1 m 104 #[sR r1, sJ j1, zS, sR r3, sJ j2, zS] [(.long qs), (.ref r1)])
    refine Go.of (fun t k => XS.lload X262.here hx rfl (hb hby d73_104) rfl  k) ?_
    refine Go.of (fun t k => XS.ladd X262.here hx rfl (hb hby d73_106) rfl k) ?_
    obtain ⟨T263, h263, X263, e263, W263, st263⟩ := putF X262 hx hZ hown (host := "") (Or.inl (wk hw 63 rfl)) Via.refl e262 q255 q248 (Or.inl (wk hw 64 rfl)) (wk hw 26 rfl) (ty := .long) (by decide) rfl rfl (g := (mkL r1 m 107 #[sR r1, sJ j1, zS, sR r3, sJ j2, zS] [(.long (qs + j2)), (.ref r1)])) rfl rfl (hb hby d73_107)
    have q264 := q248.wr W263
    have q265 := q249.other W263 (Or.inr (sn_44 hw))
    have q266 := q250.other W263 (Or.inr (sn_45 hw))
    have q267 := q251.other W263 (Or.inr (sn_46 hw))
    have q268 := q252.other W263 (Or.inr (sn_47 hw))
    have q269 := q253.other W263 (Or.inr (sn_48 hw))
    have q270 := q254.other W263 (Or.inr (sn_49 hw))
    have q271 : Fld Z h263 r1 kT "penaltySum" "J" (.long (qs + j2)) := q255.same W263
    have q272 := q256.other W263 (Or.inr (sn_50 hw))
    have q273 := q257.wr W263
    have q274 := q258.other W263 (Or.inl ne_r3_r1)
    have Z275 : n0 ≤ h263.size := Nat.le_trans Z259 (Keep.of_wr W263).1
    have N276 := own_obSnoc X263 Nx261
    obtain ⟨Lx277, Xx277, Nx277⟩ := own_locsO X263 N276
    refine Go.of st263 ?_
    show Go p e below Qo T263 (mkL r1 m 110 #[sR r1, sJ j1, zS, sR r3, sJ j2, zS] [])
    refine Go.of (fun t k => XS.aloadN Xx277.here hx rfl (hb hby d73_110) rfl rfl k) ?_
    refine Go.of (fun t k => XS.dup Xx277.here hx rfl (hb hby d73_111) rfl rfl k) ?_
    obtain ⟨T278, X278, e278, st278⟩ := getF Xx277 hx hZ hown (host := "") (Or.inl (wk hw 65 rfl)) Via.refl e263 q272 (g := (mkL r1 m 112 #[sR r1, sJ j1, zS, sR r3, sJ j2, zS] [(.ref r1), (.ref r1)])) rfl rfl (hb hby d73_112)
    refine Go.of st278 ?_
    show Go p e below Qo T278 (mkL r1 m 115 #[sR r1, sJ j1, zS, sR r3, sJ j2, zS] [(.int fc), (.ref r1)])
    refine Go.of (fun t k => XS.iconst X278.here hx rfl (hb hby d73_115) k) ?_
    refine Go.of (fun t k => XS.iadd X278.here hx rfl (hb hby d73_116) rfl k) ?_
    show Go p e below Qo T278 (mkL r1 m 117 #[sR r1, sJ j1, zS, sR r3, sJ j2, zS] [(.int (fc + (1 : Int32))), (.ref r1)])
    obtain ⟨T279, h279, X279, e279, W279, st279⟩ := putF X278 hx hZ hown (host := "") (Or.inl (wk hw 65 rfl)) Via.refl e278 q272 q264 (Or.inl (wk hw 66 rfl)) (wk hw 26 rfl) (ty := .int) (by decide) rfl rfl (g := (mkL r1 m 117 #[sR r1, sJ j1, zS, sR r3, sJ j2, zS] [(.int (fc + (1 : Int32))), (.ref r1)])) rfl rfl (hb hby d73_117)
    have q280 := q264.wr W279
    have q281 := q265.other W279 (Or.inr (sn_51 hw))
    have q282 := q266.other W279 (Or.inr (sn_52 hw))
    have q283 := q267.other W279 (Or.inr (sn_53 hw))
    have q284 := q268.other W279 (Or.inr (sn_54 hw))
    have q285 := q269.other W279 (Or.inr (sn_55 hw))
    have q286 := q270.other W279 (Or.inr (sn_56 hw))
    have q287 := q271.other W279 (Or.inr (sn_57 hw))
    have q288 : Fld Z h279 r1 kT "feasibleRuns" "I" (.int (fc + (1 : Int32))) := q272.same W279
    have q289 := q273.wr W279
    have q290 := q274.other W279 (Or.inl ne_r3_r1)
    have Z291 : n0 ≤ h279.size := Nat.le_trans Z275 (Keep.of_wr W279).1
    have N292 := own_obSnoc X279 Nx277
    obtain ⟨Lx293, Xx293, Nx293⟩ := own_locsO X279 N292
    refine Go.of st279 ?_
    show Go p e below Qo T279 (mkL r1 m 120 #[sR r1, sJ j1, zS, sR r3, sJ j2, zS] [])
    refine own_retS Xx293 hx Bd.object Bd.enterable Bd.synchronized Bd.returns (hb hby d73_120) (fun u hM hF => ?_)
    rw [e279] at hM
    exact hQo _ _ _ ⟨(F9 wp j2), (qs + j2), (fc + (1 : Int32)), rfl, own_obFr Nx293 g_r1, own_keepS hh hF Nx293, (by exact q280.mon hM), own_monU hh hF f1, (by exact q281.mon hM), (by exact q282.mon hM), (by rw [if_neg (fun q => q.elim hc48_40 (fun z => hc67_142 z.2))]; exact q283.mon hM), (by rw [if_neg (fun q => q.elim hc48_40 (fun z => hc67_142 z.2))]; exact q284.mon hM), (by rw [if_neg (fun q => q.elim hc48_40 (fun z => hc67_142 z.2))]; exact q285.mon hM), (by exact q286.mon hM), (by exact q287.mon hM), (by exact q288.mon hM)⟩ (own_mono hF (by decide) (by decide))
  refine Go.of (fun t k => XS.ifYes X139.here hx rfl (pc0 := 58) (pc' := 86) rfl (hb hby d73_58) rfl ((if0 _ _).trans (feq (fun z => hc58_140 ((lw_eq j2 bp).mp z))).2) (by decide) (by decide) k) ?_
  refine Go.of (fun t k => XS.aloadN X139.here hx rfl (hb hby d73_86) rfl rfl k) ?_
  refine Go.of (fun t k => XS.aloadN X139.here hx rfl (hb hby d73_87) rfl rfl k) ?_
  obtain ⟨T294, X294, e294, st294⟩ := getF X139 hx hZ hown (host := "") (Or.inl (wk hw 57 rfl)) Via.refl e139 q24 (g := (mkL r1 m 88 #[sR r1, sJ j1, zS, sR r3, sJ j2, zS] [(.ref r1), (.ref r1)])) rfl rfl (hb hby d73_88)
  refine Go.of st294 ?_
  show Go p e below Qo T294 (mkL r1 m 91 #[sR r1, sJ j1, zS, sR r3, sJ j2, zS] [(.long wp), (.ref r1)])
  refine Go.of (fun t k => XS.lload X294.here hx rfl (hb hby d73_91) rfl  k) ?_
  obtain ⟨_, _, ⟨T295, L295, k295, n295⟩, -, X295, ⟨Lc295, hQ295, l295, y295, z295⟩, st295⟩ := Jvm.LawKit.callS X294 hx (y := (⟨"java/lang/Math", "max", "(JJ)J"⟩ : MethodName)) hown (mvT hZ (wk hw 59 rfl)) (mvT hZ (wk hw 60 rfl)) (mvT hZ (wk hw 61 rfl)) (mvT hZ (wk hw 62 rfl)) (by decide) (backOf (W := 3) (rm9 l Z a0 hw [] wp j2 h17 n0 Z29 ) hZ (wk hw 62 rfl) (wk hw 61 rfl) (by decide) (by decide)) (g := (mkL r1 m 93 #[sR r1, sJ j1, zS, sR r3, sJ j2, zS] [(.long j2), (.long wp), (.ref r1)])) rfl (by rw [hml]; rfl) (argsL := [(.long wp), (.long j2)]) (rest := [(.ref r1)]) (lenOf pd_2 rfl) rfl (by show 2 * 1 + _ ≤ _; exact Nat.le_of_eq rfl) (hb hby d73_93) (fun _ _ => ⟨rfl, e294, (by decide : 0 + 0 ≤ _), (by decide : 0 + 0 ≤ _)⟩)
  dsimp only [Pt.U, Pt.locs, Pt.cells, Pt.slots] at X295 l295 y295 z295 st295 hQ295
  subst l295 y295 z295
  replace X295 := own_cs X295 (c' := 0) (s' := 0) (by decide) (by decide)
  obtain ⟨rfl, N296, eh297⟩ := hQ295
  subst N296
  have N298 := own_obNil2 Nx37
  refine Go.of st295 ?_
  obtain ⟨Lx299, Xx299, Nx299⟩ := own_locsO X295 N298
  show Go p e below Qo T295 (mkL r1 m 96 #[sR r1, sJ j1, zS, sR r3, sJ j2, zS] [(.long (F9 wp j2)), (.ref r1)])
  obtain ⟨T300, h300, X300, e300, W300, st300⟩ := putF Xx299 hx hZ hown (host := "") (Or.inl (wk hw 57 rfl)) Via.refl eh297 q24 q18 (Or.inl (wk hw 58 rfl)) (wk hw 26 rfl) (ty := .long) (by decide) rfl rfl (g := (mkL r1 m 96 #[sR r1, sJ j1, zS, sR r3, sJ j2, zS] [(.long (F9 wp j2)), (.ref r1)])) rfl rfl (hb hby d73_96)
  have q301 := q18.wr W300
  have q302 := q19.other W300 (Or.inr (sn_37 hw))
  have q303 := q20.other W300 (Or.inr (sn_38 hw))
  have q304 := q21.other W300 (Or.inr (sn_39 hw))
  have q305 := q22.other W300 (Or.inr (sn_40 hw))
  have q306 := q23.other W300 (Or.inr (sn_41 hw))
  have q307 : Fld Z h300 r1 kT "worstPenalty" "J" (.long (F9 wp j2)) := q24.same W300
  have q308 := q25.other W300 (Or.inr (sn_42 hw))
  have q309 := q26.other W300 (Or.inr (sn_43 hw))
  have q310 := q27.wr W300
  have q311 := q28.other W300 (Or.inl ne_r3_r1)
  have Z312 : n0 ≤ h300.size := Nat.le_trans Z29 (Keep.of_wr W300).1
  have N313 := own_obSnoc X300 Nx299
  obtain ⟨Lx314, Xx314, Nx314⟩ := own_locsO X300 N313
  refine Go.of st300 ?_
  show Go p e below Qo T300 (mkL r1 m 99 #[sR r1, sJ j1, zS, sR r3, sJ j2, zS] [])
  refine Go.of (fun t k => XS.aloadN Xx314.here hx rfl (hb hby d73_99) rfl rfl k) ?_
  refine Go.of (fun t k => XS.dup Xx314.here hx rfl (hb hby d73_100) rfl rfl k) ?_
  show Go p e below Qo T300 (mkL r1 m 101 #[sR r1, sJ j1, zS, sR r3, sJ j2, zS] [(.ref r1), (.ref r1)])
  obtain ⟨T315, X315, e315, st315⟩ := getF Xx314 hx hZ hown (host := "") (Or.inl (wk hw 63 rfl)) Via.refl e300 q308 (g := (mkL r1 m 101 #[sR r1, sJ j1, zS, sR r3, sJ j2, zS] [(.ref r1), (.ref r1)])) rfl rfl (hb hby d73_101)
  refine Go.of st315 ?_
  show Go p e below Qo T315 (mkL r1 m 104 #[sR r1, sJ j1, zS, sR r3, sJ j2, zS] [(.long qs), (.ref r1)])
  refine Go.of (fun t k => XS.lload X315.here hx rfl (hb hby d73_104) rfl  k) ?_
  refine Go.of (fun t k => XS.ladd X315.here hx rfl (hb hby d73_106) rfl k) ?_
  obtain ⟨T316, h316, X316, e316, W316, st316⟩ := putF X315 hx hZ hown (host := "") (Or.inl (wk hw 63 rfl)) Via.refl e315 q308 q301 (Or.inl (wk hw 64 rfl)) (wk hw 26 rfl) (ty := .long) (by decide) rfl rfl (g := (mkL r1 m 107 #[sR r1, sJ j1, zS, sR r3, sJ j2, zS] [(.long (qs + j2)), (.ref r1)])) rfl rfl (hb hby d73_107)
  have q317 := q301.wr W316
  have q318 := q302.other W316 (Or.inr (sn_44 hw))
  have q319 := q303.other W316 (Or.inr (sn_45 hw))
  have q320 := q304.other W316 (Or.inr (sn_46 hw))
  have q321 := q305.other W316 (Or.inr (sn_47 hw))
  have q322 := q306.other W316 (Or.inr (sn_48 hw))
  have q323 := q307.other W316 (Or.inr (sn_49 hw))
  have q324 : Fld Z h316 r1 kT "penaltySum" "J" (.long (qs + j2)) := q308.same W316
  have q325 := q309.other W316 (Or.inr (sn_50 hw))
  have q326 := q310.wr W316
  have q327 := q311.other W316 (Or.inl ne_r3_r1)
  have Z328 : n0 ≤ h316.size := Nat.le_trans Z312 (Keep.of_wr W316).1
  have N329 := own_obSnoc X316 Nx314
  obtain ⟨Lx330, Xx330, Nx330⟩ := own_locsO X316 N329
  refine Go.of st316 ?_
  show Go p e below Qo T316 (mkL r1 m 110 #[sR r1, sJ j1, zS, sR r3, sJ j2, zS] [])
  refine Go.of (fun t k => XS.aloadN Xx330.here hx rfl (hb hby d73_110) rfl rfl k) ?_
  refine Go.of (fun t k => XS.dup Xx330.here hx rfl (hb hby d73_111) rfl rfl k) ?_
  obtain ⟨T331, X331, e331, st331⟩ := getF Xx330 hx hZ hown (host := "") (Or.inl (wk hw 65 rfl)) Via.refl e316 q325 (g := (mkL r1 m 112 #[sR r1, sJ j1, zS, sR r3, sJ j2, zS] [(.ref r1), (.ref r1)])) rfl rfl (hb hby d73_112)
  refine Go.of st331 ?_
  show Go p e below Qo T331 (mkL r1 m 115 #[sR r1, sJ j1, zS, sR r3, sJ j2, zS] [(.int fc), (.ref r1)])
  refine Go.of (fun t k => XS.iconst X331.here hx rfl (hb hby d73_115) k) ?_
  refine Go.of (fun t k => XS.iadd X331.here hx rfl (hb hby d73_116) rfl k) ?_
  show Go p e below Qo T331 (mkL r1 m 117 #[sR r1, sJ j1, zS, sR r3, sJ j2, zS] [(.int (fc + (1 : Int32))), (.ref r1)])
  obtain ⟨T332, h332, X332, e332, W332, st332⟩ := putF X331 hx hZ hown (host := "") (Or.inl (wk hw 65 rfl)) Via.refl e331 q325 q317 (Or.inl (wk hw 66 rfl)) (wk hw 26 rfl) (ty := .int) (by decide) rfl rfl (g := (mkL r1 m 117 #[sR r1, sJ j1, zS, sR r3, sJ j2, zS] [(.int (fc + (1 : Int32))), (.ref r1)])) rfl rfl (hb hby d73_117)
  have q333 := q317.wr W332
  have q334 := q318.other W332 (Or.inr (sn_51 hw))
  have q335 := q319.other W332 (Or.inr (sn_52 hw))
  have q336 := q320.other W332 (Or.inr (sn_53 hw))
  have q337 := q321.other W332 (Or.inr (sn_54 hw))
  have q338 := q322.other W332 (Or.inr (sn_55 hw))
  have q339 := q323.other W332 (Or.inr (sn_56 hw))
  have q340 := q324.other W332 (Or.inr (sn_57 hw))
  have q341 : Fld Z h332 r1 kT "feasibleRuns" "I" (.int (fc + (1 : Int32))) := q325.same W332
  have q342 := q326.wr W332
  have q343 := q327.other W332 (Or.inl ne_r3_r1)
  have Z344 : n0 ≤ h332.size := Nat.le_trans Z328 (Keep.of_wr W332).1
  have N345 := own_obSnoc X332 Nx330
  obtain ⟨Lx346, Xx346, Nx346⟩ := own_locsO X332 N345
  refine Go.of st332 ?_
  show Go p e below Qo T332 (mkL r1 m 120 #[sR r1, sJ j1, zS, sR r3, sJ j2, zS] [])
  refine own_retS Xx346 hx Bd.object Bd.enterable Bd.synchronized Bd.returns (hb hby d73_120) (fun u hM hF => ?_)
  rw [e332] at hM
  exact hQo _ _ _ ⟨(F9 wp j2), (qs + j2), (fc + (1 : Int32)), rfl, own_obFr Nx346 g_r1, own_keepS hh hF Nx346, (by exact q333.mon hM), own_monU hh hF f1, (by exact q334.mon hM), (by exact q335.mon hM), (by rw [if_neg (fun q => q.elim hc48_40 (fun z => hc58_140 z.1))]; exact q336.mon hM), (by rw [if_neg (fun q => q.elim hc48_40 (fun z => hc58_140 z.1))]; exact q337.mon hM), (by rw [if_neg (fun q => q.elim hc48_40 (fun z => hc58_140 z.1))]; exact q338.mon hM), (by exact q339.mon hM), (by exact q340.mon hM), (by exact q341.mon hM)⟩ (own_mono hF (by decide) (by decide))
theorem d74_0 : decode prog_38_method_3_code 0 = .ok (.aload_n 0, 1) := by decide +kernel
theorem d74_1 : decode prog_38_method_3_code 1 = .ok (.getfield 115, 3) := by decide +kernel
theorem d74_4 : decode prog_38_method_3_code 4 = .ok (.ifnull 12, 3) := by decide +kernel
theorem d74_7 : decode prog_38_method_3_code 7 = .ok (.lload_n 1, 1) := by decide +kernel
theorem d74_8 : decode prog_38_method_3_code 8 = .ok (.aload_n 0, 1) := by decide +kernel
theorem d74_9 : decode prog_38_method_3_code 9 = .ok (.getfield 119, 3) := by decide +kernel
theorem d74_12 : decode prog_38_method_3_code 12 = .ok (.lcmp, 1) := by decide +kernel
theorem d74_13 : decode prog_38_method_3_code 13 = .ok (.ifCond .ge 13, 3) := by decide +kernel
theorem d74_16 : decode prog_38_method_3_code 16 = .ok (.aload_n 0, 1) := by decide +kernel
theorem d74_17 : decode prog_38_method_3_code 17 = .ok (.aload_n 3, 1) := by decide +kernel
theorem d74_18 : decode prog_38_method_3_code 18 = .ok (.putfield 115, 3) := by decide +kernel
theorem d74_21 : decode prog_38_method_3_code 21 = .ok (.aload_n 0, 1) := by decide +kernel
theorem d74_22 : decode prog_38_method_3_code 22 = .ok (.lload_n 1, 1) := by decide +kernel
theorem d74_23 : decode prog_38_method_3_code 23 = .ok (.putfield 119, 3) := by decide +kernel
theorem d74_26 : decode prog_38_method_3_code 26 = .ok (.aload_n 3, 1) := by decide +kernel
theorem d74_27 : decode prog_38_method_3_code 27 = .ok (.invokevirtual 123, 3) := by decide +kernel
theorem d74_30 : decode prog_38_method_3_code 30 = .ok (.ifnonnull 4, 3) := by decide +kernel
theorem d74_33 : decode prog_38_method_3_code 33 = .ok (.return_, 1) := by decide +kernel
theorem ef_74 (m : MethodId) (r1 : Addr) (j1 : Int64) (r3 : Addr) (j2 : Int64)  : entryFrame m #[(.ref r1), (.long j1), (.ref r3), (.long j2)] 6 = mkF m 0 #[.val (.ref r1), .val (.long j1), .second, .val (.ref r3), .val (.long j2), .second] [] := by
  first | (simp [entryFrame, mkF, argsToLocals, Value.category]; done) | rfl
def Q74 (Z : State) (r1 : Addr) (j1 : Int64) (r3 : Addr) (j2 : Int64) (fr : Addr) (fs : Int64) (bs : Int64) (bp : Int64) (wp : Int64) (qs : Int64) (fc : Int32) (h0 : Heap) (n0 : Nat) (v : Option Value) (h : Heap) (L : List Loc) : Prop := ∃ wq : Int64, ∃ qt : Int64, ∃ fd : Int32, v = none ∧ Fr n0 L ∧ Keep h0 h [r1] ∧ Exa Z h r1 kT ∧ own_mon h r1 ∧ Fld Z h r1 kT "first" kD (.ref (if j1 < fs then r3 else fr)) ∧ Fld Z h r1 kT "firstSeed" "J" (.long (if j1 < fs then j1 else fs)) ∧ Fld Z h r1 kT "best" kD .null ∧ Fld Z h r1 kT "bestSeed" "J" (.long bs) ∧ Fld Z h r1 kT "bestPenalty" "J" (.long bp) ∧ Fld Z h r1 kT "worstPenalty" "J" (.long wq) ∧ Fld Z h r1 kT "penaltySum" "J" (.long qt) ∧ Fld Z h r1 kT "feasibleRuns" "I" (.int fd)
set_option maxRecDepth 65536 in
set_option maxHeartbeats 40000000 in
theorem rm74 (l : Launch) (Z : State) (a0 : Array Value) (hw : ∀ d ∈ tables_1, d.before a0 Z = true) (r1 : Addr) (j1 : Int64) (r3 : Addr) (j2 : Int64) (fr : Addr) (fs : Int64) (bs : Int64) (bp : Int64) (wp : Int64) (qs : Int64) (fc : Int32) (h0 : Heap) (n0 : Nat) (Z0 : n0 ≤ h0.size) (f0 : Exa Z h0 r1 kT) (f1 : own_mon h0 r1) (f2 : Fld Z h0 r1 kT "first" kD (.ref fr)) (f3 : Fld Z h0 r1 kT "firstSeed" "J" (.long fs)) (f4 : Fld Z h0 r1 kT "best" kD .null) (f5 : Fld Z h0 r1 kT "bestSeed" "J" (.long bs)) (f6 : Fld Z h0 r1 kT "bestPenalty" "J" (.long bp)) (f7 : Fld Z h0 r1 kT "worstPenalty" "J" (.long wp)) (f8 : Fld Z h0 r1 kT "penaltySum" "J" (.long qs)) (f9 : Fld Z h0 r1 kT "feasibleRuns" "I" (.int fc)) (f10 : Exa Z h0 r3 kA) (f11 : Fld Z h0 r3 kA "run" "Ljava/lang/Object;" .null) (g_r1 : n0 ≤ r1) (ne_r3_r1 : r3 ≠ r1) :
    MetFree l (⟨kT, "add", "(JLcom/example/examwright/examwright/Method$Attempt;J)V"⟩ : MethodName) (head1 (Jvm.Cond.codeSync (⟨kT, "add", "(JLcom/example/examwright/examwright/Method$Attempt;J)V"⟩ : MethodName) prog_38_method_3_code 6 none :: [Jvm.Cond.instanceMethod (⟨kT, "add", "(JLcom/example/examwright/examwright/Method$Attempt;J)V"⟩ : MethodName)]) ({ frames := 1, cells := 0, slots := 0, locals := 14 } : Room)) (fun a U => a = #[(.ref r1), (.long j1), (.ref r3), (.long j2)] ∧ Z.Warmed39 U.vm ∧ U.heap = h0 ∧ ∃ cell : Cell, h0[r1]? = some cell ∧ cell.enterable U.cur) (fun _ _ _ _ _ => True) (fun _ U o U' => ∃ v L, o = .returned v ∧ Q74 Z r1 j1 r3 j2 fr fs bs bp wp qs fc h0 n0 v U'.heap L ∧ FrameEnd U o U' L ({ frames := 1, cells := 0, slots := 0, locals := 14 } : Room).cells ({ frames := 1, cells := 0, slots := 0, locals := 14 } : Room).slots) := by
  refine MetFree.of_bodySync (plainFor_of_name pn_2) (hisS (List.mem_cons_self ..)) (fun _ s _ ⟨h1, _, h2, cl, h3, h4⟩ => ⟨r1, cl, by rw [h1]; rfl, by rw [h2]; exact h3, h4⟩) ?_
  intro p e s m args below meth c a' cell s₁ Bd hml0 hP hK
  obtain ⟨rfl, hZ0, hh, -⟩ := hP
  cases Bd.receiver
  have hx := Bd.exec
  have hby := Bd.bytes
  have hml : c.maxLocals = 6 := hml0
  have X0 : Stand p l e ({ frames := 1, cells := 0, slots := 0, locals := 14 } : Room) (s.setCell r1 (cell.withEntry s.cur)) m #[(.ref r1), (.long j1), (.ref r3), (.long j2)] below meth c s₁ [] 0 0 := Stand.of_bodySync Bd
  have hZ : Z.Warmed39 (s.setCell r1 (cell.withEntry s.cur)).vm := hZ0
  have hown : (s.setCell r1 (cell.withEntry s.cur)).vm.findClass kT = some m.cls := (findClass_of_methodNamed Bd.named :)
  have M0 : Mon h0 s₁.heap := by rw [← hh, Bd.state]; exact mon_set Bd.object _
  have Z1 : n0 ≤ s₁.heap.size := by rw [M0.size]; exact Z0
  have N0 : own_ob r1 [] := own_obNil
  have m0 := f0.mon M0
  have m2 := f2.mon M0
  have m3 := f3.mon M0
  have m4 := f4.mon M0
  have m5 := f5.mon M0
  have m6 := f6.mon M0
  have m7 := f7.mon M0
  have m8 := f8.mon M0
  have m9 := f9.mon M0
  have m10 := f10.mon M0
  have m11 := f11.mon M0
  suffices H : ∀ Qo : Outcome → State → Prop, (∀ (v : Option Value) (u : State) (L : List Loc), Q74 Z r1 j1 r3 j2 fr fs bs bp wp qs fc h0 n0 v u.heap L → FrameEnd s (.returned v) u L ({ frames := 1, cells := 0, slots := 0, locals := 14 } : Room).cells ({ frames := 1, cells := 0, slots := 0, locals := 14 } : Room).slots → Qo (.returned v) u) → Go p e below Qo s₁ (mkL r1 m 0 #[.val (.ref r1), .val (.long j1), .second, .val (.ref r3), .val (.long j2), .second] []) from
    H _ fun v u L h1 h2 => ⟨v, L, rfl, h1, h2⟩
  intro Qo hQo
  show Go p e below Qo s₁ (mkL r1 m 0 #[sR r1, sJ j1, zS, sR r3, sJ j2, zS] [])
  refine Go.of (fun t k => XS.aloadN X0.here hx rfl (hb hby d74_0) rfl rfl k) ?_
  obtain ⟨T1, X1, e1, st1⟩ := getF X0 hx hZ hown (host := "") (Or.inl (wk hw 39 rfl)) Via.refl rfl m2 (g := (mkL r1 m 1 #[sR r1, sJ j1, zS, sR r3, sJ j2, zS] [(.ref r1)])) rfl rfl (hb hby d74_1)
  refine Go.of st1 ?_
  show Go p e below Qo T1 (mkL r1 m 4 #[sR r1, sJ j1, zS, sR r3, sJ j2, zS] [(.ref fr)])
  refine Go.of (fun t k => XS.ifnullNo X1.here hx rfl (hb hby d74_4) rfl k) ?_
  refine Go.of (fun t k => XS.lloadN X1.here hx rfl (hb hby d74_7) rfl  k) ?_
  refine Go.of (fun t k => XS.aloadN X1.here hx rfl (hb hby d74_8) rfl rfl k) ?_
  obtain ⟨T2, X2, e2, st2⟩ := getF X1 hx hZ hown (host := "") (Or.inl (wk hw 46 rfl)) Via.refl e1 m3 (g := (mkL r1 m 9 #[sR r1, sJ j1, zS, sR r3, sJ j2, zS] [(.ref r1), (.long j1)])) rfl rfl (hb hby d74_9)
  refine Go.of st2 ?_
  show Go p e below Qo T2 (mkL r1 m 12 #[sR r1, sJ j1, zS, sR r3, sJ j2, zS] [(.long fs), (.long j1)])
  refine Go.of (fun t k => XS.lcmp X2.here hx rfl (hb hby d74_12) rfl k) ?_
  by_cases hc13_3 : j1 < fs
  · refine Go.of (fun t k => XS.ifNo X2.here hx rfl (hb hby d74_13) rfl ((if0 _ _).trans (tlt ((lw_lt j1 fs).mpr hc13_3)).2.1) k) ?_
    refine Go.of (fun t k => XS.aloadN X2.here hx rfl (hb hby d74_16) rfl rfl k) ?_
    refine Go.of (fun t k => XS.aloadN X2.here hx rfl (hb hby d74_17) rfl rfl k) ?_
    obtain ⟨T4, h4, X4, e4, W4, st4⟩ := putF X2 hx hZ hown (host := "") (Or.inl (wk hw 39 rfl)) Via.refl e2 m2 m0 (Or.inl (wk hw 40 rfl)) (wk hw 26 rfl) (ty := (.object kA)) (by decide) rfl rfl (g := (mkL r1 m 18 #[sR r1, sJ j1, zS, sR r3, sJ j2, zS] [(.ref r3), (.ref r1)])) rfl rfl (hb hby d74_18)
    have q5 := m0.wr W4
    have q6 : Fld Z h4 r1 kT "first" kD (.ref r3) := m2.same W4
    have q7 := m3.other W4 (Or.inr (sn_2 hw))
    have q8 := m4.other W4 (Or.inr (sn_3 hw))
    have q9 := m5.other W4 (Or.inr (sn_4 hw))
    have q10 := m6.other W4 (Or.inr (sn_5 hw))
    have q11 := m7.other W4 (Or.inr (sn_6 hw))
    have q12 := m8.other W4 (Or.inr (sn_7 hw))
    have q13 := m9.other W4 (Or.inr (sn_8 hw))
    have q14 := m10.wr W4
    have q15 := m11.other W4 (Or.inl ne_r3_r1)
    have Z16 : n0 ≤ h4.size := Nat.le_trans Z1 (Keep.of_wr W4).1
    have N17 := own_obSnoc X4 N0
    obtain ⟨Lx18, Xx18, Nx18⟩ := own_locsO X4 N17
    refine Go.of st4 ?_
    show Go p e below Qo T4 (mkL r1 m 21 #[sR r1, sJ j1, zS, sR r3, sJ j2, zS] [])
    refine Go.of (fun t k => XS.aloadN Xx18.here hx rfl (hb hby d74_21) rfl rfl k) ?_
    show Go p e below Qo T4 (mkL r1 m 22 #[sR r1, sJ j1, zS, sR r3, sJ j2, zS] [(.ref r1)])
    refine Go.of (fun t k => XS.lloadN Xx18.here hx rfl (hb hby d74_22) rfl  k) ?_
    obtain ⟨T19, h19, X19, e19, W19, st19⟩ := putF Xx18 hx hZ hown (host := "") (Or.inl (wk hw 46 rfl)) Via.refl e4 q7 q5 (Or.inl (wk hw 47 rfl)) (wk hw 26 rfl) (ty := .long) (by decide) rfl rfl (g := (mkL r1 m 23 #[sR r1, sJ j1, zS, sR r3, sJ j2, zS] [(.long j1), (.ref r1)])) rfl rfl (hb hby d74_23)
    have q20 := q5.wr W19
    have q21 := q6.other W19 (Or.inr (sn_9 hw))
    have q22 : Fld Z h19 r1 kT "firstSeed" "J" (.long j1) := q7.same W19
    have q23 := q8.other W19 (Or.inr (sn_10 hw))
    have q24 := q9.other W19 (Or.inr (sn_11 hw))
    have q25 := q10.other W19 (Or.inr (sn_12 hw))
    have q26 := q11.other W19 (Or.inr (sn_13 hw))
    have q27 := q12.other W19 (Or.inr (sn_14 hw))
    have q28 := q13.other W19 (Or.inr (sn_15 hw))
    have q29 := q14.wr W19
    have q30 := q15.other W19 (Or.inl ne_r3_r1)
    have Z31 : n0 ≤ h19.size := Nat.le_trans Z16 (Keep.of_wr W19).1
    have N32 := own_obSnoc X19 Nx18
    obtain ⟨Lx33, Xx33, Nx33⟩ := own_locsO X19 N32
    refine Go.of st19 ?_
    show Go p e below Qo T19 (mkL r1 m 26 #[sR r1, sJ j1, zS, sR r3, sJ j2, zS] [])
    refine Go.of (fun t k => XS.aloadN Xx33.here hx rfl (hb hby d74_26) rfl rfl k) ?_
    obtain ⟨ciq35, kiq35, iq35a, iq35b, iq35c⟩ := isOf hZ e19 q29
    obtain ⟨_, _, ⟨T34, L34, k34, n34⟩, -, X34, ⟨Lc34, hQ34, l34, y34, z34⟩, st34⟩ := Xx33.virtualBack hx (y := (⟨kA, "run", "()Ljava/lang/Object;"⟩ : MethodName)) (z := (⟨kA, "run", "()Ljava/lang/Object;"⟩ : MethodName)) hown (mvT hZ (wk hw 48 rfl)) (mvT hZ (wk hw 49 rfl)) (notFace_of_selects (args := #[]) (mvT hZ (wk hw 51 rfl))) (mvT hZ (wk hw 51 rfl)) (mvT hZ (wk hw 50 rfl)) (by decide) (backOf (W := 2) (rm81 l Z a0 hw [] r3 h19 n0 Z31 q30) hZ (wk hw 52 rfl) (wk hw 2 rfl) (by decide) (by decide)) iq35a iq35c (g := (mkL r1 m 27 #[sR r1, sJ j1, zS, sR r3, sJ j2, zS] [(.ref r3)])) rfl (by rw [hml]; rfl) (Steps.refl _) (argsL := []) (rest := []) (lenOf pd_1 rfl) rfl (by show 2 * 1 + _ ≤ _; exact Nat.le_of_eq rfl) (hb hby d74_27) (fun _ _ => ⟨rfl, e19, (by decide : 0 + 0 ≤ _), (by decide : 0 + 0 ≤ _)⟩)
    dsimp only [Pt.U, Pt.locs, Pt.cells, Pt.slots] at X34 l34 y34 z34 st34 hQ34
    subst l34 y34 z34
    replace X34 := own_cs X34 (c' := 0) (s' := 0) (by decide) (by decide)
    obtain ⟨rfl, N36, eh37⟩ := hQ34
    subst N36
    have N38 := own_obNil2 Nx33
    refine Go.via st34 ?_
    obtain ⟨Lx39, Xx39, Nx39⟩ := own_locsO X34 N38
    show Go p e below Qo T34 (mkL r1 m 30 #[sR r1, sJ j1, zS, sR r3, sJ j2, zS] [.null])
    refine Go.of (fun t k => XS.ifnonnullNo Xx39.here hx rfl (hb hby d74_30) rfl k) ?_
    refine own_retS Xx39 hx Bd.object Bd.enterable Bd.synchronized Bd.returns (hb hby d74_33) (fun u hM hF => ?_)
    rw [eh37] at hM
    exact hQo _ _ _ ⟨wp, qs, fc, rfl, own_obFr Nx39 g_r1, own_keepS hh hF Nx39, (by exact q20.mon hM), own_monU hh hF f1, (by rw [if_pos hc13_3]; exact q21.mon hM), (by rw [if_pos hc13_3]; exact q22.mon hM), (by exact q23.mon hM), (by exact q24.mon hM), (by exact q25.mon hM), (by exact q26.mon hM), (by exact q27.mon hM), (by exact q28.mon hM)⟩ (own_mono hF (by decide) (by decide))
  refine Go.of (fun t k => XS.ifYes X2.here hx rfl (pc0 := 13) (pc' := 26) rfl (hb hby d74_13) rfl ((if0 _ _).trans (flt (fun z => hc13_3 ((lw_lt j1 fs).mp z))).2.1) (by decide) (by decide) k) ?_
  refine Go.of (fun t k => XS.aloadN X2.here hx rfl (hb hby d74_26) rfl rfl k) ?_
  obtain ⟨ciq41, kiq41, iq41a, iq41b, iq41c⟩ := isOf hZ e2 m10
  obtain ⟨_, _, ⟨T40, L40, k40, n40⟩, -, X40, ⟨Lc40, hQ40, l40, y40, z40⟩, st40⟩ := X2.virtualBack hx (y := (⟨kA, "run", "()Ljava/lang/Object;"⟩ : MethodName)) (z := (⟨kA, "run", "()Ljava/lang/Object;"⟩ : MethodName)) hown (mvT hZ (wk hw 48 rfl)) (mvT hZ (wk hw 49 rfl)) (notFace_of_selects (args := #[]) (mvT hZ (wk hw 51 rfl))) (mvT hZ (wk hw 51 rfl)) (mvT hZ (wk hw 50 rfl)) (by decide) (backOf (W := 2) (rm81 l Z a0 hw [] r3 s₁.heap n0 Z1 m11) hZ (wk hw 52 rfl) (wk hw 2 rfl) (by decide) (by decide)) iq41a iq41c (g := (mkL r1 m 27 #[sR r1, sJ j1, zS, sR r3, sJ j2, zS] [(.ref r3)])) rfl (by rw [hml]; rfl) (Steps.refl _) (argsL := []) (rest := []) (lenOf pd_1 rfl) rfl (by show 2 * 1 + _ ≤ _; exact Nat.le_of_eq rfl) (hb hby d74_27) (fun _ _ => ⟨rfl, e2, (by decide : 0 + 0 ≤ _), (by decide : 0 + 0 ≤ _)⟩)
  dsimp only [Pt.U, Pt.locs, Pt.cells, Pt.slots] at X40 l40 y40 z40 st40 hQ40
  subst l40 y40 z40
  replace X40 := own_cs X40 (c' := 0) (s' := 0) (by decide) (by decide)
  obtain ⟨rfl, N42, eh43⟩ := hQ40
  subst N42
  have N44 := own_obNil2 N0
  refine Go.via st40 ?_
  obtain ⟨Lx45, Xx45, Nx45⟩ := own_locsO X40 N44
  show Go p e below Qo T40 (mkL r1 m 30 #[sR r1, sJ j1, zS, sR r3, sJ j2, zS] [.null])
  refine Go.of (fun t k => XS.ifnonnullNo Xx45.here hx rfl (hb hby d74_30) rfl k) ?_
  show Go p e below Qo T40 (mkL r1 m 33 #[sR r1, sJ j1, zS, sR r3, sJ j2, zS] [])
  refine own_retS Xx45 hx Bd.object Bd.enterable Bd.synchronized Bd.returns (hb hby d74_33) (fun u hM hF => ?_)
  rw [eh43] at hM
  exact hQo _ _ _ ⟨wp, qs, fc, rfl, own_obFr Nx45 g_r1, own_keepS hh hF Nx45, (by exact m0.mon hM), own_monU hh hF f1, (by rw [if_neg hc13_3]; exact m2.mon hM), (by rw [if_neg hc13_3]; exact m3.mon hM), (by exact m4.mon hM), (by exact m5.mon hM), (by exact m6.mon hM), (by exact m7.mon hM), (by exact m8.mon hM), (by exact m9.mon hM)⟩ (own_mono hF (by decide) (by decide))
theorem d75_0 : decode prog_38_method_3_code 0 = .ok (.aload_n 0, 1) := by decide +kernel
theorem d75_1 : decode prog_38_method_3_code 1 = .ok (.getfield 115, 3) := by decide +kernel
theorem d75_4 : decode prog_38_method_3_code 4 = .ok (.ifnull 12, 3) := by decide +kernel
theorem d75_7 : decode prog_38_method_3_code 7 = .ok (.lload_n 1, 1) := by decide +kernel
theorem d75_8 : decode prog_38_method_3_code 8 = .ok (.aload_n 0, 1) := by decide +kernel
theorem d75_9 : decode prog_38_method_3_code 9 = .ok (.getfield 119, 3) := by decide +kernel
theorem d75_12 : decode prog_38_method_3_code 12 = .ok (.lcmp, 1) := by decide +kernel
theorem d75_13 : decode prog_38_method_3_code 13 = .ok (.ifCond .ge 13, 3) := by decide +kernel
theorem d75_16 : decode prog_38_method_3_code 16 = .ok (.aload_n 0, 1) := by decide +kernel
theorem d75_17 : decode prog_38_method_3_code 17 = .ok (.aload_n 3, 1) := by decide +kernel
theorem d75_18 : decode prog_38_method_3_code 18 = .ok (.putfield 115, 3) := by decide +kernel
theorem d75_21 : decode prog_38_method_3_code 21 = .ok (.aload_n 0, 1) := by decide +kernel
theorem d75_22 : decode prog_38_method_3_code 22 = .ok (.lload_n 1, 1) := by decide +kernel
theorem d75_23 : decode prog_38_method_3_code 23 = .ok (.putfield 119, 3) := by decide +kernel
theorem d75_26 : decode prog_38_method_3_code 26 = .ok (.aload_n 3, 1) := by decide +kernel
theorem d75_27 : decode prog_38_method_3_code 27 = .ok (.invokevirtual 123, 3) := by decide +kernel
theorem d75_30 : decode prog_38_method_3_code 30 = .ok (.ifnonnull 4, 3) := by decide +kernel
theorem d75_34 : decode prog_38_method_3_code 34 = .ok (.aload_n 0, 1) := by decide +kernel
theorem d75_35 : decode prog_38_method_3_code 35 = .ok (.getfield 128, 3) := by decide +kernel
theorem d75_38 : decode prog_38_method_3_code 38 = .ok (.ifnull 32, 3) := by decide +kernel
theorem d75_70 : decode prog_38_method_3_code 70 = .ok (.aload_n 0, 1) := by decide +kernel
theorem d75_71 : decode prog_38_method_3_code 71 = .ok (.aload_n 3, 1) := by decide +kernel
theorem d75_72 : decode prog_38_method_3_code 72 = .ok (.putfield 128, 3) := by decide +kernel
theorem d75_75 : decode prog_38_method_3_code 75 = .ok (.aload_n 0, 1) := by decide +kernel
theorem d75_76 : decode prog_38_method_3_code 76 = .ok (.lload_n 1, 1) := by decide +kernel
theorem d75_77 : decode prog_38_method_3_code 77 = .ok (.putfield 134, 3) := by decide +kernel
theorem d75_80 : decode prog_38_method_3_code 80 = .ok (.aload_n 0, 1) := by decide +kernel
theorem d75_81 : decode prog_38_method_3_code 81 = .ok (.lload 4, 2) := by decide +kernel
theorem d75_83 : decode prog_38_method_3_code 83 = .ok (.putfield 131, 3) := by decide +kernel
theorem d75_86 : decode prog_38_method_3_code 86 = .ok (.aload_n 0, 1) := by decide +kernel
theorem d75_87 : decode prog_38_method_3_code 87 = .ok (.aload_n 0, 1) := by decide +kernel
theorem d75_88 : decode prog_38_method_3_code 88 = .ok (.getfield 137, 3) := by decide +kernel
theorem d75_91 : decode prog_38_method_3_code 91 = .ok (.lload 4, 2) := by decide +kernel
theorem d75_93 : decode prog_38_method_3_code 93 = .ok (.invokestatic 140, 3) := by decide +kernel
theorem d75_96 : decode prog_38_method_3_code 96 = .ok (.putfield 137, 3) := by decide +kernel
theorem d75_99 : decode prog_38_method_3_code 99 = .ok (.aload_n 0, 1) := by decide +kernel
theorem d75_100 : decode prog_38_method_3_code 100 = .ok (.dup, 1) := by decide +kernel
theorem d75_101 : decode prog_38_method_3_code 101 = .ok (.getfield 144, 3) := by decide +kernel
theorem d75_104 : decode prog_38_method_3_code 104 = .ok (.lload 4, 2) := by decide +kernel
theorem d75_106 : decode prog_38_method_3_code 106 = .ok (.ladd, 1) := by decide +kernel
theorem d75_107 : decode prog_38_method_3_code 107 = .ok (.putfield 144, 3) := by decide +kernel
theorem d75_110 : decode prog_38_method_3_code 110 = .ok (.aload_n 0, 1) := by decide +kernel
theorem d75_111 : decode prog_38_method_3_code 111 = .ok (.dup, 1) := by decide +kernel
theorem d75_112 : decode prog_38_method_3_code 112 = .ok (.getfield 147, 3) := by decide +kernel
theorem d75_115 : decode prog_38_method_3_code 115 = .ok (.iconst 1, 1) := by decide +kernel
theorem d75_116 : decode prog_38_method_3_code 116 = .ok (.iadd, 1) := by decide +kernel
theorem d75_117 : decode prog_38_method_3_code 117 = .ok (.putfield 147, 3) := by decide +kernel
theorem d75_120 : decode prog_38_method_3_code 120 = .ok (.return_, 1) := by decide +kernel
theorem ef_75 (m : MethodId) (r1 : Addr) (j1 : Int64) (r3 : Addr) (j2 : Int64)  : entryFrame m #[(.ref r1), (.long j1), (.ref r3), (.long j2)] 6 = mkF m 0 #[.val (.ref r1), .val (.long j1), .second, .val (.ref r3), .val (.long j2), .second] [] := by
  first | (simp [entryFrame, mkF, argsToLocals, Value.category]; done) | rfl
def Q75 (Z : State) (r1 : Addr) (j1 : Int64) (r3 : Addr) (j2 : Int64) (fr : Addr) (fs : Int64) (bs : Int64) (bp : Int64) (wp : Int64) (qs : Int64) (fc : Int32) (rr : Addr) (h0 : Heap) (n0 : Nat) (v : Option Value) (h : Heap) (L : List Loc) : Prop := ∃ wq : Int64, ∃ qt : Int64, ∃ fd : Int32, v = none ∧ Fr n0 L ∧ Keep h0 h [r1] ∧ Exa Z h r1 kT ∧ own_mon h r1 ∧ Fld Z h r1 kT "first" kD (.ref (if j1 < fs then r3 else fr)) ∧ Fld Z h r1 kT "firstSeed" "J" (.long (if j1 < fs then j1 else fs)) ∧ Fld Z h r1 kT "best" kD (.ref r3) ∧ Fld Z h r1 kT "bestSeed" "J" (.long j1) ∧ Fld Z h r1 kT "bestPenalty" "J" (.long j2) ∧ Fld Z h r1 kT "worstPenalty" "J" (.long wq) ∧ Fld Z h r1 kT "penaltySum" "J" (.long qt) ∧ Fld Z h r1 kT "feasibleRuns" "I" (.int fd)
set_option maxRecDepth 65536 in
set_option maxHeartbeats 40000000 in
theorem rm75 (l : Launch) (Z : State) (a0 : Array Value) (hw : ∀ d ∈ tables_1, d.before a0 Z = true) (r1 : Addr) (j1 : Int64) (r3 : Addr) (j2 : Int64) (fr : Addr) (fs : Int64) (bs : Int64) (bp : Int64) (wp : Int64) (qs : Int64) (fc : Int32) (rr : Addr) (h0 : Heap) (n0 : Nat) (Z0 : n0 ≤ h0.size) (f0 : Exa Z h0 r1 kT) (f1 : own_mon h0 r1) (f2 : Fld Z h0 r1 kT "first" kD (.ref fr)) (f3 : Fld Z h0 r1 kT "firstSeed" "J" (.long fs)) (f4 : Fld Z h0 r1 kT "best" kD .null) (f5 : Fld Z h0 r1 kT "bestSeed" "J" (.long bs)) (f6 : Fld Z h0 r1 kT "bestPenalty" "J" (.long bp)) (f7 : Fld Z h0 r1 kT "worstPenalty" "J" (.long wp)) (f8 : Fld Z h0 r1 kT "penaltySum" "J" (.long qs)) (f9 : Fld Z h0 r1 kT "feasibleRuns" "I" (.int fc)) (f10 : Exa Z h0 r3 kA) (f11 : Fld Z h0 r3 kA "run" "Ljava/lang/Object;" (.ref rr)) (g_r1 : n0 ≤ r1) (ne_r3_r1 : r3 ≠ r1) :
    MetFree l (⟨kT, "add", "(JLcom/example/examwright/examwright/Method$Attempt;J)V"⟩ : MethodName) (head1 (Jvm.Cond.codeSync (⟨kT, "add", "(JLcom/example/examwright/examwright/Method$Attempt;J)V"⟩ : MethodName) prog_38_method_3_code 6 none :: [Jvm.Cond.instanceMethod (⟨kT, "add", "(JLcom/example/examwright/examwright/Method$Attempt;J)V"⟩ : MethodName)]) ({ frames := 1, cells := 0, slots := 0, locals := 18 } : Room)) (fun a U => a = #[(.ref r1), (.long j1), (.ref r3), (.long j2)] ∧ Z.Warmed39 U.vm ∧ U.heap = h0 ∧ ∃ cell : Cell, h0[r1]? = some cell ∧ cell.enterable U.cur) (fun _ _ _ _ _ => True) (fun _ U o U' => ∃ v L, o = .returned v ∧ Q75 Z r1 j1 r3 j2 fr fs bs bp wp qs fc rr h0 n0 v U'.heap L ∧ FrameEnd U o U' L ({ frames := 1, cells := 0, slots := 0, locals := 18 } : Room).cells ({ frames := 1, cells := 0, slots := 0, locals := 18 } : Room).slots) := by
  refine MetFree.of_bodySync (plainFor_of_name pn_2) (hisS (List.mem_cons_self ..)) (fun _ s _ ⟨h1, _, h2, cl, h3, h4⟩ => ⟨r1, cl, by rw [h1]; rfl, by rw [h2]; exact h3, h4⟩) ?_
  intro p e s m args below meth c a' cell s₁ Bd hml0 hP hK
  obtain ⟨rfl, hZ0, hh, -⟩ := hP
  cases Bd.receiver
  have hx := Bd.exec
  have hby := Bd.bytes
  have hml : c.maxLocals = 6 := hml0
  have X0 : Stand p l e ({ frames := 1, cells := 0, slots := 0, locals := 18 } : Room) (s.setCell r1 (cell.withEntry s.cur)) m #[(.ref r1), (.long j1), (.ref r3), (.long j2)] below meth c s₁ [] 0 0 := Stand.of_bodySync Bd
  have hZ : Z.Warmed39 (s.setCell r1 (cell.withEntry s.cur)).vm := hZ0
  have hown : (s.setCell r1 (cell.withEntry s.cur)).vm.findClass kT = some m.cls := (findClass_of_methodNamed Bd.named :)
  have M0 : Mon h0 s₁.heap := by rw [← hh, Bd.state]; exact mon_set Bd.object _
  have Z1 : n0 ≤ s₁.heap.size := by rw [M0.size]; exact Z0
  have N0 : own_ob r1 [] := own_obNil
  have m0 := f0.mon M0
  have m2 := f2.mon M0
  have m3 := f3.mon M0
  have m4 := f4.mon M0
  have m5 := f5.mon M0
  have m6 := f6.mon M0
  have m7 := f7.mon M0
  have m8 := f8.mon M0
  have m9 := f9.mon M0
  have m10 := f10.mon M0
  have m11 := f11.mon M0
  suffices H : ∀ Qo : Outcome → State → Prop, (∀ (v : Option Value) (u : State) (L : List Loc), Q75 Z r1 j1 r3 j2 fr fs bs bp wp qs fc rr h0 n0 v u.heap L → FrameEnd s (.returned v) u L ({ frames := 1, cells := 0, slots := 0, locals := 18 } : Room).cells ({ frames := 1, cells := 0, slots := 0, locals := 18 } : Room).slots → Qo (.returned v) u) → Go p e below Qo s₁ (mkL r1 m 0 #[.val (.ref r1), .val (.long j1), .second, .val (.ref r3), .val (.long j2), .second] []) from
    H _ fun v u L h1 h2 => ⟨v, L, rfl, h1, h2⟩
  intro Qo hQo
  show Go p e below Qo s₁ (mkL r1 m 0 #[sR r1, sJ j1, zS, sR r3, sJ j2, zS] [])
  refine Go.of (fun t k => XS.aloadN X0.here hx rfl (hb hby d75_0) rfl rfl k) ?_
  obtain ⟨T1, X1, e1, st1⟩ := getF X0 hx hZ hown (host := "") (Or.inl (wk hw 39 rfl)) Via.refl rfl m2 (g := (mkL r1 m 1 #[sR r1, sJ j1, zS, sR r3, sJ j2, zS] [(.ref r1)])) rfl rfl (hb hby d75_1)
  refine Go.of st1 ?_
  show Go p e below Qo T1 (mkL r1 m 4 #[sR r1, sJ j1, zS, sR r3, sJ j2, zS] [(.ref fr)])
  refine Go.of (fun t k => XS.ifnullNo X1.here hx rfl (hb hby d75_4) rfl k) ?_
  refine Go.of (fun t k => XS.lloadN X1.here hx rfl (hb hby d75_7) rfl  k) ?_
  refine Go.of (fun t k => XS.aloadN X1.here hx rfl (hb hby d75_8) rfl rfl k) ?_
  obtain ⟨T2, X2, e2, st2⟩ := getF X1 hx hZ hown (host := "") (Or.inl (wk hw 46 rfl)) Via.refl e1 m3 (g := (mkL r1 m 9 #[sR r1, sJ j1, zS, sR r3, sJ j2, zS] [(.ref r1), (.long j1)])) rfl rfl (hb hby d75_9)
  refine Go.of st2 ?_
  show Go p e below Qo T2 (mkL r1 m 12 #[sR r1, sJ j1, zS, sR r3, sJ j2, zS] [(.long fs), (.long j1)])
  refine Go.of (fun t k => XS.lcmp X2.here hx rfl (hb hby d75_12) rfl k) ?_
  by_cases hc13_3 : j1 < fs
  · refine Go.of (fun t k => XS.ifNo X2.here hx rfl (hb hby d75_13) rfl ((if0 _ _).trans (tlt ((lw_lt j1 fs).mpr hc13_3)).2.1) k) ?_
    refine Go.of (fun t k => XS.aloadN X2.here hx rfl (hb hby d75_16) rfl rfl k) ?_
    refine Go.of (fun t k => XS.aloadN X2.here hx rfl (hb hby d75_17) rfl rfl k) ?_
    obtain ⟨T4, h4, X4, e4, W4, st4⟩ := putF X2 hx hZ hown (host := "") (Or.inl (wk hw 39 rfl)) Via.refl e2 m2 m0 (Or.inl (wk hw 40 rfl)) (wk hw 26 rfl) (ty := (.object kA)) (by decide) rfl rfl (g := (mkL r1 m 18 #[sR r1, sJ j1, zS, sR r3, sJ j2, zS] [(.ref r3), (.ref r1)])) rfl rfl (hb hby d75_18)
    have q5 := m0.wr W4
    have q6 : Fld Z h4 r1 kT "first" kD (.ref r3) := m2.same W4
    have q7 := m3.other W4 (Or.inr (sn_2 hw))
    have q8 := m4.other W4 (Or.inr (sn_3 hw))
    have q9 := m5.other W4 (Or.inr (sn_4 hw))
    have q10 := m6.other W4 (Or.inr (sn_5 hw))
    have q11 := m7.other W4 (Or.inr (sn_6 hw))
    have q12 := m8.other W4 (Or.inr (sn_7 hw))
    have q13 := m9.other W4 (Or.inr (sn_8 hw))
    have q14 := m10.wr W4
    have q15 := m11.other W4 (Or.inl ne_r3_r1)
    have Z16 : n0 ≤ h4.size := Nat.le_trans Z1 (Keep.of_wr W4).1
    have N17 := own_obSnoc X4 N0
    obtain ⟨Lx18, Xx18, Nx18⟩ := own_locsO X4 N17
    refine Go.of st4 ?_
    show Go p e below Qo T4 (mkL r1 m 21 #[sR r1, sJ j1, zS, sR r3, sJ j2, zS] [])
    refine Go.of (fun t k => XS.aloadN Xx18.here hx rfl (hb hby d75_21) rfl rfl k) ?_
    show Go p e below Qo T4 (mkL r1 m 22 #[sR r1, sJ j1, zS, sR r3, sJ j2, zS] [(.ref r1)])
    refine Go.of (fun t k => XS.lloadN Xx18.here hx rfl (hb hby d75_22) rfl  k) ?_
    obtain ⟨T19, h19, X19, e19, W19, st19⟩ := putF Xx18 hx hZ hown (host := "") (Or.inl (wk hw 46 rfl)) Via.refl e4 q7 q5 (Or.inl (wk hw 47 rfl)) (wk hw 26 rfl) (ty := .long) (by decide) rfl rfl (g := (mkL r1 m 23 #[sR r1, sJ j1, zS, sR r3, sJ j2, zS] [(.long j1), (.ref r1)])) rfl rfl (hb hby d75_23)
    have q20 := q5.wr W19
    have q21 := q6.other W19 (Or.inr (sn_9 hw))
    have q22 : Fld Z h19 r1 kT "firstSeed" "J" (.long j1) := q7.same W19
    have q23 := q8.other W19 (Or.inr (sn_10 hw))
    have q24 := q9.other W19 (Or.inr (sn_11 hw))
    have q25 := q10.other W19 (Or.inr (sn_12 hw))
    have q26 := q11.other W19 (Or.inr (sn_13 hw))
    have q27 := q12.other W19 (Or.inr (sn_14 hw))
    have q28 := q13.other W19 (Or.inr (sn_15 hw))
    have q29 := q14.wr W19
    have q30 := q15.other W19 (Or.inl ne_r3_r1)
    have Z31 : n0 ≤ h19.size := Nat.le_trans Z16 (Keep.of_wr W19).1
    have N32 := own_obSnoc X19 Nx18
    obtain ⟨Lx33, Xx33, Nx33⟩ := own_locsO X19 N32
    refine Go.of st19 ?_
    show Go p e below Qo T19 (mkL r1 m 26 #[sR r1, sJ j1, zS, sR r3, sJ j2, zS] [])
    refine Go.of (fun t k => XS.aloadN Xx33.here hx rfl (hb hby d75_26) rfl rfl k) ?_
    obtain ⟨ciq35, kiq35, iq35a, iq35b, iq35c⟩ := isOf hZ e19 q29
    obtain ⟨_, _, ⟨T34, L34, k34, n34⟩, -, X34, ⟨Lc34, hQ34, l34, y34, z34⟩, st34⟩ := Xx33.virtualBack hx (y := (⟨kA, "run", "()Ljava/lang/Object;"⟩ : MethodName)) (z := (⟨kA, "run", "()Ljava/lang/Object;"⟩ : MethodName)) hown (mvT hZ (wk hw 48 rfl)) (mvT hZ (wk hw 49 rfl)) (notFace_of_selects (args := #[]) (mvT hZ (wk hw 51 rfl))) (mvT hZ (wk hw 51 rfl)) (mvT hZ (wk hw 50 rfl)) (by decide) (backOf (W := 2) (rm82 l Z a0 hw [] r3 rr h19 n0 Z31 q30) hZ (wk hw 52 rfl) (wk hw 2 rfl) (by decide) (by decide)) iq35a iq35c (g := (mkL r1 m 27 #[sR r1, sJ j1, zS, sR r3, sJ j2, zS] [(.ref r3)])) rfl (by rw [hml]; rfl) (Steps.refl _) (argsL := []) (rest := []) (lenOf pd_1 rfl) rfl (by show 2 * 1 + _ ≤ _; exact Nat.le_of_eq rfl) (hb hby d75_27) (fun _ _ => ⟨rfl, e19, (by decide : 0 + 0 ≤ _), (by decide : 0 + 0 ≤ _)⟩)
    dsimp only [Pt.U, Pt.locs, Pt.cells, Pt.slots] at X34 l34 y34 z34 st34 hQ34
    subst l34 y34 z34
    replace X34 := own_cs X34 (c' := 0) (s' := 0) (by decide) (by decide)
    obtain ⟨rfl, N36, eh37⟩ := hQ34
    subst N36
    have N38 := own_obNil2 Nx33
    refine Go.via st34 ?_
    obtain ⟨Lx39, Xx39, Nx39⟩ := own_locsO X34 N38
    show Go p e below Qo T34 (mkL r1 m 30 #[sR r1, sJ j1, zS, sR r3, sJ j2, zS] [(.ref rr)])
    refine Go.of (fun t k => XS.ifnonnullYes Xx39.here hx rfl (pc0 := 30) (pc' := 34) rfl (hb hby d75_30) rfl (by decide) (by decide) k) ?_
    refine Go.of (fun t k => XS.aloadN Xx39.here hx rfl (hb hby d75_34) rfl rfl k) ?_
    obtain ⟨T40, X40, e40, st40⟩ := getF Xx39 hx hZ hown (host := "") (Or.inl (wk hw 37 rfl)) Via.refl eh37 q23 (g := (mkL r1 m 35 #[sR r1, sJ j1, zS, sR r3, sJ j2, zS] [(.ref r1)])) rfl rfl (hb hby d75_35)
    refine Go.of st40 ?_
    show Go p e below Qo T40 (mkL r1 m 38 #[sR r1, sJ j1, zS, sR r3, sJ j2, zS] [.null])
    refine Go.of (fun t k => XS.ifnullYes X40.here hx rfl (pc0 := 38) (pc' := 70) rfl (hb hby d75_38) rfl (by decide) (by decide) k) ?_
    refine Go.of (fun t k => XS.aloadN X40.here hx rfl (hb hby d75_70) rfl rfl k) ?_
    show Go p e below Qo T40 (mkL r1 m 71 #[sR r1, sJ j1, zS, sR r3, sJ j2, zS] [(.ref r1)])
    refine Go.of (fun t k => XS.aloadN X40.here hx rfl (hb hby d75_71) rfl rfl k) ?_
    obtain ⟨T41, h41, X41, e41, W41, st41⟩ := putF X40 hx hZ hown (host := "") (Or.inl (wk hw 37 rfl)) Via.refl e40 q23 q20 (Or.inl (wk hw 38 rfl)) (wk hw 26 rfl) (ty := (.object kA)) (by decide) rfl rfl (g := (mkL r1 m 72 #[sR r1, sJ j1, zS, sR r3, sJ j2, zS] [(.ref r3), (.ref r1)])) rfl rfl (hb hby d75_72)
    have q42 := q20.wr W41
    have q43 := q21.other W41 (Or.inr (sn_16 hw))
    have q44 := q22.other W41 (Or.inr (sn_17 hw))
    have q45 : Fld Z h41 r1 kT "best" kD (.ref r3) := q23.same W41
    have q46 := q24.other W41 (Or.inr (sn_18 hw))
    have q47 := q25.other W41 (Or.inr (sn_19 hw))
    have q48 := q26.other W41 (Or.inr (sn_20 hw))
    have q49 := q27.other W41 (Or.inr (sn_21 hw))
    have q50 := q28.other W41 (Or.inr (sn_22 hw))
    have q51 := q29.wr W41
    have q52 := q30.other W41 (Or.inl ne_r3_r1)
    have Z53 : n0 ≤ h41.size := Nat.le_trans Z31 (Keep.of_wr W41).1
    have N54 := own_obSnoc X41 Nx39
    obtain ⟨Lx55, Xx55, Nx55⟩ := own_locsO X41 N54
    refine Go.of st41 ?_
    show Go p e below Qo T41 (mkL r1 m 75 #[sR r1, sJ j1, zS, sR r3, sJ j2, zS] [])
    refine Go.of (fun t k => XS.aloadN Xx55.here hx rfl (hb hby d75_75) rfl rfl k) ?_
    refine Go.of (fun t k => XS.lloadN Xx55.here hx rfl (hb hby d75_76) rfl  k) ?_
    obtain ⟨T56, h56, X56, e56, W56, st56⟩ := putF Xx55 hx hZ hown (host := "") (Or.inl (wk hw 53 rfl)) Via.refl e41 q46 q42 (Or.inl (wk hw 54 rfl)) (wk hw 26 rfl) (ty := .long) (by decide) rfl rfl (g := (mkL r1 m 77 #[sR r1, sJ j1, zS, sR r3, sJ j2, zS] [(.long j1), (.ref r1)])) rfl rfl (hb hby d75_77)
    have q57 := q42.wr W56
    have q58 := q43.other W56 (Or.inr (sn_23 hw))
    have q59 := q44.other W56 (Or.inr (sn_24 hw))
    have q60 := q45.other W56 (Or.inr (sn_25 hw))
    have q61 : Fld Z h56 r1 kT "bestSeed" "J" (.long j1) := q46.same W56
    have q62 := q47.other W56 (Or.inr (sn_26 hw))
    have q63 := q48.other W56 (Or.inr (sn_27 hw))
    have q64 := q49.other W56 (Or.inr (sn_28 hw))
    have q65 := q50.other W56 (Or.inr (sn_29 hw))
    have q66 := q51.wr W56
    have q67 := q52.other W56 (Or.inl ne_r3_r1)
    have Z68 : n0 ≤ h56.size := Nat.le_trans Z53 (Keep.of_wr W56).1
    have N69 := own_obSnoc X56 Nx55
    obtain ⟨Lx70, Xx70, Nx70⟩ := own_locsO X56 N69
    refine Go.of st56 ?_
    show Go p e below Qo T56 (mkL r1 m 80 #[sR r1, sJ j1, zS, sR r3, sJ j2, zS] [])
    refine Go.of (fun t k => XS.aloadN Xx70.here hx rfl (hb hby d75_80) rfl rfl k) ?_
    refine Go.of (fun t k => XS.lload Xx70.here hx rfl (hb hby d75_81) rfl  k) ?_
    obtain ⟨T71, h71, X71, e71, W71, st71⟩ := putF Xx70 hx hZ hown (host := "") (Or.inl (wk hw 55 rfl)) Via.refl e56 q62 q57 (Or.inl (wk hw 56 rfl)) (wk hw 26 rfl) (ty := .long) (by decide) rfl rfl (g := (mkL r1 m 83 #[sR r1, sJ j1, zS, sR r3, sJ j2, zS] [(.long j2), (.ref r1)])) rfl rfl (hb hby d75_83)
    have q72 := q57.wr W71
    have q73 := q58.other W71 (Or.inr (sn_30 hw))
    have q74 := q59.other W71 (Or.inr (sn_31 hw))
    have q75 := q60.other W71 (Or.inr (sn_32 hw))
    have q76 := q61.other W71 (Or.inr (sn_33 hw))
    have q77 : Fld Z h71 r1 kT "bestPenalty" "J" (.long j2) := q62.same W71
    have q78 := q63.other W71 (Or.inr (sn_34 hw))
    have q79 := q64.other W71 (Or.inr (sn_35 hw))
    have q80 := q65.other W71 (Or.inr (sn_36 hw))
    have q81 := q66.wr W71
    have q82 := q67.other W71 (Or.inl ne_r3_r1)
    have Z83 : n0 ≤ h71.size := Nat.le_trans Z68 (Keep.of_wr W71).1
    have N84 := own_obSnoc X71 Nx70
    obtain ⟨Lx85, Xx85, Nx85⟩ := own_locsO X71 N84
    refine Go.of st71 ?_
    show Go p e below Qo T71 (mkL r1 m 86 #[sR r1, sJ j1, zS, sR r3, sJ j2, zS] [])
    refine Go.of (fun t k => XS.aloadN Xx85.here hx rfl (hb hby d75_86) rfl rfl k) ?_
    show Go p e below Qo T71 (mkL r1 m 87 #[sR r1, sJ j1, zS, sR r3, sJ j2, zS] [(.ref r1)])
    refine Go.of (fun t k => XS.aloadN Xx85.here hx rfl (hb hby d75_87) rfl rfl k) ?_
    obtain ⟨T86, X86, e86, st86⟩ := getF Xx85 hx hZ hown (host := "") (Or.inl (wk hw 57 rfl)) Via.refl e71 q78 (g := (mkL r1 m 88 #[sR r1, sJ j1, zS, sR r3, sJ j2, zS] [(.ref r1), (.ref r1)])) rfl rfl (hb hby d75_88)
    refine Go.of st86 ?_
    show Go p e below Qo T86 (mkL r1 m 91 #[sR r1, sJ j1, zS, sR r3, sJ j2, zS] [(.long wp), (.ref r1)])
    refine Go.of (fun t k => XS.lload X86.here hx rfl (hb hby d75_91) rfl  k) ?_
    obtain ⟨_, _, ⟨T87, L87, k87, n87⟩, -, X87, ⟨Lc87, hQ87, l87, y87, z87⟩, st87⟩ := Jvm.LawKit.callS X86 hx (y := (⟨"java/lang/Math", "max", "(JJ)J"⟩ : MethodName)) hown (mvT hZ (wk hw 59 rfl)) (mvT hZ (wk hw 60 rfl)) (mvT hZ (wk hw 61 rfl)) (mvT hZ (wk hw 62 rfl)) (by decide) (backOf (W := 3) (rm9 l Z a0 hw [] wp j2 h71 n0 Z83 ) hZ (wk hw 62 rfl) (wk hw 61 rfl) (by decide) (by decide)) (g := (mkL r1 m 93 #[sR r1, sJ j1, zS, sR r3, sJ j2, zS] [(.long j2), (.long wp), (.ref r1)])) rfl (by rw [hml]; rfl) (argsL := [(.long wp), (.long j2)]) (rest := [(.ref r1)]) (lenOf pd_2 rfl) rfl (by show 2 * 1 + _ ≤ _; exact Nat.le_of_eq rfl) (hb hby d75_93) (fun _ _ => ⟨rfl, e86, (by decide : 0 + 0 ≤ _), (by decide : 0 + 0 ≤ _)⟩)
    dsimp only [Pt.U, Pt.locs, Pt.cells, Pt.slots] at X87 l87 y87 z87 st87 hQ87
    subst l87 y87 z87
    replace X87 := own_cs X87 (c' := 0) (s' := 0) (by decide) (by decide)
    obtain ⟨rfl, N88, eh89⟩ := hQ87
    subst N88
    have N90 := own_obNil2 Nx85
    refine Go.of st87 ?_
    obtain ⟨Lx91, Xx91, Nx91⟩ := own_locsO X87 N90
    show Go p e below Qo T87 (mkL r1 m 96 #[sR r1, sJ j1, zS, sR r3, sJ j2, zS] [(.long (F9 wp j2)), (.ref r1)])
    obtain ⟨T92, h92, X92, e92, W92, st92⟩ := putF Xx91 hx hZ hown (host := "") (Or.inl (wk hw 57 rfl)) Via.refl eh89 q78 q72 (Or.inl (wk hw 58 rfl)) (wk hw 26 rfl) (ty := .long) (by decide) rfl rfl (g := (mkL r1 m 96 #[sR r1, sJ j1, zS, sR r3, sJ j2, zS] [(.long (F9 wp j2)), (.ref r1)])) rfl rfl (hb hby d75_96)
    have q93 := q72.wr W92
    have q94 := q73.other W92 (Or.inr (sn_37 hw))
    have q95 := q74.other W92 (Or.inr (sn_38 hw))
    have q96 := q75.other W92 (Or.inr (sn_39 hw))
    have q97 := q76.other W92 (Or.inr (sn_40 hw))
    have q98 := q77.other W92 (Or.inr (sn_41 hw))
    have q99 : Fld Z h92 r1 kT "worstPenalty" "J" (.long (F9 wp j2)) := q78.same W92
    have q100 := q79.other W92 (Or.inr (sn_42 hw))
    have q101 := q80.other W92 (Or.inr (sn_43 hw))
    have q102 := q81.wr W92
    have q103 := q82.other W92 (Or.inl ne_r3_r1)
    have Z104 : n0 ≤ h92.size := Nat.le_trans Z83 (Keep.of_wr W92).1
    have N105 := own_obSnoc X92 Nx91
    obtain ⟨Lx106, Xx106, Nx106⟩ := own_locsO X92 N105
    refine Go.of st92 ?_
    show Go p e below Qo T92 (mkL r1 m 99 #[sR r1, sJ j1, zS, sR r3, sJ j2, zS] [])
    refine Go.of (fun t k => XS.aloadN Xx106.here hx rfl (hb hby d75_99) rfl rfl k) ?_
    refine Go.of (fun t k => XS.dup Xx106.here hx rfl (hb hby d75_100) rfl rfl k) ?_
    obtain ⟨T107, X107, e107, st107⟩ := getF Xx106 hx hZ hown (host := "") (Or.inl (wk hw 63 rfl)) Via.refl e92 q100 (g := (mkL r1 m 101 #[sR r1, sJ j1, zS, sR r3, sJ j2, zS] [(.ref r1), (.ref r1)])) rfl rfl (hb hby d75_101)
    refine Go.of st107 ?_
    show Go p e below Qo T107 (mkL r1 m 104 #[sR r1, sJ j1, zS, sR r3, sJ j2, zS] [(.long qs), (.ref r1)])
    refine Go.of (fun t k => XS.lload X107.here hx rfl (hb hby d75_104) rfl  k) ?_
    refine Go.of (fun t k => XS.ladd X107.here hx rfl (hb hby d75_106) rfl k) ?_
    show Go p e below Qo T107 (mkL r1 m 107 #[sR r1, sJ j1, zS, sR r3, sJ j2, zS] [(.long (qs + j2)), (.ref r1)])
    obtain ⟨T108, h108, X108, e108, W108, st108⟩ := putF X107 hx hZ hown (host := "") (Or.inl (wk hw 63 rfl)) Via.refl e107 q100 q93 (Or.inl (wk hw 64 rfl)) (wk hw 26 rfl) (ty := .long) (by decide) rfl rfl (g := (mkL r1 m 107 #[sR r1, sJ j1, zS, sR r3, sJ j2, zS] [(.long (qs + j2)), (.ref r1)])) rfl rfl (hb hby d75_107)
    have q109 := q93.wr W108
    have q110 := q94.other W108 (Or.inr (sn_44 hw))
    have q111 := q95.other W108 (Or.inr (sn_45 hw))
    have q112 := q96.other W108 (Or.inr (sn_46 hw))
    have q113 := q97.other W108 (Or.inr (sn_47 hw))
    have q114 := q98.other W108 (Or.inr (sn_48 hw))
    have q115 := q99.other W108 (Or.inr (sn_49 hw))
    have q116 : Fld Z h108 r1 kT "penaltySum" "J" (.long (qs + j2)) := q100.same W108
    have q117 := q101.other W108 (Or.inr (sn_50 hw))
    have q118 := q102.wr W108
    have q119 := q103.other W108 (Or.inl ne_r3_r1)
    have Z120 : n0 ≤ h108.size := Nat.le_trans Z104 (Keep.of_wr W108).1
    have N121 := own_obSnoc X108 Nx106
    obtain ⟨Lx122, Xx122, Nx122⟩ := own_locsO X108 N121
    refine Go.of st108 ?_
    show Go p e below Qo T108 (mkL r1 m 110 #[sR r1, sJ j1, zS, sR r3, sJ j2, zS] [])
    refine Go.of (fun t k => XS.aloadN Xx122.here hx rfl (hb hby d75_110) rfl rfl k) ?_
    refine Go.of (fun t k => XS.dup Xx122.here hx rfl (hb hby d75_111) rfl rfl k) ?_
    obtain ⟨T123, X123, e123, st123⟩ := getF Xx122 hx hZ hown (host := "") (Or.inl (wk hw 65 rfl)) Via.refl e108 q117 (g := (mkL r1 m 112 #[sR r1, sJ j1, zS, sR r3, sJ j2, zS] [(.ref r1), (.ref r1)])) rfl rfl (hb hby d75_112)
    refine Go.of st123 ?_
    show Go p e below Qo T123 (mkL r1 m 115 #[sR r1, sJ j1, zS, sR r3, sJ j2, zS] [(.int fc), (.ref r1)])
    refine Go.of (fun t k => XS.iconst X123.here hx rfl (hb hby d75_115) k) ?_
    refine Go.of (fun t k => XS.iadd X123.here hx rfl (hb hby d75_116) rfl k) ?_
    obtain ⟨T124, h124, X124, e124, W124, st124⟩ := putF X123 hx hZ hown (host := "") (Or.inl (wk hw 65 rfl)) Via.refl e123 q117 q109 (Or.inl (wk hw 66 rfl)) (wk hw 26 rfl) (ty := .int) (by decide) rfl rfl (g := (mkL r1 m 117 #[sR r1, sJ j1, zS, sR r3, sJ j2, zS] [(.int (fc + (1 : Int32))), (.ref r1)])) rfl rfl (hb hby d75_117)
    have q125 := q109.wr W124
    have q126 := q110.other W124 (Or.inr (sn_51 hw))
    have q127 := q111.other W124 (Or.inr (sn_52 hw))
    have q128 := q112.other W124 (Or.inr (sn_53 hw))
    have q129 := q113.other W124 (Or.inr (sn_54 hw))
    have q130 := q114.other W124 (Or.inr (sn_55 hw))
    have q131 := q115.other W124 (Or.inr (sn_56 hw))
    have q132 := q116.other W124 (Or.inr (sn_57 hw))
    have q133 : Fld Z h124 r1 kT "feasibleRuns" "I" (.int (fc + (1 : Int32))) := q117.same W124
    have q134 := q118.wr W124
    have q135 := q119.other W124 (Or.inl ne_r3_r1)
    have Z136 : n0 ≤ h124.size := Nat.le_trans Z120 (Keep.of_wr W124).1
    have N137 := own_obSnoc X124 Nx122
    obtain ⟨Lx138, Xx138, Nx138⟩ := own_locsO X124 N137
    refine Go.of st124 ?_
    show Go p e below Qo T124 (mkL r1 m 120 #[sR r1, sJ j1, zS, sR r3, sJ j2, zS] [])
    refine own_retS Xx138 hx Bd.object Bd.enterable Bd.synchronized Bd.returns (hb hby d75_120) (fun u hM hF => ?_)
    rw [e124] at hM
    exact hQo _ _ _ ⟨(F9 wp j2), (qs + j2), (fc + (1 : Int32)), rfl, own_obFr Nx138 g_r1, own_keepS hh hF Nx138, (by exact q125.mon hM), own_monU hh hF f1, (by rw [if_pos hc13_3]; exact q126.mon hM), (by rw [if_pos hc13_3]; exact q127.mon hM), (by exact q128.mon hM), (by exact q129.mon hM), (by exact q130.mon hM), (by exact q131.mon hM), (by exact q132.mon hM), (by exact q133.mon hM)⟩ (own_mono hF (by decide) (by decide))
  refine Go.of (fun t k => XS.ifYes X2.here hx rfl (pc0 := 13) (pc' := 26) rfl (hb hby d75_13) rfl ((if0 _ _).trans (flt (fun z => hc13_3 ((lw_lt j1 fs).mp z))).2.1) (by decide) (by decide) k) ?_
  refine Go.of (fun t k => XS.aloadN X2.here hx rfl (hb hby d75_26) rfl rfl k) ?_
  show Go p e below Qo T2 (mkL r1 m 27 #[sR r1, sJ j1, zS, sR r3, sJ j2, zS] [(.ref r3)])
  obtain ⟨ciq140, kiq140, iq140a, iq140b, iq140c⟩ := isOf hZ e2 m10
  obtain ⟨_, _, ⟨T139, L139, k139, n139⟩, -, X139, ⟨Lc139, hQ139, l139, y139, z139⟩, st139⟩ := X2.virtualBack hx (y := (⟨kA, "run", "()Ljava/lang/Object;"⟩ : MethodName)) (z := (⟨kA, "run", "()Ljava/lang/Object;"⟩ : MethodName)) hown (mvT hZ (wk hw 48 rfl)) (mvT hZ (wk hw 49 rfl)) (notFace_of_selects (args := #[]) (mvT hZ (wk hw 51 rfl))) (mvT hZ (wk hw 51 rfl)) (mvT hZ (wk hw 50 rfl)) (by decide) (backOf (W := 2) (rm82 l Z a0 hw [] r3 rr s₁.heap n0 Z1 m11) hZ (wk hw 52 rfl) (wk hw 2 rfl) (by decide) (by decide)) iq140a iq140c (g := (mkL r1 m 27 #[sR r1, sJ j1, zS, sR r3, sJ j2, zS] [(.ref r3)])) rfl (by rw [hml]; rfl) (Steps.refl _) (argsL := []) (rest := []) (lenOf pd_1 rfl) rfl (by show 2 * 1 + _ ≤ _; exact Nat.le_of_eq rfl) (hb hby d75_27) (fun _ _ => ⟨rfl, e2, (by decide : 0 + 0 ≤ _), (by decide : 0 + 0 ≤ _)⟩)
  dsimp only [Pt.U, Pt.locs, Pt.cells, Pt.slots] at X139 l139 y139 z139 st139 hQ139
  subst l139 y139 z139
  replace X139 := own_cs X139 (c' := 0) (s' := 0) (by decide) (by decide)
  obtain ⟨rfl, N141, eh142⟩ := hQ139
  subst N141
  have N143 := own_obNil2 N0
  refine Go.via st139 ?_
  obtain ⟨Lx144, Xx144, Nx144⟩ := own_locsO X139 N143
  show Go p e below Qo T139 (mkL r1 m 30 #[sR r1, sJ j1, zS, sR r3, sJ j2, zS] [(.ref rr)])
  refine Go.of (fun t k => XS.ifnonnullYes Xx144.here hx rfl (pc0 := 30) (pc' := 34) rfl (hb hby d75_30) rfl (by decide) (by decide) k) ?_
  refine Go.of (fun t k => XS.aloadN Xx144.here hx rfl (hb hby d75_34) rfl rfl k) ?_
  obtain ⟨T145, X145, e145, st145⟩ := getF Xx144 hx hZ hown (host := "") (Or.inl (wk hw 37 rfl)) Via.refl eh142 m4 (g := (mkL r1 m 35 #[sR r1, sJ j1, zS, sR r3, sJ j2, zS] [(.ref r1)])) rfl rfl (hb hby d75_35)
  refine Go.of st145 ?_
  show Go p e below Qo T145 (mkL r1 m 38 #[sR r1, sJ j1, zS, sR r3, sJ j2, zS] [.null])
  refine Go.of (fun t k => XS.ifnullYes X145.here hx rfl (pc0 := 38) (pc' := 70) rfl (hb hby d75_38) rfl (by decide) (by decide) k) ?_
  refine Go.of (fun t k => XS.aloadN X145.here hx rfl (hb hby d75_70) rfl rfl k) ?_
  refine Go.of (fun t k => XS.aloadN X145.here hx rfl (hb hby d75_71) rfl rfl k) ?_
  obtain ⟨T146, h146, X146, e146, W146, st146⟩ := putF X145 hx hZ hown (host := "") (Or.inl (wk hw 37 rfl)) Via.refl e145 m4 m0 (Or.inl (wk hw 38 rfl)) (wk hw 26 rfl) (ty := (.object kA)) (by decide) rfl rfl (g := (mkL r1 m 72 #[sR r1, sJ j1, zS, sR r3, sJ j2, zS] [(.ref r3), (.ref r1)])) rfl rfl (hb hby d75_72)
  have q147 := m0.wr W146
  have q148 := m2.other W146 (Or.inr (sn_16 hw))
  have q149 := m3.other W146 (Or.inr (sn_17 hw))
  have q150 : Fld Z h146 r1 kT "best" kD (.ref r3) := m4.same W146
  have q151 := m5.other W146 (Or.inr (sn_18 hw))
  have q152 := m6.other W146 (Or.inr (sn_19 hw))
  have q153 := m7.other W146 (Or.inr (sn_20 hw))
  have q154 := m8.other W146 (Or.inr (sn_21 hw))
  have q155 := m9.other W146 (Or.inr (sn_22 hw))
  have q156 := m10.wr W146
  have q157 := m11.other W146 (Or.inl ne_r3_r1)
  have Z158 : n0 ≤ h146.size := Nat.le_trans Z1 (Keep.of_wr W146).1
  have N159 := own_obSnoc X146 Nx144
  obtain ⟨Lx160, Xx160, Nx160⟩ := own_locsO X146 N159
  refine Go.of st146 ?_
  show Go p e below Qo T146 (mkL r1 m 75 #[sR r1, sJ j1, zS, sR r3, sJ j2, zS] [])
  refine Go.of (fun t k => XS.aloadN Xx160.here hx rfl (hb hby d75_75) rfl rfl k) ?_
  show Go p e below Qo T146 (mkL r1 m 76 #[sR r1, sJ j1, zS, sR r3, sJ j2, zS] [(.ref r1)])
  refine Go.of (fun t k => XS.lloadN Xx160.here hx rfl (hb hby d75_76) rfl  k) ?_
  obtain ⟨T161, h161, X161, e161, W161, st161⟩ := putF Xx160 hx hZ hown (host := "") (Or.inl (wk hw 53 rfl)) Via.refl e146 q151 q147 (Or.inl (wk hw 54 rfl)) (wk hw 26 rfl) (ty := .long) (by decide) rfl rfl (g := (mkL r1 m 77 #[sR r1, sJ j1, zS, sR r3, sJ j2, zS] [(.long j1), (.ref r1)])) rfl rfl (hb hby d75_77)
  have q162 := q147.wr W161
  have q163 := q148.other W161 (Or.inr (sn_23 hw))
  have q164 := q149.other W161 (Or.inr (sn_24 hw))
  have q165 := q150.other W161 (Or.inr (sn_25 hw))
  have q166 : Fld Z h161 r1 kT "bestSeed" "J" (.long j1) := q151.same W161
  have q167 := q152.other W161 (Or.inr (sn_26 hw))
  have q168 := q153.other W161 (Or.inr (sn_27 hw))
  have q169 := q154.other W161 (Or.inr (sn_28 hw))
  have q170 := q155.other W161 (Or.inr (sn_29 hw))
  have q171 := q156.wr W161
  have q172 := q157.other W161 (Or.inl ne_r3_r1)
  have Z173 : n0 ≤ h161.size := Nat.le_trans Z158 (Keep.of_wr W161).1
  have N174 := own_obSnoc X161 Nx160
  obtain ⟨Lx175, Xx175, Nx175⟩ := own_locsO X161 N174
  refine Go.of st161 ?_
  show Go p e below Qo T161 (mkL r1 m 80 #[sR r1, sJ j1, zS, sR r3, sJ j2, zS] [])
  refine Go.of (fun t k => XS.aloadN Xx175.here hx rfl (hb hby d75_80) rfl rfl k) ?_
  refine Go.of (fun t k => XS.lload Xx175.here hx rfl (hb hby d75_81) rfl  k) ?_
  obtain ⟨T176, h176, X176, e176, W176, st176⟩ := putF Xx175 hx hZ hown (host := "") (Or.inl (wk hw 55 rfl)) Via.refl e161 q167 q162 (Or.inl (wk hw 56 rfl)) (wk hw 26 rfl) (ty := .long) (by decide) rfl rfl (g := (mkL r1 m 83 #[sR r1, sJ j1, zS, sR r3, sJ j2, zS] [(.long j2), (.ref r1)])) rfl rfl (hb hby d75_83)
  have q177 := q162.wr W176
  have q178 := q163.other W176 (Or.inr (sn_30 hw))
  have q179 := q164.other W176 (Or.inr (sn_31 hw))
  have q180 := q165.other W176 (Or.inr (sn_32 hw))
  have q181 := q166.other W176 (Or.inr (sn_33 hw))
  have q182 : Fld Z h176 r1 kT "bestPenalty" "J" (.long j2) := q167.same W176
  have q183 := q168.other W176 (Or.inr (sn_34 hw))
  have q184 := q169.other W176 (Or.inr (sn_35 hw))
  have q185 := q170.other W176 (Or.inr (sn_36 hw))
  have q186 := q171.wr W176
  have q187 := q172.other W176 (Or.inl ne_r3_r1)
  have Z188 : n0 ≤ h176.size := Nat.le_trans Z173 (Keep.of_wr W176).1
  have N189 := own_obSnoc X176 Nx175
  obtain ⟨Lx190, Xx190, Nx190⟩ := own_locsO X176 N189
  refine Go.of st176 ?_
  show Go p e below Qo T176 (mkL r1 m 86 #[sR r1, sJ j1, zS, sR r3, sJ j2, zS] [])
  refine Go.of (fun t k => XS.aloadN Xx190.here hx rfl (hb hby d75_86) rfl rfl k) ?_
  refine Go.of (fun t k => XS.aloadN Xx190.here hx rfl (hb hby d75_87) rfl rfl k) ?_
  obtain ⟨T191, X191, e191, st191⟩ := getF Xx190 hx hZ hown (host := "") (Or.inl (wk hw 57 rfl)) Via.refl e176 q183 (g := (mkL r1 m 88 #[sR r1, sJ j1, zS, sR r3, sJ j2, zS] [(.ref r1), (.ref r1)])) rfl rfl (hb hby d75_88)
  refine Go.of st191 ?_
  show Go p e below Qo T191 (mkL r1 m 91 #[sR r1, sJ j1, zS, sR r3, sJ j2, zS] [(.long wp), (.ref r1)])
  refine Go.of (fun t k => XS.lload X191.here hx rfl (hb hby d75_91) rfl  k) ?_
  show Go p e below Qo T191 (mkL r1 m 93 #[sR r1, sJ j1, zS, sR r3, sJ j2, zS] [(.long j2), (.long wp), (.ref r1)])
  obtain ⟨_, _, ⟨T192, L192, k192, n192⟩, -, X192, ⟨Lc192, hQ192, l192, y192, z192⟩, st192⟩ := Jvm.LawKit.callS X191 hx (y := (⟨"java/lang/Math", "max", "(JJ)J"⟩ : MethodName)) hown (mvT hZ (wk hw 59 rfl)) (mvT hZ (wk hw 60 rfl)) (mvT hZ (wk hw 61 rfl)) (mvT hZ (wk hw 62 rfl)) (by decide) (backOf (W := 3) (rm9 l Z a0 hw [] wp j2 h176 n0 Z188 ) hZ (wk hw 62 rfl) (wk hw 61 rfl) (by decide) (by decide)) (g := (mkL r1 m 93 #[sR r1, sJ j1, zS, sR r3, sJ j2, zS] [(.long j2), (.long wp), (.ref r1)])) rfl (by rw [hml]; rfl) (argsL := [(.long wp), (.long j2)]) (rest := [(.ref r1)]) (lenOf pd_2 rfl) rfl (by show 2 * 1 + _ ≤ _; exact Nat.le_of_eq rfl) (hb hby d75_93) (fun _ _ => ⟨rfl, e191, (by decide : 0 + 0 ≤ _), (by decide : 0 + 0 ≤ _)⟩)
  dsimp only [Pt.U, Pt.locs, Pt.cells, Pt.slots] at X192 l192 y192 z192 st192 hQ192
  subst l192 y192 z192
  replace X192 := own_cs X192 (c' := 0) (s' := 0) (by decide) (by decide)
  obtain ⟨rfl, N193, eh194⟩ := hQ192
  subst N193
  have N195 := own_obNil2 Nx190
  refine Go.of st192 ?_
  obtain ⟨Lx196, Xx196, Nx196⟩ := own_locsO X192 N195
  show Go p e below Qo T192 (mkL r1 m 96 #[sR r1, sJ j1, zS, sR r3, sJ j2, zS] [(.long (F9 wp j2)), (.ref r1)])
  obtain ⟨T197, h197, X197, e197, W197, st197⟩ := putF Xx196 hx hZ hown (host := "") (Or.inl (wk hw 57 rfl)) Via.refl eh194 q183 q177 (Or.inl (wk hw 58 rfl)) (wk hw 26 rfl) (ty := .long) (by decide) rfl rfl (g := (mkL r1 m 96 #[sR r1, sJ j1, zS, sR r3, sJ j2, zS] [(.long (F9 wp j2)), (.ref r1)])) rfl rfl (hb hby d75_96)
  have q198 := q177.wr W197
  have q199 := q178.other W197 (Or.inr (sn_37 hw))
  have q200 := q179.other W197 (Or.inr (sn_38 hw))
  have q201 := q180.other W197 (Or.inr (sn_39 hw))
  have q202 := q181.other W197 (Or.inr (sn_40 hw))
  have q203 := q182.other W197 (Or.inr (sn_41 hw))
  have q204 : Fld Z h197 r1 kT "worstPenalty" "J" (.long (F9 wp j2)) := q183.same W197
  have q205 := q184.other W197 (Or.inr (sn_42 hw))
  have q206 := q185.other W197 (Or.inr (sn_43 hw))
  have q207 := q186.wr W197
  have q208 := q187.other W197 (Or.inl ne_r3_r1)
  have Z209 : n0 ≤ h197.size := Nat.le_trans Z188 (Keep.of_wr W197).1
  have N210 := own_obSnoc X197 Nx196
  obtain ⟨Lx211, Xx211, Nx211⟩ := own_locsO X197 N210
  refine Go.of st197 ?_
  show Go p e below Qo T197 (mkL r1 m 99 #[sR r1, sJ j1, zS, sR r3, sJ j2, zS] [])
  refine Go.of (fun t k => XS.aloadN Xx211.here hx rfl (hb hby d75_99) rfl rfl k) ?_
  refine Go.of (fun t k => XS.dup Xx211.here hx rfl (hb hby d75_100) rfl rfl k) ?_
  obtain ⟨T212, X212, e212, st212⟩ := getF Xx211 hx hZ hown (host := "") (Or.inl (wk hw 63 rfl)) Via.refl e197 q205 (g := (mkL r1 m 101 #[sR r1, sJ j1, zS, sR r3, sJ j2, zS] [(.ref r1), (.ref r1)])) rfl rfl (hb hby d75_101)
  refine Go.of st212 ?_
  show Go p e below Qo T212 (mkL r1 m 104 #[sR r1, sJ j1, zS, sR r3, sJ j2, zS] [(.long qs), (.ref r1)])
  refine Go.of (fun t k => XS.lload X212.here hx rfl (hb hby d75_104) rfl  k) ?_
  refine Go.of (fun t k => XS.ladd X212.here hx rfl (hb hby d75_106) rfl k) ?_
  obtain ⟨T213, h213, X213, e213, W213, st213⟩ := putF X212 hx hZ hown (host := "") (Or.inl (wk hw 63 rfl)) Via.refl e212 q205 q198 (Or.inl (wk hw 64 rfl)) (wk hw 26 rfl) (ty := .long) (by decide) rfl rfl (g := (mkL r1 m 107 #[sR r1, sJ j1, zS, sR r3, sJ j2, zS] [(.long (qs + j2)), (.ref r1)])) rfl rfl (hb hby d75_107)
  have q214 := q198.wr W213
  have q215 := q199.other W213 (Or.inr (sn_44 hw))
  have q216 := q200.other W213 (Or.inr (sn_45 hw))
  have q217 := q201.other W213 (Or.inr (sn_46 hw))
  have q218 := q202.other W213 (Or.inr (sn_47 hw))
  have q219 := q203.other W213 (Or.inr (sn_48 hw))
  have q220 := q204.other W213 (Or.inr (sn_49 hw))
  have q221 : Fld Z h213 r1 kT "penaltySum" "J" (.long (qs + j2)) := q205.same W213
  have q222 := q206.other W213 (Or.inr (sn_50 hw))
  have q223 := q207.wr W213
  have q224 := q208.other W213 (Or.inl ne_r3_r1)
  have Z225 : n0 ≤ h213.size := Nat.le_trans Z209 (Keep.of_wr W213).1
  have N226 := own_obSnoc X213 Nx211
  obtain ⟨Lx227, Xx227, Nx227⟩ := own_locsO X213 N226
  refine Go.of st213 ?_
  show Go p e below Qo T213 (mkL r1 m 110 #[sR r1, sJ j1, zS, sR r3, sJ j2, zS] [])
  refine Go.of (fun t k => XS.aloadN Xx227.here hx rfl (hb hby d75_110) rfl rfl k) ?_
  refine Go.of (fun t k => XS.dup Xx227.here hx rfl (hb hby d75_111) rfl rfl k) ?_
  show Go p e below Qo T213 (mkL r1 m 112 #[sR r1, sJ j1, zS, sR r3, sJ j2, zS] [(.ref r1), (.ref r1)])
  obtain ⟨T228, X228, e228, st228⟩ := getF Xx227 hx hZ hown (host := "") (Or.inl (wk hw 65 rfl)) Via.refl e213 q222 (g := (mkL r1 m 112 #[sR r1, sJ j1, zS, sR r3, sJ j2, zS] [(.ref r1), (.ref r1)])) rfl rfl (hb hby d75_112)
  refine Go.of st228 ?_
  show Go p e below Qo T228 (mkL r1 m 115 #[sR r1, sJ j1, zS, sR r3, sJ j2, zS] [(.int fc), (.ref r1)])
  refine Go.of (fun t k => XS.iconst X228.here hx rfl (hb hby d75_115) k) ?_
  refine Go.of (fun t k => XS.iadd X228.here hx rfl (hb hby d75_116) rfl k) ?_
  obtain ⟨T229, h229, X229, e229, W229, st229⟩ := putF X228 hx hZ hown (host := "") (Or.inl (wk hw 65 rfl)) Via.refl e228 q222 q214 (Or.inl (wk hw 66 rfl)) (wk hw 26 rfl) (ty := .int) (by decide) rfl rfl (g := (mkL r1 m 117 #[sR r1, sJ j1, zS, sR r3, sJ j2, zS] [(.int (fc + (1 : Int32))), (.ref r1)])) rfl rfl (hb hby d75_117)
  have q230 := q214.wr W229
  have q231 := q215.other W229 (Or.inr (sn_51 hw))
  have q232 := q216.other W229 (Or.inr (sn_52 hw))
  have q233 := q217.other W229 (Or.inr (sn_53 hw))
  have q234 := q218.other W229 (Or.inr (sn_54 hw))
  have q235 := q219.other W229 (Or.inr (sn_55 hw))
  have q236 := q220.other W229 (Or.inr (sn_56 hw))
  have q237 := q221.other W229 (Or.inr (sn_57 hw))
  have q238 : Fld Z h229 r1 kT "feasibleRuns" "I" (.int (fc + (1 : Int32))) := q222.same W229
  have q239 := q223.wr W229
  have q240 := q224.other W229 (Or.inl ne_r3_r1)
  have Z241 : n0 ≤ h229.size := Nat.le_trans Z225 (Keep.of_wr W229).1
  have N242 := own_obSnoc X229 Nx227
  obtain ⟨Lx243, Xx243, Nx243⟩ := own_locsO X229 N242
  refine Go.of st229 ?_
  show Go p e below Qo T229 (mkL r1 m 120 #[sR r1, sJ j1, zS, sR r3, sJ j2, zS] [])
  refine own_retS Xx243 hx Bd.object Bd.enterable Bd.synchronized Bd.returns (hb hby d75_120) (fun u hM hF => ?_)
  rw [e229] at hM
  exact hQo _ _ _ ⟨(F9 wp j2), (qs + j2), (fc + (1 : Int32)), rfl, own_obFr Nx243 g_r1, own_keepS hh hF Nx243, (by exact q230.mon hM), own_monU hh hF f1, (by rw [if_neg hc13_3]; exact q231.mon hM), (by rw [if_neg hc13_3]; exact q232.mon hM), (by exact q233.mon hM), (by exact q234.mon hM), (by exact q235.mon hM), (by exact q236.mon hM), (by exact q237.mon hM), (by exact q238.mon hM)⟩ (own_mono hF (by decide) (by decide))
theorem d76_0 : decode prog_38_method_3_code 0 = .ok (.aload_n 0, 1) := by decide +kernel
theorem d76_1 : decode prog_38_method_3_code 1 = .ok (.getfield 115, 3) := by decide +kernel
theorem d76_4 : decode prog_38_method_3_code 4 = .ok (.ifnull 12, 3) := by decide +kernel
theorem d76_7 : decode prog_38_method_3_code 7 = .ok (.lload_n 1, 1) := by decide +kernel
theorem d76_8 : decode prog_38_method_3_code 8 = .ok (.aload_n 0, 1) := by decide +kernel
theorem d76_9 : decode prog_38_method_3_code 9 = .ok (.getfield 119, 3) := by decide +kernel
theorem d76_12 : decode prog_38_method_3_code 12 = .ok (.lcmp, 1) := by decide +kernel
theorem d76_13 : decode prog_38_method_3_code 13 = .ok (.ifCond .ge 13, 3) := by decide +kernel
theorem d76_16 : decode prog_38_method_3_code 16 = .ok (.aload_n 0, 1) := by decide +kernel
theorem d76_17 : decode prog_38_method_3_code 17 = .ok (.aload_n 3, 1) := by decide +kernel
theorem d76_18 : decode prog_38_method_3_code 18 = .ok (.putfield 115, 3) := by decide +kernel
theorem d76_21 : decode prog_38_method_3_code 21 = .ok (.aload_n 0, 1) := by decide +kernel
theorem d76_22 : decode prog_38_method_3_code 22 = .ok (.lload_n 1, 1) := by decide +kernel
theorem d76_23 : decode prog_38_method_3_code 23 = .ok (.putfield 119, 3) := by decide +kernel
theorem d76_26 : decode prog_38_method_3_code 26 = .ok (.aload_n 3, 1) := by decide +kernel
theorem d76_27 : decode prog_38_method_3_code 27 = .ok (.invokevirtual 123, 3) := by decide +kernel
theorem d76_30 : decode prog_38_method_3_code 30 = .ok (.ifnonnull 4, 3) := by decide +kernel
theorem d76_33 : decode prog_38_method_3_code 33 = .ok (.return_, 1) := by decide +kernel
theorem ef_76 (m : MethodId) (r1 : Addr) (j1 : Int64) (r3 : Addr) (j2 : Int64)  : entryFrame m #[(.ref r1), (.long j1), (.ref r3), (.long j2)] 6 = mkF m 0 #[.val (.ref r1), .val (.long j1), .second, .val (.ref r3), .val (.long j2), .second] [] := by
  first | (simp [entryFrame, mkF, argsToLocals, Value.category]; done) | rfl
def Q76 (Z : State) (r1 : Addr) (j1 : Int64) (r3 : Addr) (j2 : Int64) (fr : Addr) (fs : Int64) (br : Addr) (bs : Int64) (bp : Int64) (wp : Int64) (qs : Int64) (fc : Int32) (h0 : Heap) (n0 : Nat) (v : Option Value) (h : Heap) (L : List Loc) : Prop := ∃ wq : Int64, ∃ qt : Int64, ∃ fd : Int32, v = none ∧ Fr n0 L ∧ Keep h0 h [r1] ∧ Exa Z h r1 kT ∧ own_mon h r1 ∧ Fld Z h r1 kT "first" kD (.ref (if j1 < fs then r3 else fr)) ∧ Fld Z h r1 kT "firstSeed" "J" (.long (if j1 < fs then j1 else fs)) ∧ Fld Z h r1 kT "best" kD (.ref br) ∧ Fld Z h r1 kT "bestSeed" "J" (.long bs) ∧ Fld Z h r1 kT "bestPenalty" "J" (.long bp) ∧ Fld Z h r1 kT "worstPenalty" "J" (.long wq) ∧ Fld Z h r1 kT "penaltySum" "J" (.long qt) ∧ Fld Z h r1 kT "feasibleRuns" "I" (.int fd)
set_option maxRecDepth 65536 in
set_option maxHeartbeats 40000000 in
theorem rm76 (l : Launch) (Z : State) (a0 : Array Value) (hw : ∀ d ∈ tables_1, d.before a0 Z = true) (r1 : Addr) (j1 : Int64) (r3 : Addr) (j2 : Int64) (fr : Addr) (fs : Int64) (br : Addr) (bs : Int64) (bp : Int64) (wp : Int64) (qs : Int64) (fc : Int32) (h0 : Heap) (n0 : Nat) (Z0 : n0 ≤ h0.size) (f0 : Exa Z h0 r1 kT) (f1 : own_mon h0 r1) (f2 : Fld Z h0 r1 kT "first" kD (.ref fr)) (f3 : Fld Z h0 r1 kT "firstSeed" "J" (.long fs)) (f4 : Fld Z h0 r1 kT "best" kD (.ref br)) (f5 : Fld Z h0 r1 kT "bestSeed" "J" (.long bs)) (f6 : Fld Z h0 r1 kT "bestPenalty" "J" (.long bp)) (f7 : Fld Z h0 r1 kT "worstPenalty" "J" (.long wp)) (f8 : Fld Z h0 r1 kT "penaltySum" "J" (.long qs)) (f9 : Fld Z h0 r1 kT "feasibleRuns" "I" (.int fc)) (f10 : Exa Z h0 r3 kA) (f11 : Fld Z h0 r3 kA "run" "Ljava/lang/Object;" .null) (g_r1 : n0 ≤ r1) (ne_r3_r1 : r3 ≠ r1) :
    MetFree l (⟨kT, "add", "(JLcom/example/examwright/examwright/Method$Attempt;J)V"⟩ : MethodName) (head1 (Jvm.Cond.codeSync (⟨kT, "add", "(JLcom/example/examwright/examwright/Method$Attempt;J)V"⟩ : MethodName) prog_38_method_3_code 6 none :: [Jvm.Cond.instanceMethod (⟨kT, "add", "(JLcom/example/examwright/examwright/Method$Attempt;J)V"⟩ : MethodName)]) ({ frames := 1, cells := 0, slots := 0, locals := 14 } : Room)) (fun a U => a = #[(.ref r1), (.long j1), (.ref r3), (.long j2)] ∧ Z.Warmed39 U.vm ∧ U.heap = h0 ∧ ∃ cell : Cell, h0[r1]? = some cell ∧ cell.enterable U.cur) (fun _ _ _ _ _ => True) (fun _ U o U' => ∃ v L, o = .returned v ∧ Q76 Z r1 j1 r3 j2 fr fs br bs bp wp qs fc h0 n0 v U'.heap L ∧ FrameEnd U o U' L ({ frames := 1, cells := 0, slots := 0, locals := 14 } : Room).cells ({ frames := 1, cells := 0, slots := 0, locals := 14 } : Room).slots) := by
  refine MetFree.of_bodySync (plainFor_of_name pn_2) (hisS (List.mem_cons_self ..)) (fun _ s _ ⟨h1, _, h2, cl, h3, h4⟩ => ⟨r1, cl, by rw [h1]; rfl, by rw [h2]; exact h3, h4⟩) ?_
  intro p e s m args below meth c a' cell s₁ Bd hml0 hP hK
  obtain ⟨rfl, hZ0, hh, -⟩ := hP
  cases Bd.receiver
  have hx := Bd.exec
  have hby := Bd.bytes
  have hml : c.maxLocals = 6 := hml0
  have X0 : Stand p l e ({ frames := 1, cells := 0, slots := 0, locals := 14 } : Room) (s.setCell r1 (cell.withEntry s.cur)) m #[(.ref r1), (.long j1), (.ref r3), (.long j2)] below meth c s₁ [] 0 0 := Stand.of_bodySync Bd
  have hZ : Z.Warmed39 (s.setCell r1 (cell.withEntry s.cur)).vm := hZ0
  have hown : (s.setCell r1 (cell.withEntry s.cur)).vm.findClass kT = some m.cls := (findClass_of_methodNamed Bd.named :)
  have M0 : Mon h0 s₁.heap := by rw [← hh, Bd.state]; exact mon_set Bd.object _
  have Z1 : n0 ≤ s₁.heap.size := by rw [M0.size]; exact Z0
  have N0 : own_ob r1 [] := own_obNil
  have m0 := f0.mon M0
  have m2 := f2.mon M0
  have m3 := f3.mon M0
  have m4 := f4.mon M0
  have m5 := f5.mon M0
  have m6 := f6.mon M0
  have m7 := f7.mon M0
  have m8 := f8.mon M0
  have m9 := f9.mon M0
  have m10 := f10.mon M0
  have m11 := f11.mon M0
  suffices H : ∀ Qo : Outcome → State → Prop, (∀ (v : Option Value) (u : State) (L : List Loc), Q76 Z r1 j1 r3 j2 fr fs br bs bp wp qs fc h0 n0 v u.heap L → FrameEnd s (.returned v) u L ({ frames := 1, cells := 0, slots := 0, locals := 14 } : Room).cells ({ frames := 1, cells := 0, slots := 0, locals := 14 } : Room).slots → Qo (.returned v) u) → Go p e below Qo s₁ (mkL r1 m 0 #[.val (.ref r1), .val (.long j1), .second, .val (.ref r3), .val (.long j2), .second] []) from
    H _ fun v u L h1 h2 => ⟨v, L, rfl, h1, h2⟩
  intro Qo hQo
  show Go p e below Qo s₁ (mkL r1 m 0 #[sR r1, sJ j1, zS, sR r3, sJ j2, zS] [])
  refine Go.of (fun t k => XS.aloadN X0.here hx rfl (hb hby d76_0) rfl rfl k) ?_
  obtain ⟨T1, X1, e1, st1⟩ := getF X0 hx hZ hown (host := "") (Or.inl (wk hw 39 rfl)) Via.refl rfl m2 (g := (mkL r1 m 1 #[sR r1, sJ j1, zS, sR r3, sJ j2, zS] [(.ref r1)])) rfl rfl (hb hby d76_1)
  refine Go.of st1 ?_
  show Go p e below Qo T1 (mkL r1 m 4 #[sR r1, sJ j1, zS, sR r3, sJ j2, zS] [(.ref fr)])
  refine Go.of (fun t k => XS.ifnullNo X1.here hx rfl (hb hby d76_4) rfl k) ?_
  refine Go.of (fun t k => XS.lloadN X1.here hx rfl (hb hby d76_7) rfl  k) ?_
  refine Go.of (fun t k => XS.aloadN X1.here hx rfl (hb hby d76_8) rfl rfl k) ?_
  obtain ⟨T2, X2, e2, st2⟩ := getF X1 hx hZ hown (host := "") (Or.inl (wk hw 46 rfl)) Via.refl e1 m3 (g := (mkL r1 m 9 #[sR r1, sJ j1, zS, sR r3, sJ j2, zS] [(.ref r1), (.long j1)])) rfl rfl (hb hby d76_9)
  refine Go.of st2 ?_
  show Go p e below Qo T2 (mkL r1 m 12 #[sR r1, sJ j1, zS, sR r3, sJ j2, zS] [(.long fs), (.long j1)])
  refine Go.of (fun t k => XS.lcmp X2.here hx rfl (hb hby d76_12) rfl k) ?_
  by_cases hc13_3 : j1 < fs
  · refine Go.of (fun t k => XS.ifNo X2.here hx rfl (hb hby d76_13) rfl ((if0 _ _).trans (tlt ((lw_lt j1 fs).mpr hc13_3)).2.1) k) ?_
    refine Go.of (fun t k => XS.aloadN X2.here hx rfl (hb hby d76_16) rfl rfl k) ?_
    refine Go.of (fun t k => XS.aloadN X2.here hx rfl (hb hby d76_17) rfl rfl k) ?_
    obtain ⟨T4, h4, X4, e4, W4, st4⟩ := putF X2 hx hZ hown (host := "") (Or.inl (wk hw 39 rfl)) Via.refl e2 m2 m0 (Or.inl (wk hw 40 rfl)) (wk hw 26 rfl) (ty := (.object kA)) (by decide) rfl rfl (g := (mkL r1 m 18 #[sR r1, sJ j1, zS, sR r3, sJ j2, zS] [(.ref r3), (.ref r1)])) rfl rfl (hb hby d76_18)
    have q5 := m0.wr W4
    have q6 : Fld Z h4 r1 kT "first" kD (.ref r3) := m2.same W4
    have q7 := m3.other W4 (Or.inr (sn_2 hw))
    have q8 := m4.other W4 (Or.inr (sn_3 hw))
    have q9 := m5.other W4 (Or.inr (sn_4 hw))
    have q10 := m6.other W4 (Or.inr (sn_5 hw))
    have q11 := m7.other W4 (Or.inr (sn_6 hw))
    have q12 := m8.other W4 (Or.inr (sn_7 hw))
    have q13 := m9.other W4 (Or.inr (sn_8 hw))
    have q14 := m10.wr W4
    have q15 := m11.other W4 (Or.inl ne_r3_r1)
    have Z16 : n0 ≤ h4.size := Nat.le_trans Z1 (Keep.of_wr W4).1
    have N17 := own_obSnoc X4 N0
    obtain ⟨Lx18, Xx18, Nx18⟩ := own_locsO X4 N17
    refine Go.of st4 ?_
    show Go p e below Qo T4 (mkL r1 m 21 #[sR r1, sJ j1, zS, sR r3, sJ j2, zS] [])
    refine Go.of (fun t k => XS.aloadN Xx18.here hx rfl (hb hby d76_21) rfl rfl k) ?_
    show Go p e below Qo T4 (mkL r1 m 22 #[sR r1, sJ j1, zS, sR r3, sJ j2, zS] [(.ref r1)])
    refine Go.of (fun t k => XS.lloadN Xx18.here hx rfl (hb hby d76_22) rfl  k) ?_
    obtain ⟨T19, h19, X19, e19, W19, st19⟩ := putF Xx18 hx hZ hown (host := "") (Or.inl (wk hw 46 rfl)) Via.refl e4 q7 q5 (Or.inl (wk hw 47 rfl)) (wk hw 26 rfl) (ty := .long) (by decide) rfl rfl (g := (mkL r1 m 23 #[sR r1, sJ j1, zS, sR r3, sJ j2, zS] [(.long j1), (.ref r1)])) rfl rfl (hb hby d76_23)
    have q20 := q5.wr W19
    have q21 := q6.other W19 (Or.inr (sn_9 hw))
    have q22 : Fld Z h19 r1 kT "firstSeed" "J" (.long j1) := q7.same W19
    have q23 := q8.other W19 (Or.inr (sn_10 hw))
    have q24 := q9.other W19 (Or.inr (sn_11 hw))
    have q25 := q10.other W19 (Or.inr (sn_12 hw))
    have q26 := q11.other W19 (Or.inr (sn_13 hw))
    have q27 := q12.other W19 (Or.inr (sn_14 hw))
    have q28 := q13.other W19 (Or.inr (sn_15 hw))
    have q29 := q14.wr W19
    have q30 := q15.other W19 (Or.inl ne_r3_r1)
    have Z31 : n0 ≤ h19.size := Nat.le_trans Z16 (Keep.of_wr W19).1
    have N32 := own_obSnoc X19 Nx18
    obtain ⟨Lx33, Xx33, Nx33⟩ := own_locsO X19 N32
    refine Go.of st19 ?_
    show Go p e below Qo T19 (mkL r1 m 26 #[sR r1, sJ j1, zS, sR r3, sJ j2, zS] [])
    refine Go.of (fun t k => XS.aloadN Xx33.here hx rfl (hb hby d76_26) rfl rfl k) ?_
    obtain ⟨ciq35, kiq35, iq35a, iq35b, iq35c⟩ := isOf hZ e19 q29
    obtain ⟨_, _, ⟨T34, L34, k34, n34⟩, -, X34, ⟨Lc34, hQ34, l34, y34, z34⟩, st34⟩ := Xx33.virtualBack hx (y := (⟨kA, "run", "()Ljava/lang/Object;"⟩ : MethodName)) (z := (⟨kA, "run", "()Ljava/lang/Object;"⟩ : MethodName)) hown (mvT hZ (wk hw 48 rfl)) (mvT hZ (wk hw 49 rfl)) (notFace_of_selects (args := #[]) (mvT hZ (wk hw 51 rfl))) (mvT hZ (wk hw 51 rfl)) (mvT hZ (wk hw 50 rfl)) (by decide) (backOf (W := 2) (rm81 l Z a0 hw [] r3 h19 n0 Z31 q30) hZ (wk hw 52 rfl) (wk hw 2 rfl) (by decide) (by decide)) iq35a iq35c (g := (mkL r1 m 27 #[sR r1, sJ j1, zS, sR r3, sJ j2, zS] [(.ref r3)])) rfl (by rw [hml]; rfl) (Steps.refl _) (argsL := []) (rest := []) (lenOf pd_1 rfl) rfl (by show 2 * 1 + _ ≤ _; exact Nat.le_of_eq rfl) (hb hby d76_27) (fun _ _ => ⟨rfl, e19, (by decide : 0 + 0 ≤ _), (by decide : 0 + 0 ≤ _)⟩)
    dsimp only [Pt.U, Pt.locs, Pt.cells, Pt.slots] at X34 l34 y34 z34 st34 hQ34
    subst l34 y34 z34
    replace X34 := own_cs X34 (c' := 0) (s' := 0) (by decide) (by decide)
    obtain ⟨rfl, N36, eh37⟩ := hQ34
    subst N36
    have N38 := own_obNil2 Nx33
    refine Go.via st34 ?_
    obtain ⟨Lx39, Xx39, Nx39⟩ := own_locsO X34 N38
    show Go p e below Qo T34 (mkL r1 m 30 #[sR r1, sJ j1, zS, sR r3, sJ j2, zS] [.null])
    refine Go.of (fun t k => XS.ifnonnullNo Xx39.here hx rfl (hb hby d76_30) rfl k) ?_
    refine own_retS Xx39 hx Bd.object Bd.enterable Bd.synchronized Bd.returns (hb hby d76_33) (fun u hM hF => ?_)
    rw [eh37] at hM
    exact hQo _ _ _ ⟨wp, qs, fc, rfl, own_obFr Nx39 g_r1, own_keepS hh hF Nx39, (by exact q20.mon hM), own_monU hh hF f1, (by rw [if_pos hc13_3]; exact q21.mon hM), (by rw [if_pos hc13_3]; exact q22.mon hM), (by exact q23.mon hM), (by exact q24.mon hM), (by exact q25.mon hM), (by exact q26.mon hM), (by exact q27.mon hM), (by exact q28.mon hM)⟩ (own_mono hF (by decide) (by decide))
  refine Go.of (fun t k => XS.ifYes X2.here hx rfl (pc0 := 13) (pc' := 26) rfl (hb hby d76_13) rfl ((if0 _ _).trans (flt (fun z => hc13_3 ((lw_lt j1 fs).mp z))).2.1) (by decide) (by decide) k) ?_
  refine Go.of (fun t k => XS.aloadN X2.here hx rfl (hb hby d76_26) rfl rfl k) ?_
  obtain ⟨ciq41, kiq41, iq41a, iq41b, iq41c⟩ := isOf hZ e2 m10
  obtain ⟨_, _, ⟨T40, L40, k40, n40⟩, -, X40, ⟨Lc40, hQ40, l40, y40, z40⟩, st40⟩ := X2.virtualBack hx (y := (⟨kA, "run", "()Ljava/lang/Object;"⟩ : MethodName)) (z := (⟨kA, "run", "()Ljava/lang/Object;"⟩ : MethodName)) hown (mvT hZ (wk hw 48 rfl)) (mvT hZ (wk hw 49 rfl)) (notFace_of_selects (args := #[]) (mvT hZ (wk hw 51 rfl))) (mvT hZ (wk hw 51 rfl)) (mvT hZ (wk hw 50 rfl)) (by decide) (backOf (W := 2) (rm81 l Z a0 hw [] r3 s₁.heap n0 Z1 m11) hZ (wk hw 52 rfl) (wk hw 2 rfl) (by decide) (by decide)) iq41a iq41c (g := (mkL r1 m 27 #[sR r1, sJ j1, zS, sR r3, sJ j2, zS] [(.ref r3)])) rfl (by rw [hml]; rfl) (Steps.refl _) (argsL := []) (rest := []) (lenOf pd_1 rfl) rfl (by show 2 * 1 + _ ≤ _; exact Nat.le_of_eq rfl) (hb hby d76_27) (fun _ _ => ⟨rfl, e2, (by decide : 0 + 0 ≤ _), (by decide : 0 + 0 ≤ _)⟩)
  dsimp only [Pt.U, Pt.locs, Pt.cells, Pt.slots] at X40 l40 y40 z40 st40 hQ40
  subst l40 y40 z40
  replace X40 := own_cs X40 (c' := 0) (s' := 0) (by decide) (by decide)
  obtain ⟨rfl, N42, eh43⟩ := hQ40
  subst N42
  have N44 := own_obNil2 N0
  refine Go.via st40 ?_
  obtain ⟨Lx45, Xx45, Nx45⟩ := own_locsO X40 N44
  show Go p e below Qo T40 (mkL r1 m 30 #[sR r1, sJ j1, zS, sR r3, sJ j2, zS] [.null])
  refine Go.of (fun t k => XS.ifnonnullNo Xx45.here hx rfl (hb hby d76_30) rfl k) ?_
  show Go p e below Qo T40 (mkL r1 m 33 #[sR r1, sJ j1, zS, sR r3, sJ j2, zS] [])
  refine own_retS Xx45 hx Bd.object Bd.enterable Bd.synchronized Bd.returns (hb hby d76_33) (fun u hM hF => ?_)
  rw [eh43] at hM
  exact hQo _ _ _ ⟨wp, qs, fc, rfl, own_obFr Nx45 g_r1, own_keepS hh hF Nx45, (by exact m0.mon hM), own_monU hh hF f1, (by rw [if_neg hc13_3]; exact m2.mon hM), (by rw [if_neg hc13_3]; exact m3.mon hM), (by exact m4.mon hM), (by exact m5.mon hM), (by exact m6.mon hM), (by exact m7.mon hM), (by exact m8.mon hM), (by exact m9.mon hM)⟩ (own_mono hF (by decide) (by decide))
theorem d77_0 : decode prog_38_method_3_code 0 = .ok (.aload_n 0, 1) := by decide +kernel
theorem d77_1 : decode prog_38_method_3_code 1 = .ok (.getfield 115, 3) := by decide +kernel
theorem d77_4 : decode prog_38_method_3_code 4 = .ok (.ifnull 12, 3) := by decide +kernel
theorem d77_7 : decode prog_38_method_3_code 7 = .ok (.lload_n 1, 1) := by decide +kernel
theorem d77_8 : decode prog_38_method_3_code 8 = .ok (.aload_n 0, 1) := by decide +kernel
theorem d77_9 : decode prog_38_method_3_code 9 = .ok (.getfield 119, 3) := by decide +kernel
theorem d77_12 : decode prog_38_method_3_code 12 = .ok (.lcmp, 1) := by decide +kernel
theorem d77_13 : decode prog_38_method_3_code 13 = .ok (.ifCond .ge 13, 3) := by decide +kernel
theorem d77_16 : decode prog_38_method_3_code 16 = .ok (.aload_n 0, 1) := by decide +kernel
theorem d77_17 : decode prog_38_method_3_code 17 = .ok (.aload_n 3, 1) := by decide +kernel
theorem d77_18 : decode prog_38_method_3_code 18 = .ok (.putfield 115, 3) := by decide +kernel
theorem d77_21 : decode prog_38_method_3_code 21 = .ok (.aload_n 0, 1) := by decide +kernel
theorem d77_22 : decode prog_38_method_3_code 22 = .ok (.lload_n 1, 1) := by decide +kernel
theorem d77_23 : decode prog_38_method_3_code 23 = .ok (.putfield 119, 3) := by decide +kernel
theorem d77_26 : decode prog_38_method_3_code 26 = .ok (.aload_n 3, 1) := by decide +kernel
theorem d77_27 : decode prog_38_method_3_code 27 = .ok (.invokevirtual 123, 3) := by decide +kernel
theorem d77_30 : decode prog_38_method_3_code 30 = .ok (.ifnonnull 4, 3) := by decide +kernel
theorem d77_34 : decode prog_38_method_3_code 34 = .ok (.aload_n 0, 1) := by decide +kernel
theorem d77_35 : decode prog_38_method_3_code 35 = .ok (.getfield 128, 3) := by decide +kernel
theorem d77_38 : decode prog_38_method_3_code 38 = .ok (.ifnull 32, 3) := by decide +kernel
theorem d77_41 : decode prog_38_method_3_code 41 = .ok (.lload 4, 2) := by decide +kernel
theorem d77_43 : decode prog_38_method_3_code 43 = .ok (.aload_n 0, 1) := by decide +kernel
theorem d77_44 : decode prog_38_method_3_code 44 = .ok (.getfield 131, 3) := by decide +kernel
theorem d77_47 : decode prog_38_method_3_code 47 = .ok (.lcmp, 1) := by decide +kernel
theorem d77_48 : decode prog_38_method_3_code 48 = .ok (.ifCond .lt 22, 3) := by decide +kernel
theorem d77_51 : decode prog_38_method_3_code 51 = .ok (.lload 4, 2) := by decide +kernel
theorem d77_53 : decode prog_38_method_3_code 53 = .ok (.aload_n 0, 1) := by decide +kernel
theorem d77_54 : decode prog_38_method_3_code 54 = .ok (.getfield 131, 3) := by decide +kernel
theorem d77_57 : decode prog_38_method_3_code 57 = .ok (.lcmp, 1) := by decide +kernel
theorem d77_58 : decode prog_38_method_3_code 58 = .ok (.ifCond .ne 28, 3) := by decide +kernel
theorem d77_61 : decode prog_38_method_3_code 61 = .ok (.lload_n 1, 1) := by decide +kernel
theorem d77_62 : decode prog_38_method_3_code 62 = .ok (.aload_n 0, 1) := by decide +kernel
theorem d77_63 : decode prog_38_method_3_code 63 = .ok (.getfield 134, 3) := by decide +kernel
theorem d77_66 : decode prog_38_method_3_code 66 = .ok (.lcmp, 1) := by decide +kernel
theorem d77_67 : decode prog_38_method_3_code 67 = .ok (.ifCond .ge 19, 3) := by decide +kernel
theorem d77_70 : decode prog_38_method_3_code 70 = .ok (.aload_n 0, 1) := by decide +kernel
theorem d77_71 : decode prog_38_method_3_code 71 = .ok (.aload_n 3, 1) := by decide +kernel
theorem d77_72 : decode prog_38_method_3_code 72 = .ok (.putfield 128, 3) := by decide +kernel
theorem d77_75 : decode prog_38_method_3_code 75 = .ok (.aload_n 0, 1) := by decide +kernel
theorem d77_76 : decode prog_38_method_3_code 76 = .ok (.lload_n 1, 1) := by decide +kernel
theorem d77_77 : decode prog_38_method_3_code 77 = .ok (.putfield 134, 3) := by decide +kernel
theorem d77_80 : decode prog_38_method_3_code 80 = .ok (.aload_n 0, 1) := by decide +kernel
theorem d77_81 : decode prog_38_method_3_code 81 = .ok (.lload 4, 2) := by decide +kernel
theorem d77_83 : decode prog_38_method_3_code 83 = .ok (.putfield 131, 3) := by decide +kernel
theorem d77_86 : decode prog_38_method_3_code 86 = .ok (.aload_n 0, 1) := by decide +kernel
theorem d77_87 : decode prog_38_method_3_code 87 = .ok (.aload_n 0, 1) := by decide +kernel
theorem d77_88 : decode prog_38_method_3_code 88 = .ok (.getfield 137, 3) := by decide +kernel
theorem d77_91 : decode prog_38_method_3_code 91 = .ok (.lload 4, 2) := by decide +kernel
theorem d77_93 : decode prog_38_method_3_code 93 = .ok (.invokestatic 140, 3) := by decide +kernel
theorem d77_96 : decode prog_38_method_3_code 96 = .ok (.putfield 137, 3) := by decide +kernel
theorem d77_99 : decode prog_38_method_3_code 99 = .ok (.aload_n 0, 1) := by decide +kernel
theorem d77_100 : decode prog_38_method_3_code 100 = .ok (.dup, 1) := by decide +kernel
theorem d77_101 : decode prog_38_method_3_code 101 = .ok (.getfield 144, 3) := by decide +kernel
theorem d77_104 : decode prog_38_method_3_code 104 = .ok (.lload 4, 2) := by decide +kernel
theorem d77_106 : decode prog_38_method_3_code 106 = .ok (.ladd, 1) := by decide +kernel
theorem d77_107 : decode prog_38_method_3_code 107 = .ok (.putfield 144, 3) := by decide +kernel
theorem d77_110 : decode prog_38_method_3_code 110 = .ok (.aload_n 0, 1) := by decide +kernel
theorem d77_111 : decode prog_38_method_3_code 111 = .ok (.dup, 1) := by decide +kernel
theorem d77_112 : decode prog_38_method_3_code 112 = .ok (.getfield 147, 3) := by decide +kernel
theorem d77_115 : decode prog_38_method_3_code 115 = .ok (.iconst 1, 1) := by decide +kernel
theorem d77_116 : decode prog_38_method_3_code 116 = .ok (.iadd, 1) := by decide +kernel
theorem d77_117 : decode prog_38_method_3_code 117 = .ok (.putfield 147, 3) := by decide +kernel
theorem d77_120 : decode prog_38_method_3_code 120 = .ok (.return_, 1) := by decide +kernel
theorem ef_77 (m : MethodId) (r1 : Addr) (j1 : Int64) (r3 : Addr) (j2 : Int64)  : entryFrame m #[(.ref r1), (.long j1), (.ref r3), (.long j2)] 6 = mkF m 0 #[.val (.ref r1), .val (.long j1), .second, .val (.ref r3), .val (.long j2), .second] [] := by
  first | (simp [entryFrame, mkF, argsToLocals, Value.category]; done) | rfl
def Q77 (Z : State) (r1 : Addr) (j1 : Int64) (r3 : Addr) (j2 : Int64) (fr : Addr) (fs : Int64) (br : Addr) (bs : Int64) (bp : Int64) (wp : Int64) (qs : Int64) (fc : Int32) (rr : Addr) (h0 : Heap) (n0 : Nat) (v : Option Value) (h : Heap) (L : List Loc) : Prop := ∃ wq : Int64, ∃ qt : Int64, ∃ fd : Int32, v = none ∧ Fr n0 L ∧ Keep h0 h [r1] ∧ Exa Z h r1 kT ∧ own_mon h r1 ∧ Fld Z h r1 kT "first" kD (.ref (if j1 < fs then r3 else fr)) ∧ Fld Z h r1 kT "firstSeed" "J" (.long (if j1 < fs then j1 else fs)) ∧ Fld Z h r1 kT "best" kD (.ref (if (j2 < bp ∨ (j2 = bp ∧ j1 < bs)) then r3 else br)) ∧ Fld Z h r1 kT "bestSeed" "J" (.long (if (j2 < bp ∨ (j2 = bp ∧ j1 < bs)) then j1 else bs)) ∧ Fld Z h r1 kT "bestPenalty" "J" (.long (if (j2 < bp ∨ (j2 = bp ∧ j1 < bs)) then j2 else bp)) ∧ Fld Z h r1 kT "worstPenalty" "J" (.long wq) ∧ Fld Z h r1 kT "penaltySum" "J" (.long qt) ∧ Fld Z h r1 kT "feasibleRuns" "I" (.int fd)
set_option maxRecDepth 65536 in
set_option maxHeartbeats 40000000 in
theorem rm77 (l : Launch) (Z : State) (a0 : Array Value) (hw : ∀ d ∈ tables_1, d.before a0 Z = true) (r1 : Addr) (j1 : Int64) (r3 : Addr) (j2 : Int64) (fr : Addr) (fs : Int64) (br : Addr) (bs : Int64) (bp : Int64) (wp : Int64) (qs : Int64) (fc : Int32) (rr : Addr) (h0 : Heap) (n0 : Nat) (Z0 : n0 ≤ h0.size) (f0 : Exa Z h0 r1 kT) (f1 : own_mon h0 r1) (f2 : Fld Z h0 r1 kT "first" kD (.ref fr)) (f3 : Fld Z h0 r1 kT "firstSeed" "J" (.long fs)) (f4 : Fld Z h0 r1 kT "best" kD (.ref br)) (f5 : Fld Z h0 r1 kT "bestSeed" "J" (.long bs)) (f6 : Fld Z h0 r1 kT "bestPenalty" "J" (.long bp)) (f7 : Fld Z h0 r1 kT "worstPenalty" "J" (.long wp)) (f8 : Fld Z h0 r1 kT "penaltySum" "J" (.long qs)) (f9 : Fld Z h0 r1 kT "feasibleRuns" "I" (.int fc)) (f10 : Exa Z h0 r3 kA) (f11 : Fld Z h0 r3 kA "run" "Ljava/lang/Object;" (.ref rr)) (g_r1 : n0 ≤ r1) (ne_r3_r1 : r3 ≠ r1) :
    MetFree l (⟨kT, "add", "(JLcom/example/examwright/examwright/Method$Attempt;J)V"⟩ : MethodName) (head1 (Jvm.Cond.codeSync (⟨kT, "add", "(JLcom/example/examwright/examwright/Method$Attempt;J)V"⟩ : MethodName) prog_38_method_3_code 6 none :: [Jvm.Cond.instanceMethod (⟨kT, "add", "(JLcom/example/examwright/examwright/Method$Attempt;J)V"⟩ : MethodName)]) ({ frames := 1, cells := 0, slots := 0, locals := 18 } : Room)) (fun a U => a = #[(.ref r1), (.long j1), (.ref r3), (.long j2)] ∧ Z.Warmed39 U.vm ∧ U.heap = h0 ∧ ∃ cell : Cell, h0[r1]? = some cell ∧ cell.enterable U.cur) (fun _ _ _ _ _ => True) (fun _ U o U' => ∃ v L, o = .returned v ∧ Q77 Z r1 j1 r3 j2 fr fs br bs bp wp qs fc rr h0 n0 v U'.heap L ∧ FrameEnd U o U' L ({ frames := 1, cells := 0, slots := 0, locals := 18 } : Room).cells ({ frames := 1, cells := 0, slots := 0, locals := 18 } : Room).slots) := by
  refine MetFree.of_bodySync (plainFor_of_name pn_2) (hisS (List.mem_cons_self ..)) (fun _ s _ ⟨h1, _, h2, cl, h3, h4⟩ => ⟨r1, cl, by rw [h1]; rfl, by rw [h2]; exact h3, h4⟩) ?_
  intro p e s m args below meth c a' cell s₁ Bd hml0 hP hK
  obtain ⟨rfl, hZ0, hh, -⟩ := hP
  cases Bd.receiver
  have hx := Bd.exec
  have hby := Bd.bytes
  have hml : c.maxLocals = 6 := hml0
  have X0 : Stand p l e ({ frames := 1, cells := 0, slots := 0, locals := 18 } : Room) (s.setCell r1 (cell.withEntry s.cur)) m #[(.ref r1), (.long j1), (.ref r3), (.long j2)] below meth c s₁ [] 0 0 := Stand.of_bodySync Bd
  have hZ : Z.Warmed39 (s.setCell r1 (cell.withEntry s.cur)).vm := hZ0
  have hown : (s.setCell r1 (cell.withEntry s.cur)).vm.findClass kT = some m.cls := (findClass_of_methodNamed Bd.named :)
  have M0 : Mon h0 s₁.heap := by rw [← hh, Bd.state]; exact mon_set Bd.object _
  have Z1 : n0 ≤ s₁.heap.size := by rw [M0.size]; exact Z0
  have N0 : own_ob r1 [] := own_obNil
  have m0 := f0.mon M0
  have m2 := f2.mon M0
  have m3 := f3.mon M0
  have m4 := f4.mon M0
  have m5 := f5.mon M0
  have m6 := f6.mon M0
  have m7 := f7.mon M0
  have m8 := f8.mon M0
  have m9 := f9.mon M0
  have m10 := f10.mon M0
  have m11 := f11.mon M0
  suffices H : ∀ Qo : Outcome → State → Prop, (∀ (v : Option Value) (u : State) (L : List Loc), Q77 Z r1 j1 r3 j2 fr fs br bs bp wp qs fc rr h0 n0 v u.heap L → FrameEnd s (.returned v) u L ({ frames := 1, cells := 0, slots := 0, locals := 18 } : Room).cells ({ frames := 1, cells := 0, slots := 0, locals := 18 } : Room).slots → Qo (.returned v) u) → Go p e below Qo s₁ (mkL r1 m 0 #[.val (.ref r1), .val (.long j1), .second, .val (.ref r3), .val (.long j2), .second] []) from
    H _ fun v u L h1 h2 => ⟨v, L, rfl, h1, h2⟩
  intro Qo hQo
  show Go p e below Qo s₁ (mkL r1 m 0 #[sR r1, sJ j1, zS, sR r3, sJ j2, zS] [])
  refine Go.of (fun t k => XS.aloadN X0.here hx rfl (hb hby d77_0) rfl rfl k) ?_
  obtain ⟨T1, X1, e1, st1⟩ := getF X0 hx hZ hown (host := "") (Or.inl (wk hw 39 rfl)) Via.refl rfl m2 (g := (mkL r1 m 1 #[sR r1, sJ j1, zS, sR r3, sJ j2, zS] [(.ref r1)])) rfl rfl (hb hby d77_1)
  refine Go.of st1 ?_
  show Go p e below Qo T1 (mkL r1 m 4 #[sR r1, sJ j1, zS, sR r3, sJ j2, zS] [(.ref fr)])
  refine Go.of (fun t k => XS.ifnullNo X1.here hx rfl (hb hby d77_4) rfl k) ?_
  refine Go.of (fun t k => XS.lloadN X1.here hx rfl (hb hby d77_7) rfl  k) ?_
  refine Go.of (fun t k => XS.aloadN X1.here hx rfl (hb hby d77_8) rfl rfl k) ?_
  obtain ⟨T2, X2, e2, st2⟩ := getF X1 hx hZ hown (host := "") (Or.inl (wk hw 46 rfl)) Via.refl e1 m3 (g := (mkL r1 m 9 #[sR r1, sJ j1, zS, sR r3, sJ j2, zS] [(.ref r1), (.long j1)])) rfl rfl (hb hby d77_9)
  refine Go.of st2 ?_
  show Go p e below Qo T2 (mkL r1 m 12 #[sR r1, sJ j1, zS, sR r3, sJ j2, zS] [(.long fs), (.long j1)])
  refine Go.of (fun t k => XS.lcmp X2.here hx rfl (hb hby d77_12) rfl k) ?_
  by_cases hc13_3 : j1 < fs
  · refine Go.of (fun t k => XS.ifNo X2.here hx rfl (hb hby d77_13) rfl ((if0 _ _).trans (tlt ((lw_lt j1 fs).mpr hc13_3)).2.1) k) ?_
    refine Go.of (fun t k => XS.aloadN X2.here hx rfl (hb hby d77_16) rfl rfl k) ?_
    refine Go.of (fun t k => XS.aloadN X2.here hx rfl (hb hby d77_17) rfl rfl k) ?_
    obtain ⟨T4, h4, X4, e4, W4, st4⟩ := putF X2 hx hZ hown (host := "") (Or.inl (wk hw 39 rfl)) Via.refl e2 m2 m0 (Or.inl (wk hw 40 rfl)) (wk hw 26 rfl) (ty := (.object kA)) (by decide) rfl rfl (g := (mkL r1 m 18 #[sR r1, sJ j1, zS, sR r3, sJ j2, zS] [(.ref r3), (.ref r1)])) rfl rfl (hb hby d77_18)
    have q5 := m0.wr W4
    have q6 : Fld Z h4 r1 kT "first" kD (.ref r3) := m2.same W4
    have q7 := m3.other W4 (Or.inr (sn_2 hw))
    have q8 := m4.other W4 (Or.inr (sn_3 hw))
    have q9 := m5.other W4 (Or.inr (sn_4 hw))
    have q10 := m6.other W4 (Or.inr (sn_5 hw))
    have q11 := m7.other W4 (Or.inr (sn_6 hw))
    have q12 := m8.other W4 (Or.inr (sn_7 hw))
    have q13 := m9.other W4 (Or.inr (sn_8 hw))
    have q14 := m10.wr W4
    have q15 := m11.other W4 (Or.inl ne_r3_r1)
    have Z16 : n0 ≤ h4.size := Nat.le_trans Z1 (Keep.of_wr W4).1
    have N17 := own_obSnoc X4 N0
    obtain ⟨Lx18, Xx18, Nx18⟩ := own_locsO X4 N17
    refine Go.of st4 ?_
    show Go p e below Qo T4 (mkL r1 m 21 #[sR r1, sJ j1, zS, sR r3, sJ j2, zS] [])
    refine Go.of (fun t k => XS.aloadN Xx18.here hx rfl (hb hby d77_21) rfl rfl k) ?_
    show Go p e below Qo T4 (mkL r1 m 22 #[sR r1, sJ j1, zS, sR r3, sJ j2, zS] [(.ref r1)])
    refine Go.of (fun t k => XS.lloadN Xx18.here hx rfl (hb hby d77_22) rfl  k) ?_
    obtain ⟨T19, h19, X19, e19, W19, st19⟩ := putF Xx18 hx hZ hown (host := "") (Or.inl (wk hw 46 rfl)) Via.refl e4 q7 q5 (Or.inl (wk hw 47 rfl)) (wk hw 26 rfl) (ty := .long) (by decide) rfl rfl (g := (mkL r1 m 23 #[sR r1, sJ j1, zS, sR r3, sJ j2, zS] [(.long j1), (.ref r1)])) rfl rfl (hb hby d77_23)
    have q20 := q5.wr W19
    have q21 := q6.other W19 (Or.inr (sn_9 hw))
    have q22 : Fld Z h19 r1 kT "firstSeed" "J" (.long j1) := q7.same W19
    have q23 := q8.other W19 (Or.inr (sn_10 hw))
    have q24 := q9.other W19 (Or.inr (sn_11 hw))
    have q25 := q10.other W19 (Or.inr (sn_12 hw))
    have q26 := q11.other W19 (Or.inr (sn_13 hw))
    have q27 := q12.other W19 (Or.inr (sn_14 hw))
    have q28 := q13.other W19 (Or.inr (sn_15 hw))
    have q29 := q14.wr W19
    have q30 := q15.other W19 (Or.inl ne_r3_r1)
    have Z31 : n0 ≤ h19.size := Nat.le_trans Z16 (Keep.of_wr W19).1
    have N32 := own_obSnoc X19 Nx18
    obtain ⟨Lx33, Xx33, Nx33⟩ := own_locsO X19 N32
    refine Go.of st19 ?_
    show Go p e below Qo T19 (mkL r1 m 26 #[sR r1, sJ j1, zS, sR r3, sJ j2, zS] [])
    refine Go.of (fun t k => XS.aloadN Xx33.here hx rfl (hb hby d77_26) rfl rfl k) ?_
    obtain ⟨ciq35, kiq35, iq35a, iq35b, iq35c⟩ := isOf hZ e19 q29
    obtain ⟨_, _, ⟨T34, L34, k34, n34⟩, -, X34, ⟨Lc34, hQ34, l34, y34, z34⟩, st34⟩ := Xx33.virtualBack hx (y := (⟨kA, "run", "()Ljava/lang/Object;"⟩ : MethodName)) (z := (⟨kA, "run", "()Ljava/lang/Object;"⟩ : MethodName)) hown (mvT hZ (wk hw 48 rfl)) (mvT hZ (wk hw 49 rfl)) (notFace_of_selects (args := #[]) (mvT hZ (wk hw 51 rfl))) (mvT hZ (wk hw 51 rfl)) (mvT hZ (wk hw 50 rfl)) (by decide) (backOf (W := 2) (rm82 l Z a0 hw [] r3 rr h19 n0 Z31 q30) hZ (wk hw 52 rfl) (wk hw 2 rfl) (by decide) (by decide)) iq35a iq35c (g := (mkL r1 m 27 #[sR r1, sJ j1, zS, sR r3, sJ j2, zS] [(.ref r3)])) rfl (by rw [hml]; rfl) (Steps.refl _) (argsL := []) (rest := []) (lenOf pd_1 rfl) rfl (by show 2 * 1 + _ ≤ _; exact Nat.le_of_eq rfl) (hb hby d77_27) (fun _ _ => ⟨rfl, e19, (by decide : 0 + 0 ≤ _), (by decide : 0 + 0 ≤ _)⟩)
    dsimp only [Pt.U, Pt.locs, Pt.cells, Pt.slots] at X34 l34 y34 z34 st34 hQ34
    subst l34 y34 z34
    replace X34 := own_cs X34 (c' := 0) (s' := 0) (by decide) (by decide)
    obtain ⟨rfl, N36, eh37⟩ := hQ34
    subst N36
    have N38 := own_obNil2 Nx33
    refine Go.via st34 ?_
    obtain ⟨Lx39, Xx39, Nx39⟩ := own_locsO X34 N38
    show Go p e below Qo T34 (mkL r1 m 30 #[sR r1, sJ j1, zS, sR r3, sJ j2, zS] [(.ref rr)])
    refine Go.of (fun t k => XS.ifnonnullYes Xx39.here hx rfl (pc0 := 30) (pc' := 34) rfl (hb hby d77_30) rfl (by decide) (by decide) k) ?_
    refine Go.of (fun t k => XS.aloadN Xx39.here hx rfl (hb hby d77_34) rfl rfl k) ?_
    obtain ⟨T40, X40, e40, st40⟩ := getF Xx39 hx hZ hown (host := "") (Or.inl (wk hw 37 rfl)) Via.refl eh37 q23 (g := (mkL r1 m 35 #[sR r1, sJ j1, zS, sR r3, sJ j2, zS] [(.ref r1)])) rfl rfl (hb hby d77_35)
    refine Go.of st40 ?_
    show Go p e below Qo T40 (mkL r1 m 38 #[sR r1, sJ j1, zS, sR r3, sJ j2, zS] [(.ref br)])
    refine Go.of (fun t k => XS.ifnullNo X40.here hx rfl (hb hby d77_38) rfl k) ?_
    refine Go.of (fun t k => XS.lload X40.here hx rfl (hb hby d77_41) rfl  k) ?_
    show Go p e below Qo T40 (mkL r1 m 43 #[sR r1, sJ j1, zS, sR r3, sJ j2, zS] [(.long j2)])
    refine Go.of (fun t k => XS.aloadN X40.here hx rfl (hb hby d77_43) rfl rfl k) ?_
    obtain ⟨T41, X41, e41, st41⟩ := getF X40 hx hZ hown (host := "") (Or.inl (wk hw 55 rfl)) Via.refl e40 q25 (g := (mkL r1 m 44 #[sR r1, sJ j1, zS, sR r3, sJ j2, zS] [(.ref r1), (.long j2)])) rfl rfl (hb hby d77_44)
    refine Go.of st41 ?_
    show Go p e below Qo T41 (mkL r1 m 47 #[sR r1, sJ j1, zS, sR r3, sJ j2, zS] [(.long bp), (.long j2)])
    refine Go.of (fun t k => XS.lcmp X41.here hx rfl (hb hby d77_47) rfl k) ?_
    by_cases hc48_42 : j2 < bp
    · refine Go.of (fun t k => XS.ifYes X41.here hx rfl (pc0 := 48) (pc' := 70) rfl (hb hby d77_48) rfl ((if0 _ _).trans (tlt ((lw_lt j2 bp).mpr hc48_42)).1) (by decide) (by decide) k) ?_
      show Go p e below Qo T41 (mkL r1 m 70 #[sR r1, sJ j1, zS, sR r3, sJ j2, zS] [])
      refine Go.of (fun t k => XS.aloadN X41.here hx rfl (hb hby d77_70) rfl rfl k) ?_
      refine Go.of (fun t k => XS.aloadN X41.here hx rfl (hb hby d77_71) rfl rfl k) ?_
      obtain ⟨T43, h43, X43, e43, W43, st43⟩ := putF X41 hx hZ hown (host := "") (Or.inl (wk hw 37 rfl)) Via.refl e41 q23 q20 (Or.inl (wk hw 38 rfl)) (wk hw 26 rfl) (ty := (.object kA)) (by decide) rfl rfl (g := (mkL r1 m 72 #[sR r1, sJ j1, zS, sR r3, sJ j2, zS] [(.ref r3), (.ref r1)])) rfl rfl (hb hby d77_72)
      have q44 := q20.wr W43
      have q45 := q21.other W43 (Or.inr (sn_16 hw))
      have q46 := q22.other W43 (Or.inr (sn_17 hw))
      have q47 : Fld Z h43 r1 kT "best" kD (.ref r3) := q23.same W43
      have q48 := q24.other W43 (Or.inr (sn_18 hw))
      have q49 := q25.other W43 (Or.inr (sn_19 hw))
      have q50 := q26.other W43 (Or.inr (sn_20 hw))
      have q51 := q27.other W43 (Or.inr (sn_21 hw))
      have q52 := q28.other W43 (Or.inr (sn_22 hw))
      have q53 := q29.wr W43
      have q54 := q30.other W43 (Or.inl ne_r3_r1)
      have Z55 : n0 ≤ h43.size := Nat.le_trans Z31 (Keep.of_wr W43).1
      have N56 := own_obSnoc X43 Nx39
      obtain ⟨Lx57, Xx57, Nx57⟩ := own_locsO X43 N56
      refine Go.of st43 ?_
      show Go p e below Qo T43 (mkL r1 m 75 #[sR r1, sJ j1, zS, sR r3, sJ j2, zS] [])
      refine Go.of (fun t k => XS.aloadN Xx57.here hx rfl (hb hby d77_75) rfl rfl k) ?_
      refine Go.of (fun t k => XS.lloadN Xx57.here hx rfl (hb hby d77_76) rfl  k) ?_
      obtain ⟨T58, h58, X58, e58, W58, st58⟩ := putF Xx57 hx hZ hown (host := "") (Or.inl (wk hw 53 rfl)) Via.refl e43 q48 q44 (Or.inl (wk hw 54 rfl)) (wk hw 26 rfl) (ty := .long) (by decide) rfl rfl (g := (mkL r1 m 77 #[sR r1, sJ j1, zS, sR r3, sJ j2, zS] [(.long j1), (.ref r1)])) rfl rfl (hb hby d77_77)
      have q59 := q44.wr W58
      have q60 := q45.other W58 (Or.inr (sn_23 hw))
      have q61 := q46.other W58 (Or.inr (sn_24 hw))
      have q62 := q47.other W58 (Or.inr (sn_25 hw))
      have q63 : Fld Z h58 r1 kT "bestSeed" "J" (.long j1) := q48.same W58
      have q64 := q49.other W58 (Or.inr (sn_26 hw))
      have q65 := q50.other W58 (Or.inr (sn_27 hw))
      have q66 := q51.other W58 (Or.inr (sn_28 hw))
      have q67 := q52.other W58 (Or.inr (sn_29 hw))
      have q68 := q53.wr W58
      have q69 := q54.other W58 (Or.inl ne_r3_r1)
      have Z70 : n0 ≤ h58.size := Nat.le_trans Z55 (Keep.of_wr W58).1
      have N71 := own_obSnoc X58 Nx57
      obtain ⟨Lx72, Xx72, Nx72⟩ := own_locsO X58 N71
      refine Go.of st58 ?_
      show Go p e below Qo T58 (mkL r1 m 80 #[sR r1, sJ j1, zS, sR r3, sJ j2, zS] [])
      refine Go.of (fun t k => XS.aloadN Xx72.here hx rfl (hb hby d77_80) rfl rfl k) ?_
      refine Go.of (fun t k => XS.lload Xx72.here hx rfl (hb hby d77_81) rfl  k) ?_
      show Go p e below Qo T58 (mkL r1 m 83 #[sR r1, sJ j1, zS, sR r3, sJ j2, zS] [(.long j2), (.ref r1)])
      obtain ⟨T73, h73, X73, e73, W73, st73⟩ := putF Xx72 hx hZ hown (host := "") (Or.inl (wk hw 55 rfl)) Via.refl e58 q64 q59 (Or.inl (wk hw 56 rfl)) (wk hw 26 rfl) (ty := .long) (by decide) rfl rfl (g := (mkL r1 m 83 #[sR r1, sJ j1, zS, sR r3, sJ j2, zS] [(.long j2), (.ref r1)])) rfl rfl (hb hby d77_83)
      have q74 := q59.wr W73
      have q75 := q60.other W73 (Or.inr (sn_30 hw))
      have q76 := q61.other W73 (Or.inr (sn_31 hw))
      have q77 := q62.other W73 (Or.inr (sn_32 hw))
      have q78 := q63.other W73 (Or.inr (sn_33 hw))
      have q79 : Fld Z h73 r1 kT "bestPenalty" "J" (.long j2) := q64.same W73
      have q80 := q65.other W73 (Or.inr (sn_34 hw))
      have q81 := q66.other W73 (Or.inr (sn_35 hw))
      have q82 := q67.other W73 (Or.inr (sn_36 hw))
      have q83 := q68.wr W73
      have q84 := q69.other W73 (Or.inl ne_r3_r1)
      have Z85 : n0 ≤ h73.size := Nat.le_trans Z70 (Keep.of_wr W73).1
      have N86 := own_obSnoc X73 Nx72
      obtain ⟨Lx87, Xx87, Nx87⟩ := own_locsO X73 N86
      refine Go.of st73 ?_
      show Go p e below Qo T73 (mkL r1 m 86 #[sR r1, sJ j1, zS, sR r3, sJ j2, zS] [])
      refine Go.of (fun t k => XS.aloadN Xx87.here hx rfl (hb hby d77_86) rfl rfl k) ?_
      refine Go.of (fun t k => XS.aloadN Xx87.here hx rfl (hb hby d77_87) rfl rfl k) ?_
      obtain ⟨T88, X88, e88, st88⟩ := getF Xx87 hx hZ hown (host := "") (Or.inl (wk hw 57 rfl)) Via.refl e73 q80 (g := (mkL r1 m 88 #[sR r1, sJ j1, zS, sR r3, sJ j2, zS] [(.ref r1), (.ref r1)])) rfl rfl (hb hby d77_88)
      refine Go.of st88 ?_
      show Go p e below Qo T88 (mkL r1 m 91 #[sR r1, sJ j1, zS, sR r3, sJ j2, zS] [(.long wp), (.ref r1)])
      refine Go.of (fun t k => XS.lload X88.here hx rfl (hb hby d77_91) rfl  k) ?_
      obtain ⟨_, _, ⟨T89, L89, k89, n89⟩, -, X89, ⟨Lc89, hQ89, l89, y89, z89⟩, st89⟩ := Jvm.LawKit.callS X88 hx (y := (⟨"java/lang/Math", "max", "(JJ)J"⟩ : MethodName)) hown (mvT hZ (wk hw 59 rfl)) (mvT hZ (wk hw 60 rfl)) (mvT hZ (wk hw 61 rfl)) (mvT hZ (wk hw 62 rfl)) (by decide) (backOf (W := 3) (rm9 l Z a0 hw [] wp j2 h73 n0 Z85 ) hZ (wk hw 62 rfl) (wk hw 61 rfl) (by decide) (by decide)) (g := (mkL r1 m 93 #[sR r1, sJ j1, zS, sR r3, sJ j2, zS] [(.long j2), (.long wp), (.ref r1)])) rfl (by rw [hml]; rfl) (argsL := [(.long wp), (.long j2)]) (rest := [(.ref r1)]) (lenOf pd_2 rfl) rfl (by show 2 * 1 + _ ≤ _; exact Nat.le_of_eq rfl) (hb hby d77_93) (fun _ _ => ⟨rfl, e88, (by decide : 0 + 0 ≤ _), (by decide : 0 + 0 ≤ _)⟩)
      dsimp only [Pt.U, Pt.locs, Pt.cells, Pt.slots] at X89 l89 y89 z89 st89 hQ89
      subst l89 y89 z89
      replace X89 := own_cs X89 (c' := 0) (s' := 0) (by decide) (by decide)
      obtain ⟨rfl, N90, eh91⟩ := hQ89
      subst N90
      have N92 := own_obNil2 Nx87
      refine Go.of st89 ?_
      obtain ⟨Lx93, Xx93, Nx93⟩ := own_locsO X89 N92
      show Go p e below Qo T89 (mkL r1 m 96 #[sR r1, sJ j1, zS, sR r3, sJ j2, zS] [(.long (F9 wp j2)), (.ref r1)])
      obtain ⟨T94, h94, X94, e94, W94, st94⟩ := putF Xx93 hx hZ hown (host := "") (Or.inl (wk hw 57 rfl)) Via.refl eh91 q80 q74 (Or.inl (wk hw 58 rfl)) (wk hw 26 rfl) (ty := .long) (by decide) rfl rfl (g := (mkL r1 m 96 #[sR r1, sJ j1, zS, sR r3, sJ j2, zS] [(.long (F9 wp j2)), (.ref r1)])) rfl rfl (hb hby d77_96)
      have q95 := q74.wr W94
      have q96 := q75.other W94 (Or.inr (sn_37 hw))
      have q97 := q76.other W94 (Or.inr (sn_38 hw))
      have q98 := q77.other W94 (Or.inr (sn_39 hw))
      have q99 := q78.other W94 (Or.inr (sn_40 hw))
      have q100 := q79.other W94 (Or.inr (sn_41 hw))
      have q101 : Fld Z h94 r1 kT "worstPenalty" "J" (.long (F9 wp j2)) := q80.same W94
      have q102 := q81.other W94 (Or.inr (sn_42 hw))
      have q103 := q82.other W94 (Or.inr (sn_43 hw))
      have q104 := q83.wr W94
      have q105 := q84.other W94 (Or.inl ne_r3_r1)
      have Z106 : n0 ≤ h94.size := Nat.le_trans Z85 (Keep.of_wr W94).1
      have N107 := own_obSnoc X94 Nx93
      obtain ⟨Lx108, Xx108, Nx108⟩ := own_locsO X94 N107
      refine Go.of st94 ?_
      show Go p e below Qo T94 (mkL r1 m 99 #[sR r1, sJ j1, zS, sR r3, sJ j2, zS] [])
      refine Go.of (fun t k => XS.aloadN Xx108.here hx rfl (hb hby d77_99) rfl rfl k) ?_
      refine Go.of (fun t k => XS.dup Xx108.here hx rfl (hb hby d77_100) rfl rfl k) ?_
      obtain ⟨T109, X109, e109, st109⟩ := getF Xx108 hx hZ hown (host := "") (Or.inl (wk hw 63 rfl)) Via.refl e94 q102 (g := (mkL r1 m 101 #[sR r1, sJ j1, zS, sR r3, sJ j2, zS] [(.ref r1), (.ref r1)])) rfl rfl (hb hby d77_101)
      refine Go.of st109 ?_
      show Go p e below Qo T109 (mkL r1 m 104 #[sR r1, sJ j1, zS, sR r3, sJ j2, zS] [(.long qs), (.ref r1)])
      refine Go.of (fun t k => XS.lload X109.here hx rfl (hb hby d77_104) rfl  k) ?_
      show Go p e below Qo T109 (mkL r1 m 106 #[sR r1, sJ j1, zS, sR r3, sJ j2, zS] [(.long j2), (.long qs), (.ref r1)])
      refine Go.of (fun t k => XS.ladd X109.here hx rfl (hb hby d77_106) rfl k) ?_
      obtain ⟨T110, h110, X110, e110, W110, st110⟩ := putF X109 hx hZ hown (host := "") (Or.inl (wk hw 63 rfl)) Via.refl e109 q102 q95 (Or.inl (wk hw 64 rfl)) (wk hw 26 rfl) (ty := .long) (by decide) rfl rfl (g := (mkL r1 m 107 #[sR r1, sJ j1, zS, sR r3, sJ j2, zS] [(.long (qs + j2)), (.ref r1)])) rfl rfl (hb hby d77_107)
      have q111 := q95.wr W110
      have q112 := q96.other W110 (Or.inr (sn_44 hw))
      have q113 := q97.other W110 (Or.inr (sn_45 hw))
      have q114 := q98.other W110 (Or.inr (sn_46 hw))
      have q115 := q99.other W110 (Or.inr (sn_47 hw))
      have q116 := q100.other W110 (Or.inr (sn_48 hw))
      have q117 := q101.other W110 (Or.inr (sn_49 hw))
      have q118 : Fld Z h110 r1 kT "penaltySum" "J" (.long (qs + j2)) := q102.same W110
      have q119 := q103.other W110 (Or.inr (sn_50 hw))
      have q120 := q104.wr W110
      have q121 := q105.other W110 (Or.inl ne_r3_r1)
      have Z122 : n0 ≤ h110.size := Nat.le_trans Z106 (Keep.of_wr W110).1
      have N123 := own_obSnoc X110 Nx108
      obtain ⟨Lx124, Xx124, Nx124⟩ := own_locsO X110 N123
      refine Go.of st110 ?_
      show Go p e below Qo T110 (mkL r1 m 110 #[sR r1, sJ j1, zS, sR r3, sJ j2, zS] [])
      refine Go.of (fun t k => XS.aloadN Xx124.here hx rfl (hb hby d77_110) rfl rfl k) ?_
      refine Go.of (fun t k => XS.dup Xx124.here hx rfl (hb hby d77_111) rfl rfl k) ?_
      obtain ⟨T125, X125, e125, st125⟩ := getF Xx124 hx hZ hown (host := "") (Or.inl (wk hw 65 rfl)) Via.refl e110 q119 (g := (mkL r1 m 112 #[sR r1, sJ j1, zS, sR r3, sJ j2, zS] [(.ref r1), (.ref r1)])) rfl rfl (hb hby d77_112)
      refine Go.of st125 ?_
      show Go p e below Qo T125 (mkL r1 m 115 #[sR r1, sJ j1, zS, sR r3, sJ j2, zS] [(.int fc), (.ref r1)])
      refine Go.of (fun t k => XS.iconst X125.here hx rfl (hb hby d77_115) k) ?_
      refine Go.of (fun t k => XS.iadd X125.here hx rfl (hb hby d77_116) rfl k) ?_
      obtain ⟨T126, h126, X126, e126, W126, st126⟩ := putF X125 hx hZ hown (host := "") (Or.inl (wk hw 65 rfl)) Via.refl e125 q119 q111 (Or.inl (wk hw 66 rfl)) (wk hw 26 rfl) (ty := .int) (by decide) rfl rfl (g := (mkL r1 m 117 #[sR r1, sJ j1, zS, sR r3, sJ j2, zS] [(.int (fc + (1 : Int32))), (.ref r1)])) rfl rfl (hb hby d77_117)
      have q127 := q111.wr W126
      have q128 := q112.other W126 (Or.inr (sn_51 hw))
      have q129 := q113.other W126 (Or.inr (sn_52 hw))
      have q130 := q114.other W126 (Or.inr (sn_53 hw))
      have q131 := q115.other W126 (Or.inr (sn_54 hw))
      have q132 := q116.other W126 (Or.inr (sn_55 hw))
      have q133 := q117.other W126 (Or.inr (sn_56 hw))
      have q134 := q118.other W126 (Or.inr (sn_57 hw))
      have q135 : Fld Z h126 r1 kT "feasibleRuns" "I" (.int (fc + (1 : Int32))) := q119.same W126
      have q136 := q120.wr W126
      have q137 := q121.other W126 (Or.inl ne_r3_r1)
      have Z138 : n0 ≤ h126.size := Nat.le_trans Z122 (Keep.of_wr W126).1
      have N139 := own_obSnoc X126 Nx124
      obtain ⟨Lx140, Xx140, Nx140⟩ := own_locsO X126 N139
      refine Go.of st126 ?_
      show Go p e below Qo T126 (mkL r1 m 120 #[sR r1, sJ j1, zS, sR r3, sJ j2, zS] [])
      refine own_retS Xx140 hx Bd.object Bd.enterable Bd.synchronized Bd.returns (hb hby d77_120) (fun u hM hF => ?_)
      rw [e126] at hM
      exact hQo _ _ _ ⟨(F9 wp j2), (qs + j2), (fc + (1 : Int32)), rfl, own_obFr Nx140 g_r1, own_keepS hh hF Nx140, (by exact q127.mon hM), own_monU hh hF f1, (by rw [if_pos hc13_3]; exact q128.mon hM), (by rw [if_pos hc13_3]; exact q129.mon hM), (by rw [if_pos (Or.inl hc48_42)]; exact q130.mon hM), (by rw [if_pos (Or.inl hc48_42)]; exact q131.mon hM), (by rw [if_pos (Or.inl hc48_42)]; exact q132.mon hM), (by exact q133.mon hM), (by exact q134.mon hM), (by exact q135.mon hM)⟩ (own_mono hF (by decide) (by decide))
    refine Go.of (fun t k => XS.ifNo X41.here hx rfl (hb hby d77_48) rfl ((if0 _ _).trans (flt (fun z => hc48_42 ((lw_lt j2 bp).mp z))).1) k) ?_
    show Go p e below Qo T41 (mkL r1 m 51 #[sR r1, sJ j1, zS, sR r3, sJ j2, zS] [])
    refine Go.of (fun t k => XS.lload X41.here hx rfl (hb hby d77_51) rfl  k) ?_
    refine Go.of (fun t k => XS.aloadN X41.here hx rfl (hb hby d77_53) rfl rfl k) ?_
    obtain ⟨T141, X141, e141, st141⟩ := getF X41 hx hZ hown (host := "") (Or.inl (wk hw 55 rfl)) Via.refl e41 q25 (g := (mkL r1 m 54 #[sR r1, sJ j1, zS, sR r3, sJ j2, zS] [(.ref r1), (.long j2)])) rfl rfl (hb hby d77_54)
    refine Go.of st141 ?_
    show Go p e below Qo T141 (mkL r1 m 57 #[sR r1, sJ j1, zS, sR r3, sJ j2, zS] [(.long bp), (.long j2)])
    refine Go.of (fun t k => XS.lcmp X141.here hx rfl (hb hby d77_57) rfl k) ?_
    by_cases hc58_142 : j2 = bp
    · refine Go.of (fun t k => XS.ifNo X141.here hx rfl (hb hby d77_58) rfl ((if0 _ _).trans (teq ((lw_eq j2 bp).mpr hc58_142)).2) k) ?_
      refine Go.of (fun t k => XS.lloadN X141.here hx rfl (hb hby d77_61) rfl  k) ?_
      refine Go.of (fun t k => XS.aloadN X141.here hx rfl (hb hby d77_62) rfl rfl k) ?_
      obtain ⟨T143, X143, e143, st143⟩ := getF X141 hx hZ hown (host := "") (Or.inl (wk hw 53 rfl)) Via.refl e141 q24 (g := (mkL r1 m 63 #[sR r1, sJ j1, zS, sR r3, sJ j2, zS] [(.ref r1), (.long j1)])) rfl rfl (hb hby d77_63)
      refine Go.of st143 ?_
      show Go p e below Qo T143 (mkL r1 m 66 #[sR r1, sJ j1, zS, sR r3, sJ j2, zS] [(.long bs), (.long j1)])
      refine Go.of (fun t k => XS.lcmp X143.here hx rfl (hb hby d77_66) rfl k) ?_
      by_cases hc67_144 : j1 < bs
      · refine Go.of (fun t k => XS.ifNo X143.here hx rfl (hb hby d77_67) rfl ((if0 _ _).trans (tlt ((lw_lt j1 bs).mpr hc67_144)).2.1) k) ?_
        refine Go.of (fun t k => XS.aloadN X143.here hx rfl (hb hby d77_70) rfl rfl k) ?_
        refine Go.of (fun t k => XS.aloadN X143.here hx rfl (hb hby d77_71) rfl rfl k) ?_
        obtain ⟨T145, h145, X145, e145, W145, st145⟩ := putF X143 hx hZ hown (host := "") (Or.inl (wk hw 37 rfl)) Via.refl e143 q23 q20 (Or.inl (wk hw 38 rfl)) (wk hw 26 rfl) (ty := (.object kA)) (by decide) rfl rfl (g := (mkL r1 m 72 #[sR r1, sJ j1, zS, sR r3, sJ j2, zS] [(.ref r3), (.ref r1)])) rfl rfl (hb hby d77_72)
        have q146 := q20.wr W145
        have q147 := q21.other W145 (Or.inr (sn_16 hw))
        have q148 := q22.other W145 (Or.inr (sn_17 hw))
        have q149 : Fld Z h145 r1 kT "best" kD (.ref r3) := q23.same W145
        have q150 := q24.other W145 (Or.inr (sn_18 hw))
        have q151 := q25.other W145 (Or.inr (sn_19 hw))
        have q152 := q26.other W145 (Or.inr (sn_20 hw))
        have q153 := q27.other W145 (Or.inr (sn_21 hw))
        have q154 := q28.other W145 (Or.inr (sn_22 hw))
        have q155 := q29.wr W145
        have q156 := q30.other W145 (Or.inl ne_r3_r1)
        have Z157 : n0 ≤ h145.size := Nat.le_trans Z31 (Keep.of_wr W145).1
        have N158 := own_obSnoc X145 Nx39
        obtain ⟨Lx159, Xx159, Nx159⟩ := own_locsO X145 N158
        refine Go.of st145 ?_
        show Go p e below Qo T145 (mkL r1 m 75 #[sR r1, sJ j1, zS, sR r3, sJ j2, zS] [])
        refine Go.of (fun t k => XS.aloadN Xx159.here hx rfl (hb hby d77_75) rfl rfl k) ?_
        refine Go.of (fun t k => XS.lloadN Xx159.here hx rfl (hb hby d77_76) rfl  k) ?_
        show Go p e below Qo T145 (mkL r1 m 77 #[sR r1, sJ j1, zS, sR r3, sJ j2, zS] [(.long j1), (.ref r1)])
        obtain ⟨T160, h160, X160, e160, W160, st160⟩ := putF Xx159 hx hZ hown (host := "") (Or.inl (wk hw 53 rfl)) Via.refl e145 q150 q146 (Or.inl (wk hw 54 rfl)) (wk hw 26 rfl) (ty := .long) (by decide) rfl rfl (g := (mkL r1 m 77 #[sR r1, sJ j1, zS, sR r3, sJ j2, zS] [(.long j1), (.ref r1)])) rfl rfl (hb hby d77_77)
        have q161 := q146.wr W160
        have q162 := q147.other W160 (Or.inr (sn_23 hw))
        have q163 := q148.other W160 (Or.inr (sn_24 hw))
        have q164 := q149.other W160 (Or.inr (sn_25 hw))
        have q165 : Fld Z h160 r1 kT "bestSeed" "J" (.long j1) := q150.same W160
        have q166 := q151.other W160 (Or.inr (sn_26 hw))
        have q167 := q152.other W160 (Or.inr (sn_27 hw))
        have q168 := q153.other W160 (Or.inr (sn_28 hw))
        have q169 := q154.other W160 (Or.inr (sn_29 hw))
        have q170 := q155.wr W160
        have q171 := q156.other W160 (Or.inl ne_r3_r1)
        have Z172 : n0 ≤ h160.size := Nat.le_trans Z157 (Keep.of_wr W160).1
        have N173 := own_obSnoc X160 Nx159
        obtain ⟨Lx174, Xx174, Nx174⟩ := own_locsO X160 N173
        refine Go.of st160 ?_
        show Go p e below Qo T160 (mkL r1 m 80 #[sR r1, sJ j1, zS, sR r3, sJ j2, zS] [])
        refine Go.of (fun t k => XS.aloadN Xx174.here hx rfl (hb hby d77_80) rfl rfl k) ?_
        refine Go.of (fun t k => XS.lload Xx174.here hx rfl (hb hby d77_81) rfl  k) ?_
        obtain ⟨T175, h175, X175, e175, W175, st175⟩ := putF Xx174 hx hZ hown (host := "") (Or.inl (wk hw 55 rfl)) Via.refl e160 q166 q161 (Or.inl (wk hw 56 rfl)) (wk hw 26 rfl) (ty := .long) (by decide) rfl rfl (g := (mkL r1 m 83 #[sR r1, sJ j1, zS, sR r3, sJ j2, zS] [(.long j2), (.ref r1)])) rfl rfl (hb hby d77_83)
        have q176 := q161.wr W175
        have q177 := q162.other W175 (Or.inr (sn_30 hw))
        have q178 := q163.other W175 (Or.inr (sn_31 hw))
        have q179 := q164.other W175 (Or.inr (sn_32 hw))
        have q180 := q165.other W175 (Or.inr (sn_33 hw))
        have q181 : Fld Z h175 r1 kT "bestPenalty" "J" (.long j2) := q166.same W175
        have q182 := q167.other W175 (Or.inr (sn_34 hw))
        have q183 := q168.other W175 (Or.inr (sn_35 hw))
        have q184 := q169.other W175 (Or.inr (sn_36 hw))
        have q185 := q170.wr W175
        have q186 := q171.other W175 (Or.inl ne_r3_r1)
        have Z187 : n0 ≤ h175.size := Nat.le_trans Z172 (Keep.of_wr W175).1
        have N188 := own_obSnoc X175 Nx174
        obtain ⟨Lx189, Xx189, Nx189⟩ := own_locsO X175 N188
        refine Go.of st175 ?_
        show Go p e below Qo T175 (mkL r1 m 86 #[sR r1, sJ j1, zS, sR r3, sJ j2, zS] [])
        refine Go.of (fun t k => XS.aloadN Xx189.here hx rfl (hb hby d77_86) rfl rfl k) ?_
        refine Go.of (fun t k => XS.aloadN Xx189.here hx rfl (hb hby d77_87) rfl rfl k) ?_
        obtain ⟨T190, X190, e190, st190⟩ := getF Xx189 hx hZ hown (host := "") (Or.inl (wk hw 57 rfl)) Via.refl e175 q182 (g := (mkL r1 m 88 #[sR r1, sJ j1, zS, sR r3, sJ j2, zS] [(.ref r1), (.ref r1)])) rfl rfl (hb hby d77_88)
        refine Go.of st190 ?_
        show Go p e below Qo T190 (mkL r1 m 91 #[sR r1, sJ j1, zS, sR r3, sJ j2, zS] [(.long wp), (.ref r1)])
        refine Go.of (fun t k => XS.lload X190.here hx rfl (hb hby d77_91) rfl  k) ?_
        obtain ⟨_, _, ⟨T191, L191, k191, n191⟩, -, X191, ⟨Lc191, hQ191, l191, y191, z191⟩, st191⟩ := Jvm.LawKit.callS X190 hx (y := (⟨"java/lang/Math", "max", "(JJ)J"⟩ : MethodName)) hown (mvT hZ (wk hw 59 rfl)) (mvT hZ (wk hw 60 rfl)) (mvT hZ (wk hw 61 rfl)) (mvT hZ (wk hw 62 rfl)) (by decide) (backOf (W := 3) (rm9 l Z a0 hw [] wp j2 h175 n0 Z187 ) hZ (wk hw 62 rfl) (wk hw 61 rfl) (by decide) (by decide)) (g := (mkL r1 m 93 #[sR r1, sJ j1, zS, sR r3, sJ j2, zS] [(.long j2), (.long wp), (.ref r1)])) rfl (by rw [hml]; rfl) (argsL := [(.long wp), (.long j2)]) (rest := [(.ref r1)]) (lenOf pd_2 rfl) rfl (by show 2 * 1 + _ ≤ _; exact Nat.le_of_eq rfl) (hb hby d77_93) (fun _ _ => ⟨rfl, e190, (by decide : 0 + 0 ≤ _), (by decide : 0 + 0 ≤ _)⟩)
        dsimp only [Pt.U, Pt.locs, Pt.cells, Pt.slots] at X191 l191 y191 z191 st191 hQ191
        subst l191 y191 z191
        replace X191 := own_cs X191 (c' := 0) (s' := 0) (by decide) (by decide)
        obtain ⟨rfl, N192, eh193⟩ := hQ191
        subst N192
        have N194 := own_obNil2 Nx189
        refine Go.of st191 ?_
        obtain ⟨Lx195, Xx195, Nx195⟩ := own_locsO X191 N194
        show Go p e below Qo T191 (mkL r1 m 96 #[sR r1, sJ j1, zS, sR r3, sJ j2, zS] [(.long (F9 wp j2)), (.ref r1)])
        obtain ⟨T196, h196, X196, e196, W196, st196⟩ := putF Xx195 hx hZ hown (host := "") (Or.inl (wk hw 57 rfl)) Via.refl eh193 q182 q176 (Or.inl (wk hw 58 rfl)) (wk hw 26 rfl) (ty := .long) (by decide) rfl rfl (g := (mkL r1 m 96 #[sR r1, sJ j1, zS, sR r3, sJ j2, zS] [(.long (F9 wp j2)), (.ref r1)])) rfl rfl (hb hby d77_96)
        have q197 := q176.wr W196
        have q198 := q177.other W196 (Or.inr (sn_37 hw))
        have q199 := q178.other W196 (Or.inr (sn_38 hw))
        have q200 := q179.other W196 (Or.inr (sn_39 hw))
        have q201 := q180.other W196 (Or.inr (sn_40 hw))
        have q202 := q181.other W196 (Or.inr (sn_41 hw))
        have q203 : Fld Z h196 r1 kT "worstPenalty" "J" (.long (F9 wp j2)) := q182.same W196
        have q204 := q183.other W196 (Or.inr (sn_42 hw))
        have q205 := q184.other W196 (Or.inr (sn_43 hw))
        have q206 := q185.wr W196
        have q207 := q186.other W196 (Or.inl ne_r3_r1)
        have Z208 : n0 ≤ h196.size := Nat.le_trans Z187 (Keep.of_wr W196).1
        have N209 := own_obSnoc X196 Nx195
        obtain ⟨Lx210, Xx210, Nx210⟩ := own_locsO X196 N209
        refine Go.of st196 ?_
        show Go p e below Qo T196 (mkL r1 m 99 #[sR r1, sJ j1, zS, sR r3, sJ j2, zS] [])
        refine Go.of (fun t k => XS.aloadN Xx210.here hx rfl (hb hby d77_99) rfl rfl k) ?_
        show Go p e below Qo T196 (mkL r1 m 100 #[sR r1, sJ j1, zS, sR r3, sJ j2, zS] [(.ref r1)])
        refine Go.of (fun t k => XS.dup Xx210.here hx rfl (hb hby d77_100) rfl rfl k) ?_
        obtain ⟨T211, X211, e211, st211⟩ := getF Xx210 hx hZ hown (host := "") (Or.inl (wk hw 63 rfl)) Via.refl e196 q204 (g := (mkL r1 m 101 #[sR r1, sJ j1, zS, sR r3, sJ j2, zS] [(.ref r1), (.ref r1)])) rfl rfl (hb hby d77_101)
        refine Go.of st211 ?_
        show Go p e below Qo T211 (mkL r1 m 104 #[sR r1, sJ j1, zS, sR r3, sJ j2, zS] [(.long qs), (.ref r1)])
        refine Go.of (fun t k => XS.lload X211.here hx rfl (hb hby d77_104) rfl  k) ?_
        refine Go.of (fun t k => XS.ladd X211.here hx rfl (hb hby d77_106) rfl k) ?_
        obtain ⟨T212, h212, X212, e212, W212, st212⟩ := putF X211 hx hZ hown (host := "") (Or.inl (wk hw 63 rfl)) Via.refl e211 q204 q197 (Or.inl (wk hw 64 rfl)) (wk hw 26 rfl) (ty := .long) (by decide) rfl rfl (g := (mkL r1 m 107 #[sR r1, sJ j1, zS, sR r3, sJ j2, zS] [(.long (qs + j2)), (.ref r1)])) rfl rfl (hb hby d77_107)
        have q213 := q197.wr W212
        have q214 := q198.other W212 (Or.inr (sn_44 hw))
        have q215 := q199.other W212 (Or.inr (sn_45 hw))
        have q216 := q200.other W212 (Or.inr (sn_46 hw))
        have q217 := q201.other W212 (Or.inr (sn_47 hw))
        have q218 := q202.other W212 (Or.inr (sn_48 hw))
        have q219 := q203.other W212 (Or.inr (sn_49 hw))
        have q220 : Fld Z h212 r1 kT "penaltySum" "J" (.long (qs + j2)) := q204.same W212
        have q221 := q205.other W212 (Or.inr (sn_50 hw))
        have q222 := q206.wr W212
        have q223 := q207.other W212 (Or.inl ne_r3_r1)
        have Z224 : n0 ≤ h212.size := Nat.le_trans Z208 (Keep.of_wr W212).1
        have N225 := own_obSnoc X212 Nx210
        obtain ⟨Lx226, Xx226, Nx226⟩ := own_locsO X212 N225
        refine Go.of st212 ?_
        show Go p e below Qo T212 (mkL r1 m 110 #[sR r1, sJ j1, zS, sR r3, sJ j2, zS] [])
        refine Go.of (fun t k => XS.aloadN Xx226.here hx rfl (hb hby d77_110) rfl rfl k) ?_
        refine Go.of (fun t k => XS.dup Xx226.here hx rfl (hb hby d77_111) rfl rfl k) ?_
        obtain ⟨T227, X227, e227, st227⟩ := getF Xx226 hx hZ hown (host := "") (Or.inl (wk hw 65 rfl)) Via.refl e212 q221 (g := (mkL r1 m 112 #[sR r1, sJ j1, zS, sR r3, sJ j2, zS] [(.ref r1), (.ref r1)])) rfl rfl (hb hby d77_112)
        refine Go.of st227 ?_
        show Go p e below Qo T227 (mkL r1 m 115 #[sR r1, sJ j1, zS, sR r3, sJ j2, zS] [(.int fc), (.ref r1)])
        refine Go.of (fun t k => XS.iconst X227.here hx rfl (hb hby d77_115) k) ?_
        show Go p e below Qo T227 (mkL r1 m 116 #[sR r1, sJ j1, zS, sR r3, sJ j2, zS] [(.int (1 : Int32)), (.int fc), (.ref r1)])
        refine Go.of (fun t k => XS.iadd X227.here hx rfl (hb hby d77_116) rfl k) ?_
        obtain ⟨T228, h228, X228, e228, W228, st228⟩ := putF X227 hx hZ hown (host := "") (Or.inl (wk hw 65 rfl)) Via.refl e227 q221 q213 (Or.inl (wk hw 66 rfl)) (wk hw 26 rfl) (ty := .int) (by decide) rfl rfl (g := (mkL r1 m 117 #[sR r1, sJ j1, zS, sR r3, sJ j2, zS] [(.int (fc + (1 : Int32))), (.ref r1)])) rfl rfl (hb hby d77_117)
        have q229 := q213.wr W228
        have q230 := q214.other W228 (Or.inr (sn_51 hw))
        have q231 := q215.other W228 (Or.inr (sn_52 hw))
        have q232 := q216.other W228 (Or.inr (sn_53 hw))
        have q233 := q217.other W228 (Or.inr (sn_54 hw))
        have q234 := q218.other W228 (Or.inr (sn_55 hw))
        have q235 := q219.other W228 (Or.inr (sn_56 hw))
        have q236 := q220.other W228 (Or.inr (sn_57 hw))
        have q237 : Fld Z h228 r1 kT "feasibleRuns" "I" (.int (fc + (1 : Int32))) := q221.same W228
        have q238 := q222.wr W228
        have q239 := q223.other W228 (Or.inl ne_r3_r1)
        have Z240 : n0 ≤ h228.size := Nat.le_trans Z224 (Keep.of_wr W228).1
        have N241 := own_obSnoc X228 Nx226
        obtain ⟨Lx242, Xx242, Nx242⟩ := own_locsO X228 N241
        refine Go.of st228 ?_
        show Go p e below Qo T228 (mkL r1 m 120 #[sR r1, sJ j1, zS, sR r3, sJ j2, zS] [])
        refine own_retS Xx242 hx Bd.object Bd.enterable Bd.synchronized Bd.returns (hb hby d77_120) (fun u hM hF => ?_)
        rw [e228] at hM
        exact hQo _ _ _ ⟨(F9 wp j2), (qs + j2), (fc + (1 : Int32)), rfl, own_obFr Nx242 g_r1, own_keepS hh hF Nx242, (by exact q229.mon hM), own_monU hh hF f1, (by rw [if_pos hc13_3]; exact q230.mon hM), (by rw [if_pos hc13_3]; exact q231.mon hM), (by rw [if_pos (Or.inr ⟨hc58_142, hc67_144⟩)]; exact q232.mon hM), (by rw [if_pos (Or.inr ⟨hc58_142, hc67_144⟩)]; exact q233.mon hM), (by rw [if_pos (Or.inr ⟨hc58_142, hc67_144⟩)]; exact q234.mon hM), (by exact q235.mon hM), (by exact q236.mon hM), (by exact q237.mon hM)⟩ (own_mono hF (by decide) (by decide))
      refine Go.of (fun t k => XS.ifYes X143.here hx rfl (pc0 := 67) (pc' := 86) rfl (hb hby d77_67) rfl ((if0 _ _).trans (flt (fun z => hc67_144 ((lw_lt j1 bs).mp z))).2.1) (by decide) (by decide) k) ?_
      refine Go.of (fun t k => XS.aloadN X143.here hx rfl (hb hby d77_86) rfl rfl k) ?_
      refine Go.of (fun t k => XS.aloadN X143.here hx rfl (hb hby d77_87) rfl rfl k) ?_
      obtain ⟨T243, X243, e243, st243⟩ := getF X143 hx hZ hown (host := "") (Or.inl (wk hw 57 rfl)) Via.refl e143 q26 (g := (mkL r1 m 88 #[sR r1, sJ j1, zS, sR r3, sJ j2, zS] [(.ref r1), (.ref r1)])) rfl rfl (hb hby d77_88)
      refine Go.of st243 ?_
      show Go p e below Qo T243 (mkL r1 m 91 #[sR r1, sJ j1, zS, sR r3, sJ j2, zS] [(.long wp), (.ref r1)])
      refine Go.of (fun t k => XS.lload X243.here hx rfl (hb hby d77_91) rfl  k) ?_
      obtain ⟨_, _, ⟨T244, L244, k244, n244⟩, -, X244, ⟨Lc244, hQ244, l244, y244, z244⟩, st244⟩ := Jvm.LawKit.callS X243 hx (y := (⟨"java/lang/Math", "max", "(JJ)J"⟩ : MethodName)) hown (mvT hZ (wk hw 59 rfl)) (mvT hZ (wk hw 60 rfl)) (mvT hZ (wk hw 61 rfl)) (mvT hZ (wk hw 62 rfl)) (by decide) (backOf (W := 3) (rm9 l Z a0 hw [] wp j2 h19 n0 Z31 ) hZ (wk hw 62 rfl) (wk hw 61 rfl) (by decide) (by decide)) (g := (mkL r1 m 93 #[sR r1, sJ j1, zS, sR r3, sJ j2, zS] [(.long j2), (.long wp), (.ref r1)])) rfl (by rw [hml]; rfl) (argsL := [(.long wp), (.long j2)]) (rest := [(.ref r1)]) (lenOf pd_2 rfl) rfl (by show 2 * 1 + _ ≤ _; exact Nat.le_of_eq rfl) (hb hby d77_93) (fun _ _ => ⟨rfl, e243, (by decide : 0 + 0 ≤ _), (by decide : 0 + 0 ≤ _)⟩)
      dsimp only [Pt.U, Pt.locs, Pt.cells, Pt.slots] at X244 l244 y244 z244 st244 hQ244
      subst l244 y244 z244
      replace X244 := own_cs X244 (c' := 0) (s' := 0) (by decide) (by decide)
      obtain ⟨rfl, N245, eh246⟩ := hQ244
      subst N245
      have N247 := own_obNil2 Nx39
      refine Go.of st244 ?_
      obtain ⟨Lx248, Xx248, Nx248⟩ := own_locsO X244 N247
      show Go p e below Qo T244 (mkL r1 m 96 #[sR r1, sJ j1, zS, sR r3, sJ j2, zS] [(.long (F9 wp j2)), (.ref r1)])
      obtain ⟨T249, h249, X249, e249, W249, st249⟩ := putF Xx248 hx hZ hown (host := "") (Or.inl (wk hw 57 rfl)) Via.refl eh246 q26 q20 (Or.inl (wk hw 58 rfl)) (wk hw 26 rfl) (ty := .long) (by decide) rfl rfl (g := (mkL r1 m 96 #[sR r1, sJ j1, zS, sR r3, sJ j2, zS] [(.long (F9 wp j2)), (.ref r1)])) rfl rfl (hb hby d77_96)
      have q250 := q20.wr W249
      have q251 := q21.other W249 (Or.inr (sn_37 hw))
      have q252 := q22.other W249 (Or.inr (sn_38 hw))
      have q253 := q23.other W249 (Or.inr (sn_39 hw))
      have q254 := q24.other W249 (Or.inr (sn_40 hw))
      have q255 := q25.other W249 (Or.inr (sn_41 hw))
      have q256 : Fld Z h249 r1 kT "worstPenalty" "J" (.long (F9 wp j2)) := q26.same W249
      have q257 := q27.other W249 (Or.inr (sn_42 hw))
      have q258 := q28.other W249 (Or.inr (sn_43 hw))
      have q259 := q29.wr W249
      have q260 := q30.other W249 (Or.inl ne_r3_r1)
      have Z261 : n0 ≤ h249.size := Nat.le_trans Z31 (Keep.of_wr W249).1
      have N262 := own_obSnoc X249 Nx248
      obtain ⟨Lx263, Xx263, Nx263⟩ := own_locsO X249 N262
      refine Go.of st249 ?_
      show Go p e below Qo T249 (mkL r1 m 99 #[sR r1, sJ j1, zS, sR r3, sJ j2, zS] [])
      refine Go.of (fun t k => XS.aloadN Xx263.here hx rfl (hb hby d77_99) rfl rfl k) ?_
      show Go p e below Qo T249 (mkL r1 m 100 #[sR r1, sJ j1, zS, sR r3, sJ j2, zS] [(.ref r1)])
      refine Go.of (fun t k => XS.dup Xx263.here hx rfl (hb hby d77_100) rfl rfl k) ?_
      obtain ⟨T264, X264, e264, st264⟩ := getF Xx263 hx hZ hown (host := "") (Or.inl (wk hw 63 rfl)) Via.refl e249 q257 (g := (mkL r1 m 101 #[sR r1, sJ j1, zS, sR r3, sJ j2, zS] [(.ref r1), (.ref r1)])) rfl rfl (hb hby d77_101)
      refine Go.of st264 ?_
      show Go p e below Qo T264 (mkL r1 m 104 #[sR r1, sJ j1, zS, sR r3, sJ j2, zS] [(.long qs), (.ref r1)])
      refine Go.of (fun t k => XS.lload X264.here hx rfl (hb hby d77_104) rfl  k) ?_
      refine Go.of (fun t k => XS.ladd X264.here hx rfl (hb hby d77_106) rfl k) ?_
      obtain ⟨T265, h265, X265, e265, W265, st265⟩ := putF X264 hx hZ hown (host := "") (Or.inl (wk hw 63 rfl)) Via.refl e264 q257 q250 (Or.inl (wk hw 64 rfl)) (wk hw 26 rfl) (ty := .long) (by decide) rfl rfl (g := (mkL r1 m 107 #[sR r1, sJ j1, zS, sR r3, sJ j2, zS] [(.long (qs + j2)), (.ref r1)])) rfl rfl (hb hby d77_107)
      have q266 := q250.wr W265
      have q267 := q251.other W265 (Or.inr (sn_44 hw))
      have q268 := q252.other W265 (Or.inr (sn_45 hw))
      have q269 := q253.other W265 (Or.inr (sn_46 hw))
      have q270 := q254.other W265 (Or.inr (sn_47 hw))
      have q271 := q255.other W265 (Or.inr (sn_48 hw))
      have q272 := q256.other W265 (Or.inr (sn_49 hw))
      have q273 : Fld Z h265 r1 kT "penaltySum" "J" (.long (qs + j2)) := q257.same W265
      have q274 := q258.other W265 (Or.inr (sn_50 hw))
      have q275 := q259.wr W265
      have q276 := q260.other W265 (Or.inl ne_r3_r1)
      have Z277 : n0 ≤ h265.size := Nat.le_trans Z261 (Keep.of_wr W265).1
      have N278 := own_obSnoc X265 Nx263
      obtain ⟨Lx279, Xx279, Nx279⟩ := own_locsO X265 N278
      refine Go.of st265 ?_
      show Go p e below Qo T265 (mkL r1 m 110 #[sR r1, sJ j1, zS, sR r3, sJ j2, zS] [])
      refine Go.of (fun t k => XS.aloadN Xx279.here hx rfl (hb hby d77_110) rfl rfl k) ?_
      refine Go.of (fun t k => XS.dup Xx279.here hx rfl (hb hby d77_111) rfl rfl k) ?_
      obtain ⟨T280, X280, e280, st280⟩ := getF Xx279 hx hZ hown (host := "") (Or.inl (wk hw 65 rfl)) Via.refl e265 q274 (g := (mkL r1 m 112 #[sR r1, sJ j1, zS, sR r3, sJ j2, zS] [(.ref r1), (.ref r1)])) rfl rfl (hb hby d77_112)
      refine Go.of st280 ?_
      show Go p e below Qo T280 (mkL r1 m 115 #[sR r1, sJ j1, zS, sR r3, sJ j2, zS] [(.int fc), (.ref r1)])
      refine Go.of (fun t k => XS.iconst X280.here hx rfl (hb hby d77_115) k) ?_
      show Go p e below Qo T280 (mkL r1 m 116 #[sR r1, sJ j1, zS, sR r3, sJ j2, zS] [(.int (1 : Int32)), (.int fc), (.ref r1)])
      refine Go.of (fun t k => XS.iadd X280.here hx rfl (hb hby d77_116) rfl k) ?_
      obtain ⟨T281, h281, X281, e281, W281, st281⟩ := putF X280 hx hZ hown (host := "") (Or.inl (wk hw 65 rfl)) Via.refl e280 q274 q266 (Or.inl (wk hw 66 rfl)) (wk hw 26 rfl) (ty := .int) (by decide) rfl rfl (g := (mkL r1 m 117 #[sR r1, sJ j1, zS, sR r3, sJ j2, zS] [(.int (fc + (1 : Int32))), (.ref r1)])) rfl rfl (hb hby d77_117)
      have q282 := q266.wr W281
      have q283 := q267.other W281 (Or.inr (sn_51 hw))
      have q284 := q268.other W281 (Or.inr (sn_52 hw))
      have q285 := q269.other W281 (Or.inr (sn_53 hw))
      have q286 := q270.other W281 (Or.inr (sn_54 hw))
      have q287 := q271.other W281 (Or.inr (sn_55 hw))
      have q288 := q272.other W281 (Or.inr (sn_56 hw))
      have q289 := q273.other W281 (Or.inr (sn_57 hw))
      have q290 : Fld Z h281 r1 kT "feasibleRuns" "I" (.int (fc + (1 : Int32))) := q274.same W281
      have q291 := q275.wr W281
      have q292 := q276.other W281 (Or.inl ne_r3_r1)
      have Z293 : n0 ≤ h281.size := Nat.le_trans Z277 (Keep.of_wr W281).1
      have N294 := own_obSnoc X281 Nx279
      obtain ⟨Lx295, Xx295, Nx295⟩ := own_locsO X281 N294
      refine Go.of st281 ?_
      show Go p e below Qo T281 (mkL r1 m 120 #[sR r1, sJ j1, zS, sR r3, sJ j2, zS] [])
      refine own_retS Xx295 hx Bd.object Bd.enterable Bd.synchronized Bd.returns (hb hby d77_120) (fun u hM hF => ?_)
      rw [e281] at hM
      exact hQo _ _ _ ⟨(F9 wp j2), (qs + j2), (fc + (1 : Int32)), rfl, own_obFr Nx295 g_r1, own_keepS hh hF Nx295, (by exact q282.mon hM), own_monU hh hF f1, (by rw [if_pos hc13_3]; exact q283.mon hM), (by rw [if_pos hc13_3]; exact q284.mon hM), (by rw [if_neg (fun q => q.elim hc48_42 (fun z => hc67_144 z.2))]; exact q285.mon hM), (by rw [if_neg (fun q => q.elim hc48_42 (fun z => hc67_144 z.2))]; exact q286.mon hM), (by rw [if_neg (fun q => q.elim hc48_42 (fun z => hc67_144 z.2))]; exact q287.mon hM), (by exact q288.mon hM), (by exact q289.mon hM), (by exact q290.mon hM)⟩ (own_mono hF (by decide) (by decide))
    refine Go.of (fun t k => XS.ifYes X141.here hx rfl (pc0 := 58) (pc' := 86) rfl (hb hby d77_58) rfl ((if0 _ _).trans (feq (fun z => hc58_142 ((lw_eq j2 bp).mp z))).2) (by decide) (by decide) k) ?_
    refine Go.of (fun t k => XS.aloadN X141.here hx rfl (hb hby d77_86) rfl rfl k) ?_
    refine Go.of (fun t k => XS.aloadN X141.here hx rfl (hb hby d77_87) rfl rfl k) ?_
    obtain ⟨T296, X296, e296, st296⟩ := getF X141 hx hZ hown (host := "") (Or.inl (wk hw 57 rfl)) Via.refl e141 q26 (g := (mkL r1 m 88 #[sR r1, sJ j1, zS, sR r3, sJ j2, zS] [(.ref r1), (.ref r1)])) rfl rfl (hb hby d77_88)
    refine Go.of st296 ?_
    show Go p e below Qo T296 (mkL r1 m 91 #[sR r1, sJ j1, zS, sR r3, sJ j2, zS] [(.long wp), (.ref r1)])
    refine Go.of (fun t k => XS.lload X296.here hx rfl (hb hby d77_91) rfl  k) ?_
    obtain ⟨_, _, ⟨T297, L297, k297, n297⟩, -, X297, ⟨Lc297, hQ297, l297, y297, z297⟩, st297⟩ := Jvm.LawKit.callS X296 hx (y := (⟨"java/lang/Math", "max", "(JJ)J"⟩ : MethodName)) hown (mvT hZ (wk hw 59 rfl)) (mvT hZ (wk hw 60 rfl)) (mvT hZ (wk hw 61 rfl)) (mvT hZ (wk hw 62 rfl)) (by decide) (backOf (W := 3) (rm9 l Z a0 hw [] wp j2 h19 n0 Z31 ) hZ (wk hw 62 rfl) (wk hw 61 rfl) (by decide) (by decide)) (g := (mkL r1 m 93 #[sR r1, sJ j1, zS, sR r3, sJ j2, zS] [(.long j2), (.long wp), (.ref r1)])) rfl (by rw [hml]; rfl) (argsL := [(.long wp), (.long j2)]) (rest := [(.ref r1)]) (lenOf pd_2 rfl) rfl (by show 2 * 1 + _ ≤ _; exact Nat.le_of_eq rfl) (hb hby d77_93) (fun _ _ => ⟨rfl, e296, (by decide : 0 + 0 ≤ _), (by decide : 0 + 0 ≤ _)⟩)
    dsimp only [Pt.U, Pt.locs, Pt.cells, Pt.slots] at X297 l297 y297 z297 st297 hQ297
    subst l297 y297 z297
    replace X297 := own_cs X297 (c' := 0) (s' := 0) (by decide) (by decide)
    obtain ⟨rfl, N298, eh299⟩ := hQ297
    subst N298
    have N300 := own_obNil2 Nx39
    refine Go.of st297 ?_
    obtain ⟨Lx301, Xx301, Nx301⟩ := own_locsO X297 N300
    show Go p e below Qo T297 (mkL r1 m 96 #[sR r1, sJ j1, zS, sR r3, sJ j2, zS] [(.long (F9 wp j2)), (.ref r1)])
    obtain ⟨T302, h302, X302, e302, W302, st302⟩ := putF Xx301 hx hZ hown (host := "") (Or.inl (wk hw 57 rfl)) Via.refl eh299 q26 q20 (Or.inl (wk hw 58 rfl)) (wk hw 26 rfl) (ty := .long) (by decide) rfl rfl (g := (mkL r1 m 96 #[sR r1, sJ j1, zS, sR r3, sJ j2, zS] [(.long (F9 wp j2)), (.ref r1)])) rfl rfl (hb hby d77_96)
    have q303 := q20.wr W302
    have q304 := q21.other W302 (Or.inr (sn_37 hw))
    have q305 := q22.other W302 (Or.inr (sn_38 hw))
    have q306 := q23.other W302 (Or.inr (sn_39 hw))
    have q307 := q24.other W302 (Or.inr (sn_40 hw))
    have q308 := q25.other W302 (Or.inr (sn_41 hw))
    have q309 : Fld Z h302 r1 kT "worstPenalty" "J" (.long (F9 wp j2)) := q26.same W302
    have q310 := q27.other W302 (Or.inr (sn_42 hw))
    have q311 := q28.other W302 (Or.inr (sn_43 hw))
    have q312 := q29.wr W302
    have q313 := q30.other W302 (Or.inl ne_r3_r1)
    have Z314 : n0 ≤ h302.size := Nat.le_trans Z31 (Keep.of_wr W302).1
    have N315 := own_obSnoc X302 Nx301
    obtain ⟨Lx316, Xx316, Nx316⟩ := own_locsO X302 N315
    refine Go.of st302 ?_
    show Go p e below Qo T302 (mkL r1 m 99 #[sR r1, sJ j1, zS, sR r3, sJ j2, zS] [])
    refine Go.of (fun t k => XS.aloadN Xx316.here hx rfl (hb hby d77_99) rfl rfl k) ?_
    show Go p e below Qo T302 (mkL r1 m 100 #[sR r1, sJ j1, zS, sR r3, sJ j2, zS] [(.ref r1)])
    refine Go.of (fun t k => XS.dup Xx316.here hx rfl (hb hby d77_100) rfl rfl k) ?_
    obtain ⟨T317, X317, e317, st317⟩ := getF Xx316 hx hZ hown (host := "") (Or.inl (wk hw 63 rfl)) Via.refl e302 q310 (g := (mkL r1 m 101 #[sR r1, sJ j1, zS, sR r3, sJ j2, zS] [(.ref r1), (.ref r1)])) rfl rfl (hb hby d77_101)
    refine Go.of st317 ?_
    show Go p e below Qo T317 (mkL r1 m 104 #[sR r1, sJ j1, zS, sR r3, sJ j2, zS] [(.long qs), (.ref r1)])
    refine Go.of (fun t k => XS.lload X317.here hx rfl (hb hby d77_104) rfl  k) ?_
    refine Go.of (fun t k => XS.ladd X317.here hx rfl (hb hby d77_106) rfl k) ?_
    obtain ⟨T318, h318, X318, e318, W318, st318⟩ := putF X317 hx hZ hown (host := "") (Or.inl (wk hw 63 rfl)) Via.refl e317 q310 q303 (Or.inl (wk hw 64 rfl)) (wk hw 26 rfl) (ty := .long) (by decide) rfl rfl (g := (mkL r1 m 107 #[sR r1, sJ j1, zS, sR r3, sJ j2, zS] [(.long (qs + j2)), (.ref r1)])) rfl rfl (hb hby d77_107)
    have q319 := q303.wr W318
    have q320 := q304.other W318 (Or.inr (sn_44 hw))
    have q321 := q305.other W318 (Or.inr (sn_45 hw))
    have q322 := q306.other W318 (Or.inr (sn_46 hw))
    have q323 := q307.other W318 (Or.inr (sn_47 hw))
    have q324 := q308.other W318 (Or.inr (sn_48 hw))
    have q325 := q309.other W318 (Or.inr (sn_49 hw))
    have q326 : Fld Z h318 r1 kT "penaltySum" "J" (.long (qs + j2)) := q310.same W318
    have q327 := q311.other W318 (Or.inr (sn_50 hw))
    have q328 := q312.wr W318
    have q329 := q313.other W318 (Or.inl ne_r3_r1)
    have Z330 : n0 ≤ h318.size := Nat.le_trans Z314 (Keep.of_wr W318).1
    have N331 := own_obSnoc X318 Nx316
    obtain ⟨Lx332, Xx332, Nx332⟩ := own_locsO X318 N331
    refine Go.of st318 ?_
    show Go p e below Qo T318 (mkL r1 m 110 #[sR r1, sJ j1, zS, sR r3, sJ j2, zS] [])
    refine Go.of (fun t k => XS.aloadN Xx332.here hx rfl (hb hby d77_110) rfl rfl k) ?_
    refine Go.of (fun t k => XS.dup Xx332.here hx rfl (hb hby d77_111) rfl rfl k) ?_
    obtain ⟨T333, X333, e333, st333⟩ := getF Xx332 hx hZ hown (host := "") (Or.inl (wk hw 65 rfl)) Via.refl e318 q327 (g := (mkL r1 m 112 #[sR r1, sJ j1, zS, sR r3, sJ j2, zS] [(.ref r1), (.ref r1)])) rfl rfl (hb hby d77_112)
    refine Go.of st333 ?_
    show Go p e below Qo T333 (mkL r1 m 115 #[sR r1, sJ j1, zS, sR r3, sJ j2, zS] [(.int fc), (.ref r1)])
    refine Go.of (fun t k => XS.iconst X333.here hx rfl (hb hby d77_115) k) ?_
    show Go p e below Qo T333 (mkL r1 m 116 #[sR r1, sJ j1, zS, sR r3, sJ j2, zS] [(.int (1 : Int32)), (.int fc), (.ref r1)])
    refine Go.of (fun t k => XS.iadd X333.here hx rfl (hb hby d77_116) rfl k) ?_
    obtain ⟨T334, h334, X334, e334, W334, st334⟩ := putF X333 hx hZ hown (host := "") (Or.inl (wk hw 65 rfl)) Via.refl e333 q327 q319 (Or.inl (wk hw 66 rfl)) (wk hw 26 rfl) (ty := .int) (by decide) rfl rfl (g := (mkL r1 m 117 #[sR r1, sJ j1, zS, sR r3, sJ j2, zS] [(.int (fc + (1 : Int32))), (.ref r1)])) rfl rfl (hb hby d77_117)
    have q335 := q319.wr W334
    have q336 := q320.other W334 (Or.inr (sn_51 hw))
    have q337 := q321.other W334 (Or.inr (sn_52 hw))
    have q338 := q322.other W334 (Or.inr (sn_53 hw))
    have q339 := q323.other W334 (Or.inr (sn_54 hw))
    have q340 := q324.other W334 (Or.inr (sn_55 hw))
    have q341 := q325.other W334 (Or.inr (sn_56 hw))
    have q342 := q326.other W334 (Or.inr (sn_57 hw))
    have q343 : Fld Z h334 r1 kT "feasibleRuns" "I" (.int (fc + (1 : Int32))) := q327.same W334
    have q344 := q328.wr W334
    have q345 := q329.other W334 (Or.inl ne_r3_r1)
    have Z346 : n0 ≤ h334.size := Nat.le_trans Z330 (Keep.of_wr W334).1
    have N347 := own_obSnoc X334 Nx332
    obtain ⟨Lx348, Xx348, Nx348⟩ := own_locsO X334 N347
    refine Go.of st334 ?_
    show Go p e below Qo T334 (mkL r1 m 120 #[sR r1, sJ j1, zS, sR r3, sJ j2, zS] [])
    refine own_retS Xx348 hx Bd.object Bd.enterable Bd.synchronized Bd.returns (hb hby d77_120) (fun u hM hF => ?_)
    rw [e334] at hM
    exact hQo _ _ _ ⟨(F9 wp j2), (qs + j2), (fc + (1 : Int32)), rfl, own_obFr Nx348 g_r1, own_keepS hh hF Nx348, (by exact q335.mon hM), own_monU hh hF f1, (by rw [if_pos hc13_3]; exact q336.mon hM), (by rw [if_pos hc13_3]; exact q337.mon hM), (by rw [if_neg (fun q => q.elim hc48_42 (fun z => hc58_142 z.1))]; exact q338.mon hM), (by rw [if_neg (fun q => q.elim hc48_42 (fun z => hc58_142 z.1))]; exact q339.mon hM), (by rw [if_neg (fun q => q.elim hc48_42 (fun z => hc58_142 z.1))]; exact q340.mon hM), (by exact q341.mon hM), (by exact q342.mon hM), (by exact q343.mon hM)⟩ (own_mono hF (by decide) (by decide))
  refine Go.of (fun t k => XS.ifYes X2.here hx rfl (pc0 := 13) (pc' := 26) rfl (hb hby d77_13) rfl ((if0 _ _).trans (flt (fun z => hc13_3 ((lw_lt j1 fs).mp z))).2.1) (by decide) (by decide) k) ?_
  refine Go.of (fun t k => XS.aloadN X2.here hx rfl (hb hby d77_26) rfl rfl k) ?_
  obtain ⟨ciq350, kiq350, iq350a, iq350b, iq350c⟩ := isOf hZ e2 m10
  obtain ⟨_, _, ⟨T349, L349, k349, n349⟩, -, X349, ⟨Lc349, hQ349, l349, y349, z349⟩, st349⟩ := X2.virtualBack hx (y := (⟨kA, "run", "()Ljava/lang/Object;"⟩ : MethodName)) (z := (⟨kA, "run", "()Ljava/lang/Object;"⟩ : MethodName)) hown (mvT hZ (wk hw 48 rfl)) (mvT hZ (wk hw 49 rfl)) (notFace_of_selects (args := #[]) (mvT hZ (wk hw 51 rfl))) (mvT hZ (wk hw 51 rfl)) (mvT hZ (wk hw 50 rfl)) (by decide) (backOf (W := 2) (rm82 l Z a0 hw [] r3 rr s₁.heap n0 Z1 m11) hZ (wk hw 52 rfl) (wk hw 2 rfl) (by decide) (by decide)) iq350a iq350c (g := (mkL r1 m 27 #[sR r1, sJ j1, zS, sR r3, sJ j2, zS] [(.ref r3)])) rfl (by rw [hml]; rfl) (Steps.refl _) (argsL := []) (rest := []) (lenOf pd_1 rfl) rfl (by show 2 * 1 + _ ≤ _; exact Nat.le_of_eq rfl) (hb hby d77_27) (fun _ _ => ⟨rfl, e2, (by decide : 0 + 0 ≤ _), (by decide : 0 + 0 ≤ _)⟩)
  dsimp only [Pt.U, Pt.locs, Pt.cells, Pt.slots] at X349 l349 y349 z349 st349 hQ349
  subst l349 y349 z349
  replace X349 := own_cs X349 (c' := 0) (s' := 0) (by decide) (by decide)
  obtain ⟨rfl, N351, eh352⟩ := hQ349
  subst N351
  have N353 := own_obNil2 N0
  refine Go.via st349 ?_
  obtain ⟨Lx354, Xx354, Nx354⟩ := own_locsO X349 N353
  show Go p e below Qo T349 (mkL r1 m 30 #[sR r1, sJ j1, zS, sR r3, sJ j2, zS] [(.ref rr)])
  refine Go.of (fun t k => XS.ifnonnullYes Xx354.here hx rfl (pc0 := 30) (pc' := 34) rfl (hb hby d77_30) rfl (by decide) (by decide) k) ?_
  refine Go.of (fun t k => XS.aloadN Xx354.here hx rfl (hb hby d77_34) rfl rfl k) ?_
  obtain ⟨T355, X355, e355, st355⟩ := getF Xx354 hx hZ hown (host := "") (Or.inl (wk hw 37 rfl)) Via.refl eh352 m4 (g := (mkL r1 m 35 #[sR r1, sJ j1, zS, sR r3, sJ j2, zS] [(.ref r1)])) rfl rfl (hb hby d77_35)
  refine Go.of st355 ?_
  show Go p e below Qo T355 (mkL r1 m 38 #[sR r1, sJ j1, zS, sR r3, sJ j2, zS] [(.ref br)])
  refine Go.of (fun t k => XS.ifnullNo X355.here hx rfl (hb hby d77_38) rfl k) ?_
  show Go p e below Qo T355 (mkL r1 m 41 #[sR r1, sJ j1, zS, sR r3, sJ j2, zS] [])
  refine Go.of (fun t k => XS.lload X355.here hx rfl (hb hby d77_41) rfl  k) ?_
  refine Go.of (fun t k => XS.aloadN X355.here hx rfl (hb hby d77_43) rfl rfl k) ?_
  obtain ⟨T356, X356, e356, st356⟩ := getF X355 hx hZ hown (host := "") (Or.inl (wk hw 55 rfl)) Via.refl e355 m6 (g := (mkL r1 m 44 #[sR r1, sJ j1, zS, sR r3, sJ j2, zS] [(.ref r1), (.long j2)])) rfl rfl (hb hby d77_44)
  refine Go.of st356 ?_
  show Go p e below Qo T356 (mkL r1 m 47 #[sR r1, sJ j1, zS, sR r3, sJ j2, zS] [(.long bp), (.long j2)])
  refine Go.of (fun t k => XS.lcmp X356.here hx rfl (hb hby d77_47) rfl k) ?_
  by_cases hc48_357 : j2 < bp
  · refine Go.of (fun t k => XS.ifYes X356.here hx rfl (pc0 := 48) (pc' := 70) rfl (hb hby d77_48) rfl ((if0 _ _).trans (tlt ((lw_lt j2 bp).mpr hc48_357)).1) (by decide) (by decide) k) ?_
    refine Go.of (fun t k => XS.aloadN X356.here hx rfl (hb hby d77_70) rfl rfl k) ?_
    refine Go.of (fun t k => XS.aloadN X356.here hx rfl (hb hby d77_71) rfl rfl k) ?_
    obtain ⟨T358, h358, X358, e358, W358, st358⟩ := putF X356 hx hZ hown (host := "") (Or.inl (wk hw 37 rfl)) Via.refl e356 m4 m0 (Or.inl (wk hw 38 rfl)) (wk hw 26 rfl) (ty := (.object kA)) (by decide) rfl rfl (g := (mkL r1 m 72 #[sR r1, sJ j1, zS, sR r3, sJ j2, zS] [(.ref r3), (.ref r1)])) rfl rfl (hb hby d77_72)
    have q359 := m0.wr W358
    have q360 := m2.other W358 (Or.inr (sn_16 hw))
    have q361 := m3.other W358 (Or.inr (sn_17 hw))
    have q362 : Fld Z h358 r1 kT "best" kD (.ref r3) := m4.same W358
    have q363 := m5.other W358 (Or.inr (sn_18 hw))
    have q364 := m6.other W358 (Or.inr (sn_19 hw))
    have q365 := m7.other W358 (Or.inr (sn_20 hw))
    have q366 := m8.other W358 (Or.inr (sn_21 hw))
    have q367 := m9.other W358 (Or.inr (sn_22 hw))
    have q368 := m10.wr W358
    have q369 := m11.other W358 (Or.inl ne_r3_r1)
    have Z370 : n0 ≤ h358.size := Nat.le_trans Z1 (Keep.of_wr W358).1
    have N371 := own_obSnoc X358 Nx354
    obtain ⟨Lx372, Xx372, Nx372⟩ := own_locsO X358 N371
    refine Go.of st358 ?_
    show Go p e below Qo T358 (mkL r1 m 75 #[sR r1, sJ j1, zS, sR r3, sJ j2, zS] [])
    refine Go.of (fun t k => XS.aloadN Xx372.here hx rfl (hb hby d77_75) rfl rfl k) ?_
    refine Go.of (fun t k => XS.lloadN Xx372.here hx rfl (hb hby d77_76) rfl  k) ?_
    obtain ⟨T373, h373, X373, e373, W373, st373⟩ := putF Xx372 hx hZ hown (host := "") (Or.inl (wk hw 53 rfl)) Via.refl e358 q363 q359 (Or.inl (wk hw 54 rfl)) (wk hw 26 rfl) (ty := .long) (by decide) rfl rfl (g := (mkL r1 m 77 #[sR r1, sJ j1, zS, sR r3, sJ j2, zS] [(.long j1), (.ref r1)])) rfl rfl (hb hby d77_77)
    have q374 := q359.wr W373
    have q375 := q360.other W373 (Or.inr (sn_23 hw))
    have q376 := q361.other W373 (Or.inr (sn_24 hw))
    have q377 := q362.other W373 (Or.inr (sn_25 hw))
    have q378 : Fld Z h373 r1 kT "bestSeed" "J" (.long j1) := q363.same W373
    have q379 := q364.other W373 (Or.inr (sn_26 hw))
    have q380 := q365.other W373 (Or.inr (sn_27 hw))
    have q381 := q366.other W373 (Or.inr (sn_28 hw))
    have q382 := q367.other W373 (Or.inr (sn_29 hw))
    have q383 := q368.wr W373
    have q384 := q369.other W373 (Or.inl ne_r3_r1)
    have Z385 : n0 ≤ h373.size := Nat.le_trans Z370 (Keep.of_wr W373).1
    have N386 := own_obSnoc X373 Nx372
    obtain ⟨Lx387, Xx387, Nx387⟩ := own_locsO X373 N386
    refine Go.of st373 ?_
    show Go p e below Qo T373 (mkL r1 m 80 #[sR r1, sJ j1, zS, sR r3, sJ j2, zS] [])
    refine Go.of (fun t k => XS.aloadN Xx387.here hx rfl (hb hby d77_80) rfl rfl k) ?_
    show Go p e below Qo T373 (mkL r1 m 81 #[sR r1, sJ j1, zS, sR r3, sJ j2, zS] [(.ref r1)])
    refine Go.of (fun t k => XS.lload Xx387.here hx rfl (hb hby d77_81) rfl  k) ?_
    obtain ⟨T388, h388, X388, e388, W388, st388⟩ := putF Xx387 hx hZ hown (host := "") (Or.inl (wk hw 55 rfl)) Via.refl e373 q379 q374 (Or.inl (wk hw 56 rfl)) (wk hw 26 rfl) (ty := .long) (by decide) rfl rfl (g := (mkL r1 m 83 #[sR r1, sJ j1, zS, sR r3, sJ j2, zS] [(.long j2), (.ref r1)])) rfl rfl (hb hby d77_83)
    have q389 := q374.wr W388
    have q390 := q375.other W388 (Or.inr (sn_30 hw))
    have q391 := q376.other W388 (Or.inr (sn_31 hw))
    have q392 := q377.other W388 (Or.inr (sn_32 hw))
    have q393 := q378.other W388 (Or.inr (sn_33 hw))
    have q394 : Fld Z h388 r1 kT "bestPenalty" "J" (.long j2) := q379.same W388
    have q395 := q380.other W388 (Or.inr (sn_34 hw))
    have q396 := q381.other W388 (Or.inr (sn_35 hw))
    have q397 := q382.other W388 (Or.inr (sn_36 hw))
    have q398 := q383.wr W388
    have q399 := q384.other W388 (Or.inl ne_r3_r1)
    have Z400 : n0 ≤ h388.size := Nat.le_trans Z385 (Keep.of_wr W388).1
    have N401 := own_obSnoc X388 Nx387
    obtain ⟨Lx402, Xx402, Nx402⟩ := own_locsO X388 N401
    refine Go.of st388 ?_
    show Go p e below Qo T388 (mkL r1 m 86 #[sR r1, sJ j1, zS, sR r3, sJ j2, zS] [])
    refine Go.of (fun t k => XS.aloadN Xx402.here hx rfl (hb hby d77_86) rfl rfl k) ?_
    refine Go.of (fun t k => XS.aloadN Xx402.here hx rfl (hb hby d77_87) rfl rfl k) ?_
    obtain ⟨T403, X403, e403, st403⟩ := getF Xx402 hx hZ hown (host := "") (Or.inl (wk hw 57 rfl)) Via.refl e388 q395 (g := (mkL r1 m 88 #[sR r1, sJ j1, zS, sR r3, sJ j2, zS] [(.ref r1), (.ref r1)])) rfl rfl (hb hby d77_88)
    refine Go.of st403 ?_
    show Go p e below Qo T403 (mkL r1 m 91 #[sR r1, sJ j1, zS, sR r3, sJ j2, zS] [(.long wp), (.ref r1)])
    refine Go.of (fun t k => XS.lload X403.here hx rfl (hb hby d77_91) rfl  k) ?_
    obtain ⟨_, _, ⟨T404, L404, k404, n404⟩, -, X404, ⟨Lc404, hQ404, l404, y404, z404⟩, st404⟩ := Jvm.LawKit.callS X403 hx (y := (⟨"java/lang/Math", "max", "(JJ)J"⟩ : MethodName)) hown (mvT hZ (wk hw 59 rfl)) (mvT hZ (wk hw 60 rfl)) (mvT hZ (wk hw 61 rfl)) (mvT hZ (wk hw 62 rfl)) (by decide) (backOf (W := 3) (rm9 l Z a0 hw [] wp j2 h388 n0 Z400 ) hZ (wk hw 62 rfl) (wk hw 61 rfl) (by decide) (by decide)) (g := (mkL r1 m 93 #[sR r1, sJ j1, zS, sR r3, sJ j2, zS] [(.long j2), (.long wp), (.ref r1)])) rfl (by rw [hml]; rfl) (argsL := [(.long wp), (.long j2)]) (rest := [(.ref r1)]) (lenOf pd_2 rfl) rfl (by show 2 * 1 + _ ≤ _; exact Nat.le_of_eq rfl) (hb hby d77_93) (fun _ _ => ⟨rfl, e403, (by decide : 0 + 0 ≤ _), (by decide : 0 + 0 ≤ _)⟩)
    dsimp only [Pt.U, Pt.locs, Pt.cells, Pt.slots] at X404 l404 y404 z404 st404 hQ404
    subst l404 y404 z404
    replace X404 := own_cs X404 (c' := 0) (s' := 0) (by decide) (by decide)
    obtain ⟨rfl, N405, eh406⟩ := hQ404
    subst N405
    have N407 := own_obNil2 Nx402
    refine Go.of st404 ?_
    obtain ⟨Lx408, Xx408, Nx408⟩ := own_locsO X404 N407
    show Go p e below Qo T404 (mkL r1 m 96 #[sR r1, sJ j1, zS, sR r3, sJ j2, zS] [(.long (F9 wp j2)), (.ref r1)])
    obtain ⟨T409, h409, X409, e409, W409, st409⟩ := putF Xx408 hx hZ hown (host := "") (Or.inl (wk hw 57 rfl)) Via.refl eh406 q395 q389 (Or.inl (wk hw 58 rfl)) (wk hw 26 rfl) (ty := .long) (by decide) rfl rfl (g := (mkL r1 m 96 #[sR r1, sJ j1, zS, sR r3, sJ j2, zS] [(.long (F9 wp j2)), (.ref r1)])) rfl rfl (hb hby d77_96)
    have q410 := q389.wr W409
    have q411 := q390.other W409 (Or.inr (sn_37 hw))
    have q412 := q391.other W409 (Or.inr (sn_38 hw))
    have q413 := q392.other W409 (Or.inr (sn_39 hw))
    have q414 := q393.other W409 (Or.inr (sn_40 hw))
    have q415 := q394.other W409 (Or.inr (sn_41 hw))
    have q416 : Fld Z h409 r1 kT "worstPenalty" "J" (.long (F9 wp j2)) := q395.same W409
    have q417 := q396.other W409 (Or.inr (sn_42 hw))
    have q418 := q397.other W409 (Or.inr (sn_43 hw))
    have q419 := q398.wr W409
    have q420 := q399.other W409 (Or.inl ne_r3_r1)
    have Z421 : n0 ≤ h409.size := Nat.le_trans Z400 (Keep.of_wr W409).1
    have N422 := own_obSnoc X409 Nx408
    obtain ⟨Lx423, Xx423, Nx423⟩ := own_locsO X409 N422
    refine Go.of st409 ?_
    show Go p e below Qo T409 (mkL r1 m 99 #[sR r1, sJ j1, zS, sR r3, sJ j2, zS] [])
    refine Go.of (fun t k => XS.aloadN Xx423.here hx rfl (hb hby d77_99) rfl rfl k) ?_
    refine Go.of (fun t k => XS.dup Xx423.here hx rfl (hb hby d77_100) rfl rfl k) ?_
    show Go p e below Qo T409 (mkL r1 m 101 #[sR r1, sJ j1, zS, sR r3, sJ j2, zS] [(.ref r1), (.ref r1)])
    obtain ⟨T424, X424, e424, st424⟩ := getF Xx423 hx hZ hown (host := "") (Or.inl (wk hw 63 rfl)) Via.refl e409 q417 (g := (mkL r1 m 101 #[sR r1, sJ j1, zS, sR r3, sJ j2, zS] [(.ref r1), (.ref r1)])) rfl rfl (hb hby d77_101)
    refine Go.of st424 ?_
    show Go p e below Qo T424 (mkL r1 m 104 #[sR r1, sJ j1, zS, sR r3, sJ j2, zS] [(.long qs), (.ref r1)])
    refine Go.of (fun t k => XS.lload X424.here hx rfl (hb hby d77_104) rfl  k) ?_
    refine Go.of (fun t k => XS.ladd X424.here hx rfl (hb hby d77_106) rfl k) ?_
    obtain ⟨T425, h425, X425, e425, W425, st425⟩ := putF X424 hx hZ hown (host := "") (Or.inl (wk hw 63 rfl)) Via.refl e424 q417 q410 (Or.inl (wk hw 64 rfl)) (wk hw 26 rfl) (ty := .long) (by decide) rfl rfl (g := (mkL r1 m 107 #[sR r1, sJ j1, zS, sR r3, sJ j2, zS] [(.long (qs + j2)), (.ref r1)])) rfl rfl (hb hby d77_107)
    have q426 := q410.wr W425
    have q427 := q411.other W425 (Or.inr (sn_44 hw))
    have q428 := q412.other W425 (Or.inr (sn_45 hw))
    have q429 := q413.other W425 (Or.inr (sn_46 hw))
    have q430 := q414.other W425 (Or.inr (sn_47 hw))
    have q431 := q415.other W425 (Or.inr (sn_48 hw))
    have q432 := q416.other W425 (Or.inr (sn_49 hw))
    have q433 : Fld Z h425 r1 kT "penaltySum" "J" (.long (qs + j2)) := q417.same W425
    have q434 := q418.other W425 (Or.inr (sn_50 hw))
    have q435 := q419.wr W425
    have q436 := q420.other W425 (Or.inl ne_r3_r1)
    have Z437 : n0 ≤ h425.size := Nat.le_trans Z421 (Keep.of_wr W425).1
    have N438 := own_obSnoc X425 Nx423
    obtain ⟨Lx439, Xx439, Nx439⟩ := own_locsO X425 N438
    refine Go.of st425 ?_
    show Go p e below Qo T425 (mkL r1 m 110 #[sR r1, sJ j1, zS, sR r3, sJ j2, zS] [])
    refine Go.of (fun t k => XS.aloadN Xx439.here hx rfl (hb hby d77_110) rfl rfl k) ?_
    refine Go.of (fun t k => XS.dup Xx439.here hx rfl (hb hby d77_111) rfl rfl k) ?_
    obtain ⟨T440, X440, e440, st440⟩ := getF Xx439 hx hZ hown (host := "") (Or.inl (wk hw 65 rfl)) Via.refl e425 q434 (g := (mkL r1 m 112 #[sR r1, sJ j1, zS, sR r3, sJ j2, zS] [(.ref r1), (.ref r1)])) rfl rfl (hb hby d77_112)
    refine Go.of st440 ?_
    show Go p e below Qo T440 (mkL r1 m 115 #[sR r1, sJ j1, zS, sR r3, sJ j2, zS] [(.int fc), (.ref r1)])
    refine Go.of (fun t k => XS.iconst X440.here hx rfl (hb hby d77_115) k) ?_
    refine Go.of (fun t k => XS.iadd X440.here hx rfl (hb hby d77_116) rfl k) ?_
    show Go p e below Qo T440 (mkL r1 m 117 #[sR r1, sJ j1, zS, sR r3, sJ j2, zS] [(.int (fc + (1 : Int32))), (.ref r1)])
    obtain ⟨T441, h441, X441, e441, W441, st441⟩ := putF X440 hx hZ hown (host := "") (Or.inl (wk hw 65 rfl)) Via.refl e440 q434 q426 (Or.inl (wk hw 66 rfl)) (wk hw 26 rfl) (ty := .int) (by decide) rfl rfl (g := (mkL r1 m 117 #[sR r1, sJ j1, zS, sR r3, sJ j2, zS] [(.int (fc + (1 : Int32))), (.ref r1)])) rfl rfl (hb hby d77_117)
    have q442 := q426.wr W441
    have q443 := q427.other W441 (Or.inr (sn_51 hw))
    have q444 := q428.other W441 (Or.inr (sn_52 hw))
    have q445 := q429.other W441 (Or.inr (sn_53 hw))
    have q446 := q430.other W441 (Or.inr (sn_54 hw))
    have q447 := q431.other W441 (Or.inr (sn_55 hw))
    have q448 := q432.other W441 (Or.inr (sn_56 hw))
    have q449 := q433.other W441 (Or.inr (sn_57 hw))
    have q450 : Fld Z h441 r1 kT "feasibleRuns" "I" (.int (fc + (1 : Int32))) := q434.same W441
    have q451 := q435.wr W441
    have q452 := q436.other W441 (Or.inl ne_r3_r1)
    have Z453 : n0 ≤ h441.size := Nat.le_trans Z437 (Keep.of_wr W441).1
    have N454 := own_obSnoc X441 Nx439
    obtain ⟨Lx455, Xx455, Nx455⟩ := own_locsO X441 N454
    refine Go.of st441 ?_
    show Go p e below Qo T441 (mkL r1 m 120 #[sR r1, sJ j1, zS, sR r3, sJ j2, zS] [])
    refine own_retS Xx455 hx Bd.object Bd.enterable Bd.synchronized Bd.returns (hb hby d77_120) (fun u hM hF => ?_)
    rw [e441] at hM
    exact hQo _ _ _ ⟨(F9 wp j2), (qs + j2), (fc + (1 : Int32)), rfl, own_obFr Nx455 g_r1, own_keepS hh hF Nx455, (by exact q442.mon hM), own_monU hh hF f1, (by rw [if_neg hc13_3]; exact q443.mon hM), (by rw [if_neg hc13_3]; exact q444.mon hM), (by rw [if_pos (Or.inl hc48_357)]; exact q445.mon hM), (by rw [if_pos (Or.inl hc48_357)]; exact q446.mon hM), (by rw [if_pos (Or.inl hc48_357)]; exact q447.mon hM), (by exact q448.mon hM), (by exact q449.mon hM), (by exact q450.mon hM)⟩ (own_mono hF (by decide) (by decide))
  refine Go.of (fun t k => XS.ifNo X356.here hx rfl (hb hby d77_48) rfl ((if0 _ _).trans (flt (fun z => hc48_357 ((lw_lt j2 bp).mp z))).1) k) ?_
  refine Go.of (fun t k => XS.lload X356.here hx rfl (hb hby d77_51) rfl  k) ?_
  refine Go.of (fun t k => XS.aloadN X356.here hx rfl (hb hby d77_53) rfl rfl k) ?_
  obtain ⟨T456, X456, e456, st456⟩ := getF X356 hx hZ hown (host := "") (Or.inl (wk hw 55 rfl)) Via.refl e356 m6 (g := (mkL r1 m 54 #[sR r1, sJ j1, zS, sR r3, sJ j2, zS] [(.ref r1), (.long j2)])) rfl rfl (hb hby d77_54)
  refine Go.of st456 ?_
  show Go p e below Qo T456 (mkL r1 m 57 #[sR r1, sJ j1, zS, sR r3, sJ j2, zS] [(.long bp), (.long j2)])
  refine Go.of (fun t k => XS.lcmp X456.here hx rfl (hb hby d77_57) rfl k) ?_
  by_cases hc58_457 : j2 = bp
  · refine Go.of (fun t k => XS.ifNo X456.here hx rfl (hb hby d77_58) rfl ((if0 _ _).trans (teq ((lw_eq j2 bp).mpr hc58_457)).2) k) ?_
    refine Go.of (fun t k => XS.lloadN X456.here hx rfl (hb hby d77_61) rfl  k) ?_
    refine Go.of (fun t k => XS.aloadN X456.here hx rfl (hb hby d77_62) rfl rfl k) ?_
    obtain ⟨T458, X458, e458, st458⟩ := getF X456 hx hZ hown (host := "") (Or.inl (wk hw 53 rfl)) Via.refl e456 m5 (g := (mkL r1 m 63 #[sR r1, sJ j1, zS, sR r3, sJ j2, zS] [(.ref r1), (.long j1)])) rfl rfl (hb hby d77_63)
    refine Go.of st458 ?_
    show Go p e below Qo T458 (mkL r1 m 66 #[sR r1, sJ j1, zS, sR r3, sJ j2, zS] [(.long bs), (.long j1)])
    refine Go.of (fun t k => XS.lcmp X458.here hx rfl (hb hby d77_66) rfl k) ?_
    by_cases hc67_459 : j1 < bs
    · refine Go.of (fun t k => XS.ifNo X458.here hx rfl (hb hby d77_67) rfl ((if0 _ _).trans (tlt ((lw_lt j1 bs).mpr hc67_459)).2.1) k) ?_
      refine Go.of (fun t k => XS.aloadN X458.here hx rfl (hb hby d77_70) rfl rfl k) ?_
      refine Go.of (fun t k => XS.aloadN X458.here hx rfl (hb hby d77_71) rfl rfl k) ?_
      obtain ⟨T460, h460, X460, e460, W460, st460⟩ := putF X458 hx hZ hown (host := "") (Or.inl (wk hw 37 rfl)) Via.refl e458 m4 m0 (Or.inl (wk hw 38 rfl)) (wk hw 26 rfl) (ty := (.object kA)) (by decide) rfl rfl (g := (mkL r1 m 72 #[sR r1, sJ j1, zS, sR r3, sJ j2, zS] [(.ref r3), (.ref r1)])) rfl rfl (hb hby d77_72)
      have q461 := m0.wr W460
      have q462 := m2.other W460 (Or.inr (sn_16 hw))
      have q463 := m3.other W460 (Or.inr (sn_17 hw))
      have q464 : Fld Z h460 r1 kT "best" kD (.ref r3) := m4.same W460
      have q465 := m5.other W460 (Or.inr (sn_18 hw))
      have q466 := m6.other W460 (Or.inr (sn_19 hw))
      have q467 := m7.other W460 (Or.inr (sn_20 hw))
      have q468 := m8.other W460 (Or.inr (sn_21 hw))
      have q469 := m9.other W460 (Or.inr (sn_22 hw))
      have q470 := m10.wr W460
      have q471 := m11.other W460 (Or.inl ne_r3_r1)
      have Z472 : n0 ≤ h460.size := Nat.le_trans Z1 (Keep.of_wr W460).1
      have N473 := own_obSnoc X460 Nx354
      obtain ⟨Lx474, Xx474, Nx474⟩ := own_locsO X460 N473
      refine Go.of st460 ?_
      show Go p e below Qo T460 (mkL r1 m 75 #[sR r1, sJ j1, zS, sR r3, sJ j2, zS] [])
      refine Go.of (fun t k => XS.aloadN Xx474.here hx rfl (hb hby d77_75) rfl rfl k) ?_
      show Go p e below Qo T460 (mkL r1 m 76 #[sR r1, sJ j1, zS, sR r3, sJ j2, zS] [(.ref r1)])
      refine Go.of (fun t k => XS.lloadN Xx474.here hx rfl (hb hby d77_76) rfl  k) ?_
      obtain ⟨T475, h475, X475, e475, W475, st475⟩ := putF Xx474 hx hZ hown (host := "") (Or.inl (wk hw 53 rfl)) Via.refl e460 q465 q461 (Or.inl (wk hw 54 rfl)) (wk hw 26 rfl) (ty := .long) (by decide) rfl rfl (g := (mkL r1 m 77 #[sR r1, sJ j1, zS, sR r3, sJ j2, zS] [(.long j1), (.ref r1)])) rfl rfl (hb hby d77_77)
      have q476 := q461.wr W475
      have q477 := q462.other W475 (Or.inr (sn_23 hw))
      have q478 := q463.other W475 (Or.inr (sn_24 hw))
      have q479 := q464.other W475 (Or.inr (sn_25 hw))
      have q480 : Fld Z h475 r1 kT "bestSeed" "J" (.long j1) := q465.same W475
      have q481 := q466.other W475 (Or.inr (sn_26 hw))
      have q482 := q467.other W475 (Or.inr (sn_27 hw))
      have q483 := q468.other W475 (Or.inr (sn_28 hw))
      have q484 := q469.other W475 (Or.inr (sn_29 hw))
      have q485 := q470.wr W475
      have q486 := q471.other W475 (Or.inl ne_r3_r1)
      have Z487 : n0 ≤ h475.size := Nat.le_trans Z472 (Keep.of_wr W475).1
      have N488 := own_obSnoc X475 Nx474
      obtain ⟨Lx489, Xx489, Nx489⟩ := own_locsO X475 N488
      refine Go.of st475 ?_
      show Go p e below Qo T475 (mkL r1 m 80 #[sR r1, sJ j1, zS, sR r3, sJ j2, zS] [])
      refine Go.of (fun t k => XS.aloadN Xx489.here hx rfl (hb hby d77_80) rfl rfl k) ?_
      refine Go.of (fun t k => XS.lload Xx489.here hx rfl (hb hby d77_81) rfl  k) ?_
      obtain ⟨T490, h490, X490, e490, W490, st490⟩ := putF Xx489 hx hZ hown (host := "") (Or.inl (wk hw 55 rfl)) Via.refl e475 q481 q476 (Or.inl (wk hw 56 rfl)) (wk hw 26 rfl) (ty := .long) (by decide) rfl rfl (g := (mkL r1 m 83 #[sR r1, sJ j1, zS, sR r3, sJ j2, zS] [(.long j2), (.ref r1)])) rfl rfl (hb hby d77_83)
      have q491 := q476.wr W490
      have q492 := q477.other W490 (Or.inr (sn_30 hw))
      have q493 := q478.other W490 (Or.inr (sn_31 hw))
      have q494 := q479.other W490 (Or.inr (sn_32 hw))
      have q495 := q480.other W490 (Or.inr (sn_33 hw))
      have q496 : Fld Z h490 r1 kT "bestPenalty" "J" (.long j2) := q481.same W490
      have q497 := q482.other W490 (Or.inr (sn_34 hw))
      have q498 := q483.other W490 (Or.inr (sn_35 hw))
      have q499 := q484.other W490 (Or.inr (sn_36 hw))
      have q500 := q485.wr W490
      have q501 := q486.other W490 (Or.inl ne_r3_r1)
      have Z502 : n0 ≤ h490.size := Nat.le_trans Z487 (Keep.of_wr W490).1
      have N503 := own_obSnoc X490 Nx489
      obtain ⟨Lx504, Xx504, Nx504⟩ := own_locsO X490 N503
      refine Go.of st490 ?_
      show Go p e below Qo T490 (mkL r1 m 86 #[sR r1, sJ j1, zS, sR r3, sJ j2, zS] [])
      refine Go.of (fun t k => XS.aloadN Xx504.here hx rfl (hb hby d77_86) rfl rfl k) ?_
      refine Go.of (fun t k => XS.aloadN Xx504.here hx rfl (hb hby d77_87) rfl rfl k) ?_
      obtain ⟨T505, X505, e505, st505⟩ := getF Xx504 hx hZ hown (host := "") (Or.inl (wk hw 57 rfl)) Via.refl e490 q497 (g := (mkL r1 m 88 #[sR r1, sJ j1, zS, sR r3, sJ j2, zS] [(.ref r1), (.ref r1)])) rfl rfl (hb hby d77_88)
      refine Go.of st505 ?_
      show Go p e below Qo T505 (mkL r1 m 91 #[sR r1, sJ j1, zS, sR r3, sJ j2, zS] [(.long wp), (.ref r1)])
      refine Go.of (fun t k => XS.lload X505.here hx rfl (hb hby d77_91) rfl  k) ?_
      show Go p e below Qo T505 (mkL r1 m 93 #[sR r1, sJ j1, zS, sR r3, sJ j2, zS] [(.long j2), (.long wp), (.ref r1)])
      obtain ⟨_, _, ⟨T506, L506, k506, n506⟩, -, X506, ⟨Lc506, hQ506, l506, y506, z506⟩, st506⟩ := Jvm.LawKit.callS X505 hx (y := (⟨"java/lang/Math", "max", "(JJ)J"⟩ : MethodName)) hown (mvT hZ (wk hw 59 rfl)) (mvT hZ (wk hw 60 rfl)) (mvT hZ (wk hw 61 rfl)) (mvT hZ (wk hw 62 rfl)) (by decide) (backOf (W := 3) (rm9 l Z a0 hw [] wp j2 h490 n0 Z502 ) hZ (wk hw 62 rfl) (wk hw 61 rfl) (by decide) (by decide)) (g := (mkL r1 m 93 #[sR r1, sJ j1, zS, sR r3, sJ j2, zS] [(.long j2), (.long wp), (.ref r1)])) rfl (by rw [hml]; rfl) (argsL := [(.long wp), (.long j2)]) (rest := [(.ref r1)]) (lenOf pd_2 rfl) rfl (by show 2 * 1 + _ ≤ _; exact Nat.le_of_eq rfl) (hb hby d77_93) (fun _ _ => ⟨rfl, e505, (by decide : 0 + 0 ≤ _), (by decide : 0 + 0 ≤ _)⟩)
      dsimp only [Pt.U, Pt.locs, Pt.cells, Pt.slots] at X506 l506 y506 z506 st506 hQ506
      subst l506 y506 z506
      replace X506 := own_cs X506 (c' := 0) (s' := 0) (by decide) (by decide)
      obtain ⟨rfl, N507, eh508⟩ := hQ506
      subst N507
      have N509 := own_obNil2 Nx504
      refine Go.of st506 ?_
      obtain ⟨Lx510, Xx510, Nx510⟩ := own_locsO X506 N509
      show Go p e below Qo T506 (mkL r1 m 96 #[sR r1, sJ j1, zS, sR r3, sJ j2, zS] [(.long (F9 wp j2)), (.ref r1)])
      obtain ⟨T511, h511, X511, e511, W511, st511⟩ := putF Xx510 hx hZ hown (host := "") (Or.inl (wk hw 57 rfl)) Via.refl eh508 q497 q491 (Or.inl (wk hw 58 rfl)) (wk hw 26 rfl) (ty := .long) (by decide) rfl rfl (g := (mkL r1 m 96 #[sR r1, sJ j1, zS, sR r3, sJ j2, zS] [(.long (F9 wp j2)), (.ref r1)])) rfl rfl (hb hby d77_96)
      have q512 := q491.wr W511
      have q513 := q492.other W511 (Or.inr (sn_37 hw))
      have q514 := q493.other W511 (Or.inr (sn_38 hw))
      have q515 := q494.other W511 (Or.inr (sn_39 hw))
      have q516 := q495.other W511 (Or.inr (sn_40 hw))
      have q517 := q496.other W511 (Or.inr (sn_41 hw))
      have q518 : Fld Z h511 r1 kT "worstPenalty" "J" (.long (F9 wp j2)) := q497.same W511
      have q519 := q498.other W511 (Or.inr (sn_42 hw))
      have q520 := q499.other W511 (Or.inr (sn_43 hw))
      have q521 := q500.wr W511
      have q522 := q501.other W511 (Or.inl ne_r3_r1)
      have Z523 : n0 ≤ h511.size := Nat.le_trans Z502 (Keep.of_wr W511).1
      have N524 := own_obSnoc X511 Nx510
      obtain ⟨Lx525, Xx525, Nx525⟩ := own_locsO X511 N524
      refine Go.of st511 ?_
      show Go p e below Qo T511 (mkL r1 m 99 #[sR r1, sJ j1, zS, sR r3, sJ j2, zS] [])
      refine Go.of (fun t k => XS.aloadN Xx525.here hx rfl (hb hby d77_99) rfl rfl k) ?_
      refine Go.of (fun t k => XS.dup Xx525.here hx rfl (hb hby d77_100) rfl rfl k) ?_
      obtain ⟨T526, X526, e526, st526⟩ := getF Xx525 hx hZ hown (host := "") (Or.inl (wk hw 63 rfl)) Via.refl e511 q519 (g := (mkL r1 m 101 #[sR r1, sJ j1, zS, sR r3, sJ j2, zS] [(.ref r1), (.ref r1)])) rfl rfl (hb hby d77_101)
      refine Go.of st526 ?_
      show Go p e below Qo T526 (mkL r1 m 104 #[sR r1, sJ j1, zS, sR r3, sJ j2, zS] [(.long qs), (.ref r1)])
      refine Go.of (fun t k => XS.lload X526.here hx rfl (hb hby d77_104) rfl  k) ?_
      refine Go.of (fun t k => XS.ladd X526.here hx rfl (hb hby d77_106) rfl k) ?_
      obtain ⟨T527, h527, X527, e527, W527, st527⟩ := putF X526 hx hZ hown (host := "") (Or.inl (wk hw 63 rfl)) Via.refl e526 q519 q512 (Or.inl (wk hw 64 rfl)) (wk hw 26 rfl) (ty := .long) (by decide) rfl rfl (g := (mkL r1 m 107 #[sR r1, sJ j1, zS, sR r3, sJ j2, zS] [(.long (qs + j2)), (.ref r1)])) rfl rfl (hb hby d77_107)
      have q528 := q512.wr W527
      have q529 := q513.other W527 (Or.inr (sn_44 hw))
      have q530 := q514.other W527 (Or.inr (sn_45 hw))
      have q531 := q515.other W527 (Or.inr (sn_46 hw))
      have q532 := q516.other W527 (Or.inr (sn_47 hw))
      have q533 := q517.other W527 (Or.inr (sn_48 hw))
      have q534 := q518.other W527 (Or.inr (sn_49 hw))
      have q535 : Fld Z h527 r1 kT "penaltySum" "J" (.long (qs + j2)) := q519.same W527
      have q536 := q520.other W527 (Or.inr (sn_50 hw))
      have q537 := q521.wr W527
      have q538 := q522.other W527 (Or.inl ne_r3_r1)
      have Z539 : n0 ≤ h527.size := Nat.le_trans Z523 (Keep.of_wr W527).1
      have N540 := own_obSnoc X527 Nx525
      obtain ⟨Lx541, Xx541, Nx541⟩ := own_locsO X527 N540
      refine Go.of st527 ?_
      show Go p e below Qo T527 (mkL r1 m 110 #[sR r1, sJ j1, zS, sR r3, sJ j2, zS] [])
      refine Go.of (fun t k => XS.aloadN Xx541.here hx rfl (hb hby d77_110) rfl rfl k) ?_
      refine Go.of (fun t k => XS.dup Xx541.here hx rfl (hb hby d77_111) rfl rfl k) ?_
      show Go p e below Qo T527 (mkL r1 m 112 #[sR r1, sJ j1, zS, sR r3, sJ j2, zS] [(.ref r1), (.ref r1)])
      obtain ⟨T542, X542, e542, st542⟩ := getF Xx541 hx hZ hown (host := "") (Or.inl (wk hw 65 rfl)) Via.refl e527 q536 (g := (mkL r1 m 112 #[sR r1, sJ j1, zS, sR r3, sJ j2, zS] [(.ref r1), (.ref r1)])) rfl rfl (hb hby d77_112)
      refine Go.of st542 ?_
      show Go p e below Qo T542 (mkL r1 m 115 #[sR r1, sJ j1, zS, sR r3, sJ j2, zS] [(.int fc), (.ref r1)])
      refine Go.of (fun t k => XS.iconst X542.here hx rfl (hb hby d77_115) k) ?_
      refine Go.of (fun t k => XS.iadd X542.here hx rfl (hb hby d77_116) rfl k) ?_
      obtain ⟨T543, h543, X543, e543, W543, st543⟩ := putF X542 hx hZ hown (host := "") (Or.inl (wk hw 65 rfl)) Via.refl e542 q536 q528 (Or.inl (wk hw 66 rfl)) (wk hw 26 rfl) (ty := .int) (by decide) rfl rfl (g := (mkL r1 m 117 #[sR r1, sJ j1, zS, sR r3, sJ j2, zS] [(.int (fc + (1 : Int32))), (.ref r1)])) rfl rfl (hb hby d77_117)
      have q544 := q528.wr W543
      have q545 := q529.other W543 (Or.inr (sn_51 hw))
      have q546 := q530.other W543 (Or.inr (sn_52 hw))
      have q547 := q531.other W543 (Or.inr (sn_53 hw))
      have q548 := q532.other W543 (Or.inr (sn_54 hw))
      have q549 := q533.other W543 (Or.inr (sn_55 hw))
      have q550 := q534.other W543 (Or.inr (sn_56 hw))
      have q551 := q535.other W543 (Or.inr (sn_57 hw))
      have q552 : Fld Z h543 r1 kT "feasibleRuns" "I" (.int (fc + (1 : Int32))) := q536.same W543
      have q553 := q537.wr W543
      have q554 := q538.other W543 (Or.inl ne_r3_r1)
      have Z555 : n0 ≤ h543.size := Nat.le_trans Z539 (Keep.of_wr W543).1
      have N556 := own_obSnoc X543 Nx541
      obtain ⟨Lx557, Xx557, Nx557⟩ := own_locsO X543 N556
      refine Go.of st543 ?_
      show Go p e below Qo T543 (mkL r1 m 120 #[sR r1, sJ j1, zS, sR r3, sJ j2, zS] [])
      refine own_retS Xx557 hx Bd.object Bd.enterable Bd.synchronized Bd.returns (hb hby d77_120) (fun u hM hF => ?_)
      rw [e543] at hM
      exact hQo _ _ _ ⟨(F9 wp j2), (qs + j2), (fc + (1 : Int32)), rfl, own_obFr Nx557 g_r1, own_keepS hh hF Nx557, (by exact q544.mon hM), own_monU hh hF f1, (by rw [if_neg hc13_3]; exact q545.mon hM), (by rw [if_neg hc13_3]; exact q546.mon hM), (by rw [if_pos (Or.inr ⟨hc58_457, hc67_459⟩)]; exact q547.mon hM), (by rw [if_pos (Or.inr ⟨hc58_457, hc67_459⟩)]; exact q548.mon hM), (by rw [if_pos (Or.inr ⟨hc58_457, hc67_459⟩)]; exact q549.mon hM), (by exact q550.mon hM), (by exact q551.mon hM), (by exact q552.mon hM)⟩ (own_mono hF (by decide) (by decide))
    refine Go.of (fun t k => XS.ifYes X458.here hx rfl (pc0 := 67) (pc' := 86) rfl (hb hby d77_67) rfl ((if0 _ _).trans (flt (fun z => hc67_459 ((lw_lt j1 bs).mp z))).2.1) (by decide) (by decide) k) ?_
    refine Go.of (fun t k => XS.aloadN X458.here hx rfl (hb hby d77_86) rfl rfl k) ?_
    refine Go.of (fun t k => XS.aloadN X458.here hx rfl (hb hby d77_87) rfl rfl k) ?_
    obtain ⟨T558, X558, e558, st558⟩ := getF X458 hx hZ hown (host := "") (Or.inl (wk hw 57 rfl)) Via.refl e458 m7 (g := (mkL r1 m 88 #[sR r1, sJ j1, zS, sR r3, sJ j2, zS] [(.ref r1), (.ref r1)])) rfl rfl (hb hby d77_88)
    refine Go.of st558 ?_
    show Go p e below Qo T558 (mkL r1 m 91 #[sR r1, sJ j1, zS, sR r3, sJ j2, zS] [(.long wp), (.ref r1)])
    refine Go.of (fun t k => XS.lload X558.here hx rfl (hb hby d77_91) rfl  k) ?_
    show Go p e below Qo T558 (mkL r1 m 93 #[sR r1, sJ j1, zS, sR r3, sJ j2, zS] [(.long j2), (.long wp), (.ref r1)])
    obtain ⟨_, _, ⟨T559, L559, k559, n559⟩, -, X559, ⟨Lc559, hQ559, l559, y559, z559⟩, st559⟩ := Jvm.LawKit.callS X558 hx (y := (⟨"java/lang/Math", "max", "(JJ)J"⟩ : MethodName)) hown (mvT hZ (wk hw 59 rfl)) (mvT hZ (wk hw 60 rfl)) (mvT hZ (wk hw 61 rfl)) (mvT hZ (wk hw 62 rfl)) (by decide) (backOf (W := 3) (rm9 l Z a0 hw [] wp j2 s₁.heap n0 Z1 ) hZ (wk hw 62 rfl) (wk hw 61 rfl) (by decide) (by decide)) (g := (mkL r1 m 93 #[sR r1, sJ j1, zS, sR r3, sJ j2, zS] [(.long j2), (.long wp), (.ref r1)])) rfl (by rw [hml]; rfl) (argsL := [(.long wp), (.long j2)]) (rest := [(.ref r1)]) (lenOf pd_2 rfl) rfl (by show 2 * 1 + _ ≤ _; exact Nat.le_of_eq rfl) (hb hby d77_93) (fun _ _ => ⟨rfl, e558, (by decide : 0 + 0 ≤ _), (by decide : 0 + 0 ≤ _)⟩)
    dsimp only [Pt.U, Pt.locs, Pt.cells, Pt.slots] at X559 l559 y559 z559 st559 hQ559
    subst l559 y559 z559
    replace X559 := own_cs X559 (c' := 0) (s' := 0) (by decide) (by decide)
    obtain ⟨rfl, N560, eh561⟩ := hQ559
    subst N560
    have N562 := own_obNil2 Nx354
    refine Go.of st559 ?_
    obtain ⟨Lx563, Xx563, Nx563⟩ := own_locsO X559 N562
    show Go p e below Qo T559 (mkL r1 m 96 #[sR r1, sJ j1, zS, sR r3, sJ j2, zS] [(.long (F9 wp j2)), (.ref r1)])
    obtain ⟨T564, h564, X564, e564, W564, st564⟩ := putF Xx563 hx hZ hown (host := "") (Or.inl (wk hw 57 rfl)) Via.refl eh561 m7 m0 (Or.inl (wk hw 58 rfl)) (wk hw 26 rfl) (ty := .long) (by decide) rfl rfl (g := (mkL r1 m 96 #[sR r1, sJ j1, zS, sR r3, sJ j2, zS] [(.long (F9 wp j2)), (.ref r1)])) rfl rfl (hb hby d77_96)
    have q565 := m0.wr W564
    have q566 := m2.other W564 (Or.inr (sn_37 hw))
    have q567 := m3.other W564 (Or.inr (sn_38 hw))
    have q568 := m4.other W564 (Or.inr (sn_39 hw))
    have q569 := m5.other W564 (Or.inr (sn_40 hw))
    have q570 := m6.other W564 (Or.inr (sn_41 hw))
    have q571 : Fld Z h564 r1 kT "worstPenalty" "J" (.long (F9 wp j2)) := m7.same W564
    have q572 := m8.other W564 (Or.inr (sn_42 hw))
    have q573 := m9.other W564 (Or.inr (sn_43 hw))
    have q574 := m10.wr W564
    have q575 := m11.other W564 (Or.inl ne_r3_r1)
    have Z576 : n0 ≤ h564.size := Nat.le_trans Z1 (Keep.of_wr W564).1
    have N577 := own_obSnoc X564 Nx563
    obtain ⟨Lx578, Xx578, Nx578⟩ := own_locsO X564 N577
    refine Go.of st564 ?_
    show Go p e below Qo T564 (mkL r1 m 99 #[sR r1, sJ j1, zS, sR r3, sJ j2, zS] [])
    refine Go.of (fun t k => XS.aloadN Xx578.here hx rfl (hb hby d77_99) rfl rfl k) ?_
    refine Go.of (fun t k => XS.dup Xx578.here hx rfl (hb hby d77_100) rfl rfl k) ?_
    obtain ⟨T579, X579, e579, st579⟩ := getF Xx578 hx hZ hown (host := "") (Or.inl (wk hw 63 rfl)) Via.refl e564 q572 (g := (mkL r1 m 101 #[sR r1, sJ j1, zS, sR r3, sJ j2, zS] [(.ref r1), (.ref r1)])) rfl rfl (hb hby d77_101)
    refine Go.of st579 ?_
    show Go p e below Qo T579 (mkL r1 m 104 #[sR r1, sJ j1, zS, sR r3, sJ j2, zS] [(.long qs), (.ref r1)])
    refine Go.of (fun t k => XS.lload X579.here hx rfl (hb hby d77_104) rfl  k) ?_
    refine Go.of (fun t k => XS.ladd X579.here hx rfl (hb hby d77_106) rfl k) ?_
    obtain ⟨T580, h580, X580, e580, W580, st580⟩ := putF X579 hx hZ hown (host := "") (Or.inl (wk hw 63 rfl)) Via.refl e579 q572 q565 (Or.inl (wk hw 64 rfl)) (wk hw 26 rfl) (ty := .long) (by decide) rfl rfl (g := (mkL r1 m 107 #[sR r1, sJ j1, zS, sR r3, sJ j2, zS] [(.long (qs + j2)), (.ref r1)])) rfl rfl (hb hby d77_107)
    have q581 := q565.wr W580
    have q582 := q566.other W580 (Or.inr (sn_44 hw))
    have q583 := q567.other W580 (Or.inr (sn_45 hw))
    have q584 := q568.other W580 (Or.inr (sn_46 hw))
    have q585 := q569.other W580 (Or.inr (sn_47 hw))
    have q586 := q570.other W580 (Or.inr (sn_48 hw))
    have q587 := q571.other W580 (Or.inr (sn_49 hw))
    have q588 : Fld Z h580 r1 kT "penaltySum" "J" (.long (qs + j2)) := q572.same W580
    have q589 := q573.other W580 (Or.inr (sn_50 hw))
    have q590 := q574.wr W580
    have q591 := q575.other W580 (Or.inl ne_r3_r1)
    have Z592 : n0 ≤ h580.size := Nat.le_trans Z576 (Keep.of_wr W580).1
    have N593 := own_obSnoc X580 Nx578
    obtain ⟨Lx594, Xx594, Nx594⟩ := own_locsO X580 N593
    refine Go.of st580 ?_
    show Go p e below Qo T580 (mkL r1 m 110 #[sR r1, sJ j1, zS, sR r3, sJ j2, zS] [])
    refine Go.of (fun t k => XS.aloadN Xx594.here hx rfl (hb hby d77_110) rfl rfl k) ?_
    refine Go.of (fun t k => XS.dup Xx594.here hx rfl (hb hby d77_111) rfl rfl k) ?_
    show Go p e below Qo T580 (mkL r1 m 112 #[sR r1, sJ j1, zS, sR r3, sJ j2, zS] [(.ref r1), (.ref r1)])
    obtain ⟨T595, X595, e595, st595⟩ := getF Xx594 hx hZ hown (host := "") (Or.inl (wk hw 65 rfl)) Via.refl e580 q589 (g := (mkL r1 m 112 #[sR r1, sJ j1, zS, sR r3, sJ j2, zS] [(.ref r1), (.ref r1)])) rfl rfl (hb hby d77_112)
    refine Go.of st595 ?_
    show Go p e below Qo T595 (mkL r1 m 115 #[sR r1, sJ j1, zS, sR r3, sJ j2, zS] [(.int fc), (.ref r1)])
    refine Go.of (fun t k => XS.iconst X595.here hx rfl (hb hby d77_115) k) ?_
    refine Go.of (fun t k => XS.iadd X595.here hx rfl (hb hby d77_116) rfl k) ?_
    obtain ⟨T596, h596, X596, e596, W596, st596⟩ := putF X595 hx hZ hown (host := "") (Or.inl (wk hw 65 rfl)) Via.refl e595 q589 q581 (Or.inl (wk hw 66 rfl)) (wk hw 26 rfl) (ty := .int) (by decide) rfl rfl (g := (mkL r1 m 117 #[sR r1, sJ j1, zS, sR r3, sJ j2, zS] [(.int (fc + (1 : Int32))), (.ref r1)])) rfl rfl (hb hby d77_117)
    have q597 := q581.wr W596
    have q598 := q582.other W596 (Or.inr (sn_51 hw))
    have q599 := q583.other W596 (Or.inr (sn_52 hw))
    have q600 := q584.other W596 (Or.inr (sn_53 hw))
    have q601 := q585.other W596 (Or.inr (sn_54 hw))
    have q602 := q586.other W596 (Or.inr (sn_55 hw))
    have q603 := q587.other W596 (Or.inr (sn_56 hw))
    have q604 := q588.other W596 (Or.inr (sn_57 hw))
    have q605 : Fld Z h596 r1 kT "feasibleRuns" "I" (.int (fc + (1 : Int32))) := q589.same W596
    have q606 := q590.wr W596
    have q607 := q591.other W596 (Or.inl ne_r3_r1)
    have Z608 : n0 ≤ h596.size := Nat.le_trans Z592 (Keep.of_wr W596).1
    have N609 := own_obSnoc X596 Nx594
    obtain ⟨Lx610, Xx610, Nx610⟩ := own_locsO X596 N609
    refine Go.of st596 ?_
    show Go p e below Qo T596 (mkL r1 m 120 #[sR r1, sJ j1, zS, sR r3, sJ j2, zS] [])
    refine own_retS Xx610 hx Bd.object Bd.enterable Bd.synchronized Bd.returns (hb hby d77_120) (fun u hM hF => ?_)
    rw [e596] at hM
    exact hQo _ _ _ ⟨(F9 wp j2), (qs + j2), (fc + (1 : Int32)), rfl, own_obFr Nx610 g_r1, own_keepS hh hF Nx610, (by exact q597.mon hM), own_monU hh hF f1, (by rw [if_neg hc13_3]; exact q598.mon hM), (by rw [if_neg hc13_3]; exact q599.mon hM), (by rw [if_neg (fun q => q.elim hc48_357 (fun z => hc67_459 z.2))]; exact q600.mon hM), (by rw [if_neg (fun q => q.elim hc48_357 (fun z => hc67_459 z.2))]; exact q601.mon hM), (by rw [if_neg (fun q => q.elim hc48_357 (fun z => hc67_459 z.2))]; exact q602.mon hM), (by exact q603.mon hM), (by exact q604.mon hM), (by exact q605.mon hM)⟩ (own_mono hF (by decide) (by decide))
  refine Go.of (fun t k => XS.ifYes X456.here hx rfl (pc0 := 58) (pc' := 86) rfl (hb hby d77_58) rfl ((if0 _ _).trans (feq (fun z => hc58_457 ((lw_eq j2 bp).mp z))).2) (by decide) (by decide) k) ?_
  refine Go.of (fun t k => XS.aloadN X456.here hx rfl (hb hby d77_86) rfl rfl k) ?_
  refine Go.of (fun t k => XS.aloadN X456.here hx rfl (hb hby d77_87) rfl rfl k) ?_
  obtain ⟨T611, X611, e611, st611⟩ := getF X456 hx hZ hown (host := "") (Or.inl (wk hw 57 rfl)) Via.refl e456 m7 (g := (mkL r1 m 88 #[sR r1, sJ j1, zS, sR r3, sJ j2, zS] [(.ref r1), (.ref r1)])) rfl rfl (hb hby d77_88)
  refine Go.of st611 ?_
  show Go p e below Qo T611 (mkL r1 m 91 #[sR r1, sJ j1, zS, sR r3, sJ j2, zS] [(.long wp), (.ref r1)])
  refine Go.of (fun t k => XS.lload X611.here hx rfl (hb hby d77_91) rfl  k) ?_
  show Go p e below Qo T611 (mkL r1 m 93 #[sR r1, sJ j1, zS, sR r3, sJ j2, zS] [(.long j2), (.long wp), (.ref r1)])
  obtain ⟨_, _, ⟨T612, L612, k612, n612⟩, -, X612, ⟨Lc612, hQ612, l612, y612, z612⟩, st612⟩ := Jvm.LawKit.callS X611 hx (y := (⟨"java/lang/Math", "max", "(JJ)J"⟩ : MethodName)) hown (mvT hZ (wk hw 59 rfl)) (mvT hZ (wk hw 60 rfl)) (mvT hZ (wk hw 61 rfl)) (mvT hZ (wk hw 62 rfl)) (by decide) (backOf (W := 3) (rm9 l Z a0 hw [] wp j2 s₁.heap n0 Z1 ) hZ (wk hw 62 rfl) (wk hw 61 rfl) (by decide) (by decide)) (g := (mkL r1 m 93 #[sR r1, sJ j1, zS, sR r3, sJ j2, zS] [(.long j2), (.long wp), (.ref r1)])) rfl (by rw [hml]; rfl) (argsL := [(.long wp), (.long j2)]) (rest := [(.ref r1)]) (lenOf pd_2 rfl) rfl (by show 2 * 1 + _ ≤ _; exact Nat.le_of_eq rfl) (hb hby d77_93) (fun _ _ => ⟨rfl, e611, (by decide : 0 + 0 ≤ _), (by decide : 0 + 0 ≤ _)⟩)
  dsimp only [Pt.U, Pt.locs, Pt.cells, Pt.slots] at X612 l612 y612 z612 st612 hQ612
  subst l612 y612 z612
  replace X612 := own_cs X612 (c' := 0) (s' := 0) (by decide) (by decide)
  obtain ⟨rfl, N613, eh614⟩ := hQ612
  subst N613
  have N615 := own_obNil2 Nx354
  refine Go.of st612 ?_
  obtain ⟨Lx616, Xx616, Nx616⟩ := own_locsO X612 N615
  show Go p e below Qo T612 (mkL r1 m 96 #[sR r1, sJ j1, zS, sR r3, sJ j2, zS] [(.long (F9 wp j2)), (.ref r1)])
  obtain ⟨T617, h617, X617, e617, W617, st617⟩ := putF Xx616 hx hZ hown (host := "") (Or.inl (wk hw 57 rfl)) Via.refl eh614 m7 m0 (Or.inl (wk hw 58 rfl)) (wk hw 26 rfl) (ty := .long) (by decide) rfl rfl (g := (mkL r1 m 96 #[sR r1, sJ j1, zS, sR r3, sJ j2, zS] [(.long (F9 wp j2)), (.ref r1)])) rfl rfl (hb hby d77_96)
  have q618 := m0.wr W617
  have q619 := m2.other W617 (Or.inr (sn_37 hw))
  have q620 := m3.other W617 (Or.inr (sn_38 hw))
  have q621 := m4.other W617 (Or.inr (sn_39 hw))
  have q622 := m5.other W617 (Or.inr (sn_40 hw))
  have q623 := m6.other W617 (Or.inr (sn_41 hw))
  have q624 : Fld Z h617 r1 kT "worstPenalty" "J" (.long (F9 wp j2)) := m7.same W617
  have q625 := m8.other W617 (Or.inr (sn_42 hw))
  have q626 := m9.other W617 (Or.inr (sn_43 hw))
  have q627 := m10.wr W617
  have q628 := m11.other W617 (Or.inl ne_r3_r1)
  have Z629 : n0 ≤ h617.size := Nat.le_trans Z1 (Keep.of_wr W617).1
  have N630 := own_obSnoc X617 Nx616
  obtain ⟨Lx631, Xx631, Nx631⟩ := own_locsO X617 N630
  refine Go.of st617 ?_
  show Go p e below Qo T617 (mkL r1 m 99 #[sR r1, sJ j1, zS, sR r3, sJ j2, zS] [])
  refine Go.of (fun t k => XS.aloadN Xx631.here hx rfl (hb hby d77_99) rfl rfl k) ?_
  refine Go.of (fun t k => XS.dup Xx631.here hx rfl (hb hby d77_100) rfl rfl k) ?_
  obtain ⟨T632, X632, e632, st632⟩ := getF Xx631 hx hZ hown (host := "") (Or.inl (wk hw 63 rfl)) Via.refl e617 q625 (g := (mkL r1 m 101 #[sR r1, sJ j1, zS, sR r3, sJ j2, zS] [(.ref r1), (.ref r1)])) rfl rfl (hb hby d77_101)
  refine Go.of st632 ?_
  show Go p e below Qo T632 (mkL r1 m 104 #[sR r1, sJ j1, zS, sR r3, sJ j2, zS] [(.long qs), (.ref r1)])
  refine Go.of (fun t k => XS.lload X632.here hx rfl (hb hby d77_104) rfl  k) ?_
  refine Go.of (fun t k => XS.ladd X632.here hx rfl (hb hby d77_106) rfl k) ?_
  obtain ⟨T633, h633, X633, e633, W633, st633⟩ := putF X632 hx hZ hown (host := "") (Or.inl (wk hw 63 rfl)) Via.refl e632 q625 q618 (Or.inl (wk hw 64 rfl)) (wk hw 26 rfl) (ty := .long) (by decide) rfl rfl (g := (mkL r1 m 107 #[sR r1, sJ j1, zS, sR r3, sJ j2, zS] [(.long (qs + j2)), (.ref r1)])) rfl rfl (hb hby d77_107)
  have q634 := q618.wr W633
  have q635 := q619.other W633 (Or.inr (sn_44 hw))
  have q636 := q620.other W633 (Or.inr (sn_45 hw))
  have q637 := q621.other W633 (Or.inr (sn_46 hw))
  have q638 := q622.other W633 (Or.inr (sn_47 hw))
  have q639 := q623.other W633 (Or.inr (sn_48 hw))
  have q640 := q624.other W633 (Or.inr (sn_49 hw))
  have q641 : Fld Z h633 r1 kT "penaltySum" "J" (.long (qs + j2)) := q625.same W633
  have q642 := q626.other W633 (Or.inr (sn_50 hw))
  have q643 := q627.wr W633
  have q644 := q628.other W633 (Or.inl ne_r3_r1)
  have Z645 : n0 ≤ h633.size := Nat.le_trans Z629 (Keep.of_wr W633).1
  have N646 := own_obSnoc X633 Nx631
  obtain ⟨Lx647, Xx647, Nx647⟩ := own_locsO X633 N646
  refine Go.of st633 ?_
  show Go p e below Qo T633 (mkL r1 m 110 #[sR r1, sJ j1, zS, sR r3, sJ j2, zS] [])
  refine Go.of (fun t k => XS.aloadN Xx647.here hx rfl (hb hby d77_110) rfl rfl k) ?_
  refine Go.of (fun t k => XS.dup Xx647.here hx rfl (hb hby d77_111) rfl rfl k) ?_
  show Go p e below Qo T633 (mkL r1 m 112 #[sR r1, sJ j1, zS, sR r3, sJ j2, zS] [(.ref r1), (.ref r1)])
  obtain ⟨T648, X648, e648, st648⟩ := getF Xx647 hx hZ hown (host := "") (Or.inl (wk hw 65 rfl)) Via.refl e633 q642 (g := (mkL r1 m 112 #[sR r1, sJ j1, zS, sR r3, sJ j2, zS] [(.ref r1), (.ref r1)])) rfl rfl (hb hby d77_112)
  refine Go.of st648 ?_
  show Go p e below Qo T648 (mkL r1 m 115 #[sR r1, sJ j1, zS, sR r3, sJ j2, zS] [(.int fc), (.ref r1)])
  refine Go.of (fun t k => XS.iconst X648.here hx rfl (hb hby d77_115) k) ?_
  refine Go.of (fun t k => XS.iadd X648.here hx rfl (hb hby d77_116) rfl k) ?_
  obtain ⟨T649, h649, X649, e649, W649, st649⟩ := putF X648 hx hZ hown (host := "") (Or.inl (wk hw 65 rfl)) Via.refl e648 q642 q634 (Or.inl (wk hw 66 rfl)) (wk hw 26 rfl) (ty := .int) (by decide) rfl rfl (g := (mkL r1 m 117 #[sR r1, sJ j1, zS, sR r3, sJ j2, zS] [(.int (fc + (1 : Int32))), (.ref r1)])) rfl rfl (hb hby d77_117)
  have q650 := q634.wr W649
  have q651 := q635.other W649 (Or.inr (sn_51 hw))
  have q652 := q636.other W649 (Or.inr (sn_52 hw))
  have q653 := q637.other W649 (Or.inr (sn_53 hw))
  have q654 := q638.other W649 (Or.inr (sn_54 hw))
  have q655 := q639.other W649 (Or.inr (sn_55 hw))
  have q656 := q640.other W649 (Or.inr (sn_56 hw))
  have q657 := q641.other W649 (Or.inr (sn_57 hw))
  have q658 : Fld Z h649 r1 kT "feasibleRuns" "I" (.int (fc + (1 : Int32))) := q642.same W649
  have q659 := q643.wr W649
  have q660 := q644.other W649 (Or.inl ne_r3_r1)
  have Z661 : n0 ≤ h649.size := Nat.le_trans Z645 (Keep.of_wr W649).1
  have N662 := own_obSnoc X649 Nx647
  obtain ⟨Lx663, Xx663, Nx663⟩ := own_locsO X649 N662
  refine Go.of st649 ?_
  show Go p e below Qo T649 (mkL r1 m 120 #[sR r1, sJ j1, zS, sR r3, sJ j2, zS] [])
  refine own_retS Xx663 hx Bd.object Bd.enterable Bd.synchronized Bd.returns (hb hby d77_120) (fun u hM hF => ?_)
  rw [e649] at hM
  exact hQo _ _ _ ⟨(F9 wp j2), (qs + j2), (fc + (1 : Int32)), rfl, own_obFr Nx663 g_r1, own_keepS hh hF Nx663, (by exact q650.mon hM), own_monU hh hF f1, (by rw [if_neg hc13_3]; exact q651.mon hM), (by rw [if_neg hc13_3]; exact q652.mon hM), (by rw [if_neg (fun q => q.elim hc48_357 (fun z => hc58_457 z.1))]; exact q653.mon hM), (by rw [if_neg (fun q => q.elim hc48_357 (fun z => hc58_457 z.1))]; exact q654.mon hM), (by rw [if_neg (fun q => q.elim hc48_357 (fun z => hc58_457 z.1))]; exact q655.mon hM), (by exact q656.mon hM), (by exact q657.mon hM), (by exact q658.mon hM)⟩ (own_mono hF (by decide) (by decide))
theorem own_le (a b d e : Int64) : F10 a b d e = 0 ↔ ¬ (a.toInt < d.toInt ∨ (a.toInt = d.toInt ∧ b.toInt ≤ e.toInt)) := by
  unfold F10
  simp only [Int64.lt_iff_toInt_lt, ← Int64.toInt_inj]
  (repeat' split) <;> first | (constructor <;> intro h <;> first | omega | (revert h; decide)) | skip
  all_goals (constructor <;> intro h <;> first | omega | (exfalso; revert h; decide) | rfl)
theorem own_00 : ((0 : Int32) = 0) = True := by simp
theorem own_10 : ((1 : Int32) = 0) = False := by simp
theorem own_pair (p1 p2 s1 s2 : Int64) (a1 a2 : Addr) : (¬ F10 p1 s1 p2 s2 = 0 → (if (p2 < p1 ∨ (p2 = p1 ∧ s2 < s1)) then a2 else a1) = a1) ∧ (F10 p1 s1 p2 s2 = 0 → (if (p2 < p1 ∨ (p2 = p1 ∧ s2 < s1)) then a2 else a1) = a2) := by
  by_cases q : p2 < p1 ∨ (p2 = p1 ∧ s2 < s1)
  · rw [if_pos q]; refine ⟨fun h => ?_, fun _ => rfl⟩; exfalso; simp only [own_le, Int64.lt_iff_toInt_lt, ← Int64.toInt_inj] at q h; omega
  · rw [if_neg q]; refine ⟨fun _ => rfl, fun h => ?_⟩; exfalso; simp only [own_le, Int64.lt_iff_toInt_lt, ← Int64.toInt_inj] at q h; omega
theorem own_tot (p1 p2 s1 s2 : Int64) : ¬ (F10 p1 s1 p2 s2 = 0 ∧ F10 p2 s2 p1 s1 = 0) := by
  intro ⟨h1, h2⟩; simp only [own_le, Int64.lt_iff_toInt_lt, ← Int64.toInt_inj] at h1 h2; omega
theorem own_three (p1 p2 p3 s1 s2 s3 : Int64) (a1 a2 a3 : Addr) : (¬ F10 p1 s1 p2 s2 = 0 → ¬ F10 p1 s1 p3 s3 = 0 → (if (p3 < (if (p2 < p1 ∨ (p2 = p1 ∧ s2 < s1)) then p2 else p1) ∨ (p3 = (if (p2 < p1 ∨ (p2 = p1 ∧ s2 < s1)) then p2 else p1) ∧ s3 < (if (p2 < p1 ∨ (p2 = p1 ∧ s2 < s1)) then s2 else s1))) then a3 else (if (p2 < p1 ∨ (p2 = p1 ∧ s2 < s1)) then a2 else a1)) = a1) ∧ ((F10 p1 s1 p2 s2 = 0 ∨ F10 p1 s1 p3 s3 = 0) → ¬ F10 p2 s2 p1 s1 = 0 → ¬ F10 p2 s2 p3 s3 = 0 → (if (p3 < (if (p2 < p1 ∨ (p2 = p1 ∧ s2 < s1)) then p2 else p1) ∨ (p3 = (if (p2 < p1 ∨ (p2 = p1 ∧ s2 < s1)) then p2 else p1) ∧ s3 < (if (p2 < p1 ∨ (p2 = p1 ∧ s2 < s1)) then s2 else s1))) then a3 else (if (p2 < p1 ∨ (p2 = p1 ∧ s2 < s1)) then a2 else a1)) = a2) ∧ ((F10 p1 s1 p2 s2 = 0 ∨ F10 p1 s1 p3 s3 = 0) → (F10 p2 s2 p1 s1 = 0 ∨ F10 p2 s2 p3 s3 = 0) → (if (p3 < (if (p2 < p1 ∨ (p2 = p1 ∧ s2 < s1)) then p2 else p1) ∨ (p3 = (if (p2 < p1 ∨ (p2 = p1 ∧ s2 < s1)) then p2 else p1) ∧ s3 < (if (p2 < p1 ∨ (p2 = p1 ∧ s2 < s1)) then s2 else s1))) then a3 else (if (p2 < p1 ∨ (p2 = p1 ∧ s2 < s1)) then a2 else a1)) = a3) := by
  have e : (if (p3 < (if (p2 < p1 ∨ (p2 = p1 ∧ s2 < s1)) then p2 else p1) ∨ (p3 = (if (p2 < p1 ∨ (p2 = p1 ∧ s2 < s1)) then p2 else p1) ∧ s3 < (if (p2 < p1 ∨ (p2 = p1 ∧ s2 < s1)) then s2 else s1))) then a3 else (if (p2 < p1 ∨ (p2 = p1 ∧ s2 < s1)) then a2 else a1)) = (if (p2 < p1 ∨ (p2 = p1 ∧ s2 < s1)) then (if (p3 < p2 ∨ (p3 = p2 ∧ s3 < s2)) then a3 else a2) else (if (p3 < p1 ∨ (p3 = p1 ∧ s3 < s1)) then a3 else a1)) := by
    by_cases q2 : p2 < p1 ∨ (p2 = p1 ∧ s2 < s1)
    · simp only [if_pos q2]
    · simp only [if_neg q2]
  rw [e]
  by_cases q2 : p2 < p1 ∨ (p2 = p1 ∧ s2 < s1)
  · rw [if_pos q2]
    by_cases q3 : p3 < p2 ∨ (p3 = p2 ∧ s3 < s2)
    · rw [if_pos q3]
      refine ⟨fun h1 h2 => ?_, fun h1 h2 h3 => ?_, fun h1 h2 => ?_⟩
      · first | rfl | (exfalso; simp only [own_le, Int64.lt_iff_toInt_lt, ← Int64.toInt_inj] at q2 q3 h1 h2; omega)
      · first | rfl | (exfalso; simp only [own_le, Int64.lt_iff_toInt_lt, ← Int64.toInt_inj] at q2 q3 h1 h2 h3; omega)
      · first | rfl | (exfalso; simp only [own_le, Int64.lt_iff_toInt_lt, ← Int64.toInt_inj] at q2 q3 h1 h2; omega)
    · rw [if_neg q3]
      refine ⟨fun h1 h2 => ?_, fun h1 h2 h3 => ?_, fun h1 h2 => ?_⟩
      · first | rfl | (exfalso; simp only [own_le, Int64.lt_iff_toInt_lt, ← Int64.toInt_inj] at q2 q3 h1 h2; omega)
      · first | rfl | (exfalso; simp only [own_le, Int64.lt_iff_toInt_lt, ← Int64.toInt_inj] at q2 q3 h1 h2 h3; omega)
      · first | rfl | (exfalso; simp only [own_le, Int64.lt_iff_toInt_lt, ← Int64.toInt_inj] at q2 q3 h1 h2; omega)
  · rw [if_neg q2]
    by_cases q3 : p3 < p1 ∨ (p3 = p1 ∧ s3 < s1)
    · rw [if_pos q3]
      refine ⟨fun h1 h2 => ?_, fun h1 h2 h3 => ?_, fun h1 h2 => ?_⟩
      · first | rfl | (exfalso; simp only [own_le, Int64.lt_iff_toInt_lt, ← Int64.toInt_inj] at q2 q3 h1 h2; omega)
      · first | rfl | (exfalso; simp only [own_le, Int64.lt_iff_toInt_lt, ← Int64.toInt_inj] at q2 q3 h1 h2 h3; omega)
      · first | rfl | (exfalso; simp only [own_le, Int64.lt_iff_toInt_lt, ← Int64.toInt_inj] at q2 q3 h1 h2; omega)
    · rw [if_neg q3]
      refine ⟨fun h1 h2 => ?_, fun h1 h2 h3 => ?_, fun h1 h2 => ?_⟩
      · first | rfl | (exfalso; simp only [own_le, Int64.lt_iff_toInt_lt, ← Int64.toInt_inj] at q2 q3 h1 h2; omega)
      · first | rfl | (exfalso; simp only [own_le, Int64.lt_iff_toInt_lt, ← Int64.toInt_inj] at q2 q3 h1 h2 h3; omega)
      · first | rfl | (exfalso; simp only [own_le, Int64.lt_iff_toInt_lt, ← Int64.toInt_inj] at q2 q3 h1 h2; omega)
theorem own_none (j1 j2 j3 : Int64) (a1 a2 a3 z : Addr) (x y : Int32) (hx : x = if j2 < j1 then 0 else if j3 < j1 then 0 else 1) (hy : y = if j1 < j2 then 0 else if j3 < j2 then 0 else 1) (hz : z = if x = 0 then (if y = 0 then a3 else a2) else a1) : (if j3 < (if j2 < j1 then j2 else j1) then a3 else (if j2 < j1 then a2 else a1)) = z := by
  subst hx hy hz
  by_cases c1 : j2 < j1 <;> by_cases c2 : j3 < j1 <;> by_cases c3 : j1 < j2 <;> by_cases c4 : j3 < j2 <;> first | (simp [c1, c2, c3, c4]; done) | (exfalso; simp only [Int64.lt_iff_toInt_lt] at c1 c2 c3 c4; omega)
theorem pd_3 : parseMethodDescriptor "(Ljava/lang/Object;Ljava/util/List;)V" = some ⟨[(.object "java/lang/Object"), (.object "java/util/List")], none⟩ := by decide +kernel
theorem pd_4 : parseMethodDescriptor "()Lcom/example/examwright/examwright/Method$Attempt;" = some ⟨[], some (.object kA)⟩ := by decide +kernel
theorem pd_5 : parseMethodDescriptor "(JLcom/example/examwright/examwright/Method$Attempt;J)V" = some ⟨[.long, (.object kA), .long], none⟩ := by decide +kernel
theorem pd_6 : parseMethodDescriptor "(I)Ljava/lang/Integer;" = some ⟨[.int], some (.object "java/lang/Integer")⟩ := by decide +kernel
theorem pd_7 : parseMethodDescriptor "(JJJJ)Z" = some ⟨[.long, .long, .long, .long], some .boolean⟩ := by decide +kernel
theorem ef_0 (m : MethodId) (j1 : Int64) (j2 : Int64) (j3 : Int64) (j4 : Int64) (j5 : Int64) (i1 : Int32)  : entryFrame m #[(.long j1), (.long j2), (.long j3), (.long j4), (.long j5), (.int i1)] maxLocals = mkF m 0 #[.val (.long j1), .second, .val (.long j2), .second, .val (.long j3), .second, .val (.long j4), .second, .val (.long j5), .second, .val (.int i1), .unset, .unset, .unset, .unset, .unset, .unset, .unset, .unset, .unset, .unset, .unset, .unset, .unset, .unset, .unset] [] := by
  first | (simp [entryFrame, mkF, argsToLocals, Value.category, maxLocals]; done) | rfl
def Q0 (Z : State) (j1 : Int64) (j2 : Int64) (j3 : Int64) (j4 : Int64) (j5 : Int64) (i1 : Int32) (rc : Addr) (h0 : Heap) (n0 : Nat) (v : Option Value) (h : Heap) (L : List Loc) : Prop := v = some (.int 1) ∧ Fr n0 L
set_option maxRecDepth 65536 in
set_option maxHeartbeats 40000000 in
theorem rm0 (l : Launch) (Z : State) (a0 : Array Value) (hw : ∀ d ∈ tables_1, d.before a0 Z = true) (ws : List Jvm.Cond) (j1 : Int64) (j2 : Int64) (j3 : Int64) (j4 : Int64) (j5 : Int64) (i1 : Int32) (rc : Addr) (h0 : Heap) (n0 : Nat) (Z0 : n0 ≤ h0.size) (f0 : Sta Z h0 "java/lang/Integer$IntegerCache" "high" "I" (.int (127 : Int32))) (f1 : Sta Z h0 "java/lang/Integer$IntegerCache" "cache" "[Ljava/lang/Integer;" (.ref rc)) (f2 : Old Z n0 h0) (hC : own_cache Z rc) :
    MetFree l x (head1 (Jvm.Cond.code x code maxLocals ret :: ws) room_1) (fun a U => a = #[(.long j1), (.long j2), (.long j3), (.long j4), (.long j5), (.int i1)] ∧ Z.Warmed39 U.vm ∧ U.heap = h0) (fun _ _ _ _ _ => True) (fun _ U o U' => ∃ v L, o = .returned v ∧ Q0 Z j1 j2 j3 j4 j5 i1 rc h0 n0 v U'.heap L ∧ FrameEnd U o U' L 4 15) := by
  refine MetFree.of_bodySF (plainFor_of_name pn_4) hisR ?_
  intro p e s m args below meth c s₁ Bd hml0 hP hK
  obtain ⟨rfl, hZ, hh⟩ := hP
  have hx := Bd.exec
  have hby := Bd.bytes
  have hml : c.maxLocals = 26 := hml0
  have hown : s.vm.findClass kL = some m.cls := findClass_of_methodNamed Bd.named
  have hnm := (name_of_methodNamed Bd.named Bd.method).1
  have X0 : Stand p l e room_1 s m #[(.long j1), (.long j2), (.long j3), (.long j4), (.long j5), (.int i1)] below meth c s₁ [] 0 0 := Stand.of_body Bd
  have e0 : s₁.heap = h0 := by rw [← hh, Bd.state]; rfl
  have N0 := Fr.nil n0
  suffices H : ∀ Qo : Outcome → State → Prop, (∀ (v : Option Value) (u : State) (L : List Loc), Q0 Z j1 j2 j3 j4 j5 i1 rc h0 n0 v u.heap L → FrameEnd s (.returned v) u L 4 15 → Qo (.returned v) u) → Go p e below Qo s₁ (mkF m 0 #[.val (.long j1), .second, .val (.long j2), .second, .val (.long j3), .second, .val (.long j4), .second, .val (.long j5), .second, .val (.int i1), .unset, .unset, .unset, .unset, .unset, .unset, .unset, .unset, .unset, .unset, .unset, .unset, .unset, .unset, .unset] []) from
    Go.cast (ef_0 m j1 j2 j3 j4 j5 i1) (H _ fun v u L h1 h2 => ⟨v, L, rfl, h1, h2⟩)
  intro Qo hQo
  show Go p e below Qo s₁ (mkF m 0 #[sJ j1, zS, sJ j2, zS, sJ j3, zS, sJ j4, zS, sJ j5, zS, sI i1, zU, zU, zU, zU, zU, zU, zU, zU, zU, zU, zU, zU, zU, zU, zU] [])
  refine Go.of (fun t k => XS.iload X0.here hx rfl (hb hby at_0) rfl  k) ?_
  refine Go.of (fun t k => XS.iconst X0.here hx rfl (hb hby at_2) k) ?_
  refine Go.of (fun t k => XS.iand X0.here hx rfl (hb hby at_3) rfl k) ?_
  suffices J4_3 : ∀ (v4_2 : Int32), v4_2 = (if (i1 &&& (1 : Int32)) = (0 : Int32) then (0 : Int32) else (1 : Int32)) → Go p e below Qo s₁ (mkF m 12 #[sJ j1, zS, sJ j2, zS, sJ j3, zS, sJ j4, zS, sJ j5, zS, sI i1, zU, zU, zU, zU, zU, zU, zU, zU, zU, zU, zU, zU, zU, zU, zU] [(.int v4_2)]) by
    by_cases hc4_1890 : (i1 &&& (1 : Int32)) = (0 : Int32)
    · refine Go.of (fun t k => XS.ifYes X0.here hx rfl (pc0 := 4) (pc' := 11) rfl (hb hby at_4) rfl ((if0 _ _).trans (teq hc4_1890).1) (by decide) (by decide) k) ?_
      refine Go.of (fun t k => XS.iconst X0.here hx rfl (hb hby at_11) k) ?_
      show Go p e below Qo s₁ (mkF m 12 #[sJ j1, zS, sJ j2, zS, sJ j3, zS, sJ j4, zS, sJ j5, zS, sI i1, zU, zU, zU, zU, zU, zU, zU, zU, zU, zU, zU, zU, zU, zU, zU] [(.int (0 : Int32))])
      exact J4_3 _ (by first | rfl | (rw [if_pos hc4_1890]) | (simp only [hc4_1890, if_true, if_false]; done) | simp [hc4_1890])
    refine Go.of (fun t k => XS.ifNo X0.here hx rfl (hb hby at_4) rfl ((if0 _ _).trans (feq hc4_1890).1) k) ?_
    refine Go.of (fun t k => XS.iconst X0.here hx rfl (hb hby at_7) k) ?_
    refine Go.of (fun t k => XS.goto X0.here hx rfl (pc0 := 8) (pc' := 12) rfl (hb hby at_8) (by decide) (by decide) k) ?_
    show Go p e below Qo s₁ (mkF m 12 #[sJ j1, zS, sJ j2, zS, sJ j3, zS, sJ j4, zS, sJ j5, zS, sI i1, zU, zU, zU, zU, zU, zU, zU, zU, zU, zU, zU, zU, zU, zU, zU] [(.int (1 : Int32))])
    exact J4_3 _ (by first | rfl | (rw [if_neg hc4_1890]) | (simp only [hc4_1890, if_true, if_false]; done) | simp [hc4_1890])
  intro v4_2 hv4_2
  show Go p e below Qo s₁ (mkF m 12 #[sJ j1, zS, sJ j2, zS, sJ j3, zS, sJ j4, zS, sJ j5, zS, sI i1, zU, zU, zU, zU, zU, zU, zU, zU, zU, zU, zU, zU, zU, zU, zU] [(.int v4_2)])
  refine Go.of (fun t k => XS.istore X0.here hx rfl (hb hby at_12) rfl (l' := #[sJ j1, zS, sJ j2, zS, sJ j3, zS, sJ j4, zS, sJ j5, zS, sI i1, sI v4_2, zU, zU, zU, zU, zU, zU, zU, zU, zU, zU, zU, zU, zU, zU]) rfl k) ?_
  refine Go.of (fun t k => XS.iload X0.here hx rfl (hb hby at_14) rfl  k) ?_
  refine Go.of (fun t k => XS.iconst X0.here hx rfl (hb hby at_16) k) ?_
  refine Go.of (fun t k => XS.iand X0.here hx rfl (hb hby at_17) rfl k) ?_
  suffices J18_6 : ∀ (v18_5 : Int32), v18_5 = (if (i1 &&& (2 : Int32)) = (0 : Int32) then (0 : Int32) else (1 : Int32)) → Go p e below Qo s₁ (mkF m 26 #[sJ j1, zS, sJ j2, zS, sJ j3, zS, sJ j4, zS, sJ j5, zS, sI i1, sI v4_2, zU, zU, zU, zU, zU, zU, zU, zU, zU, zU, zU, zU, zU, zU] [(.int v18_5)]) by
    by_cases hc18_1889 : (i1 &&& (2 : Int32)) = (0 : Int32)
    · refine Go.of (fun t k => XS.ifYes X0.here hx rfl (pc0 := 18) (pc' := 25) rfl (hb hby at_18) rfl ((if0 _ _).trans (teq hc18_1889).1) (by decide) (by decide) k) ?_
      refine Go.of (fun t k => XS.iconst X0.here hx rfl (hb hby at_25) k) ?_
      show Go p e below Qo s₁ (mkF m 26 #[sJ j1, zS, sJ j2, zS, sJ j3, zS, sJ j4, zS, sJ j5, zS, sI i1, sI v4_2, zU, zU, zU, zU, zU, zU, zU, zU, zU, zU, zU, zU, zU, zU] [(.int (0 : Int32))])
      exact J18_6 _ (by first | rfl | (rw [if_pos hc18_1889]) | (simp only [hc18_1889, if_true, if_false]; done) | simp [hc18_1889])
    refine Go.of (fun t k => XS.ifNo X0.here hx rfl (hb hby at_18) rfl ((if0 _ _).trans (feq hc18_1889).1) k) ?_
    show Go p e below Qo s₁ (mkF m 21 #[sJ j1, zS, sJ j2, zS, sJ j3, zS, sJ j4, zS, sJ j5, zS, sI i1, sI v4_2, zU, zU, zU, zU, zU, zU, zU, zU, zU, zU, zU, zU, zU, zU] [])
    refine Go.of (fun t k => XS.iconst X0.here hx rfl (hb hby at_21) k) ?_
    refine Go.of (fun t k => XS.goto X0.here hx rfl (pc0 := 22) (pc' := 26) rfl (hb hby at_22) (by decide) (by decide) k) ?_
    show Go p e below Qo s₁ (mkF m 26 #[sJ j1, zS, sJ j2, zS, sJ j3, zS, sJ j4, zS, sJ j5, zS, sI i1, sI v4_2, zU, zU, zU, zU, zU, zU, zU, zU, zU, zU, zU, zU, zU, zU] [(.int (1 : Int32))])
    exact J18_6 _ (by first | rfl | (rw [if_neg hc18_1889]) | (simp only [hc18_1889, if_true, if_false]; done) | simp [hc18_1889])
  intro v18_5 hv18_5
  show Go p e below Qo s₁ (mkF m 26 #[sJ j1, zS, sJ j2, zS, sJ j3, zS, sJ j4, zS, sJ j5, zS, sI i1, sI v4_2, zU, zU, zU, zU, zU, zU, zU, zU, zU, zU, zU, zU, zU, zU] [(.int v18_5)])
  refine Go.of (fun t k => XS.istore X0.here hx rfl (hb hby at_26) rfl (l' := #[sJ j1, zS, sJ j2, zS, sJ j3, zS, sJ j4, zS, sJ j5, zS, sI i1, sI v4_2, sI v18_5, zU, zU, zU, zU, zU, zU, zU, zU, zU, zU, zU, zU, zU]) rfl k) ?_
  refine Go.of (fun t k => XS.iload X0.here hx rfl (hb hby at_28) rfl  k) ?_
  refine Go.of (fun t k => XS.iconst X0.here hx rfl (hb hby at_30) k) ?_
  refine Go.of (fun t k => XS.iand X0.here hx rfl (hb hby at_31) rfl k) ?_
  suffices J32_9 : ∀ (v32_8 : Int32), v32_8 = (if (i1 &&& (4 : Int32)) = (0 : Int32) then (0 : Int32) else (1 : Int32)) → Go p e below Qo s₁ (mkF m 40 #[sJ j1, zS, sJ j2, zS, sJ j3, zS, sJ j4, zS, sJ j5, zS, sI i1, sI v4_2, sI v18_5, zU, zU, zU, zU, zU, zU, zU, zU, zU, zU, zU, zU, zU] [(.int v32_8)]) by
    by_cases hc32_1888 : (i1 &&& (4 : Int32)) = (0 : Int32)
    · refine Go.of (fun t k => XS.ifYes X0.here hx rfl (pc0 := 32) (pc' := 39) rfl (hb hby at_32) rfl ((if0 _ _).trans (teq hc32_1888).1) (by decide) (by decide) k) ?_
      refine Go.of (fun t k => XS.iconst X0.here hx rfl (hb hby at_39) k) ?_
      show Go p e below Qo s₁ (mkF m 40 #[sJ j1, zS, sJ j2, zS, sJ j3, zS, sJ j4, zS, sJ j5, zS, sI i1, sI v4_2, sI v18_5, zU, zU, zU, zU, zU, zU, zU, zU, zU, zU, zU, zU, zU] [(.int (0 : Int32))])
      exact J32_9 _ (by first | rfl | (rw [if_pos hc32_1888]) | (simp only [hc32_1888, if_true, if_false]; done) | simp [hc32_1888])
    refine Go.of (fun t k => XS.ifNo X0.here hx rfl (hb hby at_32) rfl ((if0 _ _).trans (feq hc32_1888).1) k) ?_
    refine Go.of (fun t k => XS.iconst X0.here hx rfl (hb hby at_35) k) ?_
    refine Go.of (fun t k => XS.goto X0.here hx rfl (pc0 := 36) (pc' := 40) rfl (hb hby at_36) (by decide) (by decide) k) ?_
    show Go p e below Qo s₁ (mkF m 40 #[sJ j1, zS, sJ j2, zS, sJ j3, zS, sJ j4, zS, sJ j5, zS, sI i1, sI v4_2, sI v18_5, zU, zU, zU, zU, zU, zU, zU, zU, zU, zU, zU, zU, zU] [(.int (1 : Int32))])
    exact J32_9 _ (by first | rfl | (rw [if_neg hc32_1888]) | (simp only [hc32_1888, if_true, if_false]; done) | simp [hc32_1888])
  intro v32_8 hv32_8
  show Go p e below Qo s₁ (mkF m 40 #[sJ j1, zS, sJ j2, zS, sJ j3, zS, sJ j4, zS, sJ j5, zS, sI i1, sI v4_2, sI v18_5, zU, zU, zU, zU, zU, zU, zU, zU, zU, zU, zU, zU, zU] [(.int v32_8)])
  refine Go.of (fun t k => XS.istore X0.here hx rfl (hb hby at_40) rfl (l' := #[sJ j1, zS, sJ j2, zS, sJ j3, zS, sJ j4, zS, sJ j5, zS, sI i1, sI v4_2, sI v18_5, sI v32_8, zU, zU, zU, zU, zU, zU, zU, zU, zU, zU, zU, zU]) rfl k) ?_
  refine Go.of (fun t k => XS.iload X0.here hx rfl (hb hby at_42) rfl  k) ?_
  refine Go.of (fun t k => XS.iconst X0.here hx rfl (hb hby at_44) k) ?_
  refine Go.of (fun t k => XS.ishr X0.here hx rfl (hb hby at_45) rfl k) ?_
  refine Go.of (fun t k => XS.i2l X0.here hx rfl (hb hby at_46) rfl k) ?_
  refine Go.of (fun t k => XS.lstore X0.here hx rfl (hb hby at_47) rfl (l' := #[sJ j1, zS, sJ j2, zS, sJ j3, zS, sJ j4, zS, sJ j5, zS, sI i1, sI v4_2, sI v18_5, sI v32_8, sJ ((i1 >>> ((3 : Int32) &&& 31)).toInt64), zS, zU, zU, zU, zU, zU, zU, zU, zU, zU, zU]) rfl k) ?_
  show Go p e below Qo s₁ (mkF m 49 #[sJ j1, zS, sJ j2, zS, sJ j3, zS, sJ j4, zS, sJ j5, zS, sI i1, sI v4_2, sI v18_5, sI v32_8, sJ ((i1 >>> ((3 : Int32) &&& 31)).toInt64), zS, zU, zU, zU, zU, zU, zU, zU, zU, zU, zU] [])
  generalize h_p3 : ((i1 >>> ((3 : Int32) &&& 31)).toInt64) = p3
  show Go p e below Qo s₁ (mkF m 49 #[sJ j1, zS, sJ j2, zS, sJ j3, zS, sJ j4, zS, sJ j5, zS, sI i1, sI v4_2, sI v18_5, sI v32_8, sJ p3, zS, zU, zU, zU, zU, zU, zU, zU, zU, zU, zU] [])
  obtain ⟨T10, h10, X10, e10, E10, A10, D10, Um10, st10⟩ := newO X0 hx hZ hown (wk hw 0 rfl) (wk hw 1 rfl) (wk hw 2 rfl) e0 (g := (mkF m 49 #[sJ j1, zS, sJ j2, zS, sJ j3, zS, sJ j4, zS, sJ j5, zS, sI i1, sI v4_2, sI v18_5, sI v32_8, sJ p3, zS, zU, zU, zU, zU, zU, zU, zU, zU, zU, zU] [])) rfl (hb hby at_49) (by decide) (by decide)
  obtain ⟨b10, g10⟩ : ∃ z, z = h0.size := ⟨_, rfl⟩
  rw [← g10] at A10 D10 Um10 st10
  have g11 : n0 ≤ b10 := Nat.le_trans Z0 (Nat.le_of_eq g10.symm)
  have q12 := f0.ext E10
  have q13 := f1.ext E10
  have q14 := f2.ext E10
  have Z15 : n0 ≤ h10.size := Nat.le_trans Z0 E10.1
  replace X10 := own_cs X10 (c' := 1) (s' := 2) (by decide) (by decide)
  have q16 : Fld Z h10 b10 kA "run" "Ljava/lang/Object;" .null := D10 (Or.inr (wk hw 15 rfl)) (ty := (.object "java/lang/Object")) (by decide)
  have q17 : Fld Z h10 b10 kA "choices" "Ljava/util/List;" .null := D10 (Or.inr (wk hw 17 rfl)) (ty := (.object "java/util/List")) (by decide)
  refine Go.of st10 ?_
  show Go p e below Qo T10 (mkF m 52 #[sJ j1, zS, sJ j2, zS, sJ j3, zS, sJ j4, zS, sJ j5, zS, sI i1, sI v4_2, sI v18_5, sI v32_8, sJ p3, zS, zU, zU, zU, zU, zU, zU, zU, zU, zU, zU] [(.ref b10)])
  refine Go.of (fun t k => XS.dup X10.here hx rfl (hb hby at_52) rfl rfl k) ?_
  refine Go.of (fun t k => XS.iload X10.here hx rfl (hb hby at_53) rfl  k) ?_
  by_cases hc55_18 : v4_2 = (0 : Int32)
  · refine Go.of (fun t k => XS.ifYes X10.here hx rfl (pc0 := 55) (pc' := 65) rfl (hb hby at_55) rfl ((if0 _ _).trans (teq hc55_18).1) (by decide) (by decide) k) ?_
    refine Go.of (fun t k => XS.aconstNull X10.here hx rfl (hb hby at_65) k) ?_
    show Go p e below Qo T10 (mkF m 66 #[sJ j1, zS, sJ j2, zS, sJ j3, zS, sJ j4, zS, sJ j5, zS, sI i1, sI v4_2, sI v18_5, sI v32_8, sJ p3, zS, zU, zU, zU, zU, zU, zU, zU, zU, zU, zU] [.null, (.ref b10), (.ref b10)])
    refine Go.of (fun t k => XS.aconstNull X10.here hx rfl (hb hby at_66) k) ?_
    obtain ⟨_, _, ⟨T19, L19, k19, n19⟩, -, X19, ⟨Lc19, hQ19, l19, y19, z19⟩, st19⟩ := X10.specialBack hx (y := (⟨kA, "<init>", "(Ljava/lang/Object;Ljava/util/List;)V"⟩ : MethodName)) rfl hown (mvT hZ (wk hw 3 rfl)) (mvT hZ (wk hw 4 rfl)) (mvT hZ (wk hw 5 rfl)) (by decide) (backOf (W := 1) (rm1 l Z a0 hw [] b10 .null .null .null .null h10 n0 Z15 A10 q16 q17 g11 rfl rfl) hZ (wk hw 5 rfl) (wk hw 2 rfl) (by decide) (by decide)) (g := (mkF m 67 #[sJ j1, zS, sJ j2, zS, sJ j3, zS, sJ j4, zS, sJ j5, zS, sI i1, sI v4_2, sI v18_5, sI v32_8, sJ p3, zS, zU, zU, zU, zU, zU, zU, zU, zU, zU, zU] [.null, .null, (.ref b10), (.ref b10)])) rfl (by rw [hml]; rfl) (Steps.refl _) (a := b10) (argsL := [.null, .null]) (rest := [(.ref b10)]) (lenOf pd_3 rfl) rfl (by show 2 * 0 + _ ≤ _; exact Nat.le_of_eq rfl) (hb hby at_67) (fun _ _ => ⟨rfl, e10, (by decide : 1 + 0 ≤ _), (by decide : 2 + 0 ≤ _)⟩)
    dsimp only [Pt.U, Pt.locs, Pt.cells, Pt.slots] at X19 l19 y19 z19 st19 hQ19
    subst l19 y19 z19
    replace X19 := own_cs X19 (c' := 1) (s' := 2) (by decide) (by decide)
    obtain ⟨rfl, N20, Kc21, q22, q23, q24⟩ := hQ19
    have N25 := Fr.app N0 N20
    have q26 := own_staKeep q12 Kc21 (allS (own_plainE A10) all0)
    have q27 := own_staKeep q13 Kc21 (allS (own_plainE A10) all0)
    have q28 := q14.keep Kc21 (allS g11 all0)
    have Z29 : n0 ≤ T19.heap.size := Nat.le_trans Z15 Kc21.1
    refine Go.via st19 ?_
    obtain ⟨Lx30, Xx30, Nx30⟩ := own_locs X19 N25
    show Go p e below Qo T19 (mkF m 70 #[sJ j1, zS, sJ j2, zS, sJ j3, zS, sJ j4, zS, sJ j5, zS, sI i1, sI v4_2, sI v18_5, sI v32_8, sJ p3, zS, zU, zU, zU, zU, zU, zU, zU, zU, zU, zU] [(.ref b10)])
    refine Go.of (fun t k => XS.astore Xx30.here hx rfl (hb hby at_70) rfl rfl (l' := #[sJ j1, zS, sJ j2, zS, sJ j3, zS, sJ j4, zS, sJ j5, zS, sI i1, sI v4_2, sI v18_5, sI v32_8, sJ p3, zS, sR b10, zU, zU, zU, zU, zU, zU, zU, zU, zU]) rfl k) ?_
    obtain ⟨T31, h31, X31, e31, E31, A31, D31, Um31, st31⟩ := newO Xx30 hx hZ hown (wk hw 0 rfl) (wk hw 1 rfl) (wk hw 2 rfl) rfl (g := (mkF m 72 #[sJ j1, zS, sJ j2, zS, sJ j3, zS, sJ j4, zS, sJ j5, zS, sI i1, sI v4_2, sI v18_5, sI v32_8, sJ p3, zS, sR b10, zU, zU, zU, zU, zU, zU, zU, zU, zU] [])) rfl (hb hby at_72) (by decide) (by decide)
    obtain ⟨b31, g31⟩ : ∃ z, z = T19.heap.size := ⟨_, rfl⟩
    rw [← g31] at A31 D31 Um31 st31
    have ne32 : b10 ≠ b31 := Nat.ne_of_lt (Nat.lt_of_lt_of_le q22.lt (Nat.le_of_eq g31.symm))
    have g33 : n0 ≤ b31 := Nat.le_trans Z29 (Nat.le_of_eq g31.symm)
    have q34 := q26.ext E31
    have q35 := q27.ext E31
    have q36 := q28.ext E31
    have q37 := q22.ext E31
    have q38 := q23.ext E31
    have q39 := q24.ext E31
    have Z40 : n0 ≤ h31.size := Nat.le_trans Z29 E31.1
    replace X31 := own_cs X31 (c' := 2) (s' := 4) (by decide) (by decide)
    have q41 : Fld Z h31 b31 kA "run" "Ljava/lang/Object;" .null := D31 (Or.inr (wk hw 15 rfl)) (ty := (.object "java/lang/Object")) (by decide)
    have q42 : Fld Z h31 b31 kA "choices" "Ljava/util/List;" .null := D31 (Or.inr (wk hw 17 rfl)) (ty := (.object "java/util/List")) (by decide)
    refine Go.of st31 ?_
    show Go p e below Qo T31 (mkF m 75 #[sJ j1, zS, sJ j2, zS, sJ j3, zS, sJ j4, zS, sJ j5, zS, sI i1, sI v4_2, sI v18_5, sI v32_8, sJ p3, zS, sR b10, zU, zU, zU, zU, zU, zU, zU, zU, zU] [(.ref b31)])
    refine Go.of (fun t k => XS.dup X31.here hx rfl (hb hby at_75) rfl rfl k) ?_
    refine Go.of (fun t k => XS.iload X31.here hx rfl (hb hby at_76) rfl  k) ?_
    by_cases hc78_43 : v18_5 = (0 : Int32)
    · refine Go.of (fun t k => XS.ifYes X31.here hx rfl (pc0 := 78) (pc' := 88) rfl (hb hby at_78) rfl ((if0 _ _).trans (teq hc78_43).1) (by decide) (by decide) k) ?_
      refine Go.of (fun t k => XS.aconstNull X31.here hx rfl (hb hby at_88) k) ?_
      refine Go.of (fun t k => XS.aconstNull X31.here hx rfl (hb hby at_89) k) ?_
      obtain ⟨_, _, ⟨T44, L44, k44, n44⟩, -, X44, ⟨Lc44, hQ44, l44, y44, z44⟩, st44⟩ := X31.specialBack hx (y := (⟨kA, "<init>", "(Ljava/lang/Object;Ljava/util/List;)V"⟩ : MethodName)) rfl hown (mvT hZ (wk hw 3 rfl)) (mvT hZ (wk hw 4 rfl)) (mvT hZ (wk hw 5 rfl)) (by decide) (backOf (W := 1) (rm1 l Z a0 hw [] b31 .null .null .null .null h31 n0 Z40 A31 q41 q42 g33 rfl rfl) hZ (wk hw 5 rfl) (wk hw 2 rfl) (by decide) (by decide)) (g := (mkF m 90 #[sJ j1, zS, sJ j2, zS, sJ j3, zS, sJ j4, zS, sJ j5, zS, sI i1, sI v4_2, sI v18_5, sI v32_8, sJ p3, zS, sR b10, zU, zU, zU, zU, zU, zU, zU, zU, zU] [.null, .null, (.ref b31), (.ref b31)])) rfl (by rw [hml]; rfl) (Steps.refl _) (a := b31) (argsL := [.null, .null]) (rest := [(.ref b31)]) (lenOf pd_3 rfl) rfl (by show 2 * 0 + _ ≤ _; exact Nat.le_of_eq rfl) (hb hby at_90) (fun _ _ => ⟨rfl, e31, (by decide : 2 + 0 ≤ _), (by decide : 4 + 0 ≤ _)⟩)
      dsimp only [Pt.U, Pt.locs, Pt.cells, Pt.slots] at X44 l44 y44 z44 st44 hQ44
      subst l44 y44 z44
      replace X44 := own_cs X44 (c' := 2) (s' := 4) (by decide) (by decide)
      obtain ⟨rfl, N45, Kc46, q47, q48, q49⟩ := hQ44
      have N50 := Fr.app Nx30 N45
      have q51 := own_staKeep q34 Kc46 (allS (own_plainE A31) all0)
      have q52 := own_staKeep q35 Kc46 (allS (own_plainE A31) all0)
      have q53 := q36.keep Kc46 (allS g33 all0)
      have q54 := q37.keep Kc46
      have q55 := q38.keep Kc46 (ninS ne32 nin0)
      have q56 := q39.keep Kc46 (ninS ne32 nin0)
      have Z57 : n0 ≤ T44.heap.size := Nat.le_trans Z40 Kc46.1
      refine Go.via st44 ?_
      obtain ⟨Lx58, Xx58, Nx58⟩ := own_locs X44 N50
      show Go p e below Qo T44 (mkF m 93 #[sJ j1, zS, sJ j2, zS, sJ j3, zS, sJ j4, zS, sJ j5, zS, sI i1, sI v4_2, sI v18_5, sI v32_8, sJ p3, zS, sR b10, zU, zU, zU, zU, zU, zU, zU, zU, zU] [(.ref b31)])
      refine Go.of (fun t k => XS.astore Xx58.here hx rfl (hb hby at_93) rfl rfl (l' := #[sJ j1, zS, sJ j2, zS, sJ j3, zS, sJ j4, zS, sJ j5, zS, sI i1, sI v4_2, sI v18_5, sI v32_8, sJ p3, zS, sR b10, sR b31, zU, zU, zU, zU, zU, zU, zU, zU]) rfl k) ?_
      obtain ⟨T59, h59, X59, e59, E59, A59, D59, Um59, st59⟩ := newO Xx58 hx hZ hown (wk hw 0 rfl) (wk hw 1 rfl) (wk hw 2 rfl) rfl (g := (mkF m 95 #[sJ j1, zS, sJ j2, zS, sJ j3, zS, sJ j4, zS, sJ j5, zS, sI i1, sI v4_2, sI v18_5, sI v32_8, sJ p3, zS, sR b10, sR b31, zU, zU, zU, zU, zU, zU, zU, zU] [])) rfl (hb hby at_95) (by decide) (by decide)
      obtain ⟨b59, g59⟩ : ∃ z, z = T44.heap.size := ⟨_, rfl⟩
      rw [← g59] at A59 D59 Um59 st59
      have ne60 : b10 ≠ b59 := Nat.ne_of_lt (Nat.lt_of_lt_of_le q54.lt (Nat.le_of_eq g59.symm))
      have ne61 : b31 ≠ b59 := Nat.ne_of_lt (Nat.lt_of_lt_of_le q47.lt (Nat.le_of_eq g59.symm))
      have g62 : n0 ≤ b59 := Nat.le_trans Z57 (Nat.le_of_eq g59.symm)
      have q63 := q51.ext E59
      have q64 := q52.ext E59
      have q65 := q53.ext E59
      have q66 := q54.ext E59
      have q67 := q55.ext E59
      have q68 := q56.ext E59
      have q69 := q47.ext E59
      have q70 := q48.ext E59
      have q71 := q49.ext E59
      have Z72 : n0 ≤ h59.size := Nat.le_trans Z57 E59.1
      replace X59 := own_cs X59 (c' := 3) (s' := 6) (by decide) (by decide)
      have q73 : Fld Z h59 b59 kA "run" "Ljava/lang/Object;" .null := D59 (Or.inr (wk hw 15 rfl)) (ty := (.object "java/lang/Object")) (by decide)
      have q74 : Fld Z h59 b59 kA "choices" "Ljava/util/List;" .null := D59 (Or.inr (wk hw 17 rfl)) (ty := (.object "java/util/List")) (by decide)
      refine Go.of st59 ?_
      show Go p e below Qo T59 (mkF m 98 #[sJ j1, zS, sJ j2, zS, sJ j3, zS, sJ j4, zS, sJ j5, zS, sI i1, sI v4_2, sI v18_5, sI v32_8, sJ p3, zS, sR b10, sR b31, zU, zU, zU, zU, zU, zU, zU, zU] [(.ref b59)])
      refine Go.of (fun t k => XS.dup X59.here hx rfl (hb hby at_98) rfl rfl k) ?_
      refine Go.of (fun t k => XS.iload X59.here hx rfl (hb hby at_99) rfl  k) ?_
      by_cases hc101_75 : v32_8 = (0 : Int32)
      · refine Go.of (fun t k => XS.ifYes X59.here hx rfl (pc0 := 101) (pc' := 111) rfl (hb hby at_101) rfl ((if0 _ _).trans (teq hc101_75).1) (by decide) (by decide) k) ?_
        refine Go.of (fun t k => XS.aconstNull X59.here hx rfl (hb hby at_111) k) ?_
        refine Go.of (fun t k => XS.aconstNull X59.here hx rfl (hb hby at_112) k) ?_
        obtain ⟨_, _, ⟨T76, L76, k76, n76⟩, -, X76, ⟨Lc76, hQ76, l76, y76, z76⟩, st76⟩ := X59.specialBack hx (y := (⟨kA, "<init>", "(Ljava/lang/Object;Ljava/util/List;)V"⟩ : MethodName)) rfl hown (mvT hZ (wk hw 3 rfl)) (mvT hZ (wk hw 4 rfl)) (mvT hZ (wk hw 5 rfl)) (by decide) (backOf (W := 1) (rm1 l Z a0 hw [] b59 .null .null .null .null h59 n0 Z72 A59 q73 q74 g62 rfl rfl) hZ (wk hw 5 rfl) (wk hw 2 rfl) (by decide) (by decide)) (g := (mkF m 113 #[sJ j1, zS, sJ j2, zS, sJ j3, zS, sJ j4, zS, sJ j5, zS, sI i1, sI v4_2, sI v18_5, sI v32_8, sJ p3, zS, sR b10, sR b31, zU, zU, zU, zU, zU, zU, zU, zU] [.null, .null, (.ref b59), (.ref b59)])) rfl (by rw [hml]; rfl) (Steps.refl _) (a := b59) (argsL := [.null, .null]) (rest := [(.ref b59)]) (lenOf pd_3 rfl) rfl (by show 2 * 0 + _ ≤ _; exact Nat.le_of_eq rfl) (hb hby at_113) (fun _ _ => ⟨rfl, e59, (by decide : 3 + 0 ≤ _), (by decide : 6 + 0 ≤ _)⟩)
        dsimp only [Pt.U, Pt.locs, Pt.cells, Pt.slots] at X76 l76 y76 z76 st76 hQ76
        subst l76 y76 z76
        replace X76 := own_cs X76 (c' := 3) (s' := 6) (by decide) (by decide)
        obtain ⟨rfl, N77, Kc78, q79, q80, q81⟩ := hQ76
        have N82 := Fr.app Nx58 N77
        have q83 := own_staKeep q63 Kc78 (allS (own_plainE A59) all0)
        have q84 := own_staKeep q64 Kc78 (allS (own_plainE A59) all0)
        have q85 := q65.keep Kc78 (allS g62 all0)
        have q86 := q66.keep Kc78
        have q87 := q67.keep Kc78 (ninS ne60 nin0)
        have q88 := q68.keep Kc78 (ninS ne60 nin0)
        have q89 := q69.keep Kc78
        have q90 := q70.keep Kc78 (ninS ne61 nin0)
        have q91 := q71.keep Kc78 (ninS ne61 nin0)
        have Z92 : n0 ≤ T76.heap.size := Nat.le_trans Z72 Kc78.1
        refine Go.via st76 ?_
        obtain ⟨Lx93, Xx93, Nx93⟩ := own_locs X76 N82
        show Go p e below Qo T76 (mkF m 116 #[sJ j1, zS, sJ j2, zS, sJ j3, zS, sJ j4, zS, sJ j5, zS, sI i1, sI v4_2, sI v18_5, sI v32_8, sJ p3, zS, sR b10, sR b31, zU, zU, zU, zU, zU, zU, zU, zU] [(.ref b59)])
        refine Go.of (fun t k => XS.astore Xx93.here hx rfl (hb hby at_116) rfl rfl (l' := #[sJ j1, zS, sJ j2, zS, sJ j3, zS, sJ j4, zS, sJ j5, zS, sI i1, sI v4_2, sI v18_5, sI v32_8, sJ p3, zS, sR b10, sR b31, sR b59, zU, zU, zU, zU, zU, zU, zU]) rfl k) ?_
        obtain ⟨T94, h94, X94, e94, E94, A94, D94, Um94, st94⟩ := newO Xx93 hx hZ hown (wk hw 25 rfl) (wk hw 26 rfl) (wk hw 27 rfl) rfl (g := (mkF m 118 #[sJ j1, zS, sJ j2, zS, sJ j3, zS, sJ j4, zS, sJ j5, zS, sI i1, sI v4_2, sI v18_5, sI v32_8, sJ p3, zS, sR b10, sR b31, sR b59, zU, zU, zU, zU, zU, zU, zU] [])) rfl (hb hby at_118) (by decide) (by decide)
        obtain ⟨b94, g94⟩ : ∃ z, z = T76.heap.size := ⟨_, rfl⟩
        rw [← g94] at A94 D94 Um94 st94
        have ne95 : b10 ≠ b94 := Nat.ne_of_lt (Nat.lt_of_lt_of_le q86.lt (Nat.le_of_eq g94.symm))
        have ne96 : b31 ≠ b94 := Nat.ne_of_lt (Nat.lt_of_lt_of_le q89.lt (Nat.le_of_eq g94.symm))
        have ne97 : b59 ≠ b94 := Nat.ne_of_lt (Nat.lt_of_lt_of_le q79.lt (Nat.le_of_eq g94.symm))
        have g98 : n0 ≤ b94 := Nat.le_trans Z92 (Nat.le_of_eq g94.symm)
        have q99 := q83.ext E94
        have q100 := q84.ext E94
        have q101 := q85.ext E94
        have q102 := q86.ext E94
        have q103 := q87.ext E94
        have q104 := q88.ext E94
        have q105 := q89.ext E94
        have q106 := q90.ext E94
        have q107 := q91.ext E94
        have q108 := q79.ext E94
        have q109 := q80.ext E94
        have q110 := q81.ext E94
        have Z111 : n0 ≤ h94.size := Nat.le_trans Z92 E94.1
        replace X94 := own_cs X94 (c' := 4) (s' := 15) (by decide) (by decide)
        have q112 : own_mon h94 b94 := by obtain ⟨cl, u1, -, u3⟩ := Um94; exact ⟨cl, u1, u3⟩
        have q113 : Fld Z h94 b94 kT "best" kD .null := D94 (Or.inl (wk hw 38 rfl)) (ty := (.object kA)) (by decide)
        have q114 : Fld Z h94 b94 kT "first" kD .null := D94 (Or.inl (wk hw 40 rfl)) (ty := (.object kA)) (by decide)
        have q115 : Fld Z h94 b94 kT "firstSeed" "J" (.long (0 : Int64)) := D94 (Or.inl (wk hw 47 rfl)) (ty := .long) (by decide)
        have q116 : Fld Z h94 b94 kT "bestSeed" "J" (.long (0 : Int64)) := D94 (Or.inl (wk hw 54 rfl)) (ty := .long) (by decide)
        have q117 : Fld Z h94 b94 kT "bestPenalty" "J" (.long (0 : Int64)) := D94 (Or.inl (wk hw 56 rfl)) (ty := .long) (by decide)
        have q118 : Fld Z h94 b94 kT "worstPenalty" "J" (.long (0 : Int64)) := D94 (Or.inl (wk hw 58 rfl)) (ty := .long) (by decide)
        have q119 : Fld Z h94 b94 kT "penaltySum" "J" (.long (0 : Int64)) := D94 (Or.inl (wk hw 64 rfl)) (ty := .long) (by decide)
        have q120 : Fld Z h94 b94 kT "feasibleRuns" "I" (.int (0 : Int32)) := D94 (Or.inl (wk hw 66 rfl)) (ty := .int) (by decide)
        refine Go.of st94 ?_
        show Go p e below Qo T94 (mkF m 121 #[sJ j1, zS, sJ j2, zS, sJ j3, zS, sJ j4, zS, sJ j5, zS, sI i1, sI v4_2, sI v18_5, sI v32_8, sJ p3, zS, sR b10, sR b31, sR b59, zU, zU, zU, zU, zU, zU, zU] [(.ref b94)])
        refine Go.of (fun t k => XS.dup X94.here hx rfl (hb hby at_121) rfl rfl k) ?_
        obtain ⟨_, _, ⟨T121, L121, k121, n121⟩, -, X121, ⟨Lc121, hQ121, l121, y121, z121⟩, st121⟩ := X94.specialBack hx (y := (⟨kT, "<init>", "()V"⟩ : MethodName)) rfl hown (mvT hZ (wk hw 28 rfl)) (mvT hZ (wk hw 29 rfl)) (mvT hZ (wk hw 30 rfl)) (by decide) (backOf (W := 1) (rm5 l Z a0 hw [] b94 h94 n0 Z111 ) hZ (wk hw 30 rfl) (wk hw 27 rfl) (by decide) (by decide)) (g := (mkF m 122 #[sJ j1, zS, sJ j2, zS, sJ j3, zS, sJ j4, zS, sJ j5, zS, sI i1, sI v4_2, sI v18_5, sI v32_8, sJ p3, zS, sR b10, sR b31, sR b59, zU, zU, zU, zU, zU, zU, zU] [(.ref b94), (.ref b94)])) rfl (by rw [hml]; rfl) (Steps.refl _) (a := b94) (argsL := []) (rest := [(.ref b94)]) (lenOf pd_0 rfl) rfl (by show 2 * 0 + _ ≤ _; exact Nat.le_of_eq rfl) (hb hby at_122) (fun _ _ => ⟨rfl, e94, (by decide : 4 + 0 ≤ _), (by decide : 15 + 0 ≤ _)⟩)
        dsimp only [Pt.U, Pt.locs, Pt.cells, Pt.slots] at X121 l121 y121 z121 st121 hQ121
        subst l121 y121 z121
        replace X121 := own_cs X121 (c' := 4) (s' := 15) (by decide) (by decide)
        obtain ⟨rfl, N122, eh123⟩ := hQ121
        have N124 := Fr.app Nx93 N122
        refine Go.via st121 ?_
        obtain ⟨Lx125, Xx125, Nx125⟩ := own_locs X121 N124
        show Go p e below Qo T121 (mkF m 125 #[sJ j1, zS, sJ j2, zS, sJ j3, zS, sJ j4, zS, sJ j5, zS, sI i1, sI v4_2, sI v18_5, sI v32_8, sJ p3, zS, sR b10, sR b31, sR b59, zU, zU, zU, zU, zU, zU, zU] [(.ref b94)])
        refine Go.of (fun t k => XS.astore Xx125.here hx rfl (hb hby at_125) rfl rfl (l' := #[sJ j1, zS, sJ j2, zS, sJ j3, zS, sJ j4, zS, sJ j5, zS, sI i1, sI v4_2, sI v18_5, sI v32_8, sJ p3, zS, sR b10, sR b31, sR b59, sR b94, zU, zU, zU, zU, zU, zU]) rfl k) ?_
        show Go p e below Qo T121 (mkF m 127 #[sJ j1, zS, sJ j2, zS, sJ j3, zS, sJ j4, zS, sJ j5, zS, sI i1, sI v4_2, sI v18_5, sI v32_8, sJ p3, zS, sR b10, sR b31, sR b59, sR b94, zU, zU, zU, zU, zU, zU] [])
        refine Go.of (fun t k => XS.aload Xx125.here hx rfl (hb hby at_127) rfl rfl k) ?_
        obtain ⟨ciq127, kiq127, iq127a, iq127b, iq127c⟩ := isOf hZ eh123 A94
        obtain ⟨_, _, ⟨T126, L126, k126, n126⟩, -, X126, ⟨Lc126, hQ126, l126, y126, z126⟩, st126⟩ := Xx125.virtualBack hx (y := (⟨kT, "reported", "()Lcom/example/examwright/examwright/Method$Attempt;"⟩ : MethodName)) (z := (⟨kT, "reported", "()Lcom/example/examwright/examwright/Method$Attempt;"⟩ : MethodName)) hown (mvT hZ (wk hw 32 rfl)) (mvT hZ (wk hw 33 rfl)) (notFace_of_selects (args := #[]) (mvT hZ (wk hw 35 rfl))) (mvT hZ (wk hw 35 rfl)) (mvT hZ (wk hw 34 rfl)) (by decide) (backOf (W := 0) (rm61 l Z a0 hw [] b94 h94 n0 Z111 q113 q114) hZ (wk hw 36 rfl) (wk hw 27 rfl) (by decide) (by decide)) iq127a iq127c (g := (mkF m 129 #[sJ j1, zS, sJ j2, zS, sJ j3, zS, sJ j4, zS, sJ j5, zS, sI i1, sI v4_2, sI v18_5, sI v32_8, sJ p3, zS, sR b10, sR b31, sR b59, sR b94, zU, zU, zU, zU, zU, zU] [(.ref b94)])) rfl (by rw [hml]; rfl) (Steps.refl _) (argsL := []) (rest := []) (lenOf pd_4 rfl) rfl (by show 2 * 0 + _ ≤ _; exact Nat.le_of_eq rfl) (hb hby at_129) (fun _ _ => ⟨rfl, eh123, (by decide : 4 + 0 ≤ _), (by decide : 15 + 0 ≤ _)⟩)
        dsimp only [Pt.U, Pt.locs, Pt.cells, Pt.slots] at X126 l126 y126 z126 st126 hQ126
        subst l126 y126 z126
        replace X126 := own_cs X126 (c' := 4) (s' := 15) (by decide) (by decide)
        obtain ⟨rfl, N128, eh129⟩ := hQ126
        have N130 := Fr.app Nx125 N128
        refine Go.via st126 ?_
        obtain ⟨Lx131, Xx131, Nx131⟩ := own_locs X126 N130
        show Go p e below Qo T126 (mkF m 132 #[sJ j1, zS, sJ j2, zS, sJ j3, zS, sJ j4, zS, sJ j5, zS, sI i1, sI v4_2, sI v18_5, sI v32_8, sJ p3, zS, sR b10, sR b31, sR b59, sR b94, zU, zU, zU, zU, zU, zU] [.null])
        refine Go.of (fun t k => XS.ifnonnullNo Xx131.here hx rfl (hb hby at_132) rfl k) ?_
        refine Go.of (fun t k => XS.iconst Xx131.here hx rfl (hb hby at_135) k) ?_
        refine Go.of (fun t k => XS.goto Xx131.here hx rfl (pc0 := 136) (pc' := 140) rfl (hb hby at_136) (by decide) (by decide) k) ?_
        refine Go.of (fun t k => XS.istore Xx131.here hx rfl (hb hby at_140) rfl (l' := #[sJ j1, zS, sJ j2, zS, sJ j3, zS, sJ j4, zS, sJ j5, zS, sI i1, sI v4_2, sI v18_5, sI v32_8, sJ p3, zS, sR b10, sR b31, sR b59, sR b94, sI (1 : Int32), zU, zU, zU, zU, zU]) rfl k) ?_
        refine Go.of (fun t k => XS.aload Xx131.here hx rfl (hb hby at_142) rfl rfl k) ?_
        refine Go.of (fun t k => XS.lloadN Xx131.here hx rfl (hb hby at_144) rfl  k) ?_
        refine Go.of (fun t k => XS.aload Xx131.here hx rfl (hb hby at_145) rfl rfl k) ?_
        show Go p e below Qo T126 (mkF m 147 #[sJ j1, zS, sJ j2, zS, sJ j3, zS, sJ j4, zS, sJ j5, zS, sI i1, sI v4_2, sI v18_5, sI v32_8, sJ p3, zS, sR b10, sR b31, sR b59, sR b94, sI (1 : Int32), zU, zU, zU, zU, zU] [(.ref b10), (.long j1), (.ref b94)])
        refine Go.of (fun t k => XS.lload Xx131.here hx rfl (hb hby at_147) rfl  k) ?_
        obtain ⟨ciq133, kiq133, iq133a, iq133b, iq133c⟩ := isOf hZ eh129 A94
        obtain ⟨_, _, ⟨T132, L132, k132, n132⟩, -, X132, ⟨Lc132, hQ132, l132, y132, z132⟩, st132⟩ := Xx131.virtualBack hx (y := (⟨kT, "add", "(JLcom/example/examwright/examwright/Method$Attempt;J)V"⟩ : MethodName)) (z := (⟨kT, "add", "(JLcom/example/examwright/examwright/Method$Attempt;J)V"⟩ : MethodName)) hown (mvT hZ (wk hw 41 rfl)) (mvT hZ (wk hw 42 rfl)) (notFace_of_selects (args := #[]) (mvT hZ (wk hw 44 rfl))) (mvT hZ (wk hw 44 rfl)) (mvT hZ (wk hw 43 rfl)) (by decide) (own_backS (W := 0) (a := b94) (rm70 l Z a0 hw b94 j1 b10 j4 (0 : Int64) (0 : Int64) (0 : Int64) (0 : Int64) (0 : Int64) (0 : Int32) h94 n0 Z111 A94 q112 q114 q115 q113 q116 q117 q118 q119 q120 q102 q103 g98 ne95) hZ (wk hw 45 rfl) (wk hw 43 rfl) (wk hw 27 rfl) q112 (by decide) (by decide)) iq133a iq133c (g := (mkF m 149 #[sJ j1, zS, sJ j2, zS, sJ j3, zS, sJ j4, zS, sJ j5, zS, sI i1, sI v4_2, sI v18_5, sI v32_8, sJ p3, zS, sR b10, sR b31, sR b59, sR b94, sI (1 : Int32), zU, zU, zU, zU, zU] [(.long j4), (.ref b10), (.long j1), (.ref b94)])) rfl (by rw [hml]; rfl) (Steps.refl _) (argsL := [(.long j1), (.ref b10), (.long j4)]) (rest := []) (lenOf pd_5 rfl) rfl (by show 2 * 0 + _ ≤ _; exact Nat.le_of_eq rfl) (hb hby at_149) (fun _ _ => ⟨rfl, eh129, (by decide : 4 + 0 ≤ _), (by decide : 15 + 0 ≤ _)⟩)
        dsimp only [Pt.U, Pt.locs, Pt.cells, Pt.slots] at X132 l132 y132 z132 st132 hQ132
        subst l132 y132 z132
        replace X132 := own_cs X132 (c' := 4) (s' := 15) (by decide) (by decide)
        obtain ⟨x135, x136, x137, rfl, N134, Kc138, q139, q140, q141, q142, q143, q144, q145, q146, q147, q148⟩ := hQ132
        have N149 := Fr.app Nx131 N134
        have q150 := own_staKeep q99 Kc138 (allS (own_plainE A94) all0)
        have q151 := own_staKeep q100 Kc138 (allS (own_plainE A94) all0)
        have q152 := q101.keep Kc138 (allS g98 all0)
        have q153 := q102.keep Kc138
        have q154 := q103.keep Kc138 (ninS ne95 nin0)
        have q155 := q104.keep Kc138 (ninS ne95 nin0)
        have q156 := q105.keep Kc138
        have q157 := q106.keep Kc138 (ninS ne96 nin0)
        have q158 := q107.keep Kc138 (ninS ne96 nin0)
        have q159 := q108.keep Kc138
        have q160 := q109.keep Kc138 (ninS ne97 nin0)
        have q161 := q110.keep Kc138 (ninS ne97 nin0)
        have Z162 : n0 ≤ T132.heap.size := Nat.le_trans Z111 Kc138.1
        refine Go.via st132 ?_
        obtain ⟨Lx163, Xx163, Nx163⟩ := own_locs X132 N149
        show Go p e below Qo T132 (mkF m 152 #[sJ j1, zS, sJ j2, zS, sJ j3, zS, sJ j4, zS, sJ j5, zS, sI i1, sI v4_2, sI v18_5, sI v32_8, sJ p3, zS, sR b10, sR b31, sR b59, sR b94, sI (1 : Int32), zU, zU, zU, zU, zU] [])
        refine Go.of (fun t k => XS.aload Xx163.here hx rfl (hb hby at_152) rfl rfl k) ?_
        obtain ⟨ciq165, kiq165, iq165a, iq165b, iq165c⟩ := isOf hZ rfl q139
        obtain ⟨_, _, ⟨T164, L164, k164, n164⟩, -, X164, ⟨Lc164, hQ164, l164, y164, z164⟩, st164⟩ := Xx163.virtualBack hx (y := (⟨kT, "reported", "()Lcom/example/examwright/examwright/Method$Attempt;"⟩ : MethodName)) (z := (⟨kT, "reported", "()Lcom/example/examwright/examwright/Method$Attempt;"⟩ : MethodName)) hown (mvT hZ (wk hw 32 rfl)) (mvT hZ (wk hw 33 rfl)) (notFace_of_selects (args := #[]) (mvT hZ (wk hw 35 rfl))) (mvT hZ (wk hw 35 rfl)) (mvT hZ (wk hw 34 rfl)) (by decide) (backOf (W := 0) (rm62 l Z a0 hw [] b94 b10 T132.heap n0 Z162 q143 q141) hZ (wk hw 36 rfl) (wk hw 27 rfl) (by decide) (by decide)) iq165a iq165c (g := (mkF m 154 #[sJ j1, zS, sJ j2, zS, sJ j3, zS, sJ j4, zS, sJ j5, zS, sI i1, sI v4_2, sI v18_5, sI v32_8, sJ p3, zS, sR b10, sR b31, sR b59, sR b94, sI (1 : Int32), zU, zU, zU, zU, zU] [(.ref b94)])) rfl (by rw [hml]; rfl) (Steps.refl _) (argsL := []) (rest := []) (lenOf pd_4 rfl) rfl (by show 2 * 0 + _ ≤ _; exact Nat.le_of_eq rfl) (hb hby at_154) (fun _ _ => ⟨rfl, rfl, (by decide : 4 + 0 ≤ _), (by decide : 15 + 0 ≤ _)⟩)
        dsimp only [Pt.U, Pt.locs, Pt.cells, Pt.slots] at X164 l164 y164 z164 st164 hQ164
        subst l164 y164 z164
        replace X164 := own_cs X164 (c' := 4) (s' := 15) (by decide) (by decide)
        obtain ⟨rfl, N166, eh167⟩ := hQ164
        have N168 := Fr.app Nx163 N166
        refine Go.via st164 ?_
        obtain ⟨Lx169, Xx169, Nx169⟩ := own_locs X164 N168
        show Go p e below Qo T164 (mkF m 157 #[sJ j1, zS, sJ j2, zS, sJ j3, zS, sJ j4, zS, sJ j5, zS, sI i1, sI v4_2, sI v18_5, sI v32_8, sJ p3, zS, sR b10, sR b31, sR b59, sR b94, sI (1 : Int32), zU, zU, zU, zU, zU] [(.ref b10)])
        refine Go.of (fun t k => XS.aload Xx169.here hx rfl (hb hby at_157) rfl rfl k) ?_
        refine Go.of (fun t k => Jvm.RoadKit.acmp (g := (mkF m 159 #[sJ j1, zS, sJ j2, zS, sJ j3, zS, sJ j4, zS, sJ j5, zS, sI i1, sI v4_2, sI v18_5, sI v32_8, sJ p3, zS, sR b10, sR b31, sR b59, sR b94, sI (1 : Int32), zU, zU, zU, zU, zU] [(.ref b10), (.ref b10)])) Xx169 hx rfl rfl rfl (pc0 := 159) (pc' := 162) (same := true) rfl (hb hby at_159) rfl (decide_eq_true rfl) (by decide) (by decide) k) ?_
        refine Go.of (fun t k => XS.iconst Xx169.here hx rfl (hb hby at_162) k) ?_
        refine Go.of (fun t k => XS.goto Xx169.here hx rfl (pc0 := 163) (pc' := 167) rfl (hb hby at_163) (by decide) (by decide) k) ?_
        refine Go.of (fun t k => XS.istore Xx169.here hx rfl (hb hby at_167) rfl (l' := #[sJ j1, zS, sJ j2, zS, sJ j3, zS, sJ j4, zS, sJ j5, zS, sI i1, sI v4_2, sI v18_5, sI v32_8, sJ p3, zS, sR b10, sR b31, sR b59, sR b94, sI (1 : Int32), sI (1 : Int32), zU, zU, zU, zU]) rfl k) ?_
        refine Go.of (fun t k => XS.aload Xx169.here hx rfl (hb hby at_169) rfl rfl k) ?_
        show Go p e below Qo T164 (mkF m 171 #[sJ j1, zS, sJ j2, zS, sJ j3, zS, sJ j4, zS, sJ j5, zS, sI i1, sI v4_2, sI v18_5, sI v32_8, sJ p3, zS, sR b10, sR b31, sR b59, sR b94, sI (1 : Int32), sI (1 : Int32), zU, zU, zU, zU] [(.ref b94)])
        refine Go.of (fun t k => XS.lloadN Xx169.here hx rfl (hb hby at_171) rfl  k) ?_
        refine Go.of (fun t k => XS.aload Xx169.here hx rfl (hb hby at_172) rfl rfl k) ?_
        refine Go.of (fun t k => XS.lload Xx169.here hx rfl (hb hby at_174) rfl  k) ?_
        obtain ⟨ciq171, kiq171, iq171a, iq171b, iq171c⟩ := isOf hZ eh167 q139
        obtain ⟨_, _, ⟨T170, L170, k170, n170⟩, -, X170, ⟨Lc170, hQ170, l170, y170, z170⟩, st170⟩ := Xx169.virtualBack hx (y := (⟨kT, "add", "(JLcom/example/examwright/examwright/Method$Attempt;J)V"⟩ : MethodName)) (z := (⟨kT, "add", "(JLcom/example/examwright/examwright/Method$Attempt;J)V"⟩ : MethodName)) hown (mvT hZ (wk hw 41 rfl)) (mvT hZ (wk hw 42 rfl)) (notFace_of_selects (args := #[]) (mvT hZ (wk hw 44 rfl))) (mvT hZ (wk hw 44 rfl)) (mvT hZ (wk hw 43 rfl)) (by decide) (own_backS (W := 0) (a := b94) (rm74 l Z a0 hw b94 j2 b31 j5 b10 j1 (0 : Int64) (0 : Int64) x135 x136 x137 T132.heap n0 Z162 q139 q140 q141 q142 q143 q144 q145 q146 q147 q148 q156 q157 g98 ne96) hZ (wk hw 45 rfl) (wk hw 43 rfl) (wk hw 27 rfl) q140 (by decide) (by decide)) iq171a iq171c (g := (mkF m 176 #[sJ j1, zS, sJ j2, zS, sJ j3, zS, sJ j4, zS, sJ j5, zS, sI i1, sI v4_2, sI v18_5, sI v32_8, sJ p3, zS, sR b10, sR b31, sR b59, sR b94, sI (1 : Int32), sI (1 : Int32), zU, zU, zU, zU] [(.long j5), (.ref b31), (.long j2), (.ref b94)])) rfl (by rw [hml]; rfl) (Steps.refl _) (argsL := [(.long j2), (.ref b31), (.long j5)]) (rest := []) (lenOf pd_5 rfl) rfl (by show 2 * 0 + _ ≤ _; exact Nat.le_of_eq rfl) (hb hby at_176) (fun _ _ => ⟨rfl, eh167, (by decide : 4 + 0 ≤ _), (by decide : 15 + 0 ≤ _)⟩)
        dsimp only [Pt.U, Pt.locs, Pt.cells, Pt.slots] at X170 l170 y170 z170 st170 hQ170
        subst l170 y170 z170
        replace X170 := own_cs X170 (c' := 4) (s' := 15) (by decide) (by decide)
        obtain ⟨x173, x174, x175, rfl, N172, Kc176, q177, q178, q179, q180, q181, q182, q183, q184, q185, q186⟩ := hQ170
        have N187 := Fr.app Nx169 N172
        have q188 := own_staKeep q150 Kc176 (allS (own_plainE q139) all0)
        have q189 := own_staKeep q151 Kc176 (allS (own_plainE q139) all0)
        have q190 := q152.keep Kc176 (allS g98 all0)
        have q191 := q153.keep Kc176
        have q192 := q154.keep Kc176 (ninS ne95 nin0)
        have q193 := q155.keep Kc176 (ninS ne95 nin0)
        have q194 := q156.keep Kc176
        have q195 := q157.keep Kc176 (ninS ne96 nin0)
        have q196 := q158.keep Kc176 (ninS ne96 nin0)
        have q197 := q159.keep Kc176
        have q198 := q160.keep Kc176 (ninS ne97 nin0)
        have q199 := q161.keep Kc176 (ninS ne97 nin0)
        have Z200 : n0 ≤ T170.heap.size := Nat.le_trans Z162 Kc176.1
        refine Go.via st170 ?_
        obtain ⟨Lx201, Xx201, Nx201⟩ := own_locs X170 N187
        show Go p e below Qo T170 (mkF m 179 #[sJ j1, zS, sJ j2, zS, sJ j3, zS, sJ j4, zS, sJ j5, zS, sI i1, sI v4_2, sI v18_5, sI v32_8, sJ p3, zS, sR b10, sR b31, sR b59, sR b94, sI (1 : Int32), sI (1 : Int32), zU, zU, zU, zU] [])
        refine Go.of (fun t k => XS.aload Xx201.here hx rfl (hb hby at_179) rfl rfl k) ?_
        refine Go.of (fun t k => XS.lload Xx201.here hx rfl (hb hby at_181) rfl  k) ?_
        refine Go.of (fun t k => XS.aload Xx201.here hx rfl (hb hby at_183) rfl rfl k) ?_
        refine Go.of (fun t k => XS.lload Xx201.here hx rfl (hb hby at_185) rfl  k) ?_
        obtain ⟨ciq203, kiq203, iq203a, iq203b, iq203c⟩ := isOf hZ rfl q177
        obtain ⟨_, _, ⟨T202, L202, k202, n202⟩, -, X202, ⟨Lc202, hQ202, l202, y202, z202⟩, st202⟩ := Xx201.virtualBack hx (y := (⟨kT, "add", "(JLcom/example/examwright/examwright/Method$Attempt;J)V"⟩ : MethodName)) (z := (⟨kT, "add", "(JLcom/example/examwright/examwright/Method$Attempt;J)V"⟩ : MethodName)) hown (mvT hZ (wk hw 41 rfl)) (mvT hZ (wk hw 42 rfl)) (notFace_of_selects (args := #[]) (mvT hZ (wk hw 44 rfl))) (mvT hZ (wk hw 44 rfl)) (mvT hZ (wk hw 43 rfl)) (by decide) (own_backS (W := 0) (a := b94) (rm74 l Z a0 hw b94 j3 b59 p3 (if j2 < j1 then b31 else b10) (if j2 < j1 then j2 else j1) (0 : Int64) (0 : Int64) x173 x174 x175 T170.heap n0 Z200 q177 q178 q179 q180 q181 q182 q183 q184 q185 q186 q197 q198 g98 ne97) hZ (wk hw 45 rfl) (wk hw 43 rfl) (wk hw 27 rfl) q178 (by decide) (by decide)) iq203a iq203c (g := (mkF m 187 #[sJ j1, zS, sJ j2, zS, sJ j3, zS, sJ j4, zS, sJ j5, zS, sI i1, sI v4_2, sI v18_5, sI v32_8, sJ p3, zS, sR b10, sR b31, sR b59, sR b94, sI (1 : Int32), sI (1 : Int32), zU, zU, zU, zU] [(.long p3), (.ref b59), (.long j3), (.ref b94)])) rfl (by rw [hml]; rfl) (Steps.refl _) (argsL := [(.long j3), (.ref b59), (.long p3)]) (rest := []) (lenOf pd_5 rfl) rfl (by show 2 * 0 + _ ≤ _; exact Nat.le_of_eq rfl) (hb hby at_187) (fun _ _ => ⟨rfl, rfl, (by decide : 4 + 0 ≤ _), (by decide : 15 + 0 ≤ _)⟩)
        dsimp only [Pt.U, Pt.locs, Pt.cells, Pt.slots] at X202 l202 y202 z202 st202 hQ202
        subst l202 y202 z202
        replace X202 := own_cs X202 (c' := 4) (s' := 15) (by decide) (by decide)
        obtain ⟨x205, x206, x207, rfl, N204, Kc208, q209, q210, q211, q212, q213, q214, q215, q216, q217, q218⟩ := hQ202
        have N219 := Fr.app Nx201 N204
        have q220 := own_staKeep q188 Kc208 (allS (own_plainE q177) all0)
        have q221 := own_staKeep q189 Kc208 (allS (own_plainE q177) all0)
        have q222 := q190.keep Kc208 (allS g98 all0)
        have q223 := q191.keep Kc208
        have q224 := q192.keep Kc208 (ninS ne95 nin0)
        have q225 := q193.keep Kc208 (ninS ne95 nin0)
        have q226 := q194.keep Kc208
        have q227 := q195.keep Kc208 (ninS ne96 nin0)
        have q228 := q196.keep Kc208 (ninS ne96 nin0)
        have q229 := q197.keep Kc208
        have q230 := q198.keep Kc208 (ninS ne97 nin0)
        have q231 := q199.keep Kc208 (ninS ne97 nin0)
        have Z232 : n0 ≤ T202.heap.size := Nat.le_trans Z200 Kc208.1
        refine Go.via st202 ?_
        obtain ⟨Lx233, Xx233, Nx233⟩ := own_locs X202 N219
        show Go p e below Qo T202 (mkF m 190 #[sJ j1, zS, sJ j2, zS, sJ j3, zS, sJ j4, zS, sJ j5, zS, sI i1, sI v4_2, sI v18_5, sI v32_8, sJ p3, zS, sR b10, sR b31, sR b59, sR b94, sI (1 : Int32), sI (1 : Int32), zU, zU, zU, zU] [])
        refine Go.of (fun t k => XS.aload Xx233.here hx rfl (hb hby at_190) rfl rfl k) ?_
        show Go p e below Qo T202 (mkF m 192 #[sJ j1, zS, sJ j2, zS, sJ j3, zS, sJ j4, zS, sJ j5, zS, sI i1, sI v4_2, sI v18_5, sI v32_8, sJ p3, zS, sR b10, sR b31, sR b59, sR b94, sI (1 : Int32), sI (1 : Int32), zU, zU, zU, zU] [(.ref b94)])
        obtain ⟨ciq235, kiq235, iq235a, iq235b, iq235c⟩ := isOf hZ rfl q209
        obtain ⟨_, _, ⟨T234, L234, k234, n234⟩, -, X234, ⟨Lc234, hQ234, l234, y234, z234⟩, st234⟩ := Xx233.virtualBack hx (y := (⟨kT, "reported", "()Lcom/example/examwright/examwright/Method$Attempt;"⟩ : MethodName)) (z := (⟨kT, "reported", "()Lcom/example/examwright/examwright/Method$Attempt;"⟩ : MethodName)) hown (mvT hZ (wk hw 32 rfl)) (mvT hZ (wk hw 33 rfl)) (notFace_of_selects (args := #[]) (mvT hZ (wk hw 35 rfl))) (mvT hZ (wk hw 35 rfl)) (mvT hZ (wk hw 34 rfl)) (by decide) (backOf (W := 0) (rm62 l Z a0 hw [] b94 (if j3 < (if j2 < j1 then j2 else j1) then b59 else (if j2 < j1 then b31 else b10)) T202.heap n0 Z232 q213 q211) hZ (wk hw 36 rfl) (wk hw 27 rfl) (by decide) (by decide)) iq235a iq235c (g := (mkF m 192 #[sJ j1, zS, sJ j2, zS, sJ j3, zS, sJ j4, zS, sJ j5, zS, sI i1, sI v4_2, sI v18_5, sI v32_8, sJ p3, zS, sR b10, sR b31, sR b59, sR b94, sI (1 : Int32), sI (1 : Int32), zU, zU, zU, zU] [(.ref b94)])) rfl (by rw [hml]; rfl) (Steps.refl _) (argsL := []) (rest := []) (lenOf pd_4 rfl) rfl (by show 2 * 0 + _ ≤ _; exact Nat.le_of_eq rfl) (hb hby at_192) (fun _ _ => ⟨rfl, rfl, (by decide : 4 + 0 ≤ _), (by decide : 15 + 0 ≤ _)⟩)
        dsimp only [Pt.U, Pt.locs, Pt.cells, Pt.slots] at X234 l234 y234 z234 st234 hQ234
        subst l234 y234 z234
        replace X234 := own_cs X234 (c' := 4) (s' := 15) (by decide) (by decide)
        obtain ⟨rfl, N236, eh237⟩ := hQ234
        have N238 := Fr.app Nx233 N236
        refine Go.via st234 ?_
        obtain ⟨Lx239, Xx239, Nx239⟩ := own_locs X234 N238
        show Go p e below Qo T234 (mkF m 195 #[sJ j1, zS, sJ j2, zS, sJ j3, zS, sJ j4, zS, sJ j5, zS, sI i1, sI v4_2, sI v18_5, sI v32_8, sJ p3, zS, sR b10, sR b31, sR b59, sR b94, sI (1 : Int32), sI (1 : Int32), zU, zU, zU, zU] [(.ref (if j3 < (if j2 < j1 then j2 else j1) then b59 else (if j2 < j1 then b31 else b10)))])
        refine Go.of (fun t k => XS.astore Xx239.here hx rfl (hb hby at_195) rfl rfl (l' := #[sJ j1, zS, sJ j2, zS, sJ j3, zS, sJ j4, zS, sJ j5, zS, sI i1, sI v4_2, sI v18_5, sI v32_8, sJ p3, zS, sR b10, sR b31, sR b59, sR b94, sI (1 : Int32), sI (1 : Int32), sR (if j3 < (if j2 < j1 then j2 else j1) then b59 else (if j2 < j1 then b31 else b10)), zU, zU, zU]) rfl k) ?_
        refine Go.of (fun t k => XS.iload Xx239.here hx rfl (hb hby at_197) rfl  k) ?_
        refine Go.of (fun t k => XS.ifNo Xx239.here hx rfl (hb hby at_199) rfl ((if0 _ _).trans (teq hc55_18).2) k) ?_
        refine Go.of (fun t k => XS.iload Xx239.here hx rfl (hb hby at_202) rfl  k) ?_
        refine Go.of (fun t k => XS.ifNo Xx239.here hx rfl (hb hby at_204) rfl ((if0 _ _).trans (teq hc78_43).2) k) ?_
        refine Go.of (fun t k => XS.iload Xx239.here hx rfl (hb hby at_207) rfl  k) ?_
        refine Go.of (fun t k => XS.ifYes Xx239.here hx rfl (pc0 := 209) (pc' := 333) rfl (hb hby at_209) rfl ((if0 _ _).trans (teq hc101_75).1) (by decide) (by decide) k) ?_
        refine Go.of (fun t k => XS.lloadN Xx239.here hx rfl (hb hby at_333) rfl  k) ?_
        show Go p e below Qo T234 (mkF m 334 #[sJ j1, zS, sJ j2, zS, sJ j3, zS, sJ j4, zS, sJ j5, zS, sI i1, sI v4_2, sI v18_5, sI v32_8, sJ p3, zS, sR b10, sR b31, sR b59, sR b94, sI (1 : Int32), sI (1 : Int32), sR (if j3 < (if j2 < j1 then j2 else j1) then b59 else (if j2 < j1 then b31 else b10)), zU, zU, zU] [(.long j1)])
        refine Go.of (fun t k => XS.lloadN Xx239.here hx rfl (hb hby at_334) rfl  k) ?_
        refine Go.of (fun t k => XS.lcmp Xx239.here hx rfl (hb hby at_335) rfl k) ?_
        suffices J336_243 : ∀ (v336_242 : Int32), v336_242 = (if j2 < j1 then (0 : Int32) else (if j3 < j1 then (0 : Int32) else (1 : Int32))) → Go p e below Qo T234 (mkF m 351 #[sJ j1, zS, sJ j2, zS, sJ j3, zS, sJ j4, zS, sJ j5, zS, sI i1, sI v4_2, sI v18_5, sI v32_8, sJ p3, zS, sR b10, sR b31, sR b59, sR b94, sI (1 : Int32), sI (1 : Int32), sR (if j3 < (if j2 < j1 then j2 else j1) then b59 else (if j2 < j1 then b31 else b10)), zU, zU, zU] [(.int v336_242)]) by
          by_cases hc336_260 : j2 < j1
          · refine Go.of (fun t k => XS.ifYes Xx239.here hx rfl (pc0 := 336) (pc' := 350) rfl (hb hby at_336) rfl ((if0 _ _).trans (tlt ((lw_gt j1 j2).mpr hc336_260)).2.2.1) (by decide) (by decide) k) ?_
            refine Go.of (fun t k => XS.iconst Xx239.here hx rfl (hb hby at_350) k) ?_
            show Go p e below Qo T234 (mkF m 351 #[sJ j1, zS, sJ j2, zS, sJ j3, zS, sJ j4, zS, sJ j5, zS, sI i1, sI v4_2, sI v18_5, sI v32_8, sJ p3, zS, sR b10, sR b31, sR b59, sR b94, sI (1 : Int32), sI (1 : Int32), sR (if j3 < (if j2 < j1 then j2 else j1) then b59 else (if j2 < j1 then b31 else b10)), zU, zU, zU] [(.int (0 : Int32))])
            show Go p e below Qo T234 (mkF m 351 #[sJ j1, zS, sJ j2, zS, sJ j3, zS, sJ j4, zS, sJ j5, zS, sI i1, sI v4_2, sI v18_5, sI v32_8, sJ p3, zS, sR b10, sR b31, sR b59, sR b94, sI (1 : Int32), sI (1 : Int32), sR (if j3 < (if j2 < j1 then j2 else j1) then b59 else (if j2 < j1 then b31 else b10)), zU, zU, zU] [(.int (0 : Int32))])
            exact J336_243 _ (by first | rfl | (rw [if_pos hc336_260]) | (simp only [hc336_260, if_true, if_false]; done) | simp [hc336_260])
          refine Go.of (fun t k => XS.ifNo Xx239.here hx rfl (hb hby at_336) rfl ((if0 _ _).trans (flt (fun z => hc336_260 ((lw_gt j1 j2).mp z))).2.2.1) k) ?_
          refine Go.of (fun t k => XS.lloadN Xx239.here hx rfl (hb hby at_339) rfl  k) ?_
          refine Go.of (fun t k => XS.lload Xx239.here hx rfl (hb hby at_340) rfl  k) ?_
          refine Go.of (fun t k => XS.lcmp Xx239.here hx rfl (hb hby at_342) rfl k) ?_
          by_cases hc343_261 : j3 < j1
          · refine Go.of (fun t k => XS.ifYes Xx239.here hx rfl (pc0 := 343) (pc' := 350) rfl (hb hby at_343) rfl ((if0 _ _).trans (tlt ((lw_gt j1 j3).mpr hc343_261)).2.2.1) (by decide) (by decide) k) ?_
            refine Go.of (fun t k => XS.iconst Xx239.here hx rfl (hb hby at_350) k) ?_
            show Go p e below Qo T234 (mkF m 351 #[sJ j1, zS, sJ j2, zS, sJ j3, zS, sJ j4, zS, sJ j5, zS, sI i1, sI v4_2, sI v18_5, sI v32_8, sJ p3, zS, sR b10, sR b31, sR b59, sR b94, sI (1 : Int32), sI (1 : Int32), sR (if j3 < (if j2 < j1 then j2 else j1) then b59 else (if j2 < j1 then b31 else b10)), zU, zU, zU] [(.int (0 : Int32))])
            exact J336_243 _ (by first | rfl | (rw [if_neg hc336_260, if_pos hc343_261]) | (simp only [hc336_260, hc343_261, if_true, if_false]; done) | simp [hc336_260, hc343_261])
          refine Go.of (fun t k => XS.ifNo Xx239.here hx rfl (hb hby at_343) rfl ((if0 _ _).trans (flt (fun z => hc343_261 ((lw_gt j1 j3).mp z))).2.2.1) k) ?_
          refine Go.of (fun t k => XS.iconst Xx239.here hx rfl (hb hby at_346) k) ?_
          show Go p e below Qo T234 (mkF m 347 #[sJ j1, zS, sJ j2, zS, sJ j3, zS, sJ j4, zS, sJ j5, zS, sI i1, sI v4_2, sI v18_5, sI v32_8, sJ p3, zS, sR b10, sR b31, sR b59, sR b94, sI (1 : Int32), sI (1 : Int32), sR (if j3 < (if j2 < j1 then j2 else j1) then b59 else (if j2 < j1 then b31 else b10)), zU, zU, zU] [(.int (1 : Int32))])
          refine Go.of (fun t k => XS.goto Xx239.here hx rfl (pc0 := 347) (pc' := 351) rfl (hb hby at_347) (by decide) (by decide) k) ?_
          show Go p e below Qo T234 (mkF m 351 #[sJ j1, zS, sJ j2, zS, sJ j3, zS, sJ j4, zS, sJ j5, zS, sI i1, sI v4_2, sI v18_5, sI v32_8, sJ p3, zS, sR b10, sR b31, sR b59, sR b94, sI (1 : Int32), sI (1 : Int32), sR (if j3 < (if j2 < j1 then j2 else j1) then b59 else (if j2 < j1 then b31 else b10)), zU, zU, zU] [(.int (1 : Int32))])
          exact J336_243 _ (by first | rfl | (rw [if_neg hc336_260, if_neg hc343_261]) | (simp only [hc336_260, hc343_261, if_true, if_false]; done) | simp [hc336_260, hc343_261])
        intro v336_242 hv336_242
        show Go p e below Qo T234 (mkF m 351 #[sJ j1, zS, sJ j2, zS, sJ j3, zS, sJ j4, zS, sJ j5, zS, sI i1, sI v4_2, sI v18_5, sI v32_8, sJ p3, zS, sR b10, sR b31, sR b59, sR b94, sI (1 : Int32), sI (1 : Int32), sR (if j3 < (if j2 < j1 then j2 else j1) then b59 else (if j2 < j1 then b31 else b10)), zU, zU, zU] [(.int v336_242)])
        refine Go.of (fun t k => XS.istore Xx239.here hx rfl (hb hby at_351) rfl (l' := #[sJ j1, zS, sJ j2, zS, sJ j3, zS, sJ j4, zS, sJ j5, zS, sI i1, sI v4_2, sI v18_5, sI v32_8, sJ p3, zS, sR b10, sR b31, sR b59, sR b94, sI (1 : Int32), sI (1 : Int32), sR (if j3 < (if j2 < j1 then j2 else j1) then b59 else (if j2 < j1 then b31 else b10)), zU, sI v336_242, zU]) rfl k) ?_
        refine Go.of (fun t k => XS.lloadN Xx239.here hx rfl (hb hby at_353) rfl  k) ?_
        refine Go.of (fun t k => XS.lloadN Xx239.here hx rfl (hb hby at_354) rfl  k) ?_
        show Go p e below Qo T234 (mkF m 355 #[sJ j1, zS, sJ j2, zS, sJ j3, zS, sJ j4, zS, sJ j5, zS, sI i1, sI v4_2, sI v18_5, sI v32_8, sJ p3, zS, sR b10, sR b31, sR b59, sR b94, sI (1 : Int32), sI (1 : Int32), sR (if j3 < (if j2 < j1 then j2 else j1) then b59 else (if j2 < j1 then b31 else b10)), zU, sI v336_242, zU] [(.long j1), (.long j2)])
        refine Go.of (fun t k => XS.lcmp Xx239.here hx rfl (hb hby at_355) rfl k) ?_
        suffices J356_247 : ∀ (v356_246 : Int32), v356_246 = (if j1 < j2 then (0 : Int32) else (if j3 < j2 then (0 : Int32) else (1 : Int32))) → Go p e below Qo T234 (mkF m 371 #[sJ j1, zS, sJ j2, zS, sJ j3, zS, sJ j4, zS, sJ j5, zS, sI i1, sI v4_2, sI v18_5, sI v32_8, sJ p3, zS, sR b10, sR b31, sR b59, sR b94, sI (1 : Int32), sI (1 : Int32), sR (if j3 < (if j2 < j1 then j2 else j1) then b59 else (if j2 < j1 then b31 else b10)), zU, sI v336_242, zU] [(.int v356_246)]) by
          by_cases hc356_258 : j1 < j2
          · refine Go.of (fun t k => XS.ifYes Xx239.here hx rfl (pc0 := 356) (pc' := 370) rfl (hb hby at_356) rfl ((if0 _ _).trans (tlt ((lw_gt j2 j1).mpr hc356_258)).2.2.1) (by decide) (by decide) k) ?_
            refine Go.of (fun t k => XS.iconst Xx239.here hx rfl (hb hby at_370) k) ?_
            show Go p e below Qo T234 (mkF m 371 #[sJ j1, zS, sJ j2, zS, sJ j3, zS, sJ j4, zS, sJ j5, zS, sI i1, sI v4_2, sI v18_5, sI v32_8, sJ p3, zS, sR b10, sR b31, sR b59, sR b94, sI (1 : Int32), sI (1 : Int32), sR (if j3 < (if j2 < j1 then j2 else j1) then b59 else (if j2 < j1 then b31 else b10)), zU, sI v336_242, zU] [(.int (0 : Int32))])
            exact J356_247 _ (by first | rfl | (rw [if_pos hc356_258]) | (simp only [hc356_258, if_true, if_false]; done) | simp [hc356_258])
          refine Go.of (fun t k => XS.ifNo Xx239.here hx rfl (hb hby at_356) rfl ((if0 _ _).trans (flt (fun z => hc356_258 ((lw_gt j2 j1).mp z))).2.2.1) k) ?_
          refine Go.of (fun t k => XS.lloadN Xx239.here hx rfl (hb hby at_359) rfl  k) ?_
          refine Go.of (fun t k => XS.lload Xx239.here hx rfl (hb hby at_360) rfl  k) ?_
          show Go p e below Qo T234 (mkF m 362 #[sJ j1, zS, sJ j2, zS, sJ j3, zS, sJ j4, zS, sJ j5, zS, sI i1, sI v4_2, sI v18_5, sI v32_8, sJ p3, zS, sR b10, sR b31, sR b59, sR b94, sI (1 : Int32), sI (1 : Int32), sR (if j3 < (if j2 < j1 then j2 else j1) then b59 else (if j2 < j1 then b31 else b10)), zU, sI v336_242, zU] [(.long j3), (.long j2)])
          refine Go.of (fun t k => XS.lcmp Xx239.here hx rfl (hb hby at_362) rfl k) ?_
          by_cases hc363_259 : j3 < j2
          · refine Go.of (fun t k => XS.ifYes Xx239.here hx rfl (pc0 := 363) (pc' := 370) rfl (hb hby at_363) rfl ((if0 _ _).trans (tlt ((lw_gt j2 j3).mpr hc363_259)).2.2.1) (by decide) (by decide) k) ?_
            refine Go.of (fun t k => XS.iconst Xx239.here hx rfl (hb hby at_370) k) ?_
            show Go p e below Qo T234 (mkF m 371 #[sJ j1, zS, sJ j2, zS, sJ j3, zS, sJ j4, zS, sJ j5, zS, sI i1, sI v4_2, sI v18_5, sI v32_8, sJ p3, zS, sR b10, sR b31, sR b59, sR b94, sI (1 : Int32), sI (1 : Int32), sR (if j3 < (if j2 < j1 then j2 else j1) then b59 else (if j2 < j1 then b31 else b10)), zU, sI v336_242, zU] [(.int (0 : Int32))])
            exact J356_247 _ (by first | rfl | (rw [if_neg hc356_258, if_pos hc363_259]) | (simp only [hc356_258, hc363_259, if_true, if_false]; done) | simp [hc356_258, hc363_259])
          refine Go.of (fun t k => XS.ifNo Xx239.here hx rfl (hb hby at_363) rfl ((if0 _ _).trans (flt (fun z => hc363_259 ((lw_gt j2 j3).mp z))).2.2.1) k) ?_
          refine Go.of (fun t k => XS.iconst Xx239.here hx rfl (hb hby at_366) k) ?_
          refine Go.of (fun t k => XS.goto Xx239.here hx rfl (pc0 := 367) (pc' := 371) rfl (hb hby at_367) (by decide) (by decide) k) ?_
          show Go p e below Qo T234 (mkF m 371 #[sJ j1, zS, sJ j2, zS, sJ j3, zS, sJ j4, zS, sJ j5, zS, sI i1, sI v4_2, sI v18_5, sI v32_8, sJ p3, zS, sR b10, sR b31, sR b59, sR b94, sI (1 : Int32), sI (1 : Int32), sR (if j3 < (if j2 < j1 then j2 else j1) then b59 else (if j2 < j1 then b31 else b10)), zU, sI v336_242, zU] [(.int (1 : Int32))])
          exact J356_247 _ (by first | rfl | (rw [if_neg hc356_258, if_neg hc363_259]) | (simp only [hc356_258, hc363_259, if_true, if_false]; done) | simp [hc356_258, hc363_259])
        intro v356_246 hv356_246
        show Go p e below Qo T234 (mkF m 371 #[sJ j1, zS, sJ j2, zS, sJ j3, zS, sJ j4, zS, sJ j5, zS, sI i1, sI v4_2, sI v18_5, sI v32_8, sJ p3, zS, sR b10, sR b31, sR b59, sR b94, sI (1 : Int32), sI (1 : Int32), sR (if j3 < (if j2 < j1 then j2 else j1) then b59 else (if j2 < j1 then b31 else b10)), zU, sI v336_242, zU] [(.int v356_246)])
        refine Go.of (fun t k => XS.istore Xx239.here hx rfl (hb hby at_371) rfl (l' := #[sJ j1, zS, sJ j2, zS, sJ j3, zS, sJ j4, zS, sJ j5, zS, sI i1, sI v4_2, sI v18_5, sI v32_8, sJ p3, zS, sR b10, sR b31, sR b59, sR b94, sI (1 : Int32), sI (1 : Int32), sR (if j3 < (if j2 < j1 then j2 else j1) then b59 else (if j2 < j1 then b31 else b10)), zU, sI v336_242, sI v356_246]) rfl k) ?_
        refine Go.of (fun t k => XS.iload Xx239.here hx rfl (hb hby at_373) rfl  k) ?_
        suffices J375_251 : ∀ (v375_250 : Addr), v375_250 = (if v336_242 = (0 : Int32) then (if v356_246 = (0 : Int32) then b59 else b31) else b10) → Go p e below Qo T234 (mkF m 395 #[sJ j1, zS, sJ j2, zS, sJ j3, zS, sJ j4, zS, sJ j5, zS, sI i1, sI v4_2, sI v18_5, sI v32_8, sJ p3, zS, sR b10, sR b31, sR b59, sR b94, sI (1 : Int32), sI (1 : Int32), sR (if j3 < (if j2 < j1 then j2 else j1) then b59 else (if j2 < j1 then b31 else b10)), zU, sI v336_242, sI v356_246] [(.ref v375_250)]) by
          by_cases hc375_256 : v336_242 = (0 : Int32)
          · refine Go.of (fun t k => XS.ifYes Xx239.here hx rfl (pc0 := 375) (pc' := 383) rfl (hb hby at_375) rfl ((if0 _ _).trans (teq hc375_256).1) (by decide) (by decide) k) ?_
            refine Go.of (fun t k => XS.iload Xx239.here hx rfl (hb hby at_383) rfl  k) ?_
            by_cases hc385_257 : v356_246 = (0 : Int32)
            · refine Go.of (fun t k => XS.ifYes Xx239.here hx rfl (pc0 := 385) (pc' := 393) rfl (hb hby at_385) rfl ((if0 _ _).trans (teq hc385_257).1) (by decide) (by decide) k) ?_
              refine Go.of (fun t k => XS.aload Xx239.here hx rfl (hb hby at_393) rfl rfl k) ?_
              show Go p e below Qo T234 (mkF m 395 #[sJ j1, zS, sJ j2, zS, sJ j3, zS, sJ j4, zS, sJ j5, zS, sI i1, sI v4_2, sI v18_5, sI v32_8, sJ p3, zS, sR b10, sR b31, sR b59, sR b94, sI (1 : Int32), sI (1 : Int32), sR (if j3 < (if j2 < j1 then j2 else j1) then b59 else (if j2 < j1 then b31 else b10)), zU, sI v336_242, sI v356_246] [(.ref b59)])
              exact J375_251 _ (by first | rfl | (rw [if_pos hc375_256, if_pos hc385_257]) | (simp only [hc375_256, hc385_257, if_true, if_false]; done) | simp [hc375_256, hc385_257])
            refine Go.of (fun t k => XS.ifNo Xx239.here hx rfl (hb hby at_385) rfl ((if0 _ _).trans (feq hc385_257).1) k) ?_
            refine Go.of (fun t k => XS.aload Xx239.here hx rfl (hb hby at_388) rfl rfl k) ?_
            refine Go.of (fun t k => XS.goto Xx239.here hx rfl (pc0 := 390) (pc' := 395) rfl (hb hby at_390) (by decide) (by decide) k) ?_
            show Go p e below Qo T234 (mkF m 395 #[sJ j1, zS, sJ j2, zS, sJ j3, zS, sJ j4, zS, sJ j5, zS, sI i1, sI v4_2, sI v18_5, sI v32_8, sJ p3, zS, sR b10, sR b31, sR b59, sR b94, sI (1 : Int32), sI (1 : Int32), sR (if j3 < (if j2 < j1 then j2 else j1) then b59 else (if j2 < j1 then b31 else b10)), zU, sI v336_242, sI v356_246] [(.ref b31)])
            show Go p e below Qo T234 (mkF m 395 #[sJ j1, zS, sJ j2, zS, sJ j3, zS, sJ j4, zS, sJ j5, zS, sI i1, sI v4_2, sI v18_5, sI v32_8, sJ p3, zS, sR b10, sR b31, sR b59, sR b94, sI (1 : Int32), sI (1 : Int32), sR (if j3 < (if j2 < j1 then j2 else j1) then b59 else (if j2 < j1 then b31 else b10)), zU, sI v336_242, sI v356_246] [(.ref b31)])
            exact J375_251 _ (by first | rfl | (rw [if_pos hc375_256, if_neg hc385_257]) | (simp only [hc375_256, hc385_257, if_true, if_false]; done) | simp [hc375_256, hc385_257])
          refine Go.of (fun t k => XS.ifNo Xx239.here hx rfl (hb hby at_375) rfl ((if0 _ _).trans (feq hc375_256).1) k) ?_
          refine Go.of (fun t k => XS.aload Xx239.here hx rfl (hb hby at_378) rfl rfl k) ?_
          refine Go.of (fun t k => XS.goto Xx239.here hx rfl (pc0 := 380) (pc' := 395) rfl (hb hby at_380) (by decide) (by decide) k) ?_
          show Go p e below Qo T234 (mkF m 395 #[sJ j1, zS, sJ j2, zS, sJ j3, zS, sJ j4, zS, sJ j5, zS, sI i1, sI v4_2, sI v18_5, sI v32_8, sJ p3, zS, sR b10, sR b31, sR b59, sR b94, sI (1 : Int32), sI (1 : Int32), sR (if j3 < (if j2 < j1 then j2 else j1) then b59 else (if j2 < j1 then b31 else b10)), zU, sI v336_242, sI v356_246] [(.ref b10)])
          exact J375_251 _ (by first | rfl | (rw [if_neg hc375_256]) | (simp only [hc375_256, if_true, if_false]; done) | simp [hc375_256])
        intro v375_250 hv375_250
        show Go p e below Qo T234 (mkF m 395 #[sJ j1, zS, sJ j2, zS, sJ j3, zS, sJ j4, zS, sJ j5, zS, sI i1, sI v4_2, sI v18_5, sI v32_8, sJ p3, zS, sR b10, sR b31, sR b59, sR b94, sI (1 : Int32), sI (1 : Int32), sR (if j3 < (if j2 < j1 then j2 else j1) then b59 else (if j2 < j1 then b31 else b10)), zU, sI v336_242, sI v356_246] [(.ref v375_250)])
        refine Go.of (fun t k => XS.astore Xx239.here hx rfl (hb hby at_395) rfl rfl (l' := #[sJ j1, zS, sJ j2, zS, sJ j3, zS, sJ j4, zS, sJ j5, zS, sI i1, sI v4_2, sI v18_5, sI v32_8, sJ p3, zS, sR b10, sR b31, sR b59, sR b94, sI (1 : Int32), sI (1 : Int32), sR (if j3 < (if j2 < j1 then j2 else j1) then b59 else (if j2 < j1 then b31 else b10)), sR v375_250, sI v336_242, sI v356_246]) rfl k) ?_
        refine Go.of (fun t k => XS.iload Xx239.here hx rfl (hb hby at_397) rfl  k) ?_
        refine Go.of (fun t k => XS.ifNo Xx239.here hx rfl (hb hby at_399) rfl ((if0 _ _).trans (feq (by decide : ¬ ((1 : Int32) = (0 : Int32)))).1) k) ?_
        refine Go.of (fun t k => XS.iload Xx239.here hx rfl (hb hby at_402) rfl  k) ?_
        refine Go.of (fun t k => XS.ifNo Xx239.here hx rfl (hb hby at_404) rfl ((if0 _ _).trans (feq (by decide : ¬ ((1 : Int32) = (0 : Int32)))).1) k) ?_
        refine Go.of (fun t k => XS.aload Xx239.here hx rfl (hb hby at_407) rfl rfl k) ?_
        refine Go.of (fun t k => XS.aload Xx239.here hx rfl (hb hby at_409) rfl rfl k) ?_
        suffices J411_254 : ∀ (v411_253 : Int32), v411_253 = (if (if j3 < (if j2 < j1 then j2 else j1) then b59 else (if j2 < j1 then b31 else b10)) = v375_250 then (1 : Int32) else (0 : Int32)) → Go p e below Qo T234 (mkF m 419 #[sJ j1, zS, sJ j2, zS, sJ j3, zS, sJ j4, zS, sJ j5, zS, sI i1, sI v4_2, sI v18_5, sI v32_8, sJ p3, zS, sR b10, sR b31, sR b59, sR b94, sI (1 : Int32), sI (1 : Int32), sR (if j3 < (if j2 < j1 then j2 else j1) then b59 else (if j2 < j1 then b31 else b10)), sR v375_250, sI v336_242, sI v356_246] [(.int v411_253)]) by
          by_cases hc411_255 : (if j3 < (if j2 < j1 then j2 else j1) then b59 else (if j2 < j1 then b31 else b10)) = v375_250
          · refine Go.of (fun t k => Jvm.RoadKit.acmp (g := (mkF m 411 #[sJ j1, zS, sJ j2, zS, sJ j3, zS, sJ j4, zS, sJ j5, zS, sI i1, sI v4_2, sI v18_5, sI v32_8, sJ p3, zS, sR b10, sR b31, sR b59, sR b94, sI (1 : Int32), sI (1 : Int32), sR (if j3 < (if j2 < j1 then j2 else j1) then b59 else (if j2 < j1 then b31 else b10)), sR v375_250, sI v336_242, sI v356_246] [(.ref v375_250), (.ref (if j3 < (if j2 < j1 then j2 else j1) then b59 else (if j2 < j1 then b31 else b10)))])) Xx239 hx rfl rfl rfl (pc0 := 411) (pc' := 414) (same := true) rfl (hb hby at_411) rfl (decide_eq_true (congrArg Value.ref hc411_255)) (by decide) (by decide) k) ?_
            refine Go.of (fun t k => XS.iconst Xx239.here hx rfl (hb hby at_414) k) ?_
            refine Go.of (fun t k => XS.goto Xx239.here hx rfl (pc0 := 415) (pc' := 419) rfl (hb hby at_415) (by decide) (by decide) k) ?_
            show Go p e below Qo T234 (mkF m 419 #[sJ j1, zS, sJ j2, zS, sJ j3, zS, sJ j4, zS, sJ j5, zS, sI i1, sI v4_2, sI v18_5, sI v32_8, sJ p3, zS, sR b10, sR b31, sR b59, sR b94, sI (1 : Int32), sI (1 : Int32), sR (if j3 < (if j2 < j1 then j2 else j1) then b59 else (if j2 < j1 then b31 else b10)), sR v375_250, sI v336_242, sI v356_246] [(.int (1 : Int32))])
            exact J411_254 _ (by first | rfl | (rw [if_pos hc411_255]) | (simp only [hc411_255, if_true, if_false]; done) | simp [hc411_255])
          refine Go.of (fun t k => Jvm.RoadKit.acmp (g := (mkF m 411 #[sJ j1, zS, sJ j2, zS, sJ j3, zS, sJ j4, zS, sJ j5, zS, sI i1, sI v4_2, sI v18_5, sI v32_8, sJ p3, zS, sR b10, sR b31, sR b59, sR b94, sI (1 : Int32), sI (1 : Int32), sR (if j3 < (if j2 < j1 then j2 else j1) then b59 else (if j2 < j1 then b31 else b10)), sR v375_250, sI v336_242, sI v356_246] [(.ref v375_250), (.ref (if j3 < (if j2 < j1 then j2 else j1) then b59 else (if j2 < j1 then b31 else b10)))])) Xx239 hx rfl rfl rfl (pc0 := 411) (pc' := 418) (same := false) rfl (hb hby at_411) rfl (decide_eq_false fun q => hc411_255 (Value.ref.inj q)) (by decide) (by decide) k) ?_
          show Go p e below Qo T234 (mkF m 418 #[sJ j1, zS, sJ j2, zS, sJ j3, zS, sJ j4, zS, sJ j5, zS, sI i1, sI v4_2, sI v18_5, sI v32_8, sJ p3, zS, sR b10, sR b31, sR b59, sR b94, sI (1 : Int32), sI (1 : Int32), sR (if j3 < (if j2 < j1 then j2 else j1) then b59 else (if j2 < j1 then b31 else b10)), sR v375_250, sI v336_242, sI v356_246] [])
          refine Go.of (fun t k => XS.iconst Xx239.here hx rfl (hb hby at_418) k) ?_
          show Go p e below Qo T234 (mkF m 419 #[sJ j1, zS, sJ j2, zS, sJ j3, zS, sJ j4, zS, sJ j5, zS, sI i1, sI v4_2, sI v18_5, sI v32_8, sJ p3, zS, sR b10, sR b31, sR b59, sR b94, sI (1 : Int32), sI (1 : Int32), sR (if j3 < (if j2 < j1 then j2 else j1) then b59 else (if j2 < j1 then b31 else b10)), sR v375_250, sI v336_242, sI v356_246] [(.int (0 : Int32))])
          exact J411_254 _ (by first | rfl | (rw [if_neg hc411_255]) | (simp only [hc411_255, if_true, if_false]; done) | simp [hc411_255])
        intro v411_253 hv411_253
        show Go p e below Qo T234 (mkF m 419 #[sJ j1, zS, sJ j2, zS, sJ j3, zS, sJ j4, zS, sJ j5, zS, sI i1, sI v4_2, sI v18_5, sI v32_8, sJ p3, zS, sR b10, sR b31, sR b59, sR b94, sI (1 : Int32), sI (1 : Int32), sR (if j3 < (if j2 < j1 then j2 else j1) then b59 else (if j2 < j1 then b31 else b10)), sR v375_250, sI v336_242, sI v356_246] [(.int v411_253)])
        have hfin : v411_253 = 1 := by
          exact hv411_253.trans (if_pos (own_none _ _ _ _ _ _ _ _ _ hv336_242 hv356_246 hv375_250))
        exact own_retN Xx239 hx Bd.notSynchronized (t := .boolean) Bd.returns (by simp) (hb hby at_419) (fun u hu hF => hQo _ _ _ ⟨by rw [hfin]; rfl, Nx239⟩ (own_mono hF (by decide) (by decide)))
      refine Go.of (fun t k => XS.ifNo X59.here hx rfl (hb hby at_101) rfl ((if0 _ _).trans (feq hc101_75).1) k) ?_
      refine Go.of (fun t k => XS.iconst X59.here hx rfl (hb hby at_104) k) ?_
      obtain ⟨_, _, ⟨T262, L262, k262, n262⟩, -, X262, ⟨Lc262, hQ262, l262, y262, z262⟩, st262⟩ := Jvm.LawKit.callS X59 hx (y := (⟨"java/lang/Integer", "valueOf", "(I)Ljava/lang/Integer;"⟩ : MethodName)) hown (mvT hZ (wk hw 18 rfl)) (mvT hZ (wk hw 19 rfl)) (mvT hZ (wk hw 20 rfl)) (mvT hZ (wk hw 21 rfl)) (by decide) (backOf (W := 2) (rm43 l Z a0 hw [] (3 : Int32) rc h59 n0 Z72 q63 q64 q65 (hC) (rfl)) hZ (wk hw 21 rfl) (wk hw 20 rfl) (by decide) (by decide)) (g := (mkF m 105 #[sJ j1, zS, sJ j2, zS, sJ j3, zS, sJ j4, zS, sJ j5, zS, sI i1, sI v4_2, sI v18_5, sI v32_8, sJ p3, zS, sR b10, sR b31, zU, zU, zU, zU, zU, zU, zU, zU] [(.int (3 : Int32)), (.ref b59), (.ref b59)])) rfl (by rw [hml]; rfl) (argsL := [(.int (3 : Int32))]) (rest := [(.ref b59), (.ref b59)]) (lenOf pd_6 rfl) rfl (by show 2 * 0 + _ ≤ _; exact Nat.le_of_eq rfl) (hb hby at_105) (fun _ _ => ⟨rfl, e59, (by decide : 3 + 0 ≤ _), (by decide : 6 + 0 ≤ _)⟩)
      dsimp only [Pt.U, Pt.locs, Pt.cells, Pt.slots] at X262 l262 y262 z262 st262 hQ262
      subst l262 y262 z262
      replace X262 := own_cs X262 (c' := 3) (s' := 6) (by decide) (by decide)
      obtain ⟨x264, rfl, N263, Kc265, q266⟩ := hQ262
      have N267 := Fr.app Nx58 N263
      have q268 := own_staKeep q63 Kc265 all0
      have q269 := own_staKeep q64 Kc265 all0
      have q270 := q65.keep Kc265 all0
      have q271 := q66.keep Kc265
      have q272 := q67.keep Kc265 nin0
      have q273 := q68.keep Kc265 nin0
      have q274 := q69.keep Kc265
      have q275 := q70.keep Kc265 nin0
      have q276 := q71.keep Kc265 nin0
      have q277 := A59.keep Kc265
      have q278 := q73.keep Kc265 nin0
      have q279 := q74.keep Kc265 nin0
      have Z280 : n0 ≤ T262.heap.size := Nat.le_trans Z72 Kc265.1
      refine Go.of st262 ?_
      obtain ⟨Lx281, Xx281, Nx281⟩ := own_locs X262 N267
      show Go p e below Qo T262 (mkF m 108 #[sJ j1, zS, sJ j2, zS, sJ j3, zS, sJ j4, zS, sJ j5, zS, sI i1, sI v4_2, sI v18_5, sI v32_8, sJ p3, zS, sR b10, sR b31, zU, zU, zU, zU, zU, zU, zU, zU] [(.ref x264), (.ref b59), (.ref b59)])
      refine Go.of (fun t k => XS.goto Xx281.here hx rfl (pc0 := 108) (pc' := 112) rfl (hb hby at_108) (by decide) (by decide) k) ?_
      refine Go.of (fun t k => XS.aconstNull Xx281.here hx rfl (hb hby at_112) k) ?_
      obtain ⟨_, _, ⟨T282, L282, k282, n282⟩, -, X282, ⟨Lc282, hQ282, l282, y282, z282⟩, st282⟩ := Xx281.specialBack hx (y := (⟨kA, "<init>", "(Ljava/lang/Object;Ljava/util/List;)V"⟩ : MethodName)) rfl hown (mvT hZ (wk hw 3 rfl)) (mvT hZ (wk hw 4 rfl)) (mvT hZ (wk hw 5 rfl)) (by decide) (backOf (W := 1) (rm1 l Z a0 hw [] b59 (.ref x264) .null .null .null T262.heap n0 Z280 q277 q278 q279 g62 rfl rfl) hZ (wk hw 5 rfl) (wk hw 2 rfl) (by decide) (by decide)) (g := (mkF m 113 #[sJ j1, zS, sJ j2, zS, sJ j3, zS, sJ j4, zS, sJ j5, zS, sI i1, sI v4_2, sI v18_5, sI v32_8, sJ p3, zS, sR b10, sR b31, zU, zU, zU, zU, zU, zU, zU, zU] [.null, (.ref x264), (.ref b59), (.ref b59)])) rfl (by rw [hml]; rfl) (Steps.refl _) (a := b59) (argsL := [(.ref x264), .null]) (rest := [(.ref b59)]) (lenOf pd_3 rfl) rfl (by show 2 * 0 + _ ≤ _; exact Nat.le_of_eq rfl) (hb hby at_113) (fun _ _ => ⟨rfl, rfl, (by decide : 3 + 0 ≤ _), (by decide : 6 + 0 ≤ _)⟩)
      dsimp only [Pt.U, Pt.locs, Pt.cells, Pt.slots] at X282 l282 y282 z282 st282 hQ282
      subst l282 y282 z282
      replace X282 := own_cs X282 (c' := 3) (s' := 6) (by decide) (by decide)
      obtain ⟨rfl, N283, Kc284, q285, q286, q287⟩ := hQ282
      have N288 := Fr.app Nx281 N283
      have q289 := own_staKeep q268 Kc284 (allS (own_plainE q277) all0)
      have q290 := own_staKeep q269 Kc284 (allS (own_plainE q277) all0)
      have q291 := q270.keep Kc284 (allS g62 all0)
      have q292 := q271.keep Kc284
      have q293 := q272.keep Kc284 (ninS ne60 nin0)
      have q294 := q273.keep Kc284 (ninS ne60 nin0)
      have q295 := q274.keep Kc284
      have q296 := q275.keep Kc284 (ninS ne61 nin0)
      have q297 := q276.keep Kc284 (ninS ne61 nin0)
      have q298 := q266.keep Kc284
      have Z299 : n0 ≤ T282.heap.size := Nat.le_trans Z280 Kc284.1
      refine Go.via st282 ?_
      obtain ⟨Lx300, Xx300, Nx300⟩ := own_locs X282 N288
      show Go p e below Qo T282 (mkF m 116 #[sJ j1, zS, sJ j2, zS, sJ j3, zS, sJ j4, zS, sJ j5, zS, sI i1, sI v4_2, sI v18_5, sI v32_8, sJ p3, zS, sR b10, sR b31, zU, zU, zU, zU, zU, zU, zU, zU] [(.ref b59)])
      refine Go.of (fun t k => XS.astore Xx300.here hx rfl (hb hby at_116) rfl rfl (l' := #[sJ j1, zS, sJ j2, zS, sJ j3, zS, sJ j4, zS, sJ j5, zS, sI i1, sI v4_2, sI v18_5, sI v32_8, sJ p3, zS, sR b10, sR b31, sR b59, zU, zU, zU, zU, zU, zU, zU]) rfl k) ?_
      obtain ⟨T301, h301, X301, e301, E301, A301, D301, Um301, st301⟩ := newO Xx300 hx hZ hown (wk hw 25 rfl) (wk hw 26 rfl) (wk hw 27 rfl) rfl (g := (mkF m 118 #[sJ j1, zS, sJ j2, zS, sJ j3, zS, sJ j4, zS, sJ j5, zS, sI i1, sI v4_2, sI v18_5, sI v32_8, sJ p3, zS, sR b10, sR b31, sR b59, zU, zU, zU, zU, zU, zU, zU] [])) rfl (hb hby at_118) (by decide) (by decide)
      obtain ⟨b301, g301⟩ : ∃ z, z = T282.heap.size := ⟨_, rfl⟩
      rw [← g301] at A301 D301 Um301 st301
      have ne302 : b10 ≠ b301 := Nat.ne_of_lt (Nat.lt_of_lt_of_le q292.lt (Nat.le_of_eq g301.symm))
      have ne303 : b31 ≠ b301 := Nat.ne_of_lt (Nat.lt_of_lt_of_le q295.lt (Nat.le_of_eq g301.symm))
      have ne304 : x264 ≠ b301 := Nat.ne_of_lt (Nat.lt_of_lt_of_le q298.lt (Nat.le_of_eq g301.symm))
      have ne305 : b59 ≠ b301 := Nat.ne_of_lt (Nat.lt_of_lt_of_le q285.lt (Nat.le_of_eq g301.symm))
      have g306 : n0 ≤ b301 := Nat.le_trans Z299 (Nat.le_of_eq g301.symm)
      have q307 := q289.ext E301
      have q308 := q290.ext E301
      have q309 := q291.ext E301
      have q310 := q292.ext E301
      have q311 := q293.ext E301
      have q312 := q294.ext E301
      have q313 := q295.ext E301
      have q314 := q296.ext E301
      have q315 := q297.ext E301
      have q316 := q298.ext E301
      have q317 := q285.ext E301
      have q318 := q286.ext E301
      have q319 := q287.ext E301
      have Z320 : n0 ≤ h301.size := Nat.le_trans Z299 E301.1
      replace X301 := own_cs X301 (c' := 4) (s' := 15) (by decide) (by decide)
      have q321 : own_mon h301 b301 := by obtain ⟨cl, u1, -, u3⟩ := Um301; exact ⟨cl, u1, u3⟩
      have q322 : Fld Z h301 b301 kT "best" kD .null := D301 (Or.inl (wk hw 38 rfl)) (ty := (.object kA)) (by decide)
      have q323 : Fld Z h301 b301 kT "first" kD .null := D301 (Or.inl (wk hw 40 rfl)) (ty := (.object kA)) (by decide)
      have q324 : Fld Z h301 b301 kT "firstSeed" "J" (.long (0 : Int64)) := D301 (Or.inl (wk hw 47 rfl)) (ty := .long) (by decide)
      have q325 : Fld Z h301 b301 kT "bestSeed" "J" (.long (0 : Int64)) := D301 (Or.inl (wk hw 54 rfl)) (ty := .long) (by decide)
      have q326 : Fld Z h301 b301 kT "bestPenalty" "J" (.long (0 : Int64)) := D301 (Or.inl (wk hw 56 rfl)) (ty := .long) (by decide)
      have q327 : Fld Z h301 b301 kT "worstPenalty" "J" (.long (0 : Int64)) := D301 (Or.inl (wk hw 58 rfl)) (ty := .long) (by decide)
      have q328 : Fld Z h301 b301 kT "penaltySum" "J" (.long (0 : Int64)) := D301 (Or.inl (wk hw 64 rfl)) (ty := .long) (by decide)
      have q329 : Fld Z h301 b301 kT "feasibleRuns" "I" (.int (0 : Int32)) := D301 (Or.inl (wk hw 66 rfl)) (ty := .int) (by decide)
      refine Go.of st301 ?_
      show Go p e below Qo T301 (mkF m 121 #[sJ j1, zS, sJ j2, zS, sJ j3, zS, sJ j4, zS, sJ j5, zS, sI i1, sI v4_2, sI v18_5, sI v32_8, sJ p3, zS, sR b10, sR b31, sR b59, zU, zU, zU, zU, zU, zU, zU] [(.ref b301)])
      refine Go.of (fun t k => XS.dup X301.here hx rfl (hb hby at_121) rfl rfl k) ?_
      obtain ⟨_, _, ⟨T330, L330, k330, n330⟩, -, X330, ⟨Lc330, hQ330, l330, y330, z330⟩, st330⟩ := X301.specialBack hx (y := (⟨kT, "<init>", "()V"⟩ : MethodName)) rfl hown (mvT hZ (wk hw 28 rfl)) (mvT hZ (wk hw 29 rfl)) (mvT hZ (wk hw 30 rfl)) (by decide) (backOf (W := 1) (rm5 l Z a0 hw [] b301 h301 n0 Z320 ) hZ (wk hw 30 rfl) (wk hw 27 rfl) (by decide) (by decide)) (g := (mkF m 122 #[sJ j1, zS, sJ j2, zS, sJ j3, zS, sJ j4, zS, sJ j5, zS, sI i1, sI v4_2, sI v18_5, sI v32_8, sJ p3, zS, sR b10, sR b31, sR b59, zU, zU, zU, zU, zU, zU, zU] [(.ref b301), (.ref b301)])) rfl (by rw [hml]; rfl) (Steps.refl _) (a := b301) (argsL := []) (rest := [(.ref b301)]) (lenOf pd_0 rfl) rfl (by show 2 * 0 + _ ≤ _; exact Nat.le_of_eq rfl) (hb hby at_122) (fun _ _ => ⟨rfl, e301, (by decide : 4 + 0 ≤ _), (by decide : 15 + 0 ≤ _)⟩)
      dsimp only [Pt.U, Pt.locs, Pt.cells, Pt.slots] at X330 l330 y330 z330 st330 hQ330
      subst l330 y330 z330
      replace X330 := own_cs X330 (c' := 4) (s' := 15) (by decide) (by decide)
      obtain ⟨rfl, N331, eh332⟩ := hQ330
      have N333 := Fr.app Nx300 N331
      refine Go.via st330 ?_
      obtain ⟨Lx334, Xx334, Nx334⟩ := own_locs X330 N333
      show Go p e below Qo T330 (mkF m 125 #[sJ j1, zS, sJ j2, zS, sJ j3, zS, sJ j4, zS, sJ j5, zS, sI i1, sI v4_2, sI v18_5, sI v32_8, sJ p3, zS, sR b10, sR b31, sR b59, zU, zU, zU, zU, zU, zU, zU] [(.ref b301)])
      refine Go.of (fun t k => XS.astore Xx334.here hx rfl (hb hby at_125) rfl rfl (l' := #[sJ j1, zS, sJ j2, zS, sJ j3, zS, sJ j4, zS, sJ j5, zS, sI i1, sI v4_2, sI v18_5, sI v32_8, sJ p3, zS, sR b10, sR b31, sR b59, sR b301, zU, zU, zU, zU, zU, zU]) rfl k) ?_
      show Go p e below Qo T330 (mkF m 127 #[sJ j1, zS, sJ j2, zS, sJ j3, zS, sJ j4, zS, sJ j5, zS, sI i1, sI v4_2, sI v18_5, sI v32_8, sJ p3, zS, sR b10, sR b31, sR b59, sR b301, zU, zU, zU, zU, zU, zU] [])
      refine Go.of (fun t k => XS.aload Xx334.here hx rfl (hb hby at_127) rfl rfl k) ?_
      obtain ⟨ciq336, kiq336, iq336a, iq336b, iq336c⟩ := isOf hZ eh332 A301
      obtain ⟨_, _, ⟨T335, L335, k335, n335⟩, -, X335, ⟨Lc335, hQ335, l335, y335, z335⟩, st335⟩ := Xx334.virtualBack hx (y := (⟨kT, "reported", "()Lcom/example/examwright/examwright/Method$Attempt;"⟩ : MethodName)) (z := (⟨kT, "reported", "()Lcom/example/examwright/examwright/Method$Attempt;"⟩ : MethodName)) hown (mvT hZ (wk hw 32 rfl)) (mvT hZ (wk hw 33 rfl)) (notFace_of_selects (args := #[]) (mvT hZ (wk hw 35 rfl))) (mvT hZ (wk hw 35 rfl)) (mvT hZ (wk hw 34 rfl)) (by decide) (backOf (W := 0) (rm61 l Z a0 hw [] b301 h301 n0 Z320 q322 q323) hZ (wk hw 36 rfl) (wk hw 27 rfl) (by decide) (by decide)) iq336a iq336c (g := (mkF m 129 #[sJ j1, zS, sJ j2, zS, sJ j3, zS, sJ j4, zS, sJ j5, zS, sI i1, sI v4_2, sI v18_5, sI v32_8, sJ p3, zS, sR b10, sR b31, sR b59, sR b301, zU, zU, zU, zU, zU, zU] [(.ref b301)])) rfl (by rw [hml]; rfl) (Steps.refl _) (argsL := []) (rest := []) (lenOf pd_4 rfl) rfl (by show 2 * 0 + _ ≤ _; exact Nat.le_of_eq rfl) (hb hby at_129) (fun _ _ => ⟨rfl, eh332, (by decide : 4 + 0 ≤ _), (by decide : 15 + 0 ≤ _)⟩)
      dsimp only [Pt.U, Pt.locs, Pt.cells, Pt.slots] at X335 l335 y335 z335 st335 hQ335
      subst l335 y335 z335
      replace X335 := own_cs X335 (c' := 4) (s' := 15) (by decide) (by decide)
      obtain ⟨rfl, N337, eh338⟩ := hQ335
      have N339 := Fr.app Nx334 N337
      refine Go.via st335 ?_
      obtain ⟨Lx340, Xx340, Nx340⟩ := own_locs X335 N339
      show Go p e below Qo T335 (mkF m 132 #[sJ j1, zS, sJ j2, zS, sJ j3, zS, sJ j4, zS, sJ j5, zS, sI i1, sI v4_2, sI v18_5, sI v32_8, sJ p3, zS, sR b10, sR b31, sR b59, sR b301, zU, zU, zU, zU, zU, zU] [.null])
      refine Go.of (fun t k => XS.ifnonnullNo Xx340.here hx rfl (hb hby at_132) rfl k) ?_
      refine Go.of (fun t k => XS.iconst Xx340.here hx rfl (hb hby at_135) k) ?_
      refine Go.of (fun t k => XS.goto Xx340.here hx rfl (pc0 := 136) (pc' := 140) rfl (hb hby at_136) (by decide) (by decide) k) ?_
      refine Go.of (fun t k => XS.istore Xx340.here hx rfl (hb hby at_140) rfl (l' := #[sJ j1, zS, sJ j2, zS, sJ j3, zS, sJ j4, zS, sJ j5, zS, sI i1, sI v4_2, sI v18_5, sI v32_8, sJ p3, zS, sR b10, sR b31, sR b59, sR b301, sI (1 : Int32), zU, zU, zU, zU, zU]) rfl k) ?_
      refine Go.of (fun t k => XS.aload Xx340.here hx rfl (hb hby at_142) rfl rfl k) ?_
      refine Go.of (fun t k => XS.lloadN Xx340.here hx rfl (hb hby at_144) rfl  k) ?_
      refine Go.of (fun t k => XS.aload Xx340.here hx rfl (hb hby at_145) rfl rfl k) ?_
      show Go p e below Qo T335 (mkF m 147 #[sJ j1, zS, sJ j2, zS, sJ j3, zS, sJ j4, zS, sJ j5, zS, sI i1, sI v4_2, sI v18_5, sI v32_8, sJ p3, zS, sR b10, sR b31, sR b59, sR b301, sI (1 : Int32), zU, zU, zU, zU, zU] [(.ref b10), (.long j1), (.ref b301)])
      refine Go.of (fun t k => XS.lload Xx340.here hx rfl (hb hby at_147) rfl  k) ?_
      obtain ⟨ciq342, kiq342, iq342a, iq342b, iq342c⟩ := isOf hZ eh338 A301
      obtain ⟨_, _, ⟨T341, L341, k341, n341⟩, -, X341, ⟨Lc341, hQ341, l341, y341, z341⟩, st341⟩ := Xx340.virtualBack hx (y := (⟨kT, "add", "(JLcom/example/examwright/examwright/Method$Attempt;J)V"⟩ : MethodName)) (z := (⟨kT, "add", "(JLcom/example/examwright/examwright/Method$Attempt;J)V"⟩ : MethodName)) hown (mvT hZ (wk hw 41 rfl)) (mvT hZ (wk hw 42 rfl)) (notFace_of_selects (args := #[]) (mvT hZ (wk hw 44 rfl))) (mvT hZ (wk hw 44 rfl)) (mvT hZ (wk hw 43 rfl)) (by decide) (own_backS (W := 0) (a := b301) (rm70 l Z a0 hw b301 j1 b10 j4 (0 : Int64) (0 : Int64) (0 : Int64) (0 : Int64) (0 : Int64) (0 : Int32) h301 n0 Z320 A301 q321 q323 q324 q322 q325 q326 q327 q328 q329 q310 q311 g306 ne302) hZ (wk hw 45 rfl) (wk hw 43 rfl) (wk hw 27 rfl) q321 (by decide) (by decide)) iq342a iq342c (g := (mkF m 149 #[sJ j1, zS, sJ j2, zS, sJ j3, zS, sJ j4, zS, sJ j5, zS, sI i1, sI v4_2, sI v18_5, sI v32_8, sJ p3, zS, sR b10, sR b31, sR b59, sR b301, sI (1 : Int32), zU, zU, zU, zU, zU] [(.long j4), (.ref b10), (.long j1), (.ref b301)])) rfl (by rw [hml]; rfl) (Steps.refl _) (argsL := [(.long j1), (.ref b10), (.long j4)]) (rest := []) (lenOf pd_5 rfl) rfl (by show 2 * 0 + _ ≤ _; exact Nat.le_of_eq rfl) (hb hby at_149) (fun _ _ => ⟨rfl, eh338, (by decide : 4 + 0 ≤ _), (by decide : 15 + 0 ≤ _)⟩)
      dsimp only [Pt.U, Pt.locs, Pt.cells, Pt.slots] at X341 l341 y341 z341 st341 hQ341
      subst l341 y341 z341
      replace X341 := own_cs X341 (c' := 4) (s' := 15) (by decide) (by decide)
      obtain ⟨x344, x345, x346, rfl, N343, Kc347, q348, q349, q350, q351, q352, q353, q354, q355, q356, q357⟩ := hQ341
      have N358 := Fr.app Nx340 N343
      have q359 := own_staKeep q307 Kc347 (allS (own_plainE A301) all0)
      have q360 := own_staKeep q308 Kc347 (allS (own_plainE A301) all0)
      have q361 := q309.keep Kc347 (allS g306 all0)
      have q362 := q310.keep Kc347
      have q363 := q311.keep Kc347 (ninS ne302 nin0)
      have q364 := q312.keep Kc347 (ninS ne302 nin0)
      have q365 := q313.keep Kc347
      have q366 := q314.keep Kc347 (ninS ne303 nin0)
      have q367 := q315.keep Kc347 (ninS ne303 nin0)
      have q368 := q316.keep Kc347
      have q369 := q317.keep Kc347
      have q370 := q318.keep Kc347 (ninS ne305 nin0)
      have q371 := q319.keep Kc347 (ninS ne305 nin0)
      have Z372 : n0 ≤ T341.heap.size := Nat.le_trans Z320 Kc347.1
      refine Go.via st341 ?_
      obtain ⟨Lx373, Xx373, Nx373⟩ := own_locs X341 N358
      show Go p e below Qo T341 (mkF m 152 #[sJ j1, zS, sJ j2, zS, sJ j3, zS, sJ j4, zS, sJ j5, zS, sI i1, sI v4_2, sI v18_5, sI v32_8, sJ p3, zS, sR b10, sR b31, sR b59, sR b301, sI (1 : Int32), zU, zU, zU, zU, zU] [])
      refine Go.of (fun t k => XS.aload Xx373.here hx rfl (hb hby at_152) rfl rfl k) ?_
      obtain ⟨ciq375, kiq375, iq375a, iq375b, iq375c⟩ := isOf hZ rfl q348
      obtain ⟨_, _, ⟨T374, L374, k374, n374⟩, -, X374, ⟨Lc374, hQ374, l374, y374, z374⟩, st374⟩ := Xx373.virtualBack hx (y := (⟨kT, "reported", "()Lcom/example/examwright/examwright/Method$Attempt;"⟩ : MethodName)) (z := (⟨kT, "reported", "()Lcom/example/examwright/examwright/Method$Attempt;"⟩ : MethodName)) hown (mvT hZ (wk hw 32 rfl)) (mvT hZ (wk hw 33 rfl)) (notFace_of_selects (args := #[]) (mvT hZ (wk hw 35 rfl))) (mvT hZ (wk hw 35 rfl)) (mvT hZ (wk hw 34 rfl)) (by decide) (backOf (W := 0) (rm62 l Z a0 hw [] b301 b10 T341.heap n0 Z372 q352 q350) hZ (wk hw 36 rfl) (wk hw 27 rfl) (by decide) (by decide)) iq375a iq375c (g := (mkF m 154 #[sJ j1, zS, sJ j2, zS, sJ j3, zS, sJ j4, zS, sJ j5, zS, sI i1, sI v4_2, sI v18_5, sI v32_8, sJ p3, zS, sR b10, sR b31, sR b59, sR b301, sI (1 : Int32), zU, zU, zU, zU, zU] [(.ref b301)])) rfl (by rw [hml]; rfl) (Steps.refl _) (argsL := []) (rest := []) (lenOf pd_4 rfl) rfl (by show 2 * 0 + _ ≤ _; exact Nat.le_of_eq rfl) (hb hby at_154) (fun _ _ => ⟨rfl, rfl, (by decide : 4 + 0 ≤ _), (by decide : 15 + 0 ≤ _)⟩)
      dsimp only [Pt.U, Pt.locs, Pt.cells, Pt.slots] at X374 l374 y374 z374 st374 hQ374
      subst l374 y374 z374
      replace X374 := own_cs X374 (c' := 4) (s' := 15) (by decide) (by decide)
      obtain ⟨rfl, N376, eh377⟩ := hQ374
      have N378 := Fr.app Nx373 N376
      refine Go.via st374 ?_
      obtain ⟨Lx379, Xx379, Nx379⟩ := own_locs X374 N378
      show Go p e below Qo T374 (mkF m 157 #[sJ j1, zS, sJ j2, zS, sJ j3, zS, sJ j4, zS, sJ j5, zS, sI i1, sI v4_2, sI v18_5, sI v32_8, sJ p3, zS, sR b10, sR b31, sR b59, sR b301, sI (1 : Int32), zU, zU, zU, zU, zU] [(.ref b10)])
      refine Go.of (fun t k => XS.aload Xx379.here hx rfl (hb hby at_157) rfl rfl k) ?_
      refine Go.of (fun t k => Jvm.RoadKit.acmp (g := (mkF m 159 #[sJ j1, zS, sJ j2, zS, sJ j3, zS, sJ j4, zS, sJ j5, zS, sI i1, sI v4_2, sI v18_5, sI v32_8, sJ p3, zS, sR b10, sR b31, sR b59, sR b301, sI (1 : Int32), zU, zU, zU, zU, zU] [(.ref b10), (.ref b10)])) Xx379 hx rfl rfl rfl (pc0 := 159) (pc' := 162) (same := true) rfl (hb hby at_159) rfl (decide_eq_true rfl) (by decide) (by decide) k) ?_
      refine Go.of (fun t k => XS.iconst Xx379.here hx rfl (hb hby at_162) k) ?_
      refine Go.of (fun t k => XS.goto Xx379.here hx rfl (pc0 := 163) (pc' := 167) rfl (hb hby at_163) (by decide) (by decide) k) ?_
      refine Go.of (fun t k => XS.istore Xx379.here hx rfl (hb hby at_167) rfl (l' := #[sJ j1, zS, sJ j2, zS, sJ j3, zS, sJ j4, zS, sJ j5, zS, sI i1, sI v4_2, sI v18_5, sI v32_8, sJ p3, zS, sR b10, sR b31, sR b59, sR b301, sI (1 : Int32), sI (1 : Int32), zU, zU, zU, zU]) rfl k) ?_
      refine Go.of (fun t k => XS.aload Xx379.here hx rfl (hb hby at_169) rfl rfl k) ?_
      show Go p e below Qo T374 (mkF m 171 #[sJ j1, zS, sJ j2, zS, sJ j3, zS, sJ j4, zS, sJ j5, zS, sI i1, sI v4_2, sI v18_5, sI v32_8, sJ p3, zS, sR b10, sR b31, sR b59, sR b301, sI (1 : Int32), sI (1 : Int32), zU, zU, zU, zU] [(.ref b301)])
      refine Go.of (fun t k => XS.lloadN Xx379.here hx rfl (hb hby at_171) rfl  k) ?_
      refine Go.of (fun t k => XS.aload Xx379.here hx rfl (hb hby at_172) rfl rfl k) ?_
      refine Go.of (fun t k => XS.lload Xx379.here hx rfl (hb hby at_174) rfl  k) ?_
      obtain ⟨ciq381, kiq381, iq381a, iq381b, iq381c⟩ := isOf hZ eh377 q348
      obtain ⟨_, _, ⟨T380, L380, k380, n380⟩, -, X380, ⟨Lc380, hQ380, l380, y380, z380⟩, st380⟩ := Xx379.virtualBack hx (y := (⟨kT, "add", "(JLcom/example/examwright/examwright/Method$Attempt;J)V"⟩ : MethodName)) (z := (⟨kT, "add", "(JLcom/example/examwright/examwright/Method$Attempt;J)V"⟩ : MethodName)) hown (mvT hZ (wk hw 41 rfl)) (mvT hZ (wk hw 42 rfl)) (notFace_of_selects (args := #[]) (mvT hZ (wk hw 44 rfl))) (mvT hZ (wk hw 44 rfl)) (mvT hZ (wk hw 43 rfl)) (by decide) (own_backS (W := 0) (a := b301) (rm74 l Z a0 hw b301 j2 b31 j5 b10 j1 (0 : Int64) (0 : Int64) x344 x345 x346 T341.heap n0 Z372 q348 q349 q350 q351 q352 q353 q354 q355 q356 q357 q365 q366 g306 ne303) hZ (wk hw 45 rfl) (wk hw 43 rfl) (wk hw 27 rfl) q349 (by decide) (by decide)) iq381a iq381c (g := (mkF m 176 #[sJ j1, zS, sJ j2, zS, sJ j3, zS, sJ j4, zS, sJ j5, zS, sI i1, sI v4_2, sI v18_5, sI v32_8, sJ p3, zS, sR b10, sR b31, sR b59, sR b301, sI (1 : Int32), sI (1 : Int32), zU, zU, zU, zU] [(.long j5), (.ref b31), (.long j2), (.ref b301)])) rfl (by rw [hml]; rfl) (Steps.refl _) (argsL := [(.long j2), (.ref b31), (.long j5)]) (rest := []) (lenOf pd_5 rfl) rfl (by show 2 * 0 + _ ≤ _; exact Nat.le_of_eq rfl) (hb hby at_176) (fun _ _ => ⟨rfl, eh377, (by decide : 4 + 0 ≤ _), (by decide : 15 + 0 ≤ _)⟩)
      dsimp only [Pt.U, Pt.locs, Pt.cells, Pt.slots] at X380 l380 y380 z380 st380 hQ380
      subst l380 y380 z380
      replace X380 := own_cs X380 (c' := 4) (s' := 15) (by decide) (by decide)
      obtain ⟨x383, x384, x385, rfl, N382, Kc386, q387, q388, q389, q390, q391, q392, q393, q394, q395, q396⟩ := hQ380
      have N397 := Fr.app Nx379 N382
      have q398 := own_staKeep q359 Kc386 (allS (own_plainE q348) all0)
      have q399 := own_staKeep q360 Kc386 (allS (own_plainE q348) all0)
      have q400 := q361.keep Kc386 (allS g306 all0)
      have q401 := q362.keep Kc386
      have q402 := q363.keep Kc386 (ninS ne302 nin0)
      have q403 := q364.keep Kc386 (ninS ne302 nin0)
      have q404 := q365.keep Kc386
      have q405 := q366.keep Kc386 (ninS ne303 nin0)
      have q406 := q367.keep Kc386 (ninS ne303 nin0)
      have q407 := q368.keep Kc386
      have q408 := q369.keep Kc386
      have q409 := q370.keep Kc386 (ninS ne305 nin0)
      have q410 := q371.keep Kc386 (ninS ne305 nin0)
      have Z411 : n0 ≤ T380.heap.size := Nat.le_trans Z372 Kc386.1
      refine Go.via st380 ?_
      obtain ⟨Lx412, Xx412, Nx412⟩ := own_locs X380 N397
      show Go p e below Qo T380 (mkF m 179 #[sJ j1, zS, sJ j2, zS, sJ j3, zS, sJ j4, zS, sJ j5, zS, sI i1, sI v4_2, sI v18_5, sI v32_8, sJ p3, zS, sR b10, sR b31, sR b59, sR b301, sI (1 : Int32), sI (1 : Int32), zU, zU, zU, zU] [])
      refine Go.of (fun t k => XS.aload Xx412.here hx rfl (hb hby at_179) rfl rfl k) ?_
      refine Go.of (fun t k => XS.lload Xx412.here hx rfl (hb hby at_181) rfl  k) ?_
      refine Go.of (fun t k => XS.aload Xx412.here hx rfl (hb hby at_183) rfl rfl k) ?_
      refine Go.of (fun t k => XS.lload Xx412.here hx rfl (hb hby at_185) rfl  k) ?_
      obtain ⟨ciq414, kiq414, iq414a, iq414b, iq414c⟩ := isOf hZ rfl q387
      obtain ⟨_, _, ⟨T413, L413, k413, n413⟩, -, X413, ⟨Lc413, hQ413, l413, y413, z413⟩, st413⟩ := Xx412.virtualBack hx (y := (⟨kT, "add", "(JLcom/example/examwright/examwright/Method$Attempt;J)V"⟩ : MethodName)) (z := (⟨kT, "add", "(JLcom/example/examwright/examwright/Method$Attempt;J)V"⟩ : MethodName)) hown (mvT hZ (wk hw 41 rfl)) (mvT hZ (wk hw 42 rfl)) (notFace_of_selects (args := #[]) (mvT hZ (wk hw 44 rfl))) (mvT hZ (wk hw 44 rfl)) (mvT hZ (wk hw 43 rfl)) (by decide) (own_backS (W := 0) (a := b301) (rm75 l Z a0 hw b301 j3 b59 p3 (if j2 < j1 then b31 else b10) (if j2 < j1 then j2 else j1) (0 : Int64) (0 : Int64) x383 x384 x385 x264 T380.heap n0 Z411 q387 q388 q389 q390 q391 q392 q393 q394 q395 q396 q408 q409 g306 ne305) hZ (wk hw 45 rfl) (wk hw 43 rfl) (wk hw 27 rfl) q388 (by decide) (by decide)) iq414a iq414c (g := (mkF m 187 #[sJ j1, zS, sJ j2, zS, sJ j3, zS, sJ j4, zS, sJ j5, zS, sI i1, sI v4_2, sI v18_5, sI v32_8, sJ p3, zS, sR b10, sR b31, sR b59, sR b301, sI (1 : Int32), sI (1 : Int32), zU, zU, zU, zU] [(.long p3), (.ref b59), (.long j3), (.ref b301)])) rfl (by rw [hml]; rfl) (Steps.refl _) (argsL := [(.long j3), (.ref b59), (.long p3)]) (rest := []) (lenOf pd_5 rfl) rfl (by show 2 * 0 + _ ≤ _; exact Nat.le_of_eq rfl) (hb hby at_187) (fun _ _ => ⟨rfl, rfl, (by decide : 4 + 0 ≤ _), (by decide : 15 + 0 ≤ _)⟩)
      dsimp only [Pt.U, Pt.locs, Pt.cells, Pt.slots] at X413 l413 y413 z413 st413 hQ413
      subst l413 y413 z413
      replace X413 := own_cs X413 (c' := 4) (s' := 15) (by decide) (by decide)
      obtain ⟨x416, x417, x418, rfl, N415, Kc419, q420, q421, q422, q423, q424, q425, q426, q427, q428, q429⟩ := hQ413
      have N430 := Fr.app Nx412 N415
      have q431 := own_staKeep q398 Kc419 (allS (own_plainE q387) all0)
      have q432 := own_staKeep q399 Kc419 (allS (own_plainE q387) all0)
      have q433 := q400.keep Kc419 (allS g306 all0)
      have q434 := q401.keep Kc419
      have q435 := q402.keep Kc419 (ninS ne302 nin0)
      have q436 := q403.keep Kc419 (ninS ne302 nin0)
      have q437 := q404.keep Kc419
      have q438 := q405.keep Kc419 (ninS ne303 nin0)
      have q439 := q406.keep Kc419 (ninS ne303 nin0)
      have q440 := q407.keep Kc419
      have q441 := q408.keep Kc419
      have q442 := q409.keep Kc419 (ninS ne305 nin0)
      have q443 := q410.keep Kc419 (ninS ne305 nin0)
      have Z444 : n0 ≤ T413.heap.size := Nat.le_trans Z411 Kc419.1
      refine Go.via st413 ?_
      obtain ⟨Lx445, Xx445, Nx445⟩ := own_locs X413 N430
      show Go p e below Qo T413 (mkF m 190 #[sJ j1, zS, sJ j2, zS, sJ j3, zS, sJ j4, zS, sJ j5, zS, sI i1, sI v4_2, sI v18_5, sI v32_8, sJ p3, zS, sR b10, sR b31, sR b59, sR b301, sI (1 : Int32), sI (1 : Int32), zU, zU, zU, zU] [])
      refine Go.of (fun t k => XS.aload Xx445.here hx rfl (hb hby at_190) rfl rfl k) ?_
      show Go p e below Qo T413 (mkF m 192 #[sJ j1, zS, sJ j2, zS, sJ j3, zS, sJ j4, zS, sJ j5, zS, sI i1, sI v4_2, sI v18_5, sI v32_8, sJ p3, zS, sR b10, sR b31, sR b59, sR b301, sI (1 : Int32), sI (1 : Int32), zU, zU, zU, zU] [(.ref b301)])
      obtain ⟨ciq447, kiq447, iq447a, iq447b, iq447c⟩ := isOf hZ rfl q420
      obtain ⟨_, _, ⟨T446, L446, k446, n446⟩, -, X446, ⟨Lc446, hQ446, l446, y446, z446⟩, st446⟩ := Xx445.virtualBack hx (y := (⟨kT, "reported", "()Lcom/example/examwright/examwright/Method$Attempt;"⟩ : MethodName)) (z := (⟨kT, "reported", "()Lcom/example/examwright/examwright/Method$Attempt;"⟩ : MethodName)) hown (mvT hZ (wk hw 32 rfl)) (mvT hZ (wk hw 33 rfl)) (notFace_of_selects (args := #[]) (mvT hZ (wk hw 35 rfl))) (mvT hZ (wk hw 35 rfl)) (mvT hZ (wk hw 34 rfl)) (by decide) (backOf (W := 0) (rm63 l Z a0 hw [] b301 b59 T413.heap n0 Z444 q424) hZ (wk hw 36 rfl) (wk hw 27 rfl) (by decide) (by decide)) iq447a iq447c (g := (mkF m 192 #[sJ j1, zS, sJ j2, zS, sJ j3, zS, sJ j4, zS, sJ j5, zS, sI i1, sI v4_2, sI v18_5, sI v32_8, sJ p3, zS, sR b10, sR b31, sR b59, sR b301, sI (1 : Int32), sI (1 : Int32), zU, zU, zU, zU] [(.ref b301)])) rfl (by rw [hml]; rfl) (Steps.refl _) (argsL := []) (rest := []) (lenOf pd_4 rfl) rfl (by show 2 * 0 + _ ≤ _; exact Nat.le_of_eq rfl) (hb hby at_192) (fun _ _ => ⟨rfl, rfl, (by decide : 4 + 0 ≤ _), (by decide : 15 + 0 ≤ _)⟩)
      dsimp only [Pt.U, Pt.locs, Pt.cells, Pt.slots] at X446 l446 y446 z446 st446 hQ446
      subst l446 y446 z446
      replace X446 := own_cs X446 (c' := 4) (s' := 15) (by decide) (by decide)
      obtain ⟨rfl, N448, eh449⟩ := hQ446
      have N450 := Fr.app Nx445 N448
      refine Go.via st446 ?_
      obtain ⟨Lx451, Xx451, Nx451⟩ := own_locs X446 N450
      show Go p e below Qo T446 (mkF m 195 #[sJ j1, zS, sJ j2, zS, sJ j3, zS, sJ j4, zS, sJ j5, zS, sI i1, sI v4_2, sI v18_5, sI v32_8, sJ p3, zS, sR b10, sR b31, sR b59, sR b301, sI (1 : Int32), sI (1 : Int32), zU, zU, zU, zU] [(.ref b59)])
      refine Go.of (fun t k => XS.astore Xx451.here hx rfl (hb hby at_195) rfl rfl (l' := #[sJ j1, zS, sJ j2, zS, sJ j3, zS, sJ j4, zS, sJ j5, zS, sI i1, sI v4_2, sI v18_5, sI v32_8, sJ p3, zS, sR b10, sR b31, sR b59, sR b301, sI (1 : Int32), sI (1 : Int32), sR b59, zU, zU, zU]) rfl k) ?_
      refine Go.of (fun t k => XS.iload Xx451.here hx rfl (hb hby at_197) rfl  k) ?_
      refine Go.of (fun t k => XS.ifNo Xx451.here hx rfl (hb hby at_199) rfl ((if0 _ _).trans (teq hc55_18).2) k) ?_
      refine Go.of (fun t k => XS.iload Xx451.here hx rfl (hb hby at_202) rfl  k) ?_
      refine Go.of (fun t k => XS.ifNo Xx451.here hx rfl (hb hby at_204) rfl ((if0 _ _).trans (teq hc78_43).2) k) ?_
      refine Go.of (fun t k => XS.iload Xx451.here hx rfl (hb hby at_207) rfl  k) ?_
      refine Go.of (fun t k => XS.ifNo Xx451.here hx rfl (hb hby at_209) rfl ((if0 _ _).trans (feq hc101_75).1) k) ?_
      refine Go.of (fun t k => XS.iload Xx451.here hx rfl (hb hby at_212) rfl  k) ?_
      show Go p e below Qo T446 (mkF m 214 #[sJ j1, zS, sJ j2, zS, sJ j3, zS, sJ j4, zS, sJ j5, zS, sI i1, sI v4_2, sI v18_5, sI v32_8, sJ p3, zS, sR b10, sR b31, sR b59, sR b301, sI (1 : Int32), sI (1 : Int32), sR b59, zU, zU, zU] [(.int v4_2)])
      refine Go.of (fun t k => XS.ifYes Xx451.here hx rfl (pc0 := 214) (pc' := 256) rfl (hb hby at_214) rfl ((if0 _ _).trans (teq hc55_18).1) (by decide) (by decide) k) ?_
      refine Go.of (fun t k => XS.iconst Xx451.here hx rfl (hb hby at_256) k) ?_
      refine Go.of (fun t k => XS.istore Xx451.here hx rfl (hb hby at_257) rfl (l' := #[sJ j1, zS, sJ j2, zS, sJ j3, zS, sJ j4, zS, sJ j5, zS, sI i1, sI v4_2, sI v18_5, sI v32_8, sJ p3, zS, sR b10, sR b31, sR b59, sR b301, sI (1 : Int32), sI (1 : Int32), sR b59, zU, sI (0 : Int32), zU]) rfl k) ?_
      refine Go.of (fun t k => XS.iload Xx451.here hx rfl (hb hby at_259) rfl  k) ?_
      refine Go.of (fun t k => XS.ifYes Xx451.here hx rfl (pc0 := 261) (pc' := 303) rfl (hb hby at_261) rfl ((if0 _ _).trans (teq hc78_43).1) (by decide) (by decide) k) ?_
      refine Go.of (fun t k => XS.iconst Xx451.here hx rfl (hb hby at_303) k) ?_
      refine Go.of (fun t k => XS.istore Xx451.here hx rfl (hb hby at_304) rfl (l' := #[sJ j1, zS, sJ j2, zS, sJ j3, zS, sJ j4, zS, sJ j5, zS, sI i1, sI v4_2, sI v18_5, sI v32_8, sJ p3, zS, sR b10, sR b31, sR b59, sR b301, sI (1 : Int32), sI (1 : Int32), sR b59, zU, sI (0 : Int32), sI (0 : Int32)]) rfl k) ?_
      refine Go.of (fun t k => XS.iload Xx451.here hx rfl (hb hby at_306) rfl  k) ?_
      show Go p e below Qo T446 (mkF m 308 #[sJ j1, zS, sJ j2, zS, sJ j3, zS, sJ j4, zS, sJ j5, zS, sI i1, sI v4_2, sI v18_5, sI v32_8, sJ p3, zS, sR b10, sR b31, sR b59, sR b301, sI (1 : Int32), sI (1 : Int32), sR b59, zU, sI (0 : Int32), sI (0 : Int32)] [(.int (0 : Int32))])
      refine Go.of (fun t k => XS.ifYes Xx451.here hx rfl (pc0 := 308) (pc' := 316) rfl (hb hby at_308) rfl ((if0 _ _).trans (teq (by decide : (0 : Int32) = (0 : Int32))).1) (by decide) (by decide) k) ?_
      refine Go.of (fun t k => XS.iload Xx451.here hx rfl (hb hby at_316) rfl  k) ?_
      refine Go.of (fun t k => XS.ifYes Xx451.here hx rfl (pc0 := 318) (pc' := 326) rfl (hb hby at_318) rfl ((if0 _ _).trans (teq (by decide : (0 : Int32) = (0 : Int32))).1) (by decide) (by decide) k) ?_
      refine Go.of (fun t k => XS.aload Xx451.here hx rfl (hb hby at_326) rfl rfl k) ?_
      refine Go.of (fun t k => XS.astore Xx451.here hx rfl (hb hby at_328) rfl rfl (l' := #[sJ j1, zS, sJ j2, zS, sJ j3, zS, sJ j4, zS, sJ j5, zS, sI i1, sI v4_2, sI v18_5, sI v32_8, sJ p3, zS, sR b10, sR b31, sR b59, sR b301, sI (1 : Int32), sI (1 : Int32), sR b59, sR b59, sI (0 : Int32), sI (0 : Int32)]) rfl k) ?_
      refine Go.of (fun t k => XS.goto Xx451.here hx rfl (pc0 := 330) (pc' := 397) rfl (hb hby at_330) (by decide) (by decide) k) ?_
      refine Go.of (fun t k => XS.iload Xx451.here hx rfl (hb hby at_397) rfl  k) ?_
      refine Go.of (fun t k => XS.ifNo Xx451.here hx rfl (hb hby at_399) rfl ((if0 _ _).trans (feq (by decide : ¬ ((1 : Int32) = (0 : Int32)))).1) k) ?_
      show Go p e below Qo T446 (mkF m 402 #[sJ j1, zS, sJ j2, zS, sJ j3, zS, sJ j4, zS, sJ j5, zS, sI i1, sI v4_2, sI v18_5, sI v32_8, sJ p3, zS, sR b10, sR b31, sR b59, sR b301, sI (1 : Int32), sI (1 : Int32), sR b59, sR b59, sI (0 : Int32), sI (0 : Int32)] [])
      refine Go.of (fun t k => XS.iload Xx451.here hx rfl (hb hby at_402) rfl  k) ?_
      refine Go.of (fun t k => XS.ifNo Xx451.here hx rfl (hb hby at_404) rfl ((if0 _ _).trans (feq (by decide : ¬ ((1 : Int32) = (0 : Int32)))).1) k) ?_
      refine Go.of (fun t k => XS.aload Xx451.here hx rfl (hb hby at_407) rfl rfl k) ?_
      refine Go.of (fun t k => XS.aload Xx451.here hx rfl (hb hby at_409) rfl rfl k) ?_
      refine Go.of (fun t k => Jvm.RoadKit.acmp (g := (mkF m 411 #[sJ j1, zS, sJ j2, zS, sJ j3, zS, sJ j4, zS, sJ j5, zS, sI i1, sI v4_2, sI v18_5, sI v32_8, sJ p3, zS, sR b10, sR b31, sR b59, sR b301, sI (1 : Int32), sI (1 : Int32), sR b59, sR b59, sI (0 : Int32), sI (0 : Int32)] [(.ref b59), (.ref b59)])) Xx451 hx rfl rfl rfl (pc0 := 411) (pc' := 414) (same := true) rfl (hb hby at_411) rfl (decide_eq_true rfl) (by decide) (by decide) k) ?_
      refine Go.of (fun t k => XS.iconst Xx451.here hx rfl (hb hby at_414) k) ?_
      refine Go.of (fun t k => XS.goto Xx451.here hx rfl (pc0 := 415) (pc' := 419) rfl (hb hby at_415) (by decide) (by decide) k) ?_
      exact own_retN Xx451 hx Bd.notSynchronized (t := .boolean) Bd.returns (by simp) (hb hby at_419) (fun u hu hF => hQo _ _ _ ⟨rfl, Nx451⟩ (own_mono hF (by decide) (by decide)))
    refine Go.of (fun t k => XS.ifNo X31.here hx rfl (hb hby at_78) rfl ((if0 _ _).trans (feq hc78_43).1) k) ?_
    show Go p e below Qo T31 (mkF m 81 #[sJ j1, zS, sJ j2, zS, sJ j3, zS, sJ j4, zS, sJ j5, zS, sI i1, sI v4_2, sI v18_5, sI v32_8, sJ p3, zS, sR b10, zU, zU, zU, zU, zU, zU, zU, zU, zU] [(.ref b31), (.ref b31)])
    refine Go.of (fun t k => XS.iconst X31.here hx rfl (hb hby at_81) k) ?_
    obtain ⟨_, _, ⟨T452, L452, k452, n452⟩, -, X452, ⟨Lc452, hQ452, l452, y452, z452⟩, st452⟩ := Jvm.LawKit.callS X31 hx (y := (⟨"java/lang/Integer", "valueOf", "(I)Ljava/lang/Integer;"⟩ : MethodName)) hown (mvT hZ (wk hw 18 rfl)) (mvT hZ (wk hw 19 rfl)) (mvT hZ (wk hw 20 rfl)) (mvT hZ (wk hw 21 rfl)) (by decide) (backOf (W := 2) (rm42 l Z a0 hw [] (2 : Int32) rc h31 n0 Z40 q34 q35 q36 (hC) (rfl)) hZ (wk hw 21 rfl) (wk hw 20 rfl) (by decide) (by decide)) (g := (mkF m 82 #[sJ j1, zS, sJ j2, zS, sJ j3, zS, sJ j4, zS, sJ j5, zS, sI i1, sI v4_2, sI v18_5, sI v32_8, sJ p3, zS, sR b10, zU, zU, zU, zU, zU, zU, zU, zU, zU] [(.int (2 : Int32)), (.ref b31), (.ref b31)])) rfl (by rw [hml]; rfl) (argsL := [(.int (2 : Int32))]) (rest := [(.ref b31), (.ref b31)]) (lenOf pd_6 rfl) rfl (by show 2 * 0 + _ ≤ _; exact Nat.le_of_eq rfl) (hb hby at_82) (fun _ _ => ⟨rfl, e31, (by decide : 2 + 0 ≤ _), (by decide : 4 + 0 ≤ _)⟩)
    dsimp only [Pt.U, Pt.locs, Pt.cells, Pt.slots] at X452 l452 y452 z452 st452 hQ452
    subst l452 y452 z452
    replace X452 := own_cs X452 (c' := 2) (s' := 4) (by decide) (by decide)
    obtain ⟨x454, rfl, N453, Kc455, q456⟩ := hQ452
    have N457 := Fr.app Nx30 N453
    have q458 := own_staKeep q34 Kc455 all0
    have q459 := own_staKeep q35 Kc455 all0
    have q460 := q36.keep Kc455 all0
    have q461 := q37.keep Kc455
    have q462 := q38.keep Kc455 nin0
    have q463 := q39.keep Kc455 nin0
    have q464 := A31.keep Kc455
    have q465 := q41.keep Kc455 nin0
    have q466 := q42.keep Kc455 nin0
    have Z467 : n0 ≤ T452.heap.size := Nat.le_trans Z40 Kc455.1
    refine Go.of st452 ?_
    obtain ⟨Lx468, Xx468, Nx468⟩ := own_locs X452 N457
    show Go p e below Qo T452 (mkF m 85 #[sJ j1, zS, sJ j2, zS, sJ j3, zS, sJ j4, zS, sJ j5, zS, sI i1, sI v4_2, sI v18_5, sI v32_8, sJ p3, zS, sR b10, zU, zU, zU, zU, zU, zU, zU, zU, zU] [(.ref x454), (.ref b31), (.ref b31)])
    refine Go.of (fun t k => XS.goto Xx468.here hx rfl (pc0 := 85) (pc' := 89) rfl (hb hby at_85) (by decide) (by decide) k) ?_
    refine Go.of (fun t k => XS.aconstNull Xx468.here hx rfl (hb hby at_89) k) ?_
    obtain ⟨_, _, ⟨T469, L469, k469, n469⟩, -, X469, ⟨Lc469, hQ469, l469, y469, z469⟩, st469⟩ := Xx468.specialBack hx (y := (⟨kA, "<init>", "(Ljava/lang/Object;Ljava/util/List;)V"⟩ : MethodName)) rfl hown (mvT hZ (wk hw 3 rfl)) (mvT hZ (wk hw 4 rfl)) (mvT hZ (wk hw 5 rfl)) (by decide) (backOf (W := 1) (rm1 l Z a0 hw [] b31 (.ref x454) .null .null .null T452.heap n0 Z467 q464 q465 q466 g33 rfl rfl) hZ (wk hw 5 rfl) (wk hw 2 rfl) (by decide) (by decide)) (g := (mkF m 90 #[sJ j1, zS, sJ j2, zS, sJ j3, zS, sJ j4, zS, sJ j5, zS, sI i1, sI v4_2, sI v18_5, sI v32_8, sJ p3, zS, sR b10, zU, zU, zU, zU, zU, zU, zU, zU, zU] [.null, (.ref x454), (.ref b31), (.ref b31)])) rfl (by rw [hml]; rfl) (Steps.refl _) (a := b31) (argsL := [(.ref x454), .null]) (rest := [(.ref b31)]) (lenOf pd_3 rfl) rfl (by show 2 * 0 + _ ≤ _; exact Nat.le_of_eq rfl) (hb hby at_90) (fun _ _ => ⟨rfl, rfl, (by decide : 2 + 0 ≤ _), (by decide : 4 + 0 ≤ _)⟩)
    dsimp only [Pt.U, Pt.locs, Pt.cells, Pt.slots] at X469 l469 y469 z469 st469 hQ469
    subst l469 y469 z469
    replace X469 := own_cs X469 (c' := 2) (s' := 4) (by decide) (by decide)
    obtain ⟨rfl, N470, Kc471, q472, q473, q474⟩ := hQ469
    have N475 := Fr.app Nx468 N470
    have q476 := own_staKeep q458 Kc471 (allS (own_plainE q464) all0)
    have q477 := own_staKeep q459 Kc471 (allS (own_plainE q464) all0)
    have q478 := q460.keep Kc471 (allS g33 all0)
    have q479 := q461.keep Kc471
    have q480 := q462.keep Kc471 (ninS ne32 nin0)
    have q481 := q463.keep Kc471 (ninS ne32 nin0)
    have q482 := q456.keep Kc471
    have Z483 : n0 ≤ T469.heap.size := Nat.le_trans Z467 Kc471.1
    refine Go.via st469 ?_
    obtain ⟨Lx484, Xx484, Nx484⟩ := own_locs X469 N475
    show Go p e below Qo T469 (mkF m 93 #[sJ j1, zS, sJ j2, zS, sJ j3, zS, sJ j4, zS, sJ j5, zS, sI i1, sI v4_2, sI v18_5, sI v32_8, sJ p3, zS, sR b10, zU, zU, zU, zU, zU, zU, zU, zU, zU] [(.ref b31)])
    refine Go.of (fun t k => XS.astore Xx484.here hx rfl (hb hby at_93) rfl rfl (l' := #[sJ j1, zS, sJ j2, zS, sJ j3, zS, sJ j4, zS, sJ j5, zS, sI i1, sI v4_2, sI v18_5, sI v32_8, sJ p3, zS, sR b10, sR b31, zU, zU, zU, zU, zU, zU, zU, zU]) rfl k) ?_
    obtain ⟨T485, h485, X485, e485, E485, A485, D485, Um485, st485⟩ := newO Xx484 hx hZ hown (wk hw 0 rfl) (wk hw 1 rfl) (wk hw 2 rfl) rfl (g := (mkF m 95 #[sJ j1, zS, sJ j2, zS, sJ j3, zS, sJ j4, zS, sJ j5, zS, sI i1, sI v4_2, sI v18_5, sI v32_8, sJ p3, zS, sR b10, sR b31, zU, zU, zU, zU, zU, zU, zU, zU] [])) rfl (hb hby at_95) (by decide) (by decide)
    obtain ⟨b485, g485⟩ : ∃ z, z = T469.heap.size := ⟨_, rfl⟩
    rw [← g485] at A485 D485 Um485 st485
    have ne486 : b10 ≠ b485 := Nat.ne_of_lt (Nat.lt_of_lt_of_le q479.lt (Nat.le_of_eq g485.symm))
    have ne487 : x454 ≠ b485 := Nat.ne_of_lt (Nat.lt_of_lt_of_le q482.lt (Nat.le_of_eq g485.symm))
    have ne488 : b31 ≠ b485 := Nat.ne_of_lt (Nat.lt_of_lt_of_le q472.lt (Nat.le_of_eq g485.symm))
    have g489 : n0 ≤ b485 := Nat.le_trans Z483 (Nat.le_of_eq g485.symm)
    have q490 := q476.ext E485
    have q491 := q477.ext E485
    have q492 := q478.ext E485
    have q493 := q479.ext E485
    have q494 := q480.ext E485
    have q495 := q481.ext E485
    have q496 := q482.ext E485
    have q497 := q472.ext E485
    have q498 := q473.ext E485
    have q499 := q474.ext E485
    have Z500 : n0 ≤ h485.size := Nat.le_trans Z483 E485.1
    replace X485 := own_cs X485 (c' := 3) (s' := 6) (by decide) (by decide)
    have q501 : Fld Z h485 b485 kA "run" "Ljava/lang/Object;" .null := D485 (Or.inr (wk hw 15 rfl)) (ty := (.object "java/lang/Object")) (by decide)
    have q502 : Fld Z h485 b485 kA "choices" "Ljava/util/List;" .null := D485 (Or.inr (wk hw 17 rfl)) (ty := (.object "java/util/List")) (by decide)
    refine Go.of st485 ?_
    show Go p e below Qo T485 (mkF m 98 #[sJ j1, zS, sJ j2, zS, sJ j3, zS, sJ j4, zS, sJ j5, zS, sI i1, sI v4_2, sI v18_5, sI v32_8, sJ p3, zS, sR b10, sR b31, zU, zU, zU, zU, zU, zU, zU, zU] [(.ref b485)])
    refine Go.of (fun t k => XS.dup X485.here hx rfl (hb hby at_98) rfl rfl k) ?_
    refine Go.of (fun t k => XS.iload X485.here hx rfl (hb hby at_99) rfl  k) ?_
    by_cases hc101_503 : v32_8 = (0 : Int32)
    · refine Go.of (fun t k => XS.ifYes X485.here hx rfl (pc0 := 101) (pc' := 111) rfl (hb hby at_101) rfl ((if0 _ _).trans (teq hc101_503).1) (by decide) (by decide) k) ?_
      refine Go.of (fun t k => XS.aconstNull X485.here hx rfl (hb hby at_111) k) ?_
      refine Go.of (fun t k => XS.aconstNull X485.here hx rfl (hb hby at_112) k) ?_
      obtain ⟨_, _, ⟨T504, L504, k504, n504⟩, -, X504, ⟨Lc504, hQ504, l504, y504, z504⟩, st504⟩ := X485.specialBack hx (y := (⟨kA, "<init>", "(Ljava/lang/Object;Ljava/util/List;)V"⟩ : MethodName)) rfl hown (mvT hZ (wk hw 3 rfl)) (mvT hZ (wk hw 4 rfl)) (mvT hZ (wk hw 5 rfl)) (by decide) (backOf (W := 1) (rm1 l Z a0 hw [] b485 .null .null .null .null h485 n0 Z500 A485 q501 q502 g489 rfl rfl) hZ (wk hw 5 rfl) (wk hw 2 rfl) (by decide) (by decide)) (g := (mkF m 113 #[sJ j1, zS, sJ j2, zS, sJ j3, zS, sJ j4, zS, sJ j5, zS, sI i1, sI v4_2, sI v18_5, sI v32_8, sJ p3, zS, sR b10, sR b31, zU, zU, zU, zU, zU, zU, zU, zU] [.null, .null, (.ref b485), (.ref b485)])) rfl (by rw [hml]; rfl) (Steps.refl _) (a := b485) (argsL := [.null, .null]) (rest := [(.ref b485)]) (lenOf pd_3 rfl) rfl (by show 2 * 0 + _ ≤ _; exact Nat.le_of_eq rfl) (hb hby at_113) (fun _ _ => ⟨rfl, e485, (by decide : 3 + 0 ≤ _), (by decide : 6 + 0 ≤ _)⟩)
      dsimp only [Pt.U, Pt.locs, Pt.cells, Pt.slots] at X504 l504 y504 z504 st504 hQ504
      subst l504 y504 z504
      replace X504 := own_cs X504 (c' := 3) (s' := 6) (by decide) (by decide)
      obtain ⟨rfl, N505, Kc506, q507, q508, q509⟩ := hQ504
      have N510 := Fr.app Nx484 N505
      have q511 := own_staKeep q490 Kc506 (allS (own_plainE A485) all0)
      have q512 := own_staKeep q491 Kc506 (allS (own_plainE A485) all0)
      have q513 := q492.keep Kc506 (allS g489 all0)
      have q514 := q493.keep Kc506
      have q515 := q494.keep Kc506 (ninS ne486 nin0)
      have q516 := q495.keep Kc506 (ninS ne486 nin0)
      have q517 := q496.keep Kc506
      have q518 := q497.keep Kc506
      have q519 := q498.keep Kc506 (ninS ne488 nin0)
      have q520 := q499.keep Kc506 (ninS ne488 nin0)
      have Z521 : n0 ≤ T504.heap.size := Nat.le_trans Z500 Kc506.1
      refine Go.via st504 ?_
      obtain ⟨Lx522, Xx522, Nx522⟩ := own_locs X504 N510
      show Go p e below Qo T504 (mkF m 116 #[sJ j1, zS, sJ j2, zS, sJ j3, zS, sJ j4, zS, sJ j5, zS, sI i1, sI v4_2, sI v18_5, sI v32_8, sJ p3, zS, sR b10, sR b31, zU, zU, zU, zU, zU, zU, zU, zU] [(.ref b485)])
      refine Go.of (fun t k => XS.astore Xx522.here hx rfl (hb hby at_116) rfl rfl (l' := #[sJ j1, zS, sJ j2, zS, sJ j3, zS, sJ j4, zS, sJ j5, zS, sI i1, sI v4_2, sI v18_5, sI v32_8, sJ p3, zS, sR b10, sR b31, sR b485, zU, zU, zU, zU, zU, zU, zU]) rfl k) ?_
      obtain ⟨T523, h523, X523, e523, E523, A523, D523, Um523, st523⟩ := newO Xx522 hx hZ hown (wk hw 25 rfl) (wk hw 26 rfl) (wk hw 27 rfl) rfl (g := (mkF m 118 #[sJ j1, zS, sJ j2, zS, sJ j3, zS, sJ j4, zS, sJ j5, zS, sI i1, sI v4_2, sI v18_5, sI v32_8, sJ p3, zS, sR b10, sR b31, sR b485, zU, zU, zU, zU, zU, zU, zU] [])) rfl (hb hby at_118) (by decide) (by decide)
      obtain ⟨b523, g523⟩ : ∃ z, z = T504.heap.size := ⟨_, rfl⟩
      rw [← g523] at A523 D523 Um523 st523
      have ne524 : b10 ≠ b523 := Nat.ne_of_lt (Nat.lt_of_lt_of_le q514.lt (Nat.le_of_eq g523.symm))
      have ne525 : x454 ≠ b523 := Nat.ne_of_lt (Nat.lt_of_lt_of_le q517.lt (Nat.le_of_eq g523.symm))
      have ne526 : b31 ≠ b523 := Nat.ne_of_lt (Nat.lt_of_lt_of_le q518.lt (Nat.le_of_eq g523.symm))
      have ne527 : b485 ≠ b523 := Nat.ne_of_lt (Nat.lt_of_lt_of_le q507.lt (Nat.le_of_eq g523.symm))
      have g528 : n0 ≤ b523 := Nat.le_trans Z521 (Nat.le_of_eq g523.symm)
      have q529 := q511.ext E523
      have q530 := q512.ext E523
      have q531 := q513.ext E523
      have q532 := q514.ext E523
      have q533 := q515.ext E523
      have q534 := q516.ext E523
      have q535 := q517.ext E523
      have q536 := q518.ext E523
      have q537 := q519.ext E523
      have q538 := q520.ext E523
      have q539 := q507.ext E523
      have q540 := q508.ext E523
      have q541 := q509.ext E523
      have Z542 : n0 ≤ h523.size := Nat.le_trans Z521 E523.1
      replace X523 := own_cs X523 (c' := 4) (s' := 15) (by decide) (by decide)
      have q543 : own_mon h523 b523 := by obtain ⟨cl, u1, -, u3⟩ := Um523; exact ⟨cl, u1, u3⟩
      have q544 : Fld Z h523 b523 kT "best" kD .null := D523 (Or.inl (wk hw 38 rfl)) (ty := (.object kA)) (by decide)
      have q545 : Fld Z h523 b523 kT "first" kD .null := D523 (Or.inl (wk hw 40 rfl)) (ty := (.object kA)) (by decide)
      have q546 : Fld Z h523 b523 kT "firstSeed" "J" (.long (0 : Int64)) := D523 (Or.inl (wk hw 47 rfl)) (ty := .long) (by decide)
      have q547 : Fld Z h523 b523 kT "bestSeed" "J" (.long (0 : Int64)) := D523 (Or.inl (wk hw 54 rfl)) (ty := .long) (by decide)
      have q548 : Fld Z h523 b523 kT "bestPenalty" "J" (.long (0 : Int64)) := D523 (Or.inl (wk hw 56 rfl)) (ty := .long) (by decide)
      have q549 : Fld Z h523 b523 kT "worstPenalty" "J" (.long (0 : Int64)) := D523 (Or.inl (wk hw 58 rfl)) (ty := .long) (by decide)
      have q550 : Fld Z h523 b523 kT "penaltySum" "J" (.long (0 : Int64)) := D523 (Or.inl (wk hw 64 rfl)) (ty := .long) (by decide)
      have q551 : Fld Z h523 b523 kT "feasibleRuns" "I" (.int (0 : Int32)) := D523 (Or.inl (wk hw 66 rfl)) (ty := .int) (by decide)
      refine Go.of st523 ?_
      show Go p e below Qo T523 (mkF m 121 #[sJ j1, zS, sJ j2, zS, sJ j3, zS, sJ j4, zS, sJ j5, zS, sI i1, sI v4_2, sI v18_5, sI v32_8, sJ p3, zS, sR b10, sR b31, sR b485, zU, zU, zU, zU, zU, zU, zU] [(.ref b523)])
      refine Go.of (fun t k => XS.dup X523.here hx rfl (hb hby at_121) rfl rfl k) ?_
      obtain ⟨_, _, ⟨T552, L552, k552, n552⟩, -, X552, ⟨Lc552, hQ552, l552, y552, z552⟩, st552⟩ := X523.specialBack hx (y := (⟨kT, "<init>", "()V"⟩ : MethodName)) rfl hown (mvT hZ (wk hw 28 rfl)) (mvT hZ (wk hw 29 rfl)) (mvT hZ (wk hw 30 rfl)) (by decide) (backOf (W := 1) (rm5 l Z a0 hw [] b523 h523 n0 Z542 ) hZ (wk hw 30 rfl) (wk hw 27 rfl) (by decide) (by decide)) (g := (mkF m 122 #[sJ j1, zS, sJ j2, zS, sJ j3, zS, sJ j4, zS, sJ j5, zS, sI i1, sI v4_2, sI v18_5, sI v32_8, sJ p3, zS, sR b10, sR b31, sR b485, zU, zU, zU, zU, zU, zU, zU] [(.ref b523), (.ref b523)])) rfl (by rw [hml]; rfl) (Steps.refl _) (a := b523) (argsL := []) (rest := [(.ref b523)]) (lenOf pd_0 rfl) rfl (by show 2 * 0 + _ ≤ _; exact Nat.le_of_eq rfl) (hb hby at_122) (fun _ _ => ⟨rfl, e523, (by decide : 4 + 0 ≤ _), (by decide : 15 + 0 ≤ _)⟩)
      dsimp only [Pt.U, Pt.locs, Pt.cells, Pt.slots] at X552 l552 y552 z552 st552 hQ552
      subst l552 y552 z552
      replace X552 := own_cs X552 (c' := 4) (s' := 15) (by decide) (by decide)
      obtain ⟨rfl, N553, eh554⟩ := hQ552
      have N555 := Fr.app Nx522 N553
      refine Go.via st552 ?_
      obtain ⟨Lx556, Xx556, Nx556⟩ := own_locs X552 N555
      show Go p e below Qo T552 (mkF m 125 #[sJ j1, zS, sJ j2, zS, sJ j3, zS, sJ j4, zS, sJ j5, zS, sI i1, sI v4_2, sI v18_5, sI v32_8, sJ p3, zS, sR b10, sR b31, sR b485, zU, zU, zU, zU, zU, zU, zU] [(.ref b523)])
      refine Go.of (fun t k => XS.astore Xx556.here hx rfl (hb hby at_125) rfl rfl (l' := #[sJ j1, zS, sJ j2, zS, sJ j3, zS, sJ j4, zS, sJ j5, zS, sI i1, sI v4_2, sI v18_5, sI v32_8, sJ p3, zS, sR b10, sR b31, sR b485, sR b523, zU, zU, zU, zU, zU, zU]) rfl k) ?_
      show Go p e below Qo T552 (mkF m 127 #[sJ j1, zS, sJ j2, zS, sJ j3, zS, sJ j4, zS, sJ j5, zS, sI i1, sI v4_2, sI v18_5, sI v32_8, sJ p3, zS, sR b10, sR b31, sR b485, sR b523, zU, zU, zU, zU, zU, zU] [])
      refine Go.of (fun t k => XS.aload Xx556.here hx rfl (hb hby at_127) rfl rfl k) ?_
      obtain ⟨ciq558, kiq558, iq558a, iq558b, iq558c⟩ := isOf hZ eh554 A523
      obtain ⟨_, _, ⟨T557, L557, k557, n557⟩, -, X557, ⟨Lc557, hQ557, l557, y557, z557⟩, st557⟩ := Xx556.virtualBack hx (y := (⟨kT, "reported", "()Lcom/example/examwright/examwright/Method$Attempt;"⟩ : MethodName)) (z := (⟨kT, "reported", "()Lcom/example/examwright/examwright/Method$Attempt;"⟩ : MethodName)) hown (mvT hZ (wk hw 32 rfl)) (mvT hZ (wk hw 33 rfl)) (notFace_of_selects (args := #[]) (mvT hZ (wk hw 35 rfl))) (mvT hZ (wk hw 35 rfl)) (mvT hZ (wk hw 34 rfl)) (by decide) (backOf (W := 0) (rm61 l Z a0 hw [] b523 h523 n0 Z542 q544 q545) hZ (wk hw 36 rfl) (wk hw 27 rfl) (by decide) (by decide)) iq558a iq558c (g := (mkF m 129 #[sJ j1, zS, sJ j2, zS, sJ j3, zS, sJ j4, zS, sJ j5, zS, sI i1, sI v4_2, sI v18_5, sI v32_8, sJ p3, zS, sR b10, sR b31, sR b485, sR b523, zU, zU, zU, zU, zU, zU] [(.ref b523)])) rfl (by rw [hml]; rfl) (Steps.refl _) (argsL := []) (rest := []) (lenOf pd_4 rfl) rfl (by show 2 * 0 + _ ≤ _; exact Nat.le_of_eq rfl) (hb hby at_129) (fun _ _ => ⟨rfl, eh554, (by decide : 4 + 0 ≤ _), (by decide : 15 + 0 ≤ _)⟩)
      dsimp only [Pt.U, Pt.locs, Pt.cells, Pt.slots] at X557 l557 y557 z557 st557 hQ557
      subst l557 y557 z557
      replace X557 := own_cs X557 (c' := 4) (s' := 15) (by decide) (by decide)
      obtain ⟨rfl, N559, eh560⟩ := hQ557
      have N561 := Fr.app Nx556 N559
      refine Go.via st557 ?_
      obtain ⟨Lx562, Xx562, Nx562⟩ := own_locs X557 N561
      show Go p e below Qo T557 (mkF m 132 #[sJ j1, zS, sJ j2, zS, sJ j3, zS, sJ j4, zS, sJ j5, zS, sI i1, sI v4_2, sI v18_5, sI v32_8, sJ p3, zS, sR b10, sR b31, sR b485, sR b523, zU, zU, zU, zU, zU, zU] [.null])
      refine Go.of (fun t k => XS.ifnonnullNo Xx562.here hx rfl (hb hby at_132) rfl k) ?_
      refine Go.of (fun t k => XS.iconst Xx562.here hx rfl (hb hby at_135) k) ?_
      refine Go.of (fun t k => XS.goto Xx562.here hx rfl (pc0 := 136) (pc' := 140) rfl (hb hby at_136) (by decide) (by decide) k) ?_
      refine Go.of (fun t k => XS.istore Xx562.here hx rfl (hb hby at_140) rfl (l' := #[sJ j1, zS, sJ j2, zS, sJ j3, zS, sJ j4, zS, sJ j5, zS, sI i1, sI v4_2, sI v18_5, sI v32_8, sJ p3, zS, sR b10, sR b31, sR b485, sR b523, sI (1 : Int32), zU, zU, zU, zU, zU]) rfl k) ?_
      refine Go.of (fun t k => XS.aload Xx562.here hx rfl (hb hby at_142) rfl rfl k) ?_
      refine Go.of (fun t k => XS.lloadN Xx562.here hx rfl (hb hby at_144) rfl  k) ?_
      refine Go.of (fun t k => XS.aload Xx562.here hx rfl (hb hby at_145) rfl rfl k) ?_
      show Go p e below Qo T557 (mkF m 147 #[sJ j1, zS, sJ j2, zS, sJ j3, zS, sJ j4, zS, sJ j5, zS, sI i1, sI v4_2, sI v18_5, sI v32_8, sJ p3, zS, sR b10, sR b31, sR b485, sR b523, sI (1 : Int32), zU, zU, zU, zU, zU] [(.ref b10), (.long j1), (.ref b523)])
      refine Go.of (fun t k => XS.lload Xx562.here hx rfl (hb hby at_147) rfl  k) ?_
      obtain ⟨ciq564, kiq564, iq564a, iq564b, iq564c⟩ := isOf hZ eh560 A523
      obtain ⟨_, _, ⟨T563, L563, k563, n563⟩, -, X563, ⟨Lc563, hQ563, l563, y563, z563⟩, st563⟩ := Xx562.virtualBack hx (y := (⟨kT, "add", "(JLcom/example/examwright/examwright/Method$Attempt;J)V"⟩ : MethodName)) (z := (⟨kT, "add", "(JLcom/example/examwright/examwright/Method$Attempt;J)V"⟩ : MethodName)) hown (mvT hZ (wk hw 41 rfl)) (mvT hZ (wk hw 42 rfl)) (notFace_of_selects (args := #[]) (mvT hZ (wk hw 44 rfl))) (mvT hZ (wk hw 44 rfl)) (mvT hZ (wk hw 43 rfl)) (by decide) (own_backS (W := 0) (a := b523) (rm70 l Z a0 hw b523 j1 b10 j4 (0 : Int64) (0 : Int64) (0 : Int64) (0 : Int64) (0 : Int64) (0 : Int32) h523 n0 Z542 A523 q543 q545 q546 q544 q547 q548 q549 q550 q551 q532 q533 g528 ne524) hZ (wk hw 45 rfl) (wk hw 43 rfl) (wk hw 27 rfl) q543 (by decide) (by decide)) iq564a iq564c (g := (mkF m 149 #[sJ j1, zS, sJ j2, zS, sJ j3, zS, sJ j4, zS, sJ j5, zS, sI i1, sI v4_2, sI v18_5, sI v32_8, sJ p3, zS, sR b10, sR b31, sR b485, sR b523, sI (1 : Int32), zU, zU, zU, zU, zU] [(.long j4), (.ref b10), (.long j1), (.ref b523)])) rfl (by rw [hml]; rfl) (Steps.refl _) (argsL := [(.long j1), (.ref b10), (.long j4)]) (rest := []) (lenOf pd_5 rfl) rfl (by show 2 * 0 + _ ≤ _; exact Nat.le_of_eq rfl) (hb hby at_149) (fun _ _ => ⟨rfl, eh560, (by decide : 4 + 0 ≤ _), (by decide : 15 + 0 ≤ _)⟩)
      dsimp only [Pt.U, Pt.locs, Pt.cells, Pt.slots] at X563 l563 y563 z563 st563 hQ563
      subst l563 y563 z563
      replace X563 := own_cs X563 (c' := 4) (s' := 15) (by decide) (by decide)
      obtain ⟨x566, x567, x568, rfl, N565, Kc569, q570, q571, q572, q573, q574, q575, q576, q577, q578, q579⟩ := hQ563
      have N580 := Fr.app Nx562 N565
      have q581 := own_staKeep q529 Kc569 (allS (own_plainE A523) all0)
      have q582 := own_staKeep q530 Kc569 (allS (own_plainE A523) all0)
      have q583 := q531.keep Kc569 (allS g528 all0)
      have q584 := q532.keep Kc569
      have q585 := q533.keep Kc569 (ninS ne524 nin0)
      have q586 := q534.keep Kc569 (ninS ne524 nin0)
      have q587 := q535.keep Kc569
      have q588 := q536.keep Kc569
      have q589 := q537.keep Kc569 (ninS ne526 nin0)
      have q590 := q538.keep Kc569 (ninS ne526 nin0)
      have q591 := q539.keep Kc569
      have q592 := q540.keep Kc569 (ninS ne527 nin0)
      have q593 := q541.keep Kc569 (ninS ne527 nin0)
      have Z594 : n0 ≤ T563.heap.size := Nat.le_trans Z542 Kc569.1
      refine Go.via st563 ?_
      obtain ⟨Lx595, Xx595, Nx595⟩ := own_locs X563 N580
      show Go p e below Qo T563 (mkF m 152 #[sJ j1, zS, sJ j2, zS, sJ j3, zS, sJ j4, zS, sJ j5, zS, sI i1, sI v4_2, sI v18_5, sI v32_8, sJ p3, zS, sR b10, sR b31, sR b485, sR b523, sI (1 : Int32), zU, zU, zU, zU, zU] [])
      refine Go.of (fun t k => XS.aload Xx595.here hx rfl (hb hby at_152) rfl rfl k) ?_
      obtain ⟨ciq597, kiq597, iq597a, iq597b, iq597c⟩ := isOf hZ rfl q570
      obtain ⟨_, _, ⟨T596, L596, k596, n596⟩, -, X596, ⟨Lc596, hQ596, l596, y596, z596⟩, st596⟩ := Xx595.virtualBack hx (y := (⟨kT, "reported", "()Lcom/example/examwright/examwright/Method$Attempt;"⟩ : MethodName)) (z := (⟨kT, "reported", "()Lcom/example/examwright/examwright/Method$Attempt;"⟩ : MethodName)) hown (mvT hZ (wk hw 32 rfl)) (mvT hZ (wk hw 33 rfl)) (notFace_of_selects (args := #[]) (mvT hZ (wk hw 35 rfl))) (mvT hZ (wk hw 35 rfl)) (mvT hZ (wk hw 34 rfl)) (by decide) (backOf (W := 0) (rm62 l Z a0 hw [] b523 b10 T563.heap n0 Z594 q574 q572) hZ (wk hw 36 rfl) (wk hw 27 rfl) (by decide) (by decide)) iq597a iq597c (g := (mkF m 154 #[sJ j1, zS, sJ j2, zS, sJ j3, zS, sJ j4, zS, sJ j5, zS, sI i1, sI v4_2, sI v18_5, sI v32_8, sJ p3, zS, sR b10, sR b31, sR b485, sR b523, sI (1 : Int32), zU, zU, zU, zU, zU] [(.ref b523)])) rfl (by rw [hml]; rfl) (Steps.refl _) (argsL := []) (rest := []) (lenOf pd_4 rfl) rfl (by show 2 * 0 + _ ≤ _; exact Nat.le_of_eq rfl) (hb hby at_154) (fun _ _ => ⟨rfl, rfl, (by decide : 4 + 0 ≤ _), (by decide : 15 + 0 ≤ _)⟩)
      dsimp only [Pt.U, Pt.locs, Pt.cells, Pt.slots] at X596 l596 y596 z596 st596 hQ596
      subst l596 y596 z596
      replace X596 := own_cs X596 (c' := 4) (s' := 15) (by decide) (by decide)
      obtain ⟨rfl, N598, eh599⟩ := hQ596
      have N600 := Fr.app Nx595 N598
      refine Go.via st596 ?_
      obtain ⟨Lx601, Xx601, Nx601⟩ := own_locs X596 N600
      show Go p e below Qo T596 (mkF m 157 #[sJ j1, zS, sJ j2, zS, sJ j3, zS, sJ j4, zS, sJ j5, zS, sI i1, sI v4_2, sI v18_5, sI v32_8, sJ p3, zS, sR b10, sR b31, sR b485, sR b523, sI (1 : Int32), zU, zU, zU, zU, zU] [(.ref b10)])
      refine Go.of (fun t k => XS.aload Xx601.here hx rfl (hb hby at_157) rfl rfl k) ?_
      refine Go.of (fun t k => Jvm.RoadKit.acmp (g := (mkF m 159 #[sJ j1, zS, sJ j2, zS, sJ j3, zS, sJ j4, zS, sJ j5, zS, sI i1, sI v4_2, sI v18_5, sI v32_8, sJ p3, zS, sR b10, sR b31, sR b485, sR b523, sI (1 : Int32), zU, zU, zU, zU, zU] [(.ref b10), (.ref b10)])) Xx601 hx rfl rfl rfl (pc0 := 159) (pc' := 162) (same := true) rfl (hb hby at_159) rfl (decide_eq_true rfl) (by decide) (by decide) k) ?_
      refine Go.of (fun t k => XS.iconst Xx601.here hx rfl (hb hby at_162) k) ?_
      refine Go.of (fun t k => XS.goto Xx601.here hx rfl (pc0 := 163) (pc' := 167) rfl (hb hby at_163) (by decide) (by decide) k) ?_
      refine Go.of (fun t k => XS.istore Xx601.here hx rfl (hb hby at_167) rfl (l' := #[sJ j1, zS, sJ j2, zS, sJ j3, zS, sJ j4, zS, sJ j5, zS, sI i1, sI v4_2, sI v18_5, sI v32_8, sJ p3, zS, sR b10, sR b31, sR b485, sR b523, sI (1 : Int32), sI (1 : Int32), zU, zU, zU, zU]) rfl k) ?_
      refine Go.of (fun t k => XS.aload Xx601.here hx rfl (hb hby at_169) rfl rfl k) ?_
      show Go p e below Qo T596 (mkF m 171 #[sJ j1, zS, sJ j2, zS, sJ j3, zS, sJ j4, zS, sJ j5, zS, sI i1, sI v4_2, sI v18_5, sI v32_8, sJ p3, zS, sR b10, sR b31, sR b485, sR b523, sI (1 : Int32), sI (1 : Int32), zU, zU, zU, zU] [(.ref b523)])
      refine Go.of (fun t k => XS.lloadN Xx601.here hx rfl (hb hby at_171) rfl  k) ?_
      refine Go.of (fun t k => XS.aload Xx601.here hx rfl (hb hby at_172) rfl rfl k) ?_
      refine Go.of (fun t k => XS.lload Xx601.here hx rfl (hb hby at_174) rfl  k) ?_
      obtain ⟨ciq603, kiq603, iq603a, iq603b, iq603c⟩ := isOf hZ eh599 q570
      obtain ⟨_, _, ⟨T602, L602, k602, n602⟩, -, X602, ⟨Lc602, hQ602, l602, y602, z602⟩, st602⟩ := Xx601.virtualBack hx (y := (⟨kT, "add", "(JLcom/example/examwright/examwright/Method$Attempt;J)V"⟩ : MethodName)) (z := (⟨kT, "add", "(JLcom/example/examwright/examwright/Method$Attempt;J)V"⟩ : MethodName)) hown (mvT hZ (wk hw 41 rfl)) (mvT hZ (wk hw 42 rfl)) (notFace_of_selects (args := #[]) (mvT hZ (wk hw 44 rfl))) (mvT hZ (wk hw 44 rfl)) (mvT hZ (wk hw 43 rfl)) (by decide) (own_backS (W := 0) (a := b523) (rm75 l Z a0 hw b523 j2 b31 j5 b10 j1 (0 : Int64) (0 : Int64) x566 x567 x568 x454 T563.heap n0 Z594 q570 q571 q572 q573 q574 q575 q576 q577 q578 q579 q588 q589 g528 ne526) hZ (wk hw 45 rfl) (wk hw 43 rfl) (wk hw 27 rfl) q571 (by decide) (by decide)) iq603a iq603c (g := (mkF m 176 #[sJ j1, zS, sJ j2, zS, sJ j3, zS, sJ j4, zS, sJ j5, zS, sI i1, sI v4_2, sI v18_5, sI v32_8, sJ p3, zS, sR b10, sR b31, sR b485, sR b523, sI (1 : Int32), sI (1 : Int32), zU, zU, zU, zU] [(.long j5), (.ref b31), (.long j2), (.ref b523)])) rfl (by rw [hml]; rfl) (Steps.refl _) (argsL := [(.long j2), (.ref b31), (.long j5)]) (rest := []) (lenOf pd_5 rfl) rfl (by show 2 * 0 + _ ≤ _; exact Nat.le_of_eq rfl) (hb hby at_176) (fun _ _ => ⟨rfl, eh599, (by decide : 4 + 0 ≤ _), (by decide : 15 + 0 ≤ _)⟩)
      dsimp only [Pt.U, Pt.locs, Pt.cells, Pt.slots] at X602 l602 y602 z602 st602 hQ602
      subst l602 y602 z602
      replace X602 := own_cs X602 (c' := 4) (s' := 15) (by decide) (by decide)
      obtain ⟨x605, x606, x607, rfl, N604, Kc608, q609, q610, q611, q612, q613, q614, q615, q616, q617, q618⟩ := hQ602
      have N619 := Fr.app Nx601 N604
      have q620 := own_staKeep q581 Kc608 (allS (own_plainE q570) all0)
      have q621 := own_staKeep q582 Kc608 (allS (own_plainE q570) all0)
      have q622 := q583.keep Kc608 (allS g528 all0)
      have q623 := q584.keep Kc608
      have q624 := q585.keep Kc608 (ninS ne524 nin0)
      have q625 := q586.keep Kc608 (ninS ne524 nin0)
      have q626 := q587.keep Kc608
      have q627 := q588.keep Kc608
      have q628 := q589.keep Kc608 (ninS ne526 nin0)
      have q629 := q590.keep Kc608 (ninS ne526 nin0)
      have q630 := q591.keep Kc608
      have q631 := q592.keep Kc608 (ninS ne527 nin0)
      have q632 := q593.keep Kc608 (ninS ne527 nin0)
      have Z633 : n0 ≤ T602.heap.size := Nat.le_trans Z594 Kc608.1
      refine Go.via st602 ?_
      obtain ⟨Lx634, Xx634, Nx634⟩ := own_locs X602 N619
      show Go p e below Qo T602 (mkF m 179 #[sJ j1, zS, sJ j2, zS, sJ j3, zS, sJ j4, zS, sJ j5, zS, sI i1, sI v4_2, sI v18_5, sI v32_8, sJ p3, zS, sR b10, sR b31, sR b485, sR b523, sI (1 : Int32), sI (1 : Int32), zU, zU, zU, zU] [])
      refine Go.of (fun t k => XS.aload Xx634.here hx rfl (hb hby at_179) rfl rfl k) ?_
      refine Go.of (fun t k => XS.lload Xx634.here hx rfl (hb hby at_181) rfl  k) ?_
      refine Go.of (fun t k => XS.aload Xx634.here hx rfl (hb hby at_183) rfl rfl k) ?_
      refine Go.of (fun t k => XS.lload Xx634.here hx rfl (hb hby at_185) rfl  k) ?_
      obtain ⟨ciq636, kiq636, iq636a, iq636b, iq636c⟩ := isOf hZ rfl q609
      obtain ⟨_, _, ⟨T635, L635, k635, n635⟩, -, X635, ⟨Lc635, hQ635, l635, y635, z635⟩, st635⟩ := Xx634.virtualBack hx (y := (⟨kT, "add", "(JLcom/example/examwright/examwright/Method$Attempt;J)V"⟩ : MethodName)) (z := (⟨kT, "add", "(JLcom/example/examwright/examwright/Method$Attempt;J)V"⟩ : MethodName)) hown (mvT hZ (wk hw 41 rfl)) (mvT hZ (wk hw 42 rfl)) (notFace_of_selects (args := #[]) (mvT hZ (wk hw 44 rfl))) (mvT hZ (wk hw 44 rfl)) (mvT hZ (wk hw 43 rfl)) (by decide) (own_backS (W := 0) (a := b523) (rm76 l Z a0 hw b523 j3 b485 p3 (if j2 < j1 then b31 else b10) (if j2 < j1 then j2 else j1) b31 j2 j5 x605 x606 x607 T602.heap n0 Z633 q609 q610 q611 q612 q613 q614 q615 q616 q617 q618 q630 q631 g528 ne527) hZ (wk hw 45 rfl) (wk hw 43 rfl) (wk hw 27 rfl) q610 (by decide) (by decide)) iq636a iq636c (g := (mkF m 187 #[sJ j1, zS, sJ j2, zS, sJ j3, zS, sJ j4, zS, sJ j5, zS, sI i1, sI v4_2, sI v18_5, sI v32_8, sJ p3, zS, sR b10, sR b31, sR b485, sR b523, sI (1 : Int32), sI (1 : Int32), zU, zU, zU, zU] [(.long p3), (.ref b485), (.long j3), (.ref b523)])) rfl (by rw [hml]; rfl) (Steps.refl _) (argsL := [(.long j3), (.ref b485), (.long p3)]) (rest := []) (lenOf pd_5 rfl) rfl (by show 2 * 0 + _ ≤ _; exact Nat.le_of_eq rfl) (hb hby at_187) (fun _ _ => ⟨rfl, rfl, (by decide : 4 + 0 ≤ _), (by decide : 15 + 0 ≤ _)⟩)
      dsimp only [Pt.U, Pt.locs, Pt.cells, Pt.slots] at X635 l635 y635 z635 st635 hQ635
      subst l635 y635 z635
      replace X635 := own_cs X635 (c' := 4) (s' := 15) (by decide) (by decide)
      obtain ⟨x638, x639, x640, rfl, N637, Kc641, q642, q643, q644, q645, q646, q647, q648, q649, q650, q651⟩ := hQ635
      have N652 := Fr.app Nx634 N637
      have q653 := own_staKeep q620 Kc641 (allS (own_plainE q609) all0)
      have q654 := own_staKeep q621 Kc641 (allS (own_plainE q609) all0)
      have q655 := q622.keep Kc641 (allS g528 all0)
      have q656 := q623.keep Kc641
      have q657 := q624.keep Kc641 (ninS ne524 nin0)
      have q658 := q625.keep Kc641 (ninS ne524 nin0)
      have q659 := q626.keep Kc641
      have q660 := q627.keep Kc641
      have q661 := q628.keep Kc641 (ninS ne526 nin0)
      have q662 := q629.keep Kc641 (ninS ne526 nin0)
      have q663 := q630.keep Kc641
      have q664 := q631.keep Kc641 (ninS ne527 nin0)
      have q665 := q632.keep Kc641 (ninS ne527 nin0)
      have Z666 : n0 ≤ T635.heap.size := Nat.le_trans Z633 Kc641.1
      refine Go.via st635 ?_
      obtain ⟨Lx667, Xx667, Nx667⟩ := own_locs X635 N652
      show Go p e below Qo T635 (mkF m 190 #[sJ j1, zS, sJ j2, zS, sJ j3, zS, sJ j4, zS, sJ j5, zS, sI i1, sI v4_2, sI v18_5, sI v32_8, sJ p3, zS, sR b10, sR b31, sR b485, sR b523, sI (1 : Int32), sI (1 : Int32), zU, zU, zU, zU] [])
      refine Go.of (fun t k => XS.aload Xx667.here hx rfl (hb hby at_190) rfl rfl k) ?_
      show Go p e below Qo T635 (mkF m 192 #[sJ j1, zS, sJ j2, zS, sJ j3, zS, sJ j4, zS, sJ j5, zS, sI i1, sI v4_2, sI v18_5, sI v32_8, sJ p3, zS, sR b10, sR b31, sR b485, sR b523, sI (1 : Int32), sI (1 : Int32), zU, zU, zU, zU] [(.ref b523)])
      obtain ⟨ciq669, kiq669, iq669a, iq669b, iq669c⟩ := isOf hZ rfl q642
      obtain ⟨_, _, ⟨T668, L668, k668, n668⟩, -, X668, ⟨Lc668, hQ668, l668, y668, z668⟩, st668⟩ := Xx667.virtualBack hx (y := (⟨kT, "reported", "()Lcom/example/examwright/examwright/Method$Attempt;"⟩ : MethodName)) (z := (⟨kT, "reported", "()Lcom/example/examwright/examwright/Method$Attempt;"⟩ : MethodName)) hown (mvT hZ (wk hw 32 rfl)) (mvT hZ (wk hw 33 rfl)) (notFace_of_selects (args := #[]) (mvT hZ (wk hw 35 rfl))) (mvT hZ (wk hw 35 rfl)) (mvT hZ (wk hw 34 rfl)) (by decide) (backOf (W := 0) (rm63 l Z a0 hw [] b523 b31 T635.heap n0 Z666 q646) hZ (wk hw 36 rfl) (wk hw 27 rfl) (by decide) (by decide)) iq669a iq669c (g := (mkF m 192 #[sJ j1, zS, sJ j2, zS, sJ j3, zS, sJ j4, zS, sJ j5, zS, sI i1, sI v4_2, sI v18_5, sI v32_8, sJ p3, zS, sR b10, sR b31, sR b485, sR b523, sI (1 : Int32), sI (1 : Int32), zU, zU, zU, zU] [(.ref b523)])) rfl (by rw [hml]; rfl) (Steps.refl _) (argsL := []) (rest := []) (lenOf pd_4 rfl) rfl (by show 2 * 0 + _ ≤ _; exact Nat.le_of_eq rfl) (hb hby at_192) (fun _ _ => ⟨rfl, rfl, (by decide : 4 + 0 ≤ _), (by decide : 15 + 0 ≤ _)⟩)
      dsimp only [Pt.U, Pt.locs, Pt.cells, Pt.slots] at X668 l668 y668 z668 st668 hQ668
      subst l668 y668 z668
      replace X668 := own_cs X668 (c' := 4) (s' := 15) (by decide) (by decide)
      obtain ⟨rfl, N670, eh671⟩ := hQ668
      have N672 := Fr.app Nx667 N670
      refine Go.via st668 ?_
      obtain ⟨Lx673, Xx673, Nx673⟩ := own_locs X668 N672
      show Go p e below Qo T668 (mkF m 195 #[sJ j1, zS, sJ j2, zS, sJ j3, zS, sJ j4, zS, sJ j5, zS, sI i1, sI v4_2, sI v18_5, sI v32_8, sJ p3, zS, sR b10, sR b31, sR b485, sR b523, sI (1 : Int32), sI (1 : Int32), zU, zU, zU, zU] [(.ref b31)])
      refine Go.of (fun t k => XS.astore Xx673.here hx rfl (hb hby at_195) rfl rfl (l' := #[sJ j1, zS, sJ j2, zS, sJ j3, zS, sJ j4, zS, sJ j5, zS, sI i1, sI v4_2, sI v18_5, sI v32_8, sJ p3, zS, sR b10, sR b31, sR b485, sR b523, sI (1 : Int32), sI (1 : Int32), sR b31, zU, zU, zU]) rfl k) ?_
      refine Go.of (fun t k => XS.iload Xx673.here hx rfl (hb hby at_197) rfl  k) ?_
      refine Go.of (fun t k => XS.ifNo Xx673.here hx rfl (hb hby at_199) rfl ((if0 _ _).trans (teq hc55_18).2) k) ?_
      refine Go.of (fun t k => XS.iload Xx673.here hx rfl (hb hby at_202) rfl  k) ?_
      refine Go.of (fun t k => XS.ifYes Xx673.here hx rfl (pc0 := 204) (pc' := 212) rfl (hb hby at_204) rfl ((if0 _ _).trans (feq hc78_43).2) (by decide) (by decide) k) ?_
      refine Go.of (fun t k => XS.iload Xx673.here hx rfl (hb hby at_212) rfl  k) ?_
      refine Go.of (fun t k => XS.ifYes Xx673.here hx rfl (pc0 := 214) (pc' := 256) rfl (hb hby at_214) rfl ((if0 _ _).trans (teq hc55_18).1) (by decide) (by decide) k) ?_
      refine Go.of (fun t k => XS.iconst Xx673.here hx rfl (hb hby at_256) k) ?_
      show Go p e below Qo T668 (mkF m 257 #[sJ j1, zS, sJ j2, zS, sJ j3, zS, sJ j4, zS, sJ j5, zS, sI i1, sI v4_2, sI v18_5, sI v32_8, sJ p3, zS, sR b10, sR b31, sR b485, sR b523, sI (1 : Int32), sI (1 : Int32), sR b31, zU, zU, zU] [(.int (0 : Int32))])
      refine Go.of (fun t k => XS.istore Xx673.here hx rfl (hb hby at_257) rfl (l' := #[sJ j1, zS, sJ j2, zS, sJ j3, zS, sJ j4, zS, sJ j5, zS, sI i1, sI v4_2, sI v18_5, sI v32_8, sJ p3, zS, sR b10, sR b31, sR b485, sR b523, sI (1 : Int32), sI (1 : Int32), sR b31, zU, sI (0 : Int32), zU]) rfl k) ?_
      refine Go.of (fun t k => XS.iload Xx673.here hx rfl (hb hby at_259) rfl  k) ?_
      refine Go.of (fun t k => XS.ifNo Xx673.here hx rfl (hb hby at_261) rfl ((if0 _ _).trans (feq hc78_43).1) k) ?_
      refine Go.of (fun t k => XS.iload Xx673.here hx rfl (hb hby at_264) rfl  k) ?_
      refine Go.of (fun t k => XS.ifYes Xx673.here hx rfl (pc0 := 266) (pc' := 281) rfl (hb hby at_266) rfl ((if0 _ _).trans (teq hc55_18).1) (by decide) (by decide) k) ?_
      refine Go.of (fun t k => XS.iload Xx673.here hx rfl (hb hby at_281) rfl  k) ?_
      refine Go.of (fun t k => XS.ifYes Xx673.here hx rfl (pc0 := 283) (pc' := 299) rfl (hb hby at_283) rfl ((if0 _ _).trans (teq hc101_503).1) (by decide) (by decide) k) ?_
      refine Go.of (fun t k => XS.iconst Xx673.here hx rfl (hb hby at_299) k) ?_
      show Go p e below Qo T668 (mkF m 300 #[sJ j1, zS, sJ j2, zS, sJ j3, zS, sJ j4, zS, sJ j5, zS, sI i1, sI v4_2, sI v18_5, sI v32_8, sJ p3, zS, sR b10, sR b31, sR b485, sR b523, sI (1 : Int32), sI (1 : Int32), sR b31, zU, sI (0 : Int32), zU] [(.int (1 : Int32))])
      refine Go.of (fun t k => XS.goto Xx673.here hx rfl (pc0 := 300) (pc' := 304) rfl (hb hby at_300) (by decide) (by decide) k) ?_
      refine Go.of (fun t k => XS.istore Xx673.here hx rfl (hb hby at_304) rfl (l' := #[sJ j1, zS, sJ j2, zS, sJ j3, zS, sJ j4, zS, sJ j5, zS, sI i1, sI v4_2, sI v18_5, sI v32_8, sJ p3, zS, sR b10, sR b31, sR b485, sR b523, sI (1 : Int32), sI (1 : Int32), sR b31, zU, sI (0 : Int32), sI (1 : Int32)]) rfl k) ?_
      refine Go.of (fun t k => XS.iload Xx673.here hx rfl (hb hby at_306) rfl  k) ?_
      refine Go.of (fun t k => XS.ifYes Xx673.here hx rfl (pc0 := 308) (pc' := 316) rfl (hb hby at_308) rfl ((if0 _ _).trans (teq (by decide : (0 : Int32) = (0 : Int32))).1) (by decide) (by decide) k) ?_
      refine Go.of (fun t k => XS.iload Xx673.here hx rfl (hb hby at_316) rfl  k) ?_
      refine Go.of (fun t k => XS.ifNo Xx673.here hx rfl (hb hby at_318) rfl ((if0 _ _).trans (feq (by decide : ¬ ((1 : Int32) = (0 : Int32)))).1) k) ?_
      refine Go.of (fun t k => XS.aload Xx673.here hx rfl (hb hby at_321) rfl rfl k) ?_
      refine Go.of (fun t k => XS.goto Xx673.here hx rfl (pc0 := 323) (pc' := 328) rfl (hb hby at_323) (by decide) (by decide) k) ?_
      show Go p e below Qo T668 (mkF m 328 #[sJ j1, zS, sJ j2, zS, sJ j3, zS, sJ j4, zS, sJ j5, zS, sI i1, sI v4_2, sI v18_5, sI v32_8, sJ p3, zS, sR b10, sR b31, sR b485, sR b523, sI (1 : Int32), sI (1 : Int32), sR b31, zU, sI (0 : Int32), sI (1 : Int32)] [(.ref b31)])
      refine Go.of (fun t k => XS.astore Xx673.here hx rfl (hb hby at_328) rfl rfl (l' := #[sJ j1, zS, sJ j2, zS, sJ j3, zS, sJ j4, zS, sJ j5, zS, sI i1, sI v4_2, sI v18_5, sI v32_8, sJ p3, zS, sR b10, sR b31, sR b485, sR b523, sI (1 : Int32), sI (1 : Int32), sR b31, sR b31, sI (0 : Int32), sI (1 : Int32)]) rfl k) ?_
      refine Go.of (fun t k => XS.goto Xx673.here hx rfl (pc0 := 330) (pc' := 397) rfl (hb hby at_330) (by decide) (by decide) k) ?_
      refine Go.of (fun t k => XS.iload Xx673.here hx rfl (hb hby at_397) rfl  k) ?_
      refine Go.of (fun t k => XS.ifNo Xx673.here hx rfl (hb hby at_399) rfl ((if0 _ _).trans (feq (by decide : ¬ ((1 : Int32) = (0 : Int32)))).1) k) ?_
      refine Go.of (fun t k => XS.iload Xx673.here hx rfl (hb hby at_402) rfl  k) ?_
      refine Go.of (fun t k => XS.ifNo Xx673.here hx rfl (hb hby at_404) rfl ((if0 _ _).trans (feq (by decide : ¬ ((1 : Int32) = (0 : Int32)))).1) k) ?_
      refine Go.of (fun t k => XS.aload Xx673.here hx rfl (hb hby at_407) rfl rfl k) ?_
      refine Go.of (fun t k => XS.aload Xx673.here hx rfl (hb hby at_409) rfl rfl k) ?_
      show Go p e below Qo T668 (mkF m 411 #[sJ j1, zS, sJ j2, zS, sJ j3, zS, sJ j4, zS, sJ j5, zS, sI i1, sI v4_2, sI v18_5, sI v32_8, sJ p3, zS, sR b10, sR b31, sR b485, sR b523, sI (1 : Int32), sI (1 : Int32), sR b31, sR b31, sI (0 : Int32), sI (1 : Int32)] [(.ref b31), (.ref b31)])
      refine Go.of (fun t k => Jvm.RoadKit.acmp (g := (mkF m 411 #[sJ j1, zS, sJ j2, zS, sJ j3, zS, sJ j4, zS, sJ j5, zS, sI i1, sI v4_2, sI v18_5, sI v32_8, sJ p3, zS, sR b10, sR b31, sR b485, sR b523, sI (1 : Int32), sI (1 : Int32), sR b31, sR b31, sI (0 : Int32), sI (1 : Int32)] [(.ref b31), (.ref b31)])) Xx673 hx rfl rfl rfl (pc0 := 411) (pc' := 414) (same := true) rfl (hb hby at_411) rfl (decide_eq_true rfl) (by decide) (by decide) k) ?_
      refine Go.of (fun t k => XS.iconst Xx673.here hx rfl (hb hby at_414) k) ?_
      refine Go.of (fun t k => XS.goto Xx673.here hx rfl (pc0 := 415) (pc' := 419) rfl (hb hby at_415) (by decide) (by decide) k) ?_
      exact own_retN Xx673 hx Bd.notSynchronized (t := .boolean) Bd.returns (by simp) (hb hby at_419) (fun u hu hF => hQo _ _ _ ⟨rfl, Nx673⟩ (own_mono hF (by decide) (by decide)))
    refine Go.of (fun t k => XS.ifNo X485.here hx rfl (hb hby at_101) rfl ((if0 _ _).trans (feq hc101_503).1) k) ?_
    refine Go.of (fun t k => XS.iconst X485.here hx rfl (hb hby at_104) k) ?_
    obtain ⟨_, _, ⟨T674, L674, k674, n674⟩, -, X674, ⟨Lc674, hQ674, l674, y674, z674⟩, st674⟩ := Jvm.LawKit.callS X485 hx (y := (⟨"java/lang/Integer", "valueOf", "(I)Ljava/lang/Integer;"⟩ : MethodName)) hown (mvT hZ (wk hw 18 rfl)) (mvT hZ (wk hw 19 rfl)) (mvT hZ (wk hw 20 rfl)) (mvT hZ (wk hw 21 rfl)) (by decide) (backOf (W := 2) (rm43 l Z a0 hw [] (3 : Int32) rc h485 n0 Z500 q490 q491 q492 (hC) (rfl)) hZ (wk hw 21 rfl) (wk hw 20 rfl) (by decide) (by decide)) (g := (mkF m 105 #[sJ j1, zS, sJ j2, zS, sJ j3, zS, sJ j4, zS, sJ j5, zS, sI i1, sI v4_2, sI v18_5, sI v32_8, sJ p3, zS, sR b10, sR b31, zU, zU, zU, zU, zU, zU, zU, zU] [(.int (3 : Int32)), (.ref b485), (.ref b485)])) rfl (by rw [hml]; rfl) (argsL := [(.int (3 : Int32))]) (rest := [(.ref b485), (.ref b485)]) (lenOf pd_6 rfl) rfl (by show 2 * 0 + _ ≤ _; exact Nat.le_of_eq rfl) (hb hby at_105) (fun _ _ => ⟨rfl, e485, (by decide : 3 + 0 ≤ _), (by decide : 6 + 0 ≤ _)⟩)
    dsimp only [Pt.U, Pt.locs, Pt.cells, Pt.slots] at X674 l674 y674 z674 st674 hQ674
    subst l674 y674 z674
    replace X674 := own_cs X674 (c' := 3) (s' := 6) (by decide) (by decide)
    obtain ⟨x676, rfl, N675, Kc677, q678⟩ := hQ674
    have N679 := Fr.app Nx484 N675
    have q680 := own_staKeep q490 Kc677 all0
    have q681 := own_staKeep q491 Kc677 all0
    have q682 := q492.keep Kc677 all0
    have q683 := q493.keep Kc677
    have q684 := q494.keep Kc677 nin0
    have q685 := q495.keep Kc677 nin0
    have q686 := q496.keep Kc677
    have q687 := q497.keep Kc677
    have q688 := q498.keep Kc677 nin0
    have q689 := q499.keep Kc677 nin0
    have q690 := A485.keep Kc677
    have q691 := q501.keep Kc677 nin0
    have q692 := q502.keep Kc677 nin0
    have Z693 : n0 ≤ T674.heap.size := Nat.le_trans Z500 Kc677.1
    refine Go.of st674 ?_
    obtain ⟨Lx694, Xx694, Nx694⟩ := own_locs X674 N679
    show Go p e below Qo T674 (mkF m 108 #[sJ j1, zS, sJ j2, zS, sJ j3, zS, sJ j4, zS, sJ j5, zS, sI i1, sI v4_2, sI v18_5, sI v32_8, sJ p3, zS, sR b10, sR b31, zU, zU, zU, zU, zU, zU, zU, zU] [(.ref x676), (.ref b485), (.ref b485)])
    refine Go.of (fun t k => XS.goto Xx694.here hx rfl (pc0 := 108) (pc' := 112) rfl (hb hby at_108) (by decide) (by decide) k) ?_
    refine Go.of (fun t k => XS.aconstNull Xx694.here hx rfl (hb hby at_112) k) ?_
    obtain ⟨_, _, ⟨T695, L695, k695, n695⟩, -, X695, ⟨Lc695, hQ695, l695, y695, z695⟩, st695⟩ := Xx694.specialBack hx (y := (⟨kA, "<init>", "(Ljava/lang/Object;Ljava/util/List;)V"⟩ : MethodName)) rfl hown (mvT hZ (wk hw 3 rfl)) (mvT hZ (wk hw 4 rfl)) (mvT hZ (wk hw 5 rfl)) (by decide) (backOf (W := 1) (rm1 l Z a0 hw [] b485 (.ref x676) .null .null .null T674.heap n0 Z693 q690 q691 q692 g489 rfl rfl) hZ (wk hw 5 rfl) (wk hw 2 rfl) (by decide) (by decide)) (g := (mkF m 113 #[sJ j1, zS, sJ j2, zS, sJ j3, zS, sJ j4, zS, sJ j5, zS, sI i1, sI v4_2, sI v18_5, sI v32_8, sJ p3, zS, sR b10, sR b31, zU, zU, zU, zU, zU, zU, zU, zU] [.null, (.ref x676), (.ref b485), (.ref b485)])) rfl (by rw [hml]; rfl) (Steps.refl _) (a := b485) (argsL := [(.ref x676), .null]) (rest := [(.ref b485)]) (lenOf pd_3 rfl) rfl (by show 2 * 0 + _ ≤ _; exact Nat.le_of_eq rfl) (hb hby at_113) (fun _ _ => ⟨rfl, rfl, (by decide : 3 + 0 ≤ _), (by decide : 6 + 0 ≤ _)⟩)
    dsimp only [Pt.U, Pt.locs, Pt.cells, Pt.slots] at X695 l695 y695 z695 st695 hQ695
    subst l695 y695 z695
    replace X695 := own_cs X695 (c' := 3) (s' := 6) (by decide) (by decide)
    obtain ⟨rfl, N696, Kc697, q698, q699, q700⟩ := hQ695
    have N701 := Fr.app Nx694 N696
    have q702 := own_staKeep q680 Kc697 (allS (own_plainE q690) all0)
    have q703 := own_staKeep q681 Kc697 (allS (own_plainE q690) all0)
    have q704 := q682.keep Kc697 (allS g489 all0)
    have q705 := q683.keep Kc697
    have q706 := q684.keep Kc697 (ninS ne486 nin0)
    have q707 := q685.keep Kc697 (ninS ne486 nin0)
    have q708 := q686.keep Kc697
    have q709 := q687.keep Kc697
    have q710 := q688.keep Kc697 (ninS ne488 nin0)
    have q711 := q689.keep Kc697 (ninS ne488 nin0)
    have q712 := q678.keep Kc697
    have Z713 : n0 ≤ T695.heap.size := Nat.le_trans Z693 Kc697.1
    refine Go.via st695 ?_
    obtain ⟨Lx714, Xx714, Nx714⟩ := own_locs X695 N701
    show Go p e below Qo T695 (mkF m 116 #[sJ j1, zS, sJ j2, zS, sJ j3, zS, sJ j4, zS, sJ j5, zS, sI i1, sI v4_2, sI v18_5, sI v32_8, sJ p3, zS, sR b10, sR b31, zU, zU, zU, zU, zU, zU, zU, zU] [(.ref b485)])
    refine Go.of (fun t k => XS.astore Xx714.here hx rfl (hb hby at_116) rfl rfl (l' := #[sJ j1, zS, sJ j2, zS, sJ j3, zS, sJ j4, zS, sJ j5, zS, sI i1, sI v4_2, sI v18_5, sI v32_8, sJ p3, zS, sR b10, sR b31, sR b485, zU, zU, zU, zU, zU, zU, zU]) rfl k) ?_
    show Go p e below Qo T695 (mkF m 118 #[sJ j1, zS, sJ j2, zS, sJ j3, zS, sJ j4, zS, sJ j5, zS, sI i1, sI v4_2, sI v18_5, sI v32_8, sJ p3, zS, sR b10, sR b31, sR b485, zU, zU, zU, zU, zU, zU, zU] [])
    obtain ⟨T715, h715, X715, e715, E715, A715, D715, Um715, st715⟩ := newO Xx714 hx hZ hown (wk hw 25 rfl) (wk hw 26 rfl) (wk hw 27 rfl) rfl (g := (mkF m 118 #[sJ j1, zS, sJ j2, zS, sJ j3, zS, sJ j4, zS, sJ j5, zS, sI i1, sI v4_2, sI v18_5, sI v32_8, sJ p3, zS, sR b10, sR b31, sR b485, zU, zU, zU, zU, zU, zU, zU] [])) rfl (hb hby at_118) (by decide) (by decide)
    obtain ⟨b715, g715⟩ : ∃ z, z = T695.heap.size := ⟨_, rfl⟩
    rw [← g715] at A715 D715 Um715 st715
    have ne716 : b10 ≠ b715 := Nat.ne_of_lt (Nat.lt_of_lt_of_le q705.lt (Nat.le_of_eq g715.symm))
    have ne717 : x454 ≠ b715 := Nat.ne_of_lt (Nat.lt_of_lt_of_le q708.lt (Nat.le_of_eq g715.symm))
    have ne718 : b31 ≠ b715 := Nat.ne_of_lt (Nat.lt_of_lt_of_le q709.lt (Nat.le_of_eq g715.symm))
    have ne719 : x676 ≠ b715 := Nat.ne_of_lt (Nat.lt_of_lt_of_le q712.lt (Nat.le_of_eq g715.symm))
    have ne720 : b485 ≠ b715 := Nat.ne_of_lt (Nat.lt_of_lt_of_le q698.lt (Nat.le_of_eq g715.symm))
    have g721 : n0 ≤ b715 := Nat.le_trans Z713 (Nat.le_of_eq g715.symm)
    have q722 := q702.ext E715
    have q723 := q703.ext E715
    have q724 := q704.ext E715
    have q725 := q705.ext E715
    have q726 := q706.ext E715
    have q727 := q707.ext E715
    have q728 := q708.ext E715
    have q729 := q709.ext E715
    have q730 := q710.ext E715
    have q731 := q711.ext E715
    have q732 := q712.ext E715
    have q733 := q698.ext E715
    have q734 := q699.ext E715
    have q735 := q700.ext E715
    have Z736 : n0 ≤ h715.size := Nat.le_trans Z713 E715.1
    replace X715 := own_cs X715 (c' := 4) (s' := 15) (by decide) (by decide)
    have q737 : own_mon h715 b715 := by obtain ⟨cl, u1, -, u3⟩ := Um715; exact ⟨cl, u1, u3⟩
    have q738 : Fld Z h715 b715 kT "best" kD .null := D715 (Or.inl (wk hw 38 rfl)) (ty := (.object kA)) (by decide)
    have q739 : Fld Z h715 b715 kT "first" kD .null := D715 (Or.inl (wk hw 40 rfl)) (ty := (.object kA)) (by decide)
    have q740 : Fld Z h715 b715 kT "firstSeed" "J" (.long (0 : Int64)) := D715 (Or.inl (wk hw 47 rfl)) (ty := .long) (by decide)
    have q741 : Fld Z h715 b715 kT "bestSeed" "J" (.long (0 : Int64)) := D715 (Or.inl (wk hw 54 rfl)) (ty := .long) (by decide)
    have q742 : Fld Z h715 b715 kT "bestPenalty" "J" (.long (0 : Int64)) := D715 (Or.inl (wk hw 56 rfl)) (ty := .long) (by decide)
    have q743 : Fld Z h715 b715 kT "worstPenalty" "J" (.long (0 : Int64)) := D715 (Or.inl (wk hw 58 rfl)) (ty := .long) (by decide)
    have q744 : Fld Z h715 b715 kT "penaltySum" "J" (.long (0 : Int64)) := D715 (Or.inl (wk hw 64 rfl)) (ty := .long) (by decide)
    have q745 : Fld Z h715 b715 kT "feasibleRuns" "I" (.int (0 : Int32)) := D715 (Or.inl (wk hw 66 rfl)) (ty := .int) (by decide)
    refine Go.of st715 ?_
    show Go p e below Qo T715 (mkF m 121 #[sJ j1, zS, sJ j2, zS, sJ j3, zS, sJ j4, zS, sJ j5, zS, sI i1, sI v4_2, sI v18_5, sI v32_8, sJ p3, zS, sR b10, sR b31, sR b485, zU, zU, zU, zU, zU, zU, zU] [(.ref b715)])
    refine Go.of (fun t k => XS.dup X715.here hx rfl (hb hby at_121) rfl rfl k) ?_
    obtain ⟨_, _, ⟨T746, L746, k746, n746⟩, -, X746, ⟨Lc746, hQ746, l746, y746, z746⟩, st746⟩ := X715.specialBack hx (y := (⟨kT, "<init>", "()V"⟩ : MethodName)) rfl hown (mvT hZ (wk hw 28 rfl)) (mvT hZ (wk hw 29 rfl)) (mvT hZ (wk hw 30 rfl)) (by decide) (backOf (W := 1) (rm5 l Z a0 hw [] b715 h715 n0 Z736 ) hZ (wk hw 30 rfl) (wk hw 27 rfl) (by decide) (by decide)) (g := (mkF m 122 #[sJ j1, zS, sJ j2, zS, sJ j3, zS, sJ j4, zS, sJ j5, zS, sI i1, sI v4_2, sI v18_5, sI v32_8, sJ p3, zS, sR b10, sR b31, sR b485, zU, zU, zU, zU, zU, zU, zU] [(.ref b715), (.ref b715)])) rfl (by rw [hml]; rfl) (Steps.refl _) (a := b715) (argsL := []) (rest := [(.ref b715)]) (lenOf pd_0 rfl) rfl (by show 2 * 0 + _ ≤ _; exact Nat.le_of_eq rfl) (hb hby at_122) (fun _ _ => ⟨rfl, e715, (by decide : 4 + 0 ≤ _), (by decide : 15 + 0 ≤ _)⟩)
    dsimp only [Pt.U, Pt.locs, Pt.cells, Pt.slots] at X746 l746 y746 z746 st746 hQ746
    subst l746 y746 z746
    replace X746 := own_cs X746 (c' := 4) (s' := 15) (by decide) (by decide)
    obtain ⟨rfl, N747, eh748⟩ := hQ746
    have N749 := Fr.app Nx714 N747
    refine Go.via st746 ?_
    obtain ⟨Lx750, Xx750, Nx750⟩ := own_locs X746 N749
    show Go p e below Qo T746 (mkF m 125 #[sJ j1, zS, sJ j2, zS, sJ j3, zS, sJ j4, zS, sJ j5, zS, sI i1, sI v4_2, sI v18_5, sI v32_8, sJ p3, zS, sR b10, sR b31, sR b485, zU, zU, zU, zU, zU, zU, zU] [(.ref b715)])
    refine Go.of (fun t k => XS.astore Xx750.here hx rfl (hb hby at_125) rfl rfl (l' := #[sJ j1, zS, sJ j2, zS, sJ j3, zS, sJ j4, zS, sJ j5, zS, sI i1, sI v4_2, sI v18_5, sI v32_8, sJ p3, zS, sR b10, sR b31, sR b485, sR b715, zU, zU, zU, zU, zU, zU]) rfl k) ?_
    refine Go.of (fun t k => XS.aload Xx750.here hx rfl (hb hby at_127) rfl rfl k) ?_
    obtain ⟨ciq752, kiq752, iq752a, iq752b, iq752c⟩ := isOf hZ eh748 A715
    obtain ⟨_, _, ⟨T751, L751, k751, n751⟩, -, X751, ⟨Lc751, hQ751, l751, y751, z751⟩, st751⟩ := Xx750.virtualBack hx (y := (⟨kT, "reported", "()Lcom/example/examwright/examwright/Method$Attempt;"⟩ : MethodName)) (z := (⟨kT, "reported", "()Lcom/example/examwright/examwright/Method$Attempt;"⟩ : MethodName)) hown (mvT hZ (wk hw 32 rfl)) (mvT hZ (wk hw 33 rfl)) (notFace_of_selects (args := #[]) (mvT hZ (wk hw 35 rfl))) (mvT hZ (wk hw 35 rfl)) (mvT hZ (wk hw 34 rfl)) (by decide) (backOf (W := 0) (rm61 l Z a0 hw [] b715 h715 n0 Z736 q738 q739) hZ (wk hw 36 rfl) (wk hw 27 rfl) (by decide) (by decide)) iq752a iq752c (g := (mkF m 129 #[sJ j1, zS, sJ j2, zS, sJ j3, zS, sJ j4, zS, sJ j5, zS, sI i1, sI v4_2, sI v18_5, sI v32_8, sJ p3, zS, sR b10, sR b31, sR b485, sR b715, zU, zU, zU, zU, zU, zU] [(.ref b715)])) rfl (by rw [hml]; rfl) (Steps.refl _) (argsL := []) (rest := []) (lenOf pd_4 rfl) rfl (by show 2 * 0 + _ ≤ _; exact Nat.le_of_eq rfl) (hb hby at_129) (fun _ _ => ⟨rfl, eh748, (by decide : 4 + 0 ≤ _), (by decide : 15 + 0 ≤ _)⟩)
    dsimp only [Pt.U, Pt.locs, Pt.cells, Pt.slots] at X751 l751 y751 z751 st751 hQ751
    subst l751 y751 z751
    replace X751 := own_cs X751 (c' := 4) (s' := 15) (by decide) (by decide)
    obtain ⟨rfl, N753, eh754⟩ := hQ751
    have N755 := Fr.app Nx750 N753
    refine Go.via st751 ?_
    obtain ⟨Lx756, Xx756, Nx756⟩ := own_locs X751 N755
    show Go p e below Qo T751 (mkF m 132 #[sJ j1, zS, sJ j2, zS, sJ j3, zS, sJ j4, zS, sJ j5, zS, sI i1, sI v4_2, sI v18_5, sI v32_8, sJ p3, zS, sR b10, sR b31, sR b485, sR b715, zU, zU, zU, zU, zU, zU] [.null])
    refine Go.of (fun t k => XS.ifnonnullNo Xx756.here hx rfl (hb hby at_132) rfl k) ?_
    refine Go.of (fun t k => XS.iconst Xx756.here hx rfl (hb hby at_135) k) ?_
    refine Go.of (fun t k => XS.goto Xx756.here hx rfl (pc0 := 136) (pc' := 140) rfl (hb hby at_136) (by decide) (by decide) k) ?_
    refine Go.of (fun t k => XS.istore Xx756.here hx rfl (hb hby at_140) rfl (l' := #[sJ j1, zS, sJ j2, zS, sJ j3, zS, sJ j4, zS, sJ j5, zS, sI i1, sI v4_2, sI v18_5, sI v32_8, sJ p3, zS, sR b10, sR b31, sR b485, sR b715, sI (1 : Int32), zU, zU, zU, zU, zU]) rfl k) ?_
    refine Go.of (fun t k => XS.aload Xx756.here hx rfl (hb hby at_142) rfl rfl k) ?_
    show Go p e below Qo T751 (mkF m 144 #[sJ j1, zS, sJ j2, zS, sJ j3, zS, sJ j4, zS, sJ j5, zS, sI i1, sI v4_2, sI v18_5, sI v32_8, sJ p3, zS, sR b10, sR b31, sR b485, sR b715, sI (1 : Int32), zU, zU, zU, zU, zU] [(.ref b715)])
    refine Go.of (fun t k => XS.lloadN Xx756.here hx rfl (hb hby at_144) rfl  k) ?_
    refine Go.of (fun t k => XS.aload Xx756.here hx rfl (hb hby at_145) rfl rfl k) ?_
    refine Go.of (fun t k => XS.lload Xx756.here hx rfl (hb hby at_147) rfl  k) ?_
    obtain ⟨ciq758, kiq758, iq758a, iq758b, iq758c⟩ := isOf hZ eh754 A715
    obtain ⟨_, _, ⟨T757, L757, k757, n757⟩, -, X757, ⟨Lc757, hQ757, l757, y757, z757⟩, st757⟩ := Xx756.virtualBack hx (y := (⟨kT, "add", "(JLcom/example/examwright/examwright/Method$Attempt;J)V"⟩ : MethodName)) (z := (⟨kT, "add", "(JLcom/example/examwright/examwright/Method$Attempt;J)V"⟩ : MethodName)) hown (mvT hZ (wk hw 41 rfl)) (mvT hZ (wk hw 42 rfl)) (notFace_of_selects (args := #[]) (mvT hZ (wk hw 44 rfl))) (mvT hZ (wk hw 44 rfl)) (mvT hZ (wk hw 43 rfl)) (by decide) (own_backS (W := 0) (a := b715) (rm70 l Z a0 hw b715 j1 b10 j4 (0 : Int64) (0 : Int64) (0 : Int64) (0 : Int64) (0 : Int64) (0 : Int32) h715 n0 Z736 A715 q737 q739 q740 q738 q741 q742 q743 q744 q745 q725 q726 g721 ne716) hZ (wk hw 45 rfl) (wk hw 43 rfl) (wk hw 27 rfl) q737 (by decide) (by decide)) iq758a iq758c (g := (mkF m 149 #[sJ j1, zS, sJ j2, zS, sJ j3, zS, sJ j4, zS, sJ j5, zS, sI i1, sI v4_2, sI v18_5, sI v32_8, sJ p3, zS, sR b10, sR b31, sR b485, sR b715, sI (1 : Int32), zU, zU, zU, zU, zU] [(.long j4), (.ref b10), (.long j1), (.ref b715)])) rfl (by rw [hml]; rfl) (Steps.refl _) (argsL := [(.long j1), (.ref b10), (.long j4)]) (rest := []) (lenOf pd_5 rfl) rfl (by show 2 * 0 + _ ≤ _; exact Nat.le_of_eq rfl) (hb hby at_149) (fun _ _ => ⟨rfl, eh754, (by decide : 4 + 0 ≤ _), (by decide : 15 + 0 ≤ _)⟩)
    dsimp only [Pt.U, Pt.locs, Pt.cells, Pt.slots] at X757 l757 y757 z757 st757 hQ757
    subst l757 y757 z757
    replace X757 := own_cs X757 (c' := 4) (s' := 15) (by decide) (by decide)
    obtain ⟨x760, x761, x762, rfl, N759, Kc763, q764, q765, q766, q767, q768, q769, q770, q771, q772, q773⟩ := hQ757
    have N774 := Fr.app Nx756 N759
    have q775 := own_staKeep q722 Kc763 (allS (own_plainE A715) all0)
    have q776 := own_staKeep q723 Kc763 (allS (own_plainE A715) all0)
    have q777 := q724.keep Kc763 (allS g721 all0)
    have q778 := q725.keep Kc763
    have q779 := q726.keep Kc763 (ninS ne716 nin0)
    have q780 := q727.keep Kc763 (ninS ne716 nin0)
    have q781 := q728.keep Kc763
    have q782 := q729.keep Kc763
    have q783 := q730.keep Kc763 (ninS ne718 nin0)
    have q784 := q731.keep Kc763 (ninS ne718 nin0)
    have q785 := q732.keep Kc763
    have q786 := q733.keep Kc763
    have q787 := q734.keep Kc763 (ninS ne720 nin0)
    have q788 := q735.keep Kc763 (ninS ne720 nin0)
    have Z789 : n0 ≤ T757.heap.size := Nat.le_trans Z736 Kc763.1
    refine Go.via st757 ?_
    obtain ⟨Lx790, Xx790, Nx790⟩ := own_locs X757 N774
    show Go p e below Qo T757 (mkF m 152 #[sJ j1, zS, sJ j2, zS, sJ j3, zS, sJ j4, zS, sJ j5, zS, sI i1, sI v4_2, sI v18_5, sI v32_8, sJ p3, zS, sR b10, sR b31, sR b485, sR b715, sI (1 : Int32), zU, zU, zU, zU, zU] [])
    refine Go.of (fun t k => XS.aload Xx790.here hx rfl (hb hby at_152) rfl rfl k) ?_
    obtain ⟨ciq792, kiq792, iq792a, iq792b, iq792c⟩ := isOf hZ rfl q764
    obtain ⟨_, _, ⟨T791, L791, k791, n791⟩, -, X791, ⟨Lc791, hQ791, l791, y791, z791⟩, st791⟩ := Xx790.virtualBack hx (y := (⟨kT, "reported", "()Lcom/example/examwright/examwright/Method$Attempt;"⟩ : MethodName)) (z := (⟨kT, "reported", "()Lcom/example/examwright/examwright/Method$Attempt;"⟩ : MethodName)) hown (mvT hZ (wk hw 32 rfl)) (mvT hZ (wk hw 33 rfl)) (notFace_of_selects (args := #[]) (mvT hZ (wk hw 35 rfl))) (mvT hZ (wk hw 35 rfl)) (mvT hZ (wk hw 34 rfl)) (by decide) (backOf (W := 0) (rm62 l Z a0 hw [] b715 b10 T757.heap n0 Z789 q768 q766) hZ (wk hw 36 rfl) (wk hw 27 rfl) (by decide) (by decide)) iq792a iq792c (g := (mkF m 154 #[sJ j1, zS, sJ j2, zS, sJ j3, zS, sJ j4, zS, sJ j5, zS, sI i1, sI v4_2, sI v18_5, sI v32_8, sJ p3, zS, sR b10, sR b31, sR b485, sR b715, sI (1 : Int32), zU, zU, zU, zU, zU] [(.ref b715)])) rfl (by rw [hml]; rfl) (Steps.refl _) (argsL := []) (rest := []) (lenOf pd_4 rfl) rfl (by show 2 * 0 + _ ≤ _; exact Nat.le_of_eq rfl) (hb hby at_154) (fun _ _ => ⟨rfl, rfl, (by decide : 4 + 0 ≤ _), (by decide : 15 + 0 ≤ _)⟩)
    dsimp only [Pt.U, Pt.locs, Pt.cells, Pt.slots] at X791 l791 y791 z791 st791 hQ791
    subst l791 y791 z791
    replace X791 := own_cs X791 (c' := 4) (s' := 15) (by decide) (by decide)
    obtain ⟨rfl, N793, eh794⟩ := hQ791
    have N795 := Fr.app Nx790 N793
    refine Go.via st791 ?_
    obtain ⟨Lx796, Xx796, Nx796⟩ := own_locs X791 N795
    show Go p e below Qo T791 (mkF m 157 #[sJ j1, zS, sJ j2, zS, sJ j3, zS, sJ j4, zS, sJ j5, zS, sI i1, sI v4_2, sI v18_5, sI v32_8, sJ p3, zS, sR b10, sR b31, sR b485, sR b715, sI (1 : Int32), zU, zU, zU, zU, zU] [(.ref b10)])
    refine Go.of (fun t k => XS.aload Xx796.here hx rfl (hb hby at_157) rfl rfl k) ?_
    refine Go.of (fun t k => Jvm.RoadKit.acmp (g := (mkF m 159 #[sJ j1, zS, sJ j2, zS, sJ j3, zS, sJ j4, zS, sJ j5, zS, sI i1, sI v4_2, sI v18_5, sI v32_8, sJ p3, zS, sR b10, sR b31, sR b485, sR b715, sI (1 : Int32), zU, zU, zU, zU, zU] [(.ref b10), (.ref b10)])) Xx796 hx rfl rfl rfl (pc0 := 159) (pc' := 162) (same := true) rfl (hb hby at_159) rfl (decide_eq_true rfl) (by decide) (by decide) k) ?_
    refine Go.of (fun t k => XS.iconst Xx796.here hx rfl (hb hby at_162) k) ?_
    refine Go.of (fun t k => XS.goto Xx796.here hx rfl (pc0 := 163) (pc' := 167) rfl (hb hby at_163) (by decide) (by decide) k) ?_
    show Go p e below Qo T791 (mkF m 167 #[sJ j1, zS, sJ j2, zS, sJ j3, zS, sJ j4, zS, sJ j5, zS, sI i1, sI v4_2, sI v18_5, sI v32_8, sJ p3, zS, sR b10, sR b31, sR b485, sR b715, sI (1 : Int32), zU, zU, zU, zU, zU] [(.int (1 : Int32))])
    refine Go.of (fun t k => XS.istore Xx796.here hx rfl (hb hby at_167) rfl (l' := #[sJ j1, zS, sJ j2, zS, sJ j3, zS, sJ j4, zS, sJ j5, zS, sI i1, sI v4_2, sI v18_5, sI v32_8, sJ p3, zS, sR b10, sR b31, sR b485, sR b715, sI (1 : Int32), sI (1 : Int32), zU, zU, zU, zU]) rfl k) ?_
    refine Go.of (fun t k => XS.aload Xx796.here hx rfl (hb hby at_169) rfl rfl k) ?_
    refine Go.of (fun t k => XS.lloadN Xx796.here hx rfl (hb hby at_171) rfl  k) ?_
    refine Go.of (fun t k => XS.aload Xx796.here hx rfl (hb hby at_172) rfl rfl k) ?_
    refine Go.of (fun t k => XS.lload Xx796.here hx rfl (hb hby at_174) rfl  k) ?_
    obtain ⟨ciq798, kiq798, iq798a, iq798b, iq798c⟩ := isOf hZ eh794 q764
    obtain ⟨_, _, ⟨T797, L797, k797, n797⟩, -, X797, ⟨Lc797, hQ797, l797, y797, z797⟩, st797⟩ := Xx796.virtualBack hx (y := (⟨kT, "add", "(JLcom/example/examwright/examwright/Method$Attempt;J)V"⟩ : MethodName)) (z := (⟨kT, "add", "(JLcom/example/examwright/examwright/Method$Attempt;J)V"⟩ : MethodName)) hown (mvT hZ (wk hw 41 rfl)) (mvT hZ (wk hw 42 rfl)) (notFace_of_selects (args := #[]) (mvT hZ (wk hw 44 rfl))) (mvT hZ (wk hw 44 rfl)) (mvT hZ (wk hw 43 rfl)) (by decide) (own_backS (W := 0) (a := b715) (rm75 l Z a0 hw b715 j2 b31 j5 b10 j1 (0 : Int64) (0 : Int64) x760 x761 x762 x454 T757.heap n0 Z789 q764 q765 q766 q767 q768 q769 q770 q771 q772 q773 q782 q783 g721 ne718) hZ (wk hw 45 rfl) (wk hw 43 rfl) (wk hw 27 rfl) q765 (by decide) (by decide)) iq798a iq798c (g := (mkF m 176 #[sJ j1, zS, sJ j2, zS, sJ j3, zS, sJ j4, zS, sJ j5, zS, sI i1, sI v4_2, sI v18_5, sI v32_8, sJ p3, zS, sR b10, sR b31, sR b485, sR b715, sI (1 : Int32), sI (1 : Int32), zU, zU, zU, zU] [(.long j5), (.ref b31), (.long j2), (.ref b715)])) rfl (by rw [hml]; rfl) (Steps.refl _) (argsL := [(.long j2), (.ref b31), (.long j5)]) (rest := []) (lenOf pd_5 rfl) rfl (by show 2 * 0 + _ ≤ _; exact Nat.le_of_eq rfl) (hb hby at_176) (fun _ _ => ⟨rfl, eh794, (by decide : 4 + 0 ≤ _), (by decide : 15 + 0 ≤ _)⟩)
    dsimp only [Pt.U, Pt.locs, Pt.cells, Pt.slots] at X797 l797 y797 z797 st797 hQ797
    subst l797 y797 z797
    replace X797 := own_cs X797 (c' := 4) (s' := 15) (by decide) (by decide)
    obtain ⟨x800, x801, x802, rfl, N799, Kc803, q804, q805, q806, q807, q808, q809, q810, q811, q812, q813⟩ := hQ797
    have N814 := Fr.app Nx796 N799
    have q815 := own_staKeep q775 Kc803 (allS (own_plainE q764) all0)
    have q816 := own_staKeep q776 Kc803 (allS (own_plainE q764) all0)
    have q817 := q777.keep Kc803 (allS g721 all0)
    have q818 := q778.keep Kc803
    have q819 := q779.keep Kc803 (ninS ne716 nin0)
    have q820 := q780.keep Kc803 (ninS ne716 nin0)
    have q821 := q781.keep Kc803
    have q822 := q782.keep Kc803
    have q823 := q783.keep Kc803 (ninS ne718 nin0)
    have q824 := q784.keep Kc803 (ninS ne718 nin0)
    have q825 := q785.keep Kc803
    have q826 := q786.keep Kc803
    have q827 := q787.keep Kc803 (ninS ne720 nin0)
    have q828 := q788.keep Kc803 (ninS ne720 nin0)
    have Z829 : n0 ≤ T797.heap.size := Nat.le_trans Z789 Kc803.1
    refine Go.via st797 ?_
    obtain ⟨Lx830, Xx830, Nx830⟩ := own_locs X797 N814
    show Go p e below Qo T797 (mkF m 179 #[sJ j1, zS, sJ j2, zS, sJ j3, zS, sJ j4, zS, sJ j5, zS, sI i1, sI v4_2, sI v18_5, sI v32_8, sJ p3, zS, sR b10, sR b31, sR b485, sR b715, sI (1 : Int32), sI (1 : Int32), zU, zU, zU, zU] [])
    refine Go.of (fun t k => XS.aload Xx830.here hx rfl (hb hby at_179) rfl rfl k) ?_
    refine Go.of (fun t k => XS.lload Xx830.here hx rfl (hb hby at_181) rfl  k) ?_
    refine Go.of (fun t k => XS.aload Xx830.here hx rfl (hb hby at_183) rfl rfl k) ?_
    show Go p e below Qo T797 (mkF m 185 #[sJ j1, zS, sJ j2, zS, sJ j3, zS, sJ j4, zS, sJ j5, zS, sI i1, sI v4_2, sI v18_5, sI v32_8, sJ p3, zS, sR b10, sR b31, sR b485, sR b715, sI (1 : Int32), sI (1 : Int32), zU, zU, zU, zU] [(.ref b485), (.long j3), (.ref b715)])
    refine Go.of (fun t k => XS.lload Xx830.here hx rfl (hb hby at_185) rfl  k) ?_
    obtain ⟨ciq832, kiq832, iq832a, iq832b, iq832c⟩ := isOf hZ rfl q804
    obtain ⟨_, _, ⟨T831, L831, k831, n831⟩, -, X831, ⟨Lc831, hQ831, l831, y831, z831⟩, st831⟩ := Xx830.virtualBack hx (y := (⟨kT, "add", "(JLcom/example/examwright/examwright/Method$Attempt;J)V"⟩ : MethodName)) (z := (⟨kT, "add", "(JLcom/example/examwright/examwright/Method$Attempt;J)V"⟩ : MethodName)) hown (mvT hZ (wk hw 41 rfl)) (mvT hZ (wk hw 42 rfl)) (notFace_of_selects (args := #[]) (mvT hZ (wk hw 44 rfl))) (mvT hZ (wk hw 44 rfl)) (mvT hZ (wk hw 43 rfl)) (by decide) (own_backS (W := 0) (a := b715) (rm77 l Z a0 hw b715 j3 b485 p3 (if j2 < j1 then b31 else b10) (if j2 < j1 then j2 else j1) b31 j2 j5 x800 x801 x802 x676 T797.heap n0 Z829 q804 q805 q806 q807 q808 q809 q810 q811 q812 q813 q826 q827 g721 ne720) hZ (wk hw 45 rfl) (wk hw 43 rfl) (wk hw 27 rfl) q805 (by decide) (by decide)) iq832a iq832c (g := (mkF m 187 #[sJ j1, zS, sJ j2, zS, sJ j3, zS, sJ j4, zS, sJ j5, zS, sI i1, sI v4_2, sI v18_5, sI v32_8, sJ p3, zS, sR b10, sR b31, sR b485, sR b715, sI (1 : Int32), sI (1 : Int32), zU, zU, zU, zU] [(.long p3), (.ref b485), (.long j3), (.ref b715)])) rfl (by rw [hml]; rfl) (Steps.refl _) (argsL := [(.long j3), (.ref b485), (.long p3)]) (rest := []) (lenOf pd_5 rfl) rfl (by show 2 * 0 + _ ≤ _; exact Nat.le_of_eq rfl) (hb hby at_187) (fun _ _ => ⟨rfl, rfl, (by decide : 4 + 0 ≤ _), (by decide : 15 + 0 ≤ _)⟩)
    dsimp only [Pt.U, Pt.locs, Pt.cells, Pt.slots] at X831 l831 y831 z831 st831 hQ831
    subst l831 y831 z831
    replace X831 := own_cs X831 (c' := 4) (s' := 15) (by decide) (by decide)
    obtain ⟨x834, x835, x836, rfl, N833, Kc837, q838, q839, q840, q841, q842, q843, q844, q845, q846, q847⟩ := hQ831
    have N848 := Fr.app Nx830 N833
    have q849 := own_staKeep q815 Kc837 (allS (own_plainE q804) all0)
    have q850 := own_staKeep q816 Kc837 (allS (own_plainE q804) all0)
    have q851 := q817.keep Kc837 (allS g721 all0)
    have q852 := q818.keep Kc837
    have q853 := q819.keep Kc837 (ninS ne716 nin0)
    have q854 := q820.keep Kc837 (ninS ne716 nin0)
    have q855 := q821.keep Kc837
    have q856 := q822.keep Kc837
    have q857 := q823.keep Kc837 (ninS ne718 nin0)
    have q858 := q824.keep Kc837 (ninS ne718 nin0)
    have q859 := q825.keep Kc837
    have q860 := q826.keep Kc837
    have q861 := q827.keep Kc837 (ninS ne720 nin0)
    have q862 := q828.keep Kc837 (ninS ne720 nin0)
    have Z863 : n0 ≤ T831.heap.size := Nat.le_trans Z829 Kc837.1
    refine Go.via st831 ?_
    obtain ⟨Lx864, Xx864, Nx864⟩ := own_locs X831 N848
    show Go p e below Qo T831 (mkF m 190 #[sJ j1, zS, sJ j2, zS, sJ j3, zS, sJ j4, zS, sJ j5, zS, sI i1, sI v4_2, sI v18_5, sI v32_8, sJ p3, zS, sR b10, sR b31, sR b485, sR b715, sI (1 : Int32), sI (1 : Int32), zU, zU, zU, zU] [])
    refine Go.of (fun t k => XS.aload Xx864.here hx rfl (hb hby at_190) rfl rfl k) ?_
    obtain ⟨ciq866, kiq866, iq866a, iq866b, iq866c⟩ := isOf hZ rfl q838
    obtain ⟨_, _, ⟨T865, L865, k865, n865⟩, -, X865, ⟨Lc865, hQ865, l865, y865, z865⟩, st865⟩ := Xx864.virtualBack hx (y := (⟨kT, "reported", "()Lcom/example/examwright/examwright/Method$Attempt;"⟩ : MethodName)) (z := (⟨kT, "reported", "()Lcom/example/examwright/examwright/Method$Attempt;"⟩ : MethodName)) hown (mvT hZ (wk hw 32 rfl)) (mvT hZ (wk hw 33 rfl)) (notFace_of_selects (args := #[]) (mvT hZ (wk hw 35 rfl))) (mvT hZ (wk hw 35 rfl)) (mvT hZ (wk hw 34 rfl)) (by decide) (backOf (W := 0) (rm63 l Z a0 hw [] b715 (if (p3 < j5 ∨ (p3 = j5 ∧ j3 < j2)) then b485 else b31) T831.heap n0 Z863 q842) hZ (wk hw 36 rfl) (wk hw 27 rfl) (by decide) (by decide)) iq866a iq866c (g := (mkF m 192 #[sJ j1, zS, sJ j2, zS, sJ j3, zS, sJ j4, zS, sJ j5, zS, sI i1, sI v4_2, sI v18_5, sI v32_8, sJ p3, zS, sR b10, sR b31, sR b485, sR b715, sI (1 : Int32), sI (1 : Int32), zU, zU, zU, zU] [(.ref b715)])) rfl (by rw [hml]; rfl) (Steps.refl _) (argsL := []) (rest := []) (lenOf pd_4 rfl) rfl (by show 2 * 0 + _ ≤ _; exact Nat.le_of_eq rfl) (hb hby at_192) (fun _ _ => ⟨rfl, rfl, (by decide : 4 + 0 ≤ _), (by decide : 15 + 0 ≤ _)⟩)
    dsimp only [Pt.U, Pt.locs, Pt.cells, Pt.slots] at X865 l865 y865 z865 st865 hQ865
    subst l865 y865 z865
    replace X865 := own_cs X865 (c' := 4) (s' := 15) (by decide) (by decide)
    obtain ⟨rfl, N867, eh868⟩ := hQ865
    have N869 := Fr.app Nx864 N867
    refine Go.via st865 ?_
    obtain ⟨Lx870, Xx870, Nx870⟩ := own_locs X865 N869
    show Go p e below Qo T865 (mkF m 195 #[sJ j1, zS, sJ j2, zS, sJ j3, zS, sJ j4, zS, sJ j5, zS, sI i1, sI v4_2, sI v18_5, sI v32_8, sJ p3, zS, sR b10, sR b31, sR b485, sR b715, sI (1 : Int32), sI (1 : Int32), zU, zU, zU, zU] [(.ref (if (p3 < j5 ∨ (p3 = j5 ∧ j3 < j2)) then b485 else b31))])
    refine Go.of (fun t k => XS.astore Xx870.here hx rfl (hb hby at_195) rfl rfl (l' := #[sJ j1, zS, sJ j2, zS, sJ j3, zS, sJ j4, zS, sJ j5, zS, sI i1, sI v4_2, sI v18_5, sI v32_8, sJ p3, zS, sR b10, sR b31, sR b485, sR b715, sI (1 : Int32), sI (1 : Int32), sR (if (p3 < j5 ∨ (p3 = j5 ∧ j3 < j2)) then b485 else b31), zU, zU, zU]) rfl k) ?_
    refine Go.of (fun t k => XS.iload Xx870.here hx rfl (hb hby at_197) rfl  k) ?_
    refine Go.of (fun t k => XS.ifNo Xx870.here hx rfl (hb hby at_199) rfl ((if0 _ _).trans (teq hc55_18).2) k) ?_
    refine Go.of (fun t k => XS.iload Xx870.here hx rfl (hb hby at_202) rfl  k) ?_
    refine Go.of (fun t k => XS.ifYes Xx870.here hx rfl (pc0 := 204) (pc' := 212) rfl (hb hby at_204) rfl ((if0 _ _).trans (feq hc78_43).2) (by decide) (by decide) k) ?_
    refine Go.of (fun t k => XS.iload Xx870.here hx rfl (hb hby at_212) rfl  k) ?_
    show Go p e below Qo T865 (mkF m 214 #[sJ j1, zS, sJ j2, zS, sJ j3, zS, sJ j4, zS, sJ j5, zS, sI i1, sI v4_2, sI v18_5, sI v32_8, sJ p3, zS, sR b10, sR b31, sR b485, sR b715, sI (1 : Int32), sI (1 : Int32), sR (if (p3 < j5 ∨ (p3 = j5 ∧ j3 < j2)) then b485 else b31), zU, zU, zU] [(.int v4_2)])
    refine Go.of (fun t k => XS.ifYes Xx870.here hx rfl (pc0 := 214) (pc' := 256) rfl (hb hby at_214) rfl ((if0 _ _).trans (teq hc55_18).1) (by decide) (by decide) k) ?_
    refine Go.of (fun t k => XS.iconst Xx870.here hx rfl (hb hby at_256) k) ?_
    refine Go.of (fun t k => XS.istore Xx870.here hx rfl (hb hby at_257) rfl (l' := #[sJ j1, zS, sJ j2, zS, sJ j3, zS, sJ j4, zS, sJ j5, zS, sI i1, sI v4_2, sI v18_5, sI v32_8, sJ p3, zS, sR b10, sR b31, sR b485, sR b715, sI (1 : Int32), sI (1 : Int32), sR (if (p3 < j5 ∨ (p3 = j5 ∧ j3 < j2)) then b485 else b31), zU, sI (0 : Int32), zU]) rfl k) ?_
    refine Go.of (fun t k => XS.iload Xx870.here hx rfl (hb hby at_259) rfl  k) ?_
    refine Go.of (fun t k => XS.ifNo Xx870.here hx rfl (hb hby at_261) rfl ((if0 _ _).trans (feq hc78_43).1) k) ?_
    refine Go.of (fun t k => XS.iload Xx870.here hx rfl (hb hby at_264) rfl  k) ?_
    refine Go.of (fun t k => XS.ifYes Xx870.here hx rfl (pc0 := 266) (pc' := 281) rfl (hb hby at_266) rfl ((if0 _ _).trans (teq hc55_18).1) (by decide) (by decide) k) ?_
    refine Go.of (fun t k => XS.iload Xx870.here hx rfl (hb hby at_281) rfl  k) ?_
    show Go p e below Qo T865 (mkF m 283 #[sJ j1, zS, sJ j2, zS, sJ j3, zS, sJ j4, zS, sJ j5, zS, sI i1, sI v4_2, sI v18_5, sI v32_8, sJ p3, zS, sR b10, sR b31, sR b485, sR b715, sI (1 : Int32), sI (1 : Int32), sR (if (p3 < j5 ∨ (p3 = j5 ∧ j3 < j2)) then b485 else b31), zU, sI (0 : Int32), zU] [(.int v32_8)])
    refine Go.of (fun t k => XS.ifNo Xx870.here hx rfl (hb hby at_283) rfl ((if0 _ _).trans (feq hc101_503).1) k) ?_
    refine Go.of (fun t k => XS.lload Xx870.here hx rfl (hb hby at_286) rfl  k) ?_
    refine Go.of (fun t k => XS.lloadN Xx870.here hx rfl (hb hby at_288) rfl  k) ?_
    refine Go.of (fun t k => XS.lload Xx870.here hx rfl (hb hby at_289) rfl  k) ?_
    refine Go.of (fun t k => XS.lload Xx870.here hx rfl (hb hby at_291) rfl  k) ?_
    obtain ⟨_, _, ⟨T871, L871, k871, n871⟩, -, X871, ⟨Lc871, hQ871, l871, y871, z871⟩, st871⟩ := Jvm.LawKit.callS Xx870 hx (y := (⟨kL, "le", "(JJJJ)Z"⟩ : MethodName)) hown (mvT hZ (wk hw 67 rfl)) (mvT hZ (wk hw 68 rfl)) (mvT hZ (wk hw 69 rfl)) (mvT hZ (wk hw 70 rfl)) (by decide) (backOf (W := 0) (rm10 l Z a0 hw [] j5 j2 p3 j3 T831.heap n0 Z863 ) hZ (wk hw 70 rfl) (wk hw 69 rfl) (by decide) (by decide)) (g := (mkF m 293 #[sJ j1, zS, sJ j2, zS, sJ j3, zS, sJ j4, zS, sJ j5, zS, sI i1, sI v4_2, sI v18_5, sI v32_8, sJ p3, zS, sR b10, sR b31, sR b485, sR b715, sI (1 : Int32), sI (1 : Int32), sR (if (p3 < j5 ∨ (p3 = j5 ∧ j3 < j2)) then b485 else b31), zU, sI (0 : Int32), zU] [(.long j3), (.long p3), (.long j2), (.long j5)])) rfl (by rw [hml]; rfl) (argsL := [(.long j5), (.long j2), (.long p3), (.long j3)]) (rest := []) (lenOf pd_7 rfl) rfl (by show 2 * 0 + _ ≤ _; exact Nat.le_of_eq rfl) (hb hby at_293) (fun _ _ => ⟨rfl, eh868, (by decide : 4 + 0 ≤ _), (by decide : 15 + 0 ≤ _)⟩)
    dsimp only [Pt.U, Pt.locs, Pt.cells, Pt.slots] at X871 l871 y871 z871 st871 hQ871
    subst l871 y871 z871
    replace X871 := own_cs X871 (c' := 4) (s' := 15) (by decide) (by decide)
    obtain ⟨rfl, N872, eh873⟩ := hQ871
    have N874 := Fr.app Nx870 N872
    refine Go.of st871 ?_
    obtain ⟨Lx875, Xx875, Nx875⟩ := own_locs X871 N874
    show Go p e below Qo T871 (mkF m 296 #[sJ j1, zS, sJ j2, zS, sJ j3, zS, sJ j4, zS, sJ j5, zS, sI i1, sI v4_2, sI v18_5, sI v32_8, sJ p3, zS, sR b10, sR b31, sR b485, sR b715, sI (1 : Int32), sI (1 : Int32), sR (if (p3 < j5 ∨ (p3 = j5 ∧ j3 < j2)) then b485 else b31), zU, sI (0 : Int32), zU] [(.int (F10 j5 j2 p3 j3))])
    suffices J296_878 : ∀ (v296_877 : Int32), v296_877 = (if (F10 j5 j2 p3 j3) = (0 : Int32) then (0 : Int32) else (1 : Int32)) → Go p e below Qo T871 (mkF m 304 #[sJ j1, zS, sJ j2, zS, sJ j3, zS, sJ j4, zS, sJ j5, zS, sI i1, sI v4_2, sI v18_5, sI v32_8, sJ p3, zS, sR b10, sR b31, sR b485, sR b715, sI (1 : Int32), sI (1 : Int32), sR (if (p3 < j5 ∨ (p3 = j5 ∧ j3 < j2)) then b485 else b31), zU, sI (0 : Int32), zU] [(.int v296_877)]) by
      by_cases hc296_887 : (F10 j5 j2 p3 j3) = (0 : Int32)
      · refine Go.of (fun t k => XS.ifYes Xx875.here hx rfl (pc0 := 296) (pc' := 303) rfl (hb hby at_296) rfl ((if0 _ _).trans (teq hc296_887).1) (by decide) (by decide) k) ?_
        refine Go.of (fun t k => XS.iconst Xx875.here hx rfl (hb hby at_303) k) ?_
        show Go p e below Qo T871 (mkF m 304 #[sJ j1, zS, sJ j2, zS, sJ j3, zS, sJ j4, zS, sJ j5, zS, sI i1, sI v4_2, sI v18_5, sI v32_8, sJ p3, zS, sR b10, sR b31, sR b485, sR b715, sI (1 : Int32), sI (1 : Int32), sR (if (p3 < j5 ∨ (p3 = j5 ∧ j3 < j2)) then b485 else b31), zU, sI (0 : Int32), zU] [(.int (0 : Int32))])
        exact J296_878 _ (by first | rfl | (rw [if_pos hc296_887]) | (simp only [hc296_887, if_true, if_false]; done) | simp [hc296_887])
      refine Go.of (fun t k => XS.ifNo Xx875.here hx rfl (hb hby at_296) rfl ((if0 _ _).trans (feq hc296_887).1) k) ?_
      refine Go.of (fun t k => XS.iconst Xx875.here hx rfl (hb hby at_299) k) ?_
      refine Go.of (fun t k => XS.goto Xx875.here hx rfl (pc0 := 300) (pc' := 304) rfl (hb hby at_300) (by decide) (by decide) k) ?_
      show Go p e below Qo T871 (mkF m 304 #[sJ j1, zS, sJ j2, zS, sJ j3, zS, sJ j4, zS, sJ j5, zS, sI i1, sI v4_2, sI v18_5, sI v32_8, sJ p3, zS, sR b10, sR b31, sR b485, sR b715, sI (1 : Int32), sI (1 : Int32), sR (if (p3 < j5 ∨ (p3 = j5 ∧ j3 < j2)) then b485 else b31), zU, sI (0 : Int32), zU] [(.int (1 : Int32))])
      exact J296_878 _ (by first | rfl | (rw [if_neg hc296_887]) | (simp only [hc296_887, if_true, if_false]; done) | simp [hc296_887])
    intro v296_877 hv296_877
    show Go p e below Qo T871 (mkF m 304 #[sJ j1, zS, sJ j2, zS, sJ j3, zS, sJ j4, zS, sJ j5, zS, sI i1, sI v4_2, sI v18_5, sI v32_8, sJ p3, zS, sR b10, sR b31, sR b485, sR b715, sI (1 : Int32), sI (1 : Int32), sR (if (p3 < j5 ∨ (p3 = j5 ∧ j3 < j2)) then b485 else b31), zU, sI (0 : Int32), zU] [(.int v296_877)])
    refine Go.of (fun t k => XS.istore Xx875.here hx rfl (hb hby at_304) rfl (l' := #[sJ j1, zS, sJ j2, zS, sJ j3, zS, sJ j4, zS, sJ j5, zS, sI i1, sI v4_2, sI v18_5, sI v32_8, sJ p3, zS, sR b10, sR b31, sR b485, sR b715, sI (1 : Int32), sI (1 : Int32), sR (if (p3 < j5 ∨ (p3 = j5 ∧ j3 < j2)) then b485 else b31), zU, sI (0 : Int32), sI v296_877]) rfl k) ?_
    refine Go.of (fun t k => XS.iload Xx875.here hx rfl (hb hby at_306) rfl  k) ?_
    refine Go.of (fun t k => XS.ifYes Xx875.here hx rfl (pc0 := 308) (pc' := 316) rfl (hb hby at_308) rfl ((if0 _ _).trans (teq (by decide : (0 : Int32) = (0 : Int32))).1) (by decide) (by decide) k) ?_
    refine Go.of (fun t k => XS.iload Xx875.here hx rfl (hb hby at_316) rfl  k) ?_
    suffices J318_881 : ∀ (v318_880 : Addr), v318_880 = (if v296_877 = (0 : Int32) then b485 else b31) → Go p e below Qo T871 (mkF m 328 #[sJ j1, zS, sJ j2, zS, sJ j3, zS, sJ j4, zS, sJ j5, zS, sI i1, sI v4_2, sI v18_5, sI v32_8, sJ p3, zS, sR b10, sR b31, sR b485, sR b715, sI (1 : Int32), sI (1 : Int32), sR (if (p3 < j5 ∨ (p3 = j5 ∧ j3 < j2)) then b485 else b31), zU, sI (0 : Int32), sI v296_877] [(.ref v318_880)]) by
      by_cases hc318_886 : v296_877 = (0 : Int32)
      · refine Go.of (fun t k => XS.ifYes Xx875.here hx rfl (pc0 := 318) (pc' := 326) rfl (hb hby at_318) rfl ((if0 _ _).trans (teq hc318_886).1) (by decide) (by decide) k) ?_
        refine Go.of (fun t k => XS.aload Xx875.here hx rfl (hb hby at_326) rfl rfl k) ?_
        show Go p e below Qo T871 (mkF m 328 #[sJ j1, zS, sJ j2, zS, sJ j3, zS, sJ j4, zS, sJ j5, zS, sI i1, sI v4_2, sI v18_5, sI v32_8, sJ p3, zS, sR b10, sR b31, sR b485, sR b715, sI (1 : Int32), sI (1 : Int32), sR (if (p3 < j5 ∨ (p3 = j5 ∧ j3 < j2)) then b485 else b31), zU, sI (0 : Int32), sI v296_877] [(.ref b485)])
        exact J318_881 _ (by first | rfl | (rw [if_pos hc318_886]) | (simp only [hc318_886, if_true, if_false]; done) | simp [hc318_886])
      refine Go.of (fun t k => XS.ifNo Xx875.here hx rfl (hb hby at_318) rfl ((if0 _ _).trans (feq hc318_886).1) k) ?_
      show Go p e below Qo T871 (mkF m 321 #[sJ j1, zS, sJ j2, zS, sJ j3, zS, sJ j4, zS, sJ j5, zS, sI i1, sI v4_2, sI v18_5, sI v32_8, sJ p3, zS, sR b10, sR b31, sR b485, sR b715, sI (1 : Int32), sI (1 : Int32), sR (if (p3 < j5 ∨ (p3 = j5 ∧ j3 < j2)) then b485 else b31), zU, sI (0 : Int32), sI v296_877] [])
      refine Go.of (fun t k => XS.aload Xx875.here hx rfl (hb hby at_321) rfl rfl k) ?_
      refine Go.of (fun t k => XS.goto Xx875.here hx rfl (pc0 := 323) (pc' := 328) rfl (hb hby at_323) (by decide) (by decide) k) ?_
      show Go p e below Qo T871 (mkF m 328 #[sJ j1, zS, sJ j2, zS, sJ j3, zS, sJ j4, zS, sJ j5, zS, sI i1, sI v4_2, sI v18_5, sI v32_8, sJ p3, zS, sR b10, sR b31, sR b485, sR b715, sI (1 : Int32), sI (1 : Int32), sR (if (p3 < j5 ∨ (p3 = j5 ∧ j3 < j2)) then b485 else b31), zU, sI (0 : Int32), sI v296_877] [(.ref b31)])
      exact J318_881 _ (by first | rfl | (rw [if_neg hc318_886]) | (simp only [hc318_886, if_true, if_false]; done) | simp [hc318_886])
    intro v318_880 hv318_880
    show Go p e below Qo T871 (mkF m 328 #[sJ j1, zS, sJ j2, zS, sJ j3, zS, sJ j4, zS, sJ j5, zS, sI i1, sI v4_2, sI v18_5, sI v32_8, sJ p3, zS, sR b10, sR b31, sR b485, sR b715, sI (1 : Int32), sI (1 : Int32), sR (if (p3 < j5 ∨ (p3 = j5 ∧ j3 < j2)) then b485 else b31), zU, sI (0 : Int32), sI v296_877] [(.ref v318_880)])
    refine Go.of (fun t k => XS.astore Xx875.here hx rfl (hb hby at_328) rfl rfl (l' := #[sJ j1, zS, sJ j2, zS, sJ j3, zS, sJ j4, zS, sJ j5, zS, sI i1, sI v4_2, sI v18_5, sI v32_8, sJ p3, zS, sR b10, sR b31, sR b485, sR b715, sI (1 : Int32), sI (1 : Int32), sR (if (p3 < j5 ∨ (p3 = j5 ∧ j3 < j2)) then b485 else b31), sR v318_880, sI (0 : Int32), sI v296_877]) rfl k) ?_
    refine Go.of (fun t k => XS.goto Xx875.here hx rfl (pc0 := 330) (pc' := 397) rfl (hb hby at_330) (by decide) (by decide) k) ?_
    refine Go.of (fun t k => XS.iload Xx875.here hx rfl (hb hby at_397) rfl  k) ?_
    refine Go.of (fun t k => XS.ifNo Xx875.here hx rfl (hb hby at_399) rfl ((if0 _ _).trans (feq (by decide : ¬ ((1 : Int32) = (0 : Int32)))).1) k) ?_
    refine Go.of (fun t k => XS.iload Xx875.here hx rfl (hb hby at_402) rfl  k) ?_
    show Go p e below Qo T871 (mkF m 404 #[sJ j1, zS, sJ j2, zS, sJ j3, zS, sJ j4, zS, sJ j5, zS, sI i1, sI v4_2, sI v18_5, sI v32_8, sJ p3, zS, sR b10, sR b31, sR b485, sR b715, sI (1 : Int32), sI (1 : Int32), sR (if (p3 < j5 ∨ (p3 = j5 ∧ j3 < j2)) then b485 else b31), sR v318_880, sI (0 : Int32), sI v296_877] [(.int (1 : Int32))])
    refine Go.of (fun t k => XS.ifNo Xx875.here hx rfl (hb hby at_404) rfl ((if0 _ _).trans (feq (by decide : ¬ ((1 : Int32) = (0 : Int32)))).1) k) ?_
    refine Go.of (fun t k => XS.aload Xx875.here hx rfl (hb hby at_407) rfl rfl k) ?_
    refine Go.of (fun t k => XS.aload Xx875.here hx rfl (hb hby at_409) rfl rfl k) ?_
    suffices J411_884 : ∀ (v411_883 : Int32), v411_883 = (if (if (p3 < j5 ∨ (p3 = j5 ∧ j3 < j2)) then b485 else b31) = v318_880 then (1 : Int32) else (0 : Int32)) → Go p e below Qo T871 (mkF m 419 #[sJ j1, zS, sJ j2, zS, sJ j3, zS, sJ j4, zS, sJ j5, zS, sI i1, sI v4_2, sI v18_5, sI v32_8, sJ p3, zS, sR b10, sR b31, sR b485, sR b715, sI (1 : Int32), sI (1 : Int32), sR (if (p3 < j5 ∨ (p3 = j5 ∧ j3 < j2)) then b485 else b31), sR v318_880, sI (0 : Int32), sI v296_877] [(.int v411_883)]) by
      by_cases hc411_885 : (if (p3 < j5 ∨ (p3 = j5 ∧ j3 < j2)) then b485 else b31) = v318_880
      · refine Go.of (fun t k => Jvm.RoadKit.acmp (g := (mkF m 411 #[sJ j1, zS, sJ j2, zS, sJ j3, zS, sJ j4, zS, sJ j5, zS, sI i1, sI v4_2, sI v18_5, sI v32_8, sJ p3, zS, sR b10, sR b31, sR b485, sR b715, sI (1 : Int32), sI (1 : Int32), sR (if (p3 < j5 ∨ (p3 = j5 ∧ j3 < j2)) then b485 else b31), sR v318_880, sI (0 : Int32), sI v296_877] [(.ref v318_880), (.ref (if (p3 < j5 ∨ (p3 = j5 ∧ j3 < j2)) then b485 else b31))])) Xx875 hx rfl rfl rfl (pc0 := 411) (pc' := 414) (same := true) rfl (hb hby at_411) rfl (decide_eq_true (congrArg Value.ref hc411_885)) (by decide) (by decide) k) ?_
        refine Go.of (fun t k => XS.iconst Xx875.here hx rfl (hb hby at_414) k) ?_
        refine Go.of (fun t k => XS.goto Xx875.here hx rfl (pc0 := 415) (pc' := 419) rfl (hb hby at_415) (by decide) (by decide) k) ?_
        show Go p e below Qo T871 (mkF m 419 #[sJ j1, zS, sJ j2, zS, sJ j3, zS, sJ j4, zS, sJ j5, zS, sI i1, sI v4_2, sI v18_5, sI v32_8, sJ p3, zS, sR b10, sR b31, sR b485, sR b715, sI (1 : Int32), sI (1 : Int32), sR (if (p3 < j5 ∨ (p3 = j5 ∧ j3 < j2)) then b485 else b31), sR v318_880, sI (0 : Int32), sI v296_877] [(.int (1 : Int32))])
        exact J411_884 _ (by first | rfl | (rw [if_pos hc411_885]) | (simp only [hc411_885, if_true, if_false]; done) | simp [hc411_885])
      refine Go.of (fun t k => Jvm.RoadKit.acmp (g := (mkF m 411 #[sJ j1, zS, sJ j2, zS, sJ j3, zS, sJ j4, zS, sJ j5, zS, sI i1, sI v4_2, sI v18_5, sI v32_8, sJ p3, zS, sR b10, sR b31, sR b485, sR b715, sI (1 : Int32), sI (1 : Int32), sR (if (p3 < j5 ∨ (p3 = j5 ∧ j3 < j2)) then b485 else b31), sR v318_880, sI (0 : Int32), sI v296_877] [(.ref v318_880), (.ref (if (p3 < j5 ∨ (p3 = j5 ∧ j3 < j2)) then b485 else b31))])) Xx875 hx rfl rfl rfl (pc0 := 411) (pc' := 418) (same := false) rfl (hb hby at_411) rfl (decide_eq_false fun q => hc411_885 (Value.ref.inj q)) (by decide) (by decide) k) ?_
      refine Go.of (fun t k => XS.iconst Xx875.here hx rfl (hb hby at_418) k) ?_
      show Go p e below Qo T871 (mkF m 419 #[sJ j1, zS, sJ j2, zS, sJ j3, zS, sJ j4, zS, sJ j5, zS, sI i1, sI v4_2, sI v18_5, sI v32_8, sJ p3, zS, sR b10, sR b31, sR b485, sR b715, sI (1 : Int32), sI (1 : Int32), sR (if (p3 < j5 ∨ (p3 = j5 ∧ j3 < j2)) then b485 else b31), sR v318_880, sI (0 : Int32), sI v296_877] [(.int (0 : Int32))])
      exact J411_884 _ (by first | rfl | (rw [if_neg hc411_885]) | (simp only [hc411_885, if_true, if_false]; done) | simp [hc411_885])
    intro v411_883 hv411_883
    show Go p e below Qo T871 (mkF m 419 #[sJ j1, zS, sJ j2, zS, sJ j3, zS, sJ j4, zS, sJ j5, zS, sI i1, sI v4_2, sI v18_5, sI v32_8, sJ p3, zS, sR b10, sR b31, sR b485, sR b715, sI (1 : Int32), sI (1 : Int32), sR (if (p3 < j5 ∨ (p3 = j5 ∧ j3 < j2)) then b485 else b31), sR v318_880, sI (0 : Int32), sI v296_877] [(.int v411_883)])
    have hfin : v411_883 = 1 := by
      refine hv411_883.trans (if_pos ?_)
      have T := own_pair j5 p3 j2 j3 b31 b485
      subst hv296_877 hv318_880
      by_cases c0 : (F10 j5 j2 p3 j3) = (0 : Int32)
      all_goals (try simp only [c0, if_true, if_false, own_00, own_10])
      all_goals first | rfl | (exact T.1 (by assumption)) | (exact T.2 (by assumption)) | (exact absurd ⟨(by assumption), (by assumption)⟩ (own_tot j5 p3 j2 j3))
    exact own_retN Xx875 hx Bd.notSynchronized (t := .boolean) Bd.returns (by simp) (hb hby at_419) (fun u hu hF => hQo _ _ _ ⟨by rw [hfin]; rfl, Nx875⟩ (own_mono hF (by decide) (by decide)))
  refine Go.of (fun t k => XS.ifNo X10.here hx rfl (hb hby at_55) rfl ((if0 _ _).trans (feq hc55_18).1) k) ?_
  show Go p e below Qo T10 (mkF m 58 #[sJ j1, zS, sJ j2, zS, sJ j3, zS, sJ j4, zS, sJ j5, zS, sI i1, sI v4_2, sI v18_5, sI v32_8, sJ p3, zS, zU, zU, zU, zU, zU, zU, zU, zU, zU, zU] [(.ref b10), (.ref b10)])
  refine Go.of (fun t k => XS.iconst X10.here hx rfl (hb hby at_58) k) ?_
  obtain ⟨_, _, ⟨T888, L888, k888, n888⟩, -, X888, ⟨Lc888, hQ888, l888, y888, z888⟩, st888⟩ := Jvm.LawKit.callS X10 hx (y := (⟨"java/lang/Integer", "valueOf", "(I)Ljava/lang/Integer;"⟩ : MethodName)) hown (mvT hZ (wk hw 18 rfl)) (mvT hZ (wk hw 19 rfl)) (mvT hZ (wk hw 20 rfl)) (mvT hZ (wk hw 21 rfl)) (by decide) (backOf (W := 2) (rm41 l Z a0 hw [] (1 : Int32) rc h10 n0 Z15 q12 q13 q14 (hC) (rfl)) hZ (wk hw 21 rfl) (wk hw 20 rfl) (by decide) (by decide)) (g := (mkF m 59 #[sJ j1, zS, sJ j2, zS, sJ j3, zS, sJ j4, zS, sJ j5, zS, sI i1, sI v4_2, sI v18_5, sI v32_8, sJ p3, zS, zU, zU, zU, zU, zU, zU, zU, zU, zU, zU] [(.int (1 : Int32)), (.ref b10), (.ref b10)])) rfl (by rw [hml]; rfl) (argsL := [(.int (1 : Int32))]) (rest := [(.ref b10), (.ref b10)]) (lenOf pd_6 rfl) rfl (by show 2 * 0 + _ ≤ _; exact Nat.le_of_eq rfl) (hb hby at_59) (fun _ _ => ⟨rfl, e10, (by decide : 1 + 0 ≤ _), (by decide : 2 + 0 ≤ _)⟩)
  dsimp only [Pt.U, Pt.locs, Pt.cells, Pt.slots] at X888 l888 y888 z888 st888 hQ888
  subst l888 y888 z888
  replace X888 := own_cs X888 (c' := 1) (s' := 2) (by decide) (by decide)
  obtain ⟨x890, rfl, N889, Kc891, q892⟩ := hQ888
  have N893 := Fr.app N0 N889
  have q894 := own_staKeep q12 Kc891 all0
  have q895 := own_staKeep q13 Kc891 all0
  have q896 := q14.keep Kc891 all0
  have q897 := A10.keep Kc891
  have q898 := q16.keep Kc891 nin0
  have q899 := q17.keep Kc891 nin0
  have Z900 : n0 ≤ T888.heap.size := Nat.le_trans Z15 Kc891.1
  refine Go.of st888 ?_
  obtain ⟨Lx901, Xx901, Nx901⟩ := own_locs X888 N893
  show Go p e below Qo T888 (mkF m 62 #[sJ j1, zS, sJ j2, zS, sJ j3, zS, sJ j4, zS, sJ j5, zS, sI i1, sI v4_2, sI v18_5, sI v32_8, sJ p3, zS, zU, zU, zU, zU, zU, zU, zU, zU, zU, zU] [(.ref x890), (.ref b10), (.ref b10)])
  refine Go.of (fun t k => XS.goto Xx901.here hx rfl (pc0 := 62) (pc' := 66) rfl (hb hby at_62) (by decide) (by decide) k) ?_
  refine Go.of (fun t k => XS.aconstNull Xx901.here hx rfl (hb hby at_66) k) ?_
  obtain ⟨_, _, ⟨T902, L902, k902, n902⟩, -, X902, ⟨Lc902, hQ902, l902, y902, z902⟩, st902⟩ := Xx901.specialBack hx (y := (⟨kA, "<init>", "(Ljava/lang/Object;Ljava/util/List;)V"⟩ : MethodName)) rfl hown (mvT hZ (wk hw 3 rfl)) (mvT hZ (wk hw 4 rfl)) (mvT hZ (wk hw 5 rfl)) (by decide) (backOf (W := 1) (rm1 l Z a0 hw [] b10 (.ref x890) .null .null .null T888.heap n0 Z900 q897 q898 q899 g11 rfl rfl) hZ (wk hw 5 rfl) (wk hw 2 rfl) (by decide) (by decide)) (g := (mkF m 67 #[sJ j1, zS, sJ j2, zS, sJ j3, zS, sJ j4, zS, sJ j5, zS, sI i1, sI v4_2, sI v18_5, sI v32_8, sJ p3, zS, zU, zU, zU, zU, zU, zU, zU, zU, zU, zU] [.null, (.ref x890), (.ref b10), (.ref b10)])) rfl (by rw [hml]; rfl) (Steps.refl _) (a := b10) (argsL := [(.ref x890), .null]) (rest := [(.ref b10)]) (lenOf pd_3 rfl) rfl (by show 2 * 0 + _ ≤ _; exact Nat.le_of_eq rfl) (hb hby at_67) (fun _ _ => ⟨rfl, rfl, (by decide : 1 + 0 ≤ _), (by decide : 2 + 0 ≤ _)⟩)
  dsimp only [Pt.U, Pt.locs, Pt.cells, Pt.slots] at X902 l902 y902 z902 st902 hQ902
  subst l902 y902 z902
  replace X902 := own_cs X902 (c' := 1) (s' := 2) (by decide) (by decide)
  obtain ⟨rfl, N903, Kc904, q905, q906, q907⟩ := hQ902
  have N908 := Fr.app Nx901 N903
  have q909 := own_staKeep q894 Kc904 (allS (own_plainE q897) all0)
  have q910 := own_staKeep q895 Kc904 (allS (own_plainE q897) all0)
  have q911 := q896.keep Kc904 (allS g11 all0)
  have q912 := q892.keep Kc904
  have Z913 : n0 ≤ T902.heap.size := Nat.le_trans Z900 Kc904.1
  refine Go.via st902 ?_
  obtain ⟨Lx914, Xx914, Nx914⟩ := own_locs X902 N908
  show Go p e below Qo T902 (mkF m 70 #[sJ j1, zS, sJ j2, zS, sJ j3, zS, sJ j4, zS, sJ j5, zS, sI i1, sI v4_2, sI v18_5, sI v32_8, sJ p3, zS, zU, zU, zU, zU, zU, zU, zU, zU, zU, zU] [(.ref b10)])
  refine Go.of (fun t k => XS.astore Xx914.here hx rfl (hb hby at_70) rfl rfl (l' := #[sJ j1, zS, sJ j2, zS, sJ j3, zS, sJ j4, zS, sJ j5, zS, sI i1, sI v4_2, sI v18_5, sI v32_8, sJ p3, zS, sR b10, zU, zU, zU, zU, zU, zU, zU, zU, zU]) rfl k) ?_
  obtain ⟨T915, h915, X915, e915, E915, A915, D915, Um915, st915⟩ := newO Xx914 hx hZ hown (wk hw 0 rfl) (wk hw 1 rfl) (wk hw 2 rfl) rfl (g := (mkF m 72 #[sJ j1, zS, sJ j2, zS, sJ j3, zS, sJ j4, zS, sJ j5, zS, sI i1, sI v4_2, sI v18_5, sI v32_8, sJ p3, zS, sR b10, zU, zU, zU, zU, zU, zU, zU, zU, zU] [])) rfl (hb hby at_72) (by decide) (by decide)
  obtain ⟨b915, g915⟩ : ∃ z, z = T902.heap.size := ⟨_, rfl⟩
  rw [← g915] at A915 D915 Um915 st915
  have ne916 : x890 ≠ b915 := Nat.ne_of_lt (Nat.lt_of_lt_of_le q912.lt (Nat.le_of_eq g915.symm))
  have ne917 : b10 ≠ b915 := Nat.ne_of_lt (Nat.lt_of_lt_of_le q905.lt (Nat.le_of_eq g915.symm))
  have g918 : n0 ≤ b915 := Nat.le_trans Z913 (Nat.le_of_eq g915.symm)
  have q919 := q909.ext E915
  have q920 := q910.ext E915
  have q921 := q911.ext E915
  have q922 := q912.ext E915
  have q923 := q905.ext E915
  have q924 := q906.ext E915
  have q925 := q907.ext E915
  have Z926 : n0 ≤ h915.size := Nat.le_trans Z913 E915.1
  replace X915 := own_cs X915 (c' := 2) (s' := 4) (by decide) (by decide)
  have q927 : Fld Z h915 b915 kA "run" "Ljava/lang/Object;" .null := D915 (Or.inr (wk hw 15 rfl)) (ty := (.object "java/lang/Object")) (by decide)
  have q928 : Fld Z h915 b915 kA "choices" "Ljava/util/List;" .null := D915 (Or.inr (wk hw 17 rfl)) (ty := (.object "java/util/List")) (by decide)
  refine Go.of st915 ?_
  show Go p e below Qo T915 (mkF m 75 #[sJ j1, zS, sJ j2, zS, sJ j3, zS, sJ j4, zS, sJ j5, zS, sI i1, sI v4_2, sI v18_5, sI v32_8, sJ p3, zS, sR b10, zU, zU, zU, zU, zU, zU, zU, zU, zU] [(.ref b915)])
  refine Go.of (fun t k => XS.dup X915.here hx rfl (hb hby at_75) rfl rfl k) ?_
  refine Go.of (fun t k => XS.iload X915.here hx rfl (hb hby at_76) rfl  k) ?_
  by_cases hc78_929 : v18_5 = (0 : Int32)
  · refine Go.of (fun t k => XS.ifYes X915.here hx rfl (pc0 := 78) (pc' := 88) rfl (hb hby at_78) rfl ((if0 _ _).trans (teq hc78_929).1) (by decide) (by decide) k) ?_
    refine Go.of (fun t k => XS.aconstNull X915.here hx rfl (hb hby at_88) k) ?_
    refine Go.of (fun t k => XS.aconstNull X915.here hx rfl (hb hby at_89) k) ?_
    obtain ⟨_, _, ⟨T930, L930, k930, n930⟩, -, X930, ⟨Lc930, hQ930, l930, y930, z930⟩, st930⟩ := X915.specialBack hx (y := (⟨kA, "<init>", "(Ljava/lang/Object;Ljava/util/List;)V"⟩ : MethodName)) rfl hown (mvT hZ (wk hw 3 rfl)) (mvT hZ (wk hw 4 rfl)) (mvT hZ (wk hw 5 rfl)) (by decide) (backOf (W := 1) (rm1 l Z a0 hw [] b915 .null .null .null .null h915 n0 Z926 A915 q927 q928 g918 rfl rfl) hZ (wk hw 5 rfl) (wk hw 2 rfl) (by decide) (by decide)) (g := (mkF m 90 #[sJ j1, zS, sJ j2, zS, sJ j3, zS, sJ j4, zS, sJ j5, zS, sI i1, sI v4_2, sI v18_5, sI v32_8, sJ p3, zS, sR b10, zU, zU, zU, zU, zU, zU, zU, zU, zU] [.null, .null, (.ref b915), (.ref b915)])) rfl (by rw [hml]; rfl) (Steps.refl _) (a := b915) (argsL := [.null, .null]) (rest := [(.ref b915)]) (lenOf pd_3 rfl) rfl (by show 2 * 0 + _ ≤ _; exact Nat.le_of_eq rfl) (hb hby at_90) (fun _ _ => ⟨rfl, e915, (by decide : 2 + 0 ≤ _), (by decide : 4 + 0 ≤ _)⟩)
    dsimp only [Pt.U, Pt.locs, Pt.cells, Pt.slots] at X930 l930 y930 z930 st930 hQ930
    subst l930 y930 z930
    replace X930 := own_cs X930 (c' := 2) (s' := 4) (by decide) (by decide)
    obtain ⟨rfl, N931, Kc932, q933, q934, q935⟩ := hQ930
    have N936 := Fr.app Nx914 N931
    have q937 := own_staKeep q919 Kc932 (allS (own_plainE A915) all0)
    have q938 := own_staKeep q920 Kc932 (allS (own_plainE A915) all0)
    have q939 := q921.keep Kc932 (allS g918 all0)
    have q940 := q922.keep Kc932
    have q941 := q923.keep Kc932
    have q942 := q924.keep Kc932 (ninS ne917 nin0)
    have q943 := q925.keep Kc932 (ninS ne917 nin0)
    have Z944 : n0 ≤ T930.heap.size := Nat.le_trans Z926 Kc932.1
    refine Go.via st930 ?_
    obtain ⟨Lx945, Xx945, Nx945⟩ := own_locs X930 N936
    show Go p e below Qo T930 (mkF m 93 #[sJ j1, zS, sJ j2, zS, sJ j3, zS, sJ j4, zS, sJ j5, zS, sI i1, sI v4_2, sI v18_5, sI v32_8, sJ p3, zS, sR b10, zU, zU, zU, zU, zU, zU, zU, zU, zU] [(.ref b915)])
    refine Go.of (fun t k => XS.astore Xx945.here hx rfl (hb hby at_93) rfl rfl (l' := #[sJ j1, zS, sJ j2, zS, sJ j3, zS, sJ j4, zS, sJ j5, zS, sI i1, sI v4_2, sI v18_5, sI v32_8, sJ p3, zS, sR b10, sR b915, zU, zU, zU, zU, zU, zU, zU, zU]) rfl k) ?_
    obtain ⟨T946, h946, X946, e946, E946, A946, D946, Um946, st946⟩ := newO Xx945 hx hZ hown (wk hw 0 rfl) (wk hw 1 rfl) (wk hw 2 rfl) rfl (g := (mkF m 95 #[sJ j1, zS, sJ j2, zS, sJ j3, zS, sJ j4, zS, sJ j5, zS, sI i1, sI v4_2, sI v18_5, sI v32_8, sJ p3, zS, sR b10, sR b915, zU, zU, zU, zU, zU, zU, zU, zU] [])) rfl (hb hby at_95) (by decide) (by decide)
    obtain ⟨b946, g946⟩ : ∃ z, z = T930.heap.size := ⟨_, rfl⟩
    rw [← g946] at A946 D946 Um946 st946
    have ne947 : x890 ≠ b946 := Nat.ne_of_lt (Nat.lt_of_lt_of_le q940.lt (Nat.le_of_eq g946.symm))
    have ne948 : b10 ≠ b946 := Nat.ne_of_lt (Nat.lt_of_lt_of_le q941.lt (Nat.le_of_eq g946.symm))
    have ne949 : b915 ≠ b946 := Nat.ne_of_lt (Nat.lt_of_lt_of_le q933.lt (Nat.le_of_eq g946.symm))
    have g950 : n0 ≤ b946 := Nat.le_trans Z944 (Nat.le_of_eq g946.symm)
    have q951 := q937.ext E946
    have q952 := q938.ext E946
    have q953 := q939.ext E946
    have q954 := q940.ext E946
    have q955 := q941.ext E946
    have q956 := q942.ext E946
    have q957 := q943.ext E946
    have q958 := q933.ext E946
    have q959 := q934.ext E946
    have q960 := q935.ext E946
    have Z961 : n0 ≤ h946.size := Nat.le_trans Z944 E946.1
    replace X946 := own_cs X946 (c' := 3) (s' := 6) (by decide) (by decide)
    have q962 : Fld Z h946 b946 kA "run" "Ljava/lang/Object;" .null := D946 (Or.inr (wk hw 15 rfl)) (ty := (.object "java/lang/Object")) (by decide)
    have q963 : Fld Z h946 b946 kA "choices" "Ljava/util/List;" .null := D946 (Or.inr (wk hw 17 rfl)) (ty := (.object "java/util/List")) (by decide)
    refine Go.of st946 ?_
    show Go p e below Qo T946 (mkF m 98 #[sJ j1, zS, sJ j2, zS, sJ j3, zS, sJ j4, zS, sJ j5, zS, sI i1, sI v4_2, sI v18_5, sI v32_8, sJ p3, zS, sR b10, sR b915, zU, zU, zU, zU, zU, zU, zU, zU] [(.ref b946)])
    refine Go.of (fun t k => XS.dup X946.here hx rfl (hb hby at_98) rfl rfl k) ?_
    refine Go.of (fun t k => XS.iload X946.here hx rfl (hb hby at_99) rfl  k) ?_
    show Go p e below Qo T946 (mkF m 101 #[sJ j1, zS, sJ j2, zS, sJ j3, zS, sJ j4, zS, sJ j5, zS, sI i1, sI v4_2, sI v18_5, sI v32_8, sJ p3, zS, sR b10, sR b915, zU, zU, zU, zU, zU, zU, zU, zU] [(.int v32_8), (.ref b946), (.ref b946)])
    by_cases hc101_964 : v32_8 = (0 : Int32)
    · refine Go.of (fun t k => XS.ifYes X946.here hx rfl (pc0 := 101) (pc' := 111) rfl (hb hby at_101) rfl ((if0 _ _).trans (teq hc101_964).1) (by decide) (by decide) k) ?_
      refine Go.of (fun t k => XS.aconstNull X946.here hx rfl (hb hby at_111) k) ?_
      refine Go.of (fun t k => XS.aconstNull X946.here hx rfl (hb hby at_112) k) ?_
      obtain ⟨_, _, ⟨T965, L965, k965, n965⟩, -, X965, ⟨Lc965, hQ965, l965, y965, z965⟩, st965⟩ := X946.specialBack hx (y := (⟨kA, "<init>", "(Ljava/lang/Object;Ljava/util/List;)V"⟩ : MethodName)) rfl hown (mvT hZ (wk hw 3 rfl)) (mvT hZ (wk hw 4 rfl)) (mvT hZ (wk hw 5 rfl)) (by decide) (backOf (W := 1) (rm1 l Z a0 hw [] b946 .null .null .null .null h946 n0 Z961 A946 q962 q963 g950 rfl rfl) hZ (wk hw 5 rfl) (wk hw 2 rfl) (by decide) (by decide)) (g := (mkF m 113 #[sJ j1, zS, sJ j2, zS, sJ j3, zS, sJ j4, zS, sJ j5, zS, sI i1, sI v4_2, sI v18_5, sI v32_8, sJ p3, zS, sR b10, sR b915, zU, zU, zU, zU, zU, zU, zU, zU] [.null, .null, (.ref b946), (.ref b946)])) rfl (by rw [hml]; rfl) (Steps.refl _) (a := b946) (argsL := [.null, .null]) (rest := [(.ref b946)]) (lenOf pd_3 rfl) rfl (by show 2 * 0 + _ ≤ _; exact Nat.le_of_eq rfl) (hb hby at_113) (fun _ _ => ⟨rfl, e946, (by decide : 3 + 0 ≤ _), (by decide : 6 + 0 ≤ _)⟩)
      dsimp only [Pt.U, Pt.locs, Pt.cells, Pt.slots] at X965 l965 y965 z965 st965 hQ965
      subst l965 y965 z965
      replace X965 := own_cs X965 (c' := 3) (s' := 6) (by decide) (by decide)
      obtain ⟨rfl, N966, Kc967, q968, q969, q970⟩ := hQ965
      have N971 := Fr.app Nx945 N966
      have q972 := own_staKeep q951 Kc967 (allS (own_plainE A946) all0)
      have q973 := own_staKeep q952 Kc967 (allS (own_plainE A946) all0)
      have q974 := q953.keep Kc967 (allS g950 all0)
      have q975 := q954.keep Kc967
      have q976 := q955.keep Kc967
      have q977 := q956.keep Kc967 (ninS ne948 nin0)
      have q978 := q957.keep Kc967 (ninS ne948 nin0)
      have q979 := q958.keep Kc967
      have q980 := q959.keep Kc967 (ninS ne949 nin0)
      have q981 := q960.keep Kc967 (ninS ne949 nin0)
      have Z982 : n0 ≤ T965.heap.size := Nat.le_trans Z961 Kc967.1
      refine Go.via st965 ?_
      obtain ⟨Lx983, Xx983, Nx983⟩ := own_locs X965 N971
      show Go p e below Qo T965 (mkF m 116 #[sJ j1, zS, sJ j2, zS, sJ j3, zS, sJ j4, zS, sJ j5, zS, sI i1, sI v4_2, sI v18_5, sI v32_8, sJ p3, zS, sR b10, sR b915, zU, zU, zU, zU, zU, zU, zU, zU] [(.ref b946)])
      refine Go.of (fun t k => XS.astore Xx983.here hx rfl (hb hby at_116) rfl rfl (l' := #[sJ j1, zS, sJ j2, zS, sJ j3, zS, sJ j4, zS, sJ j5, zS, sI i1, sI v4_2, sI v18_5, sI v32_8, sJ p3, zS, sR b10, sR b915, sR b946, zU, zU, zU, zU, zU, zU, zU]) rfl k) ?_
      show Go p e below Qo T965 (mkF m 118 #[sJ j1, zS, sJ j2, zS, sJ j3, zS, sJ j4, zS, sJ j5, zS, sI i1, sI v4_2, sI v18_5, sI v32_8, sJ p3, zS, sR b10, sR b915, sR b946, zU, zU, zU, zU, zU, zU, zU] [])
      obtain ⟨T984, h984, X984, e984, E984, A984, D984, Um984, st984⟩ := newO Xx983 hx hZ hown (wk hw 25 rfl) (wk hw 26 rfl) (wk hw 27 rfl) rfl (g := (mkF m 118 #[sJ j1, zS, sJ j2, zS, sJ j3, zS, sJ j4, zS, sJ j5, zS, sI i1, sI v4_2, sI v18_5, sI v32_8, sJ p3, zS, sR b10, sR b915, sR b946, zU, zU, zU, zU, zU, zU, zU] [])) rfl (hb hby at_118) (by decide) (by decide)
      obtain ⟨b984, g984⟩ : ∃ z, z = T965.heap.size := ⟨_, rfl⟩
      rw [← g984] at A984 D984 Um984 st984
      have ne985 : x890 ≠ b984 := Nat.ne_of_lt (Nat.lt_of_lt_of_le q975.lt (Nat.le_of_eq g984.symm))
      have ne986 : b10 ≠ b984 := Nat.ne_of_lt (Nat.lt_of_lt_of_le q976.lt (Nat.le_of_eq g984.symm))
      have ne987 : b915 ≠ b984 := Nat.ne_of_lt (Nat.lt_of_lt_of_le q979.lt (Nat.le_of_eq g984.symm))
      have ne988 : b946 ≠ b984 := Nat.ne_of_lt (Nat.lt_of_lt_of_le q968.lt (Nat.le_of_eq g984.symm))
      have g989 : n0 ≤ b984 := Nat.le_trans Z982 (Nat.le_of_eq g984.symm)
      have q990 := q972.ext E984
      have q991 := q973.ext E984
      have q992 := q974.ext E984
      have q993 := q975.ext E984
      have q994 := q976.ext E984
      have q995 := q977.ext E984
      have q996 := q978.ext E984
      have q997 := q979.ext E984
      have q998 := q980.ext E984
      have q999 := q981.ext E984
      have q1000 := q968.ext E984
      have q1001 := q969.ext E984
      have q1002 := q970.ext E984
      have Z1003 : n0 ≤ h984.size := Nat.le_trans Z982 E984.1
      replace X984 := own_cs X984 (c' := 4) (s' := 15) (by decide) (by decide)
      have q1004 : own_mon h984 b984 := by obtain ⟨cl, u1, -, u3⟩ := Um984; exact ⟨cl, u1, u3⟩
      have q1005 : Fld Z h984 b984 kT "best" kD .null := D984 (Or.inl (wk hw 38 rfl)) (ty := (.object kA)) (by decide)
      have q1006 : Fld Z h984 b984 kT "first" kD .null := D984 (Or.inl (wk hw 40 rfl)) (ty := (.object kA)) (by decide)
      have q1007 : Fld Z h984 b984 kT "firstSeed" "J" (.long (0 : Int64)) := D984 (Or.inl (wk hw 47 rfl)) (ty := .long) (by decide)
      have q1008 : Fld Z h984 b984 kT "bestSeed" "J" (.long (0 : Int64)) := D984 (Or.inl (wk hw 54 rfl)) (ty := .long) (by decide)
      have q1009 : Fld Z h984 b984 kT "bestPenalty" "J" (.long (0 : Int64)) := D984 (Or.inl (wk hw 56 rfl)) (ty := .long) (by decide)
      have q1010 : Fld Z h984 b984 kT "worstPenalty" "J" (.long (0 : Int64)) := D984 (Or.inl (wk hw 58 rfl)) (ty := .long) (by decide)
      have q1011 : Fld Z h984 b984 kT "penaltySum" "J" (.long (0 : Int64)) := D984 (Or.inl (wk hw 64 rfl)) (ty := .long) (by decide)
      have q1012 : Fld Z h984 b984 kT "feasibleRuns" "I" (.int (0 : Int32)) := D984 (Or.inl (wk hw 66 rfl)) (ty := .int) (by decide)
      refine Go.of st984 ?_
      show Go p e below Qo T984 (mkF m 121 #[sJ j1, zS, sJ j2, zS, sJ j3, zS, sJ j4, zS, sJ j5, zS, sI i1, sI v4_2, sI v18_5, sI v32_8, sJ p3, zS, sR b10, sR b915, sR b946, zU, zU, zU, zU, zU, zU, zU] [(.ref b984)])
      refine Go.of (fun t k => XS.dup X984.here hx rfl (hb hby at_121) rfl rfl k) ?_
      obtain ⟨_, _, ⟨T1013, L1013, k1013, n1013⟩, -, X1013, ⟨Lc1013, hQ1013, l1013, y1013, z1013⟩, st1013⟩ := X984.specialBack hx (y := (⟨kT, "<init>", "()V"⟩ : MethodName)) rfl hown (mvT hZ (wk hw 28 rfl)) (mvT hZ (wk hw 29 rfl)) (mvT hZ (wk hw 30 rfl)) (by decide) (backOf (W := 1) (rm5 l Z a0 hw [] b984 h984 n0 Z1003 ) hZ (wk hw 30 rfl) (wk hw 27 rfl) (by decide) (by decide)) (g := (mkF m 122 #[sJ j1, zS, sJ j2, zS, sJ j3, zS, sJ j4, zS, sJ j5, zS, sI i1, sI v4_2, sI v18_5, sI v32_8, sJ p3, zS, sR b10, sR b915, sR b946, zU, zU, zU, zU, zU, zU, zU] [(.ref b984), (.ref b984)])) rfl (by rw [hml]; rfl) (Steps.refl _) (a := b984) (argsL := []) (rest := [(.ref b984)]) (lenOf pd_0 rfl) rfl (by show 2 * 0 + _ ≤ _; exact Nat.le_of_eq rfl) (hb hby at_122) (fun _ _ => ⟨rfl, e984, (by decide : 4 + 0 ≤ _), (by decide : 15 + 0 ≤ _)⟩)
      dsimp only [Pt.U, Pt.locs, Pt.cells, Pt.slots] at X1013 l1013 y1013 z1013 st1013 hQ1013
      subst l1013 y1013 z1013
      replace X1013 := own_cs X1013 (c' := 4) (s' := 15) (by decide) (by decide)
      obtain ⟨rfl, N1014, eh1015⟩ := hQ1013
      have N1016 := Fr.app Nx983 N1014
      refine Go.via st1013 ?_
      obtain ⟨Lx1017, Xx1017, Nx1017⟩ := own_locs X1013 N1016
      show Go p e below Qo T1013 (mkF m 125 #[sJ j1, zS, sJ j2, zS, sJ j3, zS, sJ j4, zS, sJ j5, zS, sI i1, sI v4_2, sI v18_5, sI v32_8, sJ p3, zS, sR b10, sR b915, sR b946, zU, zU, zU, zU, zU, zU, zU] [(.ref b984)])
      refine Go.of (fun t k => XS.astore Xx1017.here hx rfl (hb hby at_125) rfl rfl (l' := #[sJ j1, zS, sJ j2, zS, sJ j3, zS, sJ j4, zS, sJ j5, zS, sI i1, sI v4_2, sI v18_5, sI v32_8, sJ p3, zS, sR b10, sR b915, sR b946, sR b984, zU, zU, zU, zU, zU, zU]) rfl k) ?_
      refine Go.of (fun t k => XS.aload Xx1017.here hx rfl (hb hby at_127) rfl rfl k) ?_
      obtain ⟨ciq1019, kiq1019, iq1019a, iq1019b, iq1019c⟩ := isOf hZ eh1015 A984
      obtain ⟨_, _, ⟨T1018, L1018, k1018, n1018⟩, -, X1018, ⟨Lc1018, hQ1018, l1018, y1018, z1018⟩, st1018⟩ := Xx1017.virtualBack hx (y := (⟨kT, "reported", "()Lcom/example/examwright/examwright/Method$Attempt;"⟩ : MethodName)) (z := (⟨kT, "reported", "()Lcom/example/examwright/examwright/Method$Attempt;"⟩ : MethodName)) hown (mvT hZ (wk hw 32 rfl)) (mvT hZ (wk hw 33 rfl)) (notFace_of_selects (args := #[]) (mvT hZ (wk hw 35 rfl))) (mvT hZ (wk hw 35 rfl)) (mvT hZ (wk hw 34 rfl)) (by decide) (backOf (W := 0) (rm61 l Z a0 hw [] b984 h984 n0 Z1003 q1005 q1006) hZ (wk hw 36 rfl) (wk hw 27 rfl) (by decide) (by decide)) iq1019a iq1019c (g := (mkF m 129 #[sJ j1, zS, sJ j2, zS, sJ j3, zS, sJ j4, zS, sJ j5, zS, sI i1, sI v4_2, sI v18_5, sI v32_8, sJ p3, zS, sR b10, sR b915, sR b946, sR b984, zU, zU, zU, zU, zU, zU] [(.ref b984)])) rfl (by rw [hml]; rfl) (Steps.refl _) (argsL := []) (rest := []) (lenOf pd_4 rfl) rfl (by show 2 * 0 + _ ≤ _; exact Nat.le_of_eq rfl) (hb hby at_129) (fun _ _ => ⟨rfl, eh1015, (by decide : 4 + 0 ≤ _), (by decide : 15 + 0 ≤ _)⟩)
      dsimp only [Pt.U, Pt.locs, Pt.cells, Pt.slots] at X1018 l1018 y1018 z1018 st1018 hQ1018
      subst l1018 y1018 z1018
      replace X1018 := own_cs X1018 (c' := 4) (s' := 15) (by decide) (by decide)
      obtain ⟨rfl, N1020, eh1021⟩ := hQ1018
      have N1022 := Fr.app Nx1017 N1020
      refine Go.via st1018 ?_
      obtain ⟨Lx1023, Xx1023, Nx1023⟩ := own_locs X1018 N1022
      show Go p e below Qo T1018 (mkF m 132 #[sJ j1, zS, sJ j2, zS, sJ j3, zS, sJ j4, zS, sJ j5, zS, sI i1, sI v4_2, sI v18_5, sI v32_8, sJ p3, zS, sR b10, sR b915, sR b946, sR b984, zU, zU, zU, zU, zU, zU] [.null])
      refine Go.of (fun t k => XS.ifnonnullNo Xx1023.here hx rfl (hb hby at_132) rfl k) ?_
      refine Go.of (fun t k => XS.iconst Xx1023.here hx rfl (hb hby at_135) k) ?_
      refine Go.of (fun t k => XS.goto Xx1023.here hx rfl (pc0 := 136) (pc' := 140) rfl (hb hby at_136) (by decide) (by decide) k) ?_
      refine Go.of (fun t k => XS.istore Xx1023.here hx rfl (hb hby at_140) rfl (l' := #[sJ j1, zS, sJ j2, zS, sJ j3, zS, sJ j4, zS, sJ j5, zS, sI i1, sI v4_2, sI v18_5, sI v32_8, sJ p3, zS, sR b10, sR b915, sR b946, sR b984, sI (1 : Int32), zU, zU, zU, zU, zU]) rfl k) ?_
      refine Go.of (fun t k => XS.aload Xx1023.here hx rfl (hb hby at_142) rfl rfl k) ?_
      show Go p e below Qo T1018 (mkF m 144 #[sJ j1, zS, sJ j2, zS, sJ j3, zS, sJ j4, zS, sJ j5, zS, sI i1, sI v4_2, sI v18_5, sI v32_8, sJ p3, zS, sR b10, sR b915, sR b946, sR b984, sI (1 : Int32), zU, zU, zU, zU, zU] [(.ref b984)])
      refine Go.of (fun t k => XS.lloadN Xx1023.here hx rfl (hb hby at_144) rfl  k) ?_
      refine Go.of (fun t k => XS.aload Xx1023.here hx rfl (hb hby at_145) rfl rfl k) ?_
      refine Go.of (fun t k => XS.lload Xx1023.here hx rfl (hb hby at_147) rfl  k) ?_
      obtain ⟨ciq1025, kiq1025, iq1025a, iq1025b, iq1025c⟩ := isOf hZ eh1021 A984
      obtain ⟨_, _, ⟨T1024, L1024, k1024, n1024⟩, -, X1024, ⟨Lc1024, hQ1024, l1024, y1024, z1024⟩, st1024⟩ := Xx1023.virtualBack hx (y := (⟨kT, "add", "(JLcom/example/examwright/examwright/Method$Attempt;J)V"⟩ : MethodName)) (z := (⟨kT, "add", "(JLcom/example/examwright/examwright/Method$Attempt;J)V"⟩ : MethodName)) hown (mvT hZ (wk hw 41 rfl)) (mvT hZ (wk hw 42 rfl)) (notFace_of_selects (args := #[]) (mvT hZ (wk hw 44 rfl))) (mvT hZ (wk hw 44 rfl)) (mvT hZ (wk hw 43 rfl)) (by decide) (own_backS (W := 0) (a := b984) (rm71 l Z a0 hw b984 j1 b10 j4 (0 : Int64) (0 : Int64) (0 : Int64) (0 : Int64) (0 : Int64) (0 : Int32) x890 h984 n0 Z1003 A984 q1004 q1006 q1007 q1005 q1008 q1009 q1010 q1011 q1012 q994 q995 g989 ne986) hZ (wk hw 45 rfl) (wk hw 43 rfl) (wk hw 27 rfl) q1004 (by decide) (by decide)) iq1025a iq1025c (g := (mkF m 149 #[sJ j1, zS, sJ j2, zS, sJ j3, zS, sJ j4, zS, sJ j5, zS, sI i1, sI v4_2, sI v18_5, sI v32_8, sJ p3, zS, sR b10, sR b915, sR b946, sR b984, sI (1 : Int32), zU, zU, zU, zU, zU] [(.long j4), (.ref b10), (.long j1), (.ref b984)])) rfl (by rw [hml]; rfl) (Steps.refl _) (argsL := [(.long j1), (.ref b10), (.long j4)]) (rest := []) (lenOf pd_5 rfl) rfl (by show 2 * 0 + _ ≤ _; exact Nat.le_of_eq rfl) (hb hby at_149) (fun _ _ => ⟨rfl, eh1021, (by decide : 4 + 0 ≤ _), (by decide : 15 + 0 ≤ _)⟩)
      dsimp only [Pt.U, Pt.locs, Pt.cells, Pt.slots] at X1024 l1024 y1024 z1024 st1024 hQ1024
      subst l1024 y1024 z1024
      replace X1024 := own_cs X1024 (c' := 4) (s' := 15) (by decide) (by decide)
      obtain ⟨x1027, x1028, x1029, rfl, N1026, Kc1030, q1031, q1032, q1033, q1034, q1035, q1036, q1037, q1038, q1039, q1040⟩ := hQ1024
      have N1041 := Fr.app Nx1023 N1026
      have q1042 := own_staKeep q990 Kc1030 (allS (own_plainE A984) all0)
      have q1043 := own_staKeep q991 Kc1030 (allS (own_plainE A984) all0)
      have q1044 := q992.keep Kc1030 (allS g989 all0)
      have q1045 := q993.keep Kc1030
      have q1046 := q994.keep Kc1030
      have q1047 := q995.keep Kc1030 (ninS ne986 nin0)
      have q1048 := q996.keep Kc1030 (ninS ne986 nin0)
      have q1049 := q997.keep Kc1030
      have q1050 := q998.keep Kc1030 (ninS ne987 nin0)
      have q1051 := q999.keep Kc1030 (ninS ne987 nin0)
      have q1052 := q1000.keep Kc1030
      have q1053 := q1001.keep Kc1030 (ninS ne988 nin0)
      have q1054 := q1002.keep Kc1030 (ninS ne988 nin0)
      have Z1055 : n0 ≤ T1024.heap.size := Nat.le_trans Z1003 Kc1030.1
      refine Go.via st1024 ?_
      obtain ⟨Lx1056, Xx1056, Nx1056⟩ := own_locs X1024 N1041
      show Go p e below Qo T1024 (mkF m 152 #[sJ j1, zS, sJ j2, zS, sJ j3, zS, sJ j4, zS, sJ j5, zS, sI i1, sI v4_2, sI v18_5, sI v32_8, sJ p3, zS, sR b10, sR b915, sR b946, sR b984, sI (1 : Int32), zU, zU, zU, zU, zU] [])
      refine Go.of (fun t k => XS.aload Xx1056.here hx rfl (hb hby at_152) rfl rfl k) ?_
      obtain ⟨ciq1058, kiq1058, iq1058a, iq1058b, iq1058c⟩ := isOf hZ rfl q1031
      obtain ⟨_, _, ⟨T1057, L1057, k1057, n1057⟩, -, X1057, ⟨Lc1057, hQ1057, l1057, y1057, z1057⟩, st1057⟩ := Xx1056.virtualBack hx (y := (⟨kT, "reported", "()Lcom/example/examwright/examwright/Method$Attempt;"⟩ : MethodName)) (z := (⟨kT, "reported", "()Lcom/example/examwright/examwright/Method$Attempt;"⟩ : MethodName)) hown (mvT hZ (wk hw 32 rfl)) (mvT hZ (wk hw 33 rfl)) (notFace_of_selects (args := #[]) (mvT hZ (wk hw 35 rfl))) (mvT hZ (wk hw 35 rfl)) (mvT hZ (wk hw 34 rfl)) (by decide) (backOf (W := 0) (rm63 l Z a0 hw [] b984 b10 T1024.heap n0 Z1055 q1035) hZ (wk hw 36 rfl) (wk hw 27 rfl) (by decide) (by decide)) iq1058a iq1058c (g := (mkF m 154 #[sJ j1, zS, sJ j2, zS, sJ j3, zS, sJ j4, zS, sJ j5, zS, sI i1, sI v4_2, sI v18_5, sI v32_8, sJ p3, zS, sR b10, sR b915, sR b946, sR b984, sI (1 : Int32), zU, zU, zU, zU, zU] [(.ref b984)])) rfl (by rw [hml]; rfl) (Steps.refl _) (argsL := []) (rest := []) (lenOf pd_4 rfl) rfl (by show 2 * 0 + _ ≤ _; exact Nat.le_of_eq rfl) (hb hby at_154) (fun _ _ => ⟨rfl, rfl, (by decide : 4 + 0 ≤ _), (by decide : 15 + 0 ≤ _)⟩)
      dsimp only [Pt.U, Pt.locs, Pt.cells, Pt.slots] at X1057 l1057 y1057 z1057 st1057 hQ1057
      subst l1057 y1057 z1057
      replace X1057 := own_cs X1057 (c' := 4) (s' := 15) (by decide) (by decide)
      obtain ⟨rfl, N1059, eh1060⟩ := hQ1057
      have N1061 := Fr.app Nx1056 N1059
      refine Go.via st1057 ?_
      obtain ⟨Lx1062, Xx1062, Nx1062⟩ := own_locs X1057 N1061
      show Go p e below Qo T1057 (mkF m 157 #[sJ j1, zS, sJ j2, zS, sJ j3, zS, sJ j4, zS, sJ j5, zS, sI i1, sI v4_2, sI v18_5, sI v32_8, sJ p3, zS, sR b10, sR b915, sR b946, sR b984, sI (1 : Int32), zU, zU, zU, zU, zU] [(.ref b10)])
      refine Go.of (fun t k => XS.aload Xx1062.here hx rfl (hb hby at_157) rfl rfl k) ?_
      refine Go.of (fun t k => Jvm.RoadKit.acmp (g := (mkF m 159 #[sJ j1, zS, sJ j2, zS, sJ j3, zS, sJ j4, zS, sJ j5, zS, sI i1, sI v4_2, sI v18_5, sI v32_8, sJ p3, zS, sR b10, sR b915, sR b946, sR b984, sI (1 : Int32), zU, zU, zU, zU, zU] [(.ref b10), (.ref b10)])) Xx1062 hx rfl rfl rfl (pc0 := 159) (pc' := 162) (same := true) rfl (hb hby at_159) rfl (decide_eq_true rfl) (by decide) (by decide) k) ?_
      refine Go.of (fun t k => XS.iconst Xx1062.here hx rfl (hb hby at_162) k) ?_
      refine Go.of (fun t k => XS.goto Xx1062.here hx rfl (pc0 := 163) (pc' := 167) rfl (hb hby at_163) (by decide) (by decide) k) ?_
      show Go p e below Qo T1057 (mkF m 167 #[sJ j1, zS, sJ j2, zS, sJ j3, zS, sJ j4, zS, sJ j5, zS, sI i1, sI v4_2, sI v18_5, sI v32_8, sJ p3, zS, sR b10, sR b915, sR b946, sR b984, sI (1 : Int32), zU, zU, zU, zU, zU] [(.int (1 : Int32))])
      refine Go.of (fun t k => XS.istore Xx1062.here hx rfl (hb hby at_167) rfl (l' := #[sJ j1, zS, sJ j2, zS, sJ j3, zS, sJ j4, zS, sJ j5, zS, sI i1, sI v4_2, sI v18_5, sI v32_8, sJ p3, zS, sR b10, sR b915, sR b946, sR b984, sI (1 : Int32), sI (1 : Int32), zU, zU, zU, zU]) rfl k) ?_
      refine Go.of (fun t k => XS.aload Xx1062.here hx rfl (hb hby at_169) rfl rfl k) ?_
      refine Go.of (fun t k => XS.lloadN Xx1062.here hx rfl (hb hby at_171) rfl  k) ?_
      refine Go.of (fun t k => XS.aload Xx1062.here hx rfl (hb hby at_172) rfl rfl k) ?_
      refine Go.of (fun t k => XS.lload Xx1062.here hx rfl (hb hby at_174) rfl  k) ?_
      obtain ⟨ciq1064, kiq1064, iq1064a, iq1064b, iq1064c⟩ := isOf hZ eh1060 q1031
      obtain ⟨_, _, ⟨T1063, L1063, k1063, n1063⟩, -, X1063, ⟨Lc1063, hQ1063, l1063, y1063, z1063⟩, st1063⟩ := Xx1062.virtualBack hx (y := (⟨kT, "add", "(JLcom/example/examwright/examwright/Method$Attempt;J)V"⟩ : MethodName)) (z := (⟨kT, "add", "(JLcom/example/examwright/examwright/Method$Attempt;J)V"⟩ : MethodName)) hown (mvT hZ (wk hw 41 rfl)) (mvT hZ (wk hw 42 rfl)) (notFace_of_selects (args := #[]) (mvT hZ (wk hw 44 rfl))) (mvT hZ (wk hw 44 rfl)) (mvT hZ (wk hw 43 rfl)) (by decide) (own_backS (W := 0) (a := b984) (rm76 l Z a0 hw b984 j2 b915 j5 b10 j1 b10 j1 j4 x1027 x1028 x1029 T1024.heap n0 Z1055 q1031 q1032 q1033 q1034 q1035 q1036 q1037 q1038 q1039 q1040 q1049 q1050 g989 ne987) hZ (wk hw 45 rfl) (wk hw 43 rfl) (wk hw 27 rfl) q1032 (by decide) (by decide)) iq1064a iq1064c (g := (mkF m 176 #[sJ j1, zS, sJ j2, zS, sJ j3, zS, sJ j4, zS, sJ j5, zS, sI i1, sI v4_2, sI v18_5, sI v32_8, sJ p3, zS, sR b10, sR b915, sR b946, sR b984, sI (1 : Int32), sI (1 : Int32), zU, zU, zU, zU] [(.long j5), (.ref b915), (.long j2), (.ref b984)])) rfl (by rw [hml]; rfl) (Steps.refl _) (argsL := [(.long j2), (.ref b915), (.long j5)]) (rest := []) (lenOf pd_5 rfl) rfl (by show 2 * 0 + _ ≤ _; exact Nat.le_of_eq rfl) (hb hby at_176) (fun _ _ => ⟨rfl, eh1060, (by decide : 4 + 0 ≤ _), (by decide : 15 + 0 ≤ _)⟩)
      dsimp only [Pt.U, Pt.locs, Pt.cells, Pt.slots] at X1063 l1063 y1063 z1063 st1063 hQ1063
      subst l1063 y1063 z1063
      replace X1063 := own_cs X1063 (c' := 4) (s' := 15) (by decide) (by decide)
      obtain ⟨x1066, x1067, x1068, rfl, N1065, Kc1069, q1070, q1071, q1072, q1073, q1074, q1075, q1076, q1077, q1078, q1079⟩ := hQ1063
      have N1080 := Fr.app Nx1062 N1065
      have q1081 := own_staKeep q1042 Kc1069 (allS (own_plainE q1031) all0)
      have q1082 := own_staKeep q1043 Kc1069 (allS (own_plainE q1031) all0)
      have q1083 := q1044.keep Kc1069 (allS g989 all0)
      have q1084 := q1045.keep Kc1069
      have q1085 := q1046.keep Kc1069
      have q1086 := q1047.keep Kc1069 (ninS ne986 nin0)
      have q1087 := q1048.keep Kc1069 (ninS ne986 nin0)
      have q1088 := q1049.keep Kc1069
      have q1089 := q1050.keep Kc1069 (ninS ne987 nin0)
      have q1090 := q1051.keep Kc1069 (ninS ne987 nin0)
      have q1091 := q1052.keep Kc1069
      have q1092 := q1053.keep Kc1069 (ninS ne988 nin0)
      have q1093 := q1054.keep Kc1069 (ninS ne988 nin0)
      have Z1094 : n0 ≤ T1063.heap.size := Nat.le_trans Z1055 Kc1069.1
      refine Go.via st1063 ?_
      obtain ⟨Lx1095, Xx1095, Nx1095⟩ := own_locs X1063 N1080
      show Go p e below Qo T1063 (mkF m 179 #[sJ j1, zS, sJ j2, zS, sJ j3, zS, sJ j4, zS, sJ j5, zS, sI i1, sI v4_2, sI v18_5, sI v32_8, sJ p3, zS, sR b10, sR b915, sR b946, sR b984, sI (1 : Int32), sI (1 : Int32), zU, zU, zU, zU] [])
      refine Go.of (fun t k => XS.aload Xx1095.here hx rfl (hb hby at_179) rfl rfl k) ?_
      refine Go.of (fun t k => XS.lload Xx1095.here hx rfl (hb hby at_181) rfl  k) ?_
      refine Go.of (fun t k => XS.aload Xx1095.here hx rfl (hb hby at_183) rfl rfl k) ?_
      show Go p e below Qo T1063 (mkF m 185 #[sJ j1, zS, sJ j2, zS, sJ j3, zS, sJ j4, zS, sJ j5, zS, sI i1, sI v4_2, sI v18_5, sI v32_8, sJ p3, zS, sR b10, sR b915, sR b946, sR b984, sI (1 : Int32), sI (1 : Int32), zU, zU, zU, zU] [(.ref b946), (.long j3), (.ref b984)])
      refine Go.of (fun t k => XS.lload Xx1095.here hx rfl (hb hby at_185) rfl  k) ?_
      obtain ⟨ciq1097, kiq1097, iq1097a, iq1097b, iq1097c⟩ := isOf hZ rfl q1070
      obtain ⟨_, _, ⟨T1096, L1096, k1096, n1096⟩, -, X1096, ⟨Lc1096, hQ1096, l1096, y1096, z1096⟩, st1096⟩ := Xx1095.virtualBack hx (y := (⟨kT, "add", "(JLcom/example/examwright/examwright/Method$Attempt;J)V"⟩ : MethodName)) (z := (⟨kT, "add", "(JLcom/example/examwright/examwright/Method$Attempt;J)V"⟩ : MethodName)) hown (mvT hZ (wk hw 41 rfl)) (mvT hZ (wk hw 42 rfl)) (notFace_of_selects (args := #[]) (mvT hZ (wk hw 44 rfl))) (mvT hZ (wk hw 44 rfl)) (mvT hZ (wk hw 43 rfl)) (by decide) (own_backS (W := 0) (a := b984) (rm76 l Z a0 hw b984 j3 b946 p3 (if j2 < j1 then b915 else b10) (if j2 < j1 then j2 else j1) b10 j1 j4 x1066 x1067 x1068 T1063.heap n0 Z1094 q1070 q1071 q1072 q1073 q1074 q1075 q1076 q1077 q1078 q1079 q1091 q1092 g989 ne988) hZ (wk hw 45 rfl) (wk hw 43 rfl) (wk hw 27 rfl) q1071 (by decide) (by decide)) iq1097a iq1097c (g := (mkF m 187 #[sJ j1, zS, sJ j2, zS, sJ j3, zS, sJ j4, zS, sJ j5, zS, sI i1, sI v4_2, sI v18_5, sI v32_8, sJ p3, zS, sR b10, sR b915, sR b946, sR b984, sI (1 : Int32), sI (1 : Int32), zU, zU, zU, zU] [(.long p3), (.ref b946), (.long j3), (.ref b984)])) rfl (by rw [hml]; rfl) (Steps.refl _) (argsL := [(.long j3), (.ref b946), (.long p3)]) (rest := []) (lenOf pd_5 rfl) rfl (by show 2 * 0 + _ ≤ _; exact Nat.le_of_eq rfl) (hb hby at_187) (fun _ _ => ⟨rfl, rfl, (by decide : 4 + 0 ≤ _), (by decide : 15 + 0 ≤ _)⟩)
      dsimp only [Pt.U, Pt.locs, Pt.cells, Pt.slots] at X1096 l1096 y1096 z1096 st1096 hQ1096
      subst l1096 y1096 z1096
      replace X1096 := own_cs X1096 (c' := 4) (s' := 15) (by decide) (by decide)
      obtain ⟨x1099, x1100, x1101, rfl, N1098, Kc1102, q1103, q1104, q1105, q1106, q1107, q1108, q1109, q1110, q1111, q1112⟩ := hQ1096
      have N1113 := Fr.app Nx1095 N1098
      have q1114 := own_staKeep q1081 Kc1102 (allS (own_plainE q1070) all0)
      have q1115 := own_staKeep q1082 Kc1102 (allS (own_plainE q1070) all0)
      have q1116 := q1083.keep Kc1102 (allS g989 all0)
      have q1117 := q1084.keep Kc1102
      have q1118 := q1085.keep Kc1102
      have q1119 := q1086.keep Kc1102 (ninS ne986 nin0)
      have q1120 := q1087.keep Kc1102 (ninS ne986 nin0)
      have q1121 := q1088.keep Kc1102
      have q1122 := q1089.keep Kc1102 (ninS ne987 nin0)
      have q1123 := q1090.keep Kc1102 (ninS ne987 nin0)
      have q1124 := q1091.keep Kc1102
      have q1125 := q1092.keep Kc1102 (ninS ne988 nin0)
      have q1126 := q1093.keep Kc1102 (ninS ne988 nin0)
      have Z1127 : n0 ≤ T1096.heap.size := Nat.le_trans Z1094 Kc1102.1
      refine Go.via st1096 ?_
      obtain ⟨Lx1128, Xx1128, Nx1128⟩ := own_locs X1096 N1113
      show Go p e below Qo T1096 (mkF m 190 #[sJ j1, zS, sJ j2, zS, sJ j3, zS, sJ j4, zS, sJ j5, zS, sI i1, sI v4_2, sI v18_5, sI v32_8, sJ p3, zS, sR b10, sR b915, sR b946, sR b984, sI (1 : Int32), sI (1 : Int32), zU, zU, zU, zU] [])
      refine Go.of (fun t k => XS.aload Xx1128.here hx rfl (hb hby at_190) rfl rfl k) ?_
      obtain ⟨ciq1130, kiq1130, iq1130a, iq1130b, iq1130c⟩ := isOf hZ rfl q1103
      obtain ⟨_, _, ⟨T1129, L1129, k1129, n1129⟩, -, X1129, ⟨Lc1129, hQ1129, l1129, y1129, z1129⟩, st1129⟩ := Xx1128.virtualBack hx (y := (⟨kT, "reported", "()Lcom/example/examwright/examwright/Method$Attempt;"⟩ : MethodName)) (z := (⟨kT, "reported", "()Lcom/example/examwright/examwright/Method$Attempt;"⟩ : MethodName)) hown (mvT hZ (wk hw 32 rfl)) (mvT hZ (wk hw 33 rfl)) (notFace_of_selects (args := #[]) (mvT hZ (wk hw 35 rfl))) (mvT hZ (wk hw 35 rfl)) (mvT hZ (wk hw 34 rfl)) (by decide) (backOf (W := 0) (rm63 l Z a0 hw [] b984 b10 T1096.heap n0 Z1127 q1107) hZ (wk hw 36 rfl) (wk hw 27 rfl) (by decide) (by decide)) iq1130a iq1130c (g := (mkF m 192 #[sJ j1, zS, sJ j2, zS, sJ j3, zS, sJ j4, zS, sJ j5, zS, sI i1, sI v4_2, sI v18_5, sI v32_8, sJ p3, zS, sR b10, sR b915, sR b946, sR b984, sI (1 : Int32), sI (1 : Int32), zU, zU, zU, zU] [(.ref b984)])) rfl (by rw [hml]; rfl) (Steps.refl _) (argsL := []) (rest := []) (lenOf pd_4 rfl) rfl (by show 2 * 0 + _ ≤ _; exact Nat.le_of_eq rfl) (hb hby at_192) (fun _ _ => ⟨rfl, rfl, (by decide : 4 + 0 ≤ _), (by decide : 15 + 0 ≤ _)⟩)
      dsimp only [Pt.U, Pt.locs, Pt.cells, Pt.slots] at X1129 l1129 y1129 z1129 st1129 hQ1129
      subst l1129 y1129 z1129
      replace X1129 := own_cs X1129 (c' := 4) (s' := 15) (by decide) (by decide)
      obtain ⟨rfl, N1131, eh1132⟩ := hQ1129
      have N1133 := Fr.app Nx1128 N1131
      refine Go.via st1129 ?_
      obtain ⟨Lx1134, Xx1134, Nx1134⟩ := own_locs X1129 N1133
      show Go p e below Qo T1129 (mkF m 195 #[sJ j1, zS, sJ j2, zS, sJ j3, zS, sJ j4, zS, sJ j5, zS, sI i1, sI v4_2, sI v18_5, sI v32_8, sJ p3, zS, sR b10, sR b915, sR b946, sR b984, sI (1 : Int32), sI (1 : Int32), zU, zU, zU, zU] [(.ref b10)])
      refine Go.of (fun t k => XS.astore Xx1134.here hx rfl (hb hby at_195) rfl rfl (l' := #[sJ j1, zS, sJ j2, zS, sJ j3, zS, sJ j4, zS, sJ j5, zS, sI i1, sI v4_2, sI v18_5, sI v32_8, sJ p3, zS, sR b10, sR b915, sR b946, sR b984, sI (1 : Int32), sI (1 : Int32), sR b10, zU, zU, zU]) rfl k) ?_
      refine Go.of (fun t k => XS.iload Xx1134.here hx rfl (hb hby at_197) rfl  k) ?_
      refine Go.of (fun t k => XS.ifYes Xx1134.here hx rfl (pc0 := 199) (pc' := 212) rfl (hb hby at_199) rfl ((if0 _ _).trans (feq hc55_18).2) (by decide) (by decide) k) ?_
      refine Go.of (fun t k => XS.iload Xx1134.here hx rfl (hb hby at_212) rfl  k) ?_
      refine Go.of (fun t k => XS.ifNo Xx1134.here hx rfl (hb hby at_214) rfl ((if0 _ _).trans (feq hc55_18).1) k) ?_
      refine Go.of (fun t k => XS.iload Xx1134.here hx rfl (hb hby at_217) rfl  k) ?_
      show Go p e below Qo T1129 (mkF m 219 #[sJ j1, zS, sJ j2, zS, sJ j3, zS, sJ j4, zS, sJ j5, zS, sI i1, sI v4_2, sI v18_5, sI v32_8, sJ p3, zS, sR b10, sR b915, sR b946, sR b984, sI (1 : Int32), sI (1 : Int32), sR b10, zU, zU, zU] [(.int v18_5)])
      refine Go.of (fun t k => XS.ifYes Xx1134.here hx rfl (pc0 := 219) (pc' := 234) rfl (hb hby at_219) rfl ((if0 _ _).trans (teq hc78_929).1) (by decide) (by decide) k) ?_
      refine Go.of (fun t k => XS.iload Xx1134.here hx rfl (hb hby at_234) rfl  k) ?_
      refine Go.of (fun t k => XS.ifYes Xx1134.here hx rfl (pc0 := 236) (pc' := 252) rfl (hb hby at_236) rfl ((if0 _ _).trans (teq hc101_964).1) (by decide) (by decide) k) ?_
      refine Go.of (fun t k => XS.iconst Xx1134.here hx rfl (hb hby at_252) k) ?_
      refine Go.of (fun t k => XS.goto Xx1134.here hx rfl (pc0 := 253) (pc' := 257) rfl (hb hby at_253) (by decide) (by decide) k) ?_
      refine Go.of (fun t k => XS.istore Xx1134.here hx rfl (hb hby at_257) rfl (l' := #[sJ j1, zS, sJ j2, zS, sJ j3, zS, sJ j4, zS, sJ j5, zS, sI i1, sI v4_2, sI v18_5, sI v32_8, sJ p3, zS, sR b10, sR b915, sR b946, sR b984, sI (1 : Int32), sI (1 : Int32), sR b10, zU, sI (1 : Int32), zU]) rfl k) ?_
      refine Go.of (fun t k => XS.iload Xx1134.here hx rfl (hb hby at_259) rfl  k) ?_
      refine Go.of (fun t k => XS.ifYes Xx1134.here hx rfl (pc0 := 261) (pc' := 303) rfl (hb hby at_261) rfl ((if0 _ _).trans (teq hc78_929).1) (by decide) (by decide) k) ?_
      show Go p e below Qo T1129 (mkF m 303 #[sJ j1, zS, sJ j2, zS, sJ j3, zS, sJ j4, zS, sJ j5, zS, sI i1, sI v4_2, sI v18_5, sI v32_8, sJ p3, zS, sR b10, sR b915, sR b946, sR b984, sI (1 : Int32), sI (1 : Int32), sR b10, zU, sI (1 : Int32), zU] [])
      refine Go.of (fun t k => XS.iconst Xx1134.here hx rfl (hb hby at_303) k) ?_
      refine Go.of (fun t k => XS.istore Xx1134.here hx rfl (hb hby at_304) rfl (l' := #[sJ j1, zS, sJ j2, zS, sJ j3, zS, sJ j4, zS, sJ j5, zS, sI i1, sI v4_2, sI v18_5, sI v32_8, sJ p3, zS, sR b10, sR b915, sR b946, sR b984, sI (1 : Int32), sI (1 : Int32), sR b10, zU, sI (1 : Int32), sI (0 : Int32)]) rfl k) ?_
      refine Go.of (fun t k => XS.iload Xx1134.here hx rfl (hb hby at_306) rfl  k) ?_
      refine Go.of (fun t k => XS.ifNo Xx1134.here hx rfl (hb hby at_308) rfl ((if0 _ _).trans (feq (by decide : ¬ ((1 : Int32) = (0 : Int32)))).1) k) ?_
      refine Go.of (fun t k => XS.aload Xx1134.here hx rfl (hb hby at_311) rfl rfl k) ?_
      refine Go.of (fun t k => XS.goto Xx1134.here hx rfl (pc0 := 313) (pc' := 328) rfl (hb hby at_313) (by decide) (by decide) k) ?_
      refine Go.of (fun t k => XS.astore Xx1134.here hx rfl (hb hby at_328) rfl rfl (l' := #[sJ j1, zS, sJ j2, zS, sJ j3, zS, sJ j4, zS, sJ j5, zS, sI i1, sI v4_2, sI v18_5, sI v32_8, sJ p3, zS, sR b10, sR b915, sR b946, sR b984, sI (1 : Int32), sI (1 : Int32), sR b10, sR b10, sI (1 : Int32), sI (0 : Int32)]) rfl k) ?_
      refine Go.of (fun t k => XS.goto Xx1134.here hx rfl (pc0 := 330) (pc' := 397) rfl (hb hby at_330) (by decide) (by decide) k) ?_
      show Go p e below Qo T1129 (mkF m 397 #[sJ j1, zS, sJ j2, zS, sJ j3, zS, sJ j4, zS, sJ j5, zS, sI i1, sI v4_2, sI v18_5, sI v32_8, sJ p3, zS, sR b10, sR b915, sR b946, sR b984, sI (1 : Int32), sI (1 : Int32), sR b10, sR b10, sI (1 : Int32), sI (0 : Int32)] [])
      refine Go.of (fun t k => XS.iload Xx1134.here hx rfl (hb hby at_397) rfl  k) ?_
      refine Go.of (fun t k => XS.ifNo Xx1134.here hx rfl (hb hby at_399) rfl ((if0 _ _).trans (feq (by decide : ¬ ((1 : Int32) = (0 : Int32)))).1) k) ?_
      refine Go.of (fun t k => XS.iload Xx1134.here hx rfl (hb hby at_402) rfl  k) ?_
      refine Go.of (fun t k => XS.ifNo Xx1134.here hx rfl (hb hby at_404) rfl ((if0 _ _).trans (feq (by decide : ¬ ((1 : Int32) = (0 : Int32)))).1) k) ?_
      refine Go.of (fun t k => XS.aload Xx1134.here hx rfl (hb hby at_407) rfl rfl k) ?_
      refine Go.of (fun t k => XS.aload Xx1134.here hx rfl (hb hby at_409) rfl rfl k) ?_
      refine Go.of (fun t k => Jvm.RoadKit.acmp (g := (mkF m 411 #[sJ j1, zS, sJ j2, zS, sJ j3, zS, sJ j4, zS, sJ j5, zS, sI i1, sI v4_2, sI v18_5, sI v32_8, sJ p3, zS, sR b10, sR b915, sR b946, sR b984, sI (1 : Int32), sI (1 : Int32), sR b10, sR b10, sI (1 : Int32), sI (0 : Int32)] [(.ref b10), (.ref b10)])) Xx1134 hx rfl rfl rfl (pc0 := 411) (pc' := 414) (same := true) rfl (hb hby at_411) rfl (decide_eq_true rfl) (by decide) (by decide) k) ?_
      refine Go.of (fun t k => XS.iconst Xx1134.here hx rfl (hb hby at_414) k) ?_
      show Go p e below Qo T1129 (mkF m 415 #[sJ j1, zS, sJ j2, zS, sJ j3, zS, sJ j4, zS, sJ j5, zS, sI i1, sI v4_2, sI v18_5, sI v32_8, sJ p3, zS, sR b10, sR b915, sR b946, sR b984, sI (1 : Int32), sI (1 : Int32), sR b10, sR b10, sI (1 : Int32), sI (0 : Int32)] [(.int (1 : Int32))])
      refine Go.of (fun t k => XS.goto Xx1134.here hx rfl (pc0 := 415) (pc' := 419) rfl (hb hby at_415) (by decide) (by decide) k) ?_
      exact own_retN Xx1134 hx Bd.notSynchronized (t := .boolean) Bd.returns (by simp) (hb hby at_419) (fun u hu hF => hQo _ _ _ ⟨rfl, Nx1134⟩ (own_mono hF (by decide) (by decide)))
    refine Go.of (fun t k => XS.ifNo X946.here hx rfl (hb hby at_101) rfl ((if0 _ _).trans (feq hc101_964).1) k) ?_
    refine Go.of (fun t k => XS.iconst X946.here hx rfl (hb hby at_104) k) ?_
    obtain ⟨_, _, ⟨T1135, L1135, k1135, n1135⟩, -, X1135, ⟨Lc1135, hQ1135, l1135, y1135, z1135⟩, st1135⟩ := Jvm.LawKit.callS X946 hx (y := (⟨"java/lang/Integer", "valueOf", "(I)Ljava/lang/Integer;"⟩ : MethodName)) hown (mvT hZ (wk hw 18 rfl)) (mvT hZ (wk hw 19 rfl)) (mvT hZ (wk hw 20 rfl)) (mvT hZ (wk hw 21 rfl)) (by decide) (backOf (W := 2) (rm43 l Z a0 hw [] (3 : Int32) rc h946 n0 Z961 q951 q952 q953 (hC) (rfl)) hZ (wk hw 21 rfl) (wk hw 20 rfl) (by decide) (by decide)) (g := (mkF m 105 #[sJ j1, zS, sJ j2, zS, sJ j3, zS, sJ j4, zS, sJ j5, zS, sI i1, sI v4_2, sI v18_5, sI v32_8, sJ p3, zS, sR b10, sR b915, zU, zU, zU, zU, zU, zU, zU, zU] [(.int (3 : Int32)), (.ref b946), (.ref b946)])) rfl (by rw [hml]; rfl) (argsL := [(.int (3 : Int32))]) (rest := [(.ref b946), (.ref b946)]) (lenOf pd_6 rfl) rfl (by show 2 * 0 + _ ≤ _; exact Nat.le_of_eq rfl) (hb hby at_105) (fun _ _ => ⟨rfl, e946, (by decide : 3 + 0 ≤ _), (by decide : 6 + 0 ≤ _)⟩)
    dsimp only [Pt.U, Pt.locs, Pt.cells, Pt.slots] at X1135 l1135 y1135 z1135 st1135 hQ1135
    subst l1135 y1135 z1135
    replace X1135 := own_cs X1135 (c' := 3) (s' := 6) (by decide) (by decide)
    obtain ⟨x1137, rfl, N1136, Kc1138, q1139⟩ := hQ1135
    have N1140 := Fr.app Nx945 N1136
    have q1141 := own_staKeep q951 Kc1138 all0
    have q1142 := own_staKeep q952 Kc1138 all0
    have q1143 := q953.keep Kc1138 all0
    have q1144 := q954.keep Kc1138
    have q1145 := q955.keep Kc1138
    have q1146 := q956.keep Kc1138 nin0
    have q1147 := q957.keep Kc1138 nin0
    have q1148 := q958.keep Kc1138
    have q1149 := q959.keep Kc1138 nin0
    have q1150 := q960.keep Kc1138 nin0
    have q1151 := A946.keep Kc1138
    have q1152 := q962.keep Kc1138 nin0
    have q1153 := q963.keep Kc1138 nin0
    have Z1154 : n0 ≤ T1135.heap.size := Nat.le_trans Z961 Kc1138.1
    refine Go.of st1135 ?_
    obtain ⟨Lx1155, Xx1155, Nx1155⟩ := own_locs X1135 N1140
    show Go p e below Qo T1135 (mkF m 108 #[sJ j1, zS, sJ j2, zS, sJ j3, zS, sJ j4, zS, sJ j5, zS, sI i1, sI v4_2, sI v18_5, sI v32_8, sJ p3, zS, sR b10, sR b915, zU, zU, zU, zU, zU, zU, zU, zU] [(.ref x1137), (.ref b946), (.ref b946)])
    refine Go.of (fun t k => XS.goto Xx1155.here hx rfl (pc0 := 108) (pc' := 112) rfl (hb hby at_108) (by decide) (by decide) k) ?_
    refine Go.of (fun t k => XS.aconstNull Xx1155.here hx rfl (hb hby at_112) k) ?_
    obtain ⟨_, _, ⟨T1156, L1156, k1156, n1156⟩, -, X1156, ⟨Lc1156, hQ1156, l1156, y1156, z1156⟩, st1156⟩ := Xx1155.specialBack hx (y := (⟨kA, "<init>", "(Ljava/lang/Object;Ljava/util/List;)V"⟩ : MethodName)) rfl hown (mvT hZ (wk hw 3 rfl)) (mvT hZ (wk hw 4 rfl)) (mvT hZ (wk hw 5 rfl)) (by decide) (backOf (W := 1) (rm1 l Z a0 hw [] b946 (.ref x1137) .null .null .null T1135.heap n0 Z1154 q1151 q1152 q1153 g950 rfl rfl) hZ (wk hw 5 rfl) (wk hw 2 rfl) (by decide) (by decide)) (g := (mkF m 113 #[sJ j1, zS, sJ j2, zS, sJ j3, zS, sJ j4, zS, sJ j5, zS, sI i1, sI v4_2, sI v18_5, sI v32_8, sJ p3, zS, sR b10, sR b915, zU, zU, zU, zU, zU, zU, zU, zU] [.null, (.ref x1137), (.ref b946), (.ref b946)])) rfl (by rw [hml]; rfl) (Steps.refl _) (a := b946) (argsL := [(.ref x1137), .null]) (rest := [(.ref b946)]) (lenOf pd_3 rfl) rfl (by show 2 * 0 + _ ≤ _; exact Nat.le_of_eq rfl) (hb hby at_113) (fun _ _ => ⟨rfl, rfl, (by decide : 3 + 0 ≤ _), (by decide : 6 + 0 ≤ _)⟩)
    dsimp only [Pt.U, Pt.locs, Pt.cells, Pt.slots] at X1156 l1156 y1156 z1156 st1156 hQ1156
    subst l1156 y1156 z1156
    replace X1156 := own_cs X1156 (c' := 3) (s' := 6) (by decide) (by decide)
    obtain ⟨rfl, N1157, Kc1158, q1159, q1160, q1161⟩ := hQ1156
    have N1162 := Fr.app Nx1155 N1157
    have q1163 := own_staKeep q1141 Kc1158 (allS (own_plainE q1151) all0)
    have q1164 := own_staKeep q1142 Kc1158 (allS (own_plainE q1151) all0)
    have q1165 := q1143.keep Kc1158 (allS g950 all0)
    have q1166 := q1144.keep Kc1158
    have q1167 := q1145.keep Kc1158
    have q1168 := q1146.keep Kc1158 (ninS ne948 nin0)
    have q1169 := q1147.keep Kc1158 (ninS ne948 nin0)
    have q1170 := q1148.keep Kc1158
    have q1171 := q1149.keep Kc1158 (ninS ne949 nin0)
    have q1172 := q1150.keep Kc1158 (ninS ne949 nin0)
    have q1173 := q1139.keep Kc1158
    have Z1174 : n0 ≤ T1156.heap.size := Nat.le_trans Z1154 Kc1158.1
    refine Go.via st1156 ?_
    obtain ⟨Lx1175, Xx1175, Nx1175⟩ := own_locs X1156 N1162
    show Go p e below Qo T1156 (mkF m 116 #[sJ j1, zS, sJ j2, zS, sJ j3, zS, sJ j4, zS, sJ j5, zS, sI i1, sI v4_2, sI v18_5, sI v32_8, sJ p3, zS, sR b10, sR b915, zU, zU, zU, zU, zU, zU, zU, zU] [(.ref b946)])
    refine Go.of (fun t k => XS.astore Xx1175.here hx rfl (hb hby at_116) rfl rfl (l' := #[sJ j1, zS, sJ j2, zS, sJ j3, zS, sJ j4, zS, sJ j5, zS, sI i1, sI v4_2, sI v18_5, sI v32_8, sJ p3, zS, sR b10, sR b915, sR b946, zU, zU, zU, zU, zU, zU, zU]) rfl k) ?_
    obtain ⟨T1176, h1176, X1176, e1176, E1176, A1176, D1176, Um1176, st1176⟩ := newO Xx1175 hx hZ hown (wk hw 25 rfl) (wk hw 26 rfl) (wk hw 27 rfl) rfl (g := (mkF m 118 #[sJ j1, zS, sJ j2, zS, sJ j3, zS, sJ j4, zS, sJ j5, zS, sI i1, sI v4_2, sI v18_5, sI v32_8, sJ p3, zS, sR b10, sR b915, sR b946, zU, zU, zU, zU, zU, zU, zU] [])) rfl (hb hby at_118) (by decide) (by decide)
    obtain ⟨b1176, g1176⟩ : ∃ z, z = T1156.heap.size := ⟨_, rfl⟩
    rw [← g1176] at A1176 D1176 Um1176 st1176
    have ne1177 : x890 ≠ b1176 := Nat.ne_of_lt (Nat.lt_of_lt_of_le q1166.lt (Nat.le_of_eq g1176.symm))
    have ne1178 : b10 ≠ b1176 := Nat.ne_of_lt (Nat.lt_of_lt_of_le q1167.lt (Nat.le_of_eq g1176.symm))
    have ne1179 : b915 ≠ b1176 := Nat.ne_of_lt (Nat.lt_of_lt_of_le q1170.lt (Nat.le_of_eq g1176.symm))
    have ne1180 : x1137 ≠ b1176 := Nat.ne_of_lt (Nat.lt_of_lt_of_le q1173.lt (Nat.le_of_eq g1176.symm))
    have ne1181 : b946 ≠ b1176 := Nat.ne_of_lt (Nat.lt_of_lt_of_le q1159.lt (Nat.le_of_eq g1176.symm))
    have g1182 : n0 ≤ b1176 := Nat.le_trans Z1174 (Nat.le_of_eq g1176.symm)
    have q1183 := q1163.ext E1176
    have q1184 := q1164.ext E1176
    have q1185 := q1165.ext E1176
    have q1186 := q1166.ext E1176
    have q1187 := q1167.ext E1176
    have q1188 := q1168.ext E1176
    have q1189 := q1169.ext E1176
    have q1190 := q1170.ext E1176
    have q1191 := q1171.ext E1176
    have q1192 := q1172.ext E1176
    have q1193 := q1173.ext E1176
    have q1194 := q1159.ext E1176
    have q1195 := q1160.ext E1176
    have q1196 := q1161.ext E1176
    have Z1197 : n0 ≤ h1176.size := Nat.le_trans Z1174 E1176.1
    replace X1176 := own_cs X1176 (c' := 4) (s' := 15) (by decide) (by decide)
    have q1198 : own_mon h1176 b1176 := by obtain ⟨cl, u1, -, u3⟩ := Um1176; exact ⟨cl, u1, u3⟩
    have q1199 : Fld Z h1176 b1176 kT "best" kD .null := D1176 (Or.inl (wk hw 38 rfl)) (ty := (.object kA)) (by decide)
    have q1200 : Fld Z h1176 b1176 kT "first" kD .null := D1176 (Or.inl (wk hw 40 rfl)) (ty := (.object kA)) (by decide)
    have q1201 : Fld Z h1176 b1176 kT "firstSeed" "J" (.long (0 : Int64)) := D1176 (Or.inl (wk hw 47 rfl)) (ty := .long) (by decide)
    have q1202 : Fld Z h1176 b1176 kT "bestSeed" "J" (.long (0 : Int64)) := D1176 (Or.inl (wk hw 54 rfl)) (ty := .long) (by decide)
    have q1203 : Fld Z h1176 b1176 kT "bestPenalty" "J" (.long (0 : Int64)) := D1176 (Or.inl (wk hw 56 rfl)) (ty := .long) (by decide)
    have q1204 : Fld Z h1176 b1176 kT "worstPenalty" "J" (.long (0 : Int64)) := D1176 (Or.inl (wk hw 58 rfl)) (ty := .long) (by decide)
    have q1205 : Fld Z h1176 b1176 kT "penaltySum" "J" (.long (0 : Int64)) := D1176 (Or.inl (wk hw 64 rfl)) (ty := .long) (by decide)
    have q1206 : Fld Z h1176 b1176 kT "feasibleRuns" "I" (.int (0 : Int32)) := D1176 (Or.inl (wk hw 66 rfl)) (ty := .int) (by decide)
    refine Go.of st1176 ?_
    show Go p e below Qo T1176 (mkF m 121 #[sJ j1, zS, sJ j2, zS, sJ j3, zS, sJ j4, zS, sJ j5, zS, sI i1, sI v4_2, sI v18_5, sI v32_8, sJ p3, zS, sR b10, sR b915, sR b946, zU, zU, zU, zU, zU, zU, zU] [(.ref b1176)])
    refine Go.of (fun t k => XS.dup X1176.here hx rfl (hb hby at_121) rfl rfl k) ?_
    obtain ⟨_, _, ⟨T1207, L1207, k1207, n1207⟩, -, X1207, ⟨Lc1207, hQ1207, l1207, y1207, z1207⟩, st1207⟩ := X1176.specialBack hx (y := (⟨kT, "<init>", "()V"⟩ : MethodName)) rfl hown (mvT hZ (wk hw 28 rfl)) (mvT hZ (wk hw 29 rfl)) (mvT hZ (wk hw 30 rfl)) (by decide) (backOf (W := 1) (rm5 l Z a0 hw [] b1176 h1176 n0 Z1197 ) hZ (wk hw 30 rfl) (wk hw 27 rfl) (by decide) (by decide)) (g := (mkF m 122 #[sJ j1, zS, sJ j2, zS, sJ j3, zS, sJ j4, zS, sJ j5, zS, sI i1, sI v4_2, sI v18_5, sI v32_8, sJ p3, zS, sR b10, sR b915, sR b946, zU, zU, zU, zU, zU, zU, zU] [(.ref b1176), (.ref b1176)])) rfl (by rw [hml]; rfl) (Steps.refl _) (a := b1176) (argsL := []) (rest := [(.ref b1176)]) (lenOf pd_0 rfl) rfl (by show 2 * 0 + _ ≤ _; exact Nat.le_of_eq rfl) (hb hby at_122) (fun _ _ => ⟨rfl, e1176, (by decide : 4 + 0 ≤ _), (by decide : 15 + 0 ≤ _)⟩)
    dsimp only [Pt.U, Pt.locs, Pt.cells, Pt.slots] at X1207 l1207 y1207 z1207 st1207 hQ1207
    subst l1207 y1207 z1207
    replace X1207 := own_cs X1207 (c' := 4) (s' := 15) (by decide) (by decide)
    obtain ⟨rfl, N1208, eh1209⟩ := hQ1207
    have N1210 := Fr.app Nx1175 N1208
    refine Go.via st1207 ?_
    obtain ⟨Lx1211, Xx1211, Nx1211⟩ := own_locs X1207 N1210
    show Go p e below Qo T1207 (mkF m 125 #[sJ j1, zS, sJ j2, zS, sJ j3, zS, sJ j4, zS, sJ j5, zS, sI i1, sI v4_2, sI v18_5, sI v32_8, sJ p3, zS, sR b10, sR b915, sR b946, zU, zU, zU, zU, zU, zU, zU] [(.ref b1176)])
    refine Go.of (fun t k => XS.astore Xx1211.here hx rfl (hb hby at_125) rfl rfl (l' := #[sJ j1, zS, sJ j2, zS, sJ j3, zS, sJ j4, zS, sJ j5, zS, sI i1, sI v4_2, sI v18_5, sI v32_8, sJ p3, zS, sR b10, sR b915, sR b946, sR b1176, zU, zU, zU, zU, zU, zU]) rfl k) ?_
    show Go p e below Qo T1207 (mkF m 127 #[sJ j1, zS, sJ j2, zS, sJ j3, zS, sJ j4, zS, sJ j5, zS, sI i1, sI v4_2, sI v18_5, sI v32_8, sJ p3, zS, sR b10, sR b915, sR b946, sR b1176, zU, zU, zU, zU, zU, zU] [])
    refine Go.of (fun t k => XS.aload Xx1211.here hx rfl (hb hby at_127) rfl rfl k) ?_
    obtain ⟨ciq1213, kiq1213, iq1213a, iq1213b, iq1213c⟩ := isOf hZ eh1209 A1176
    obtain ⟨_, _, ⟨T1212, L1212, k1212, n1212⟩, -, X1212, ⟨Lc1212, hQ1212, l1212, y1212, z1212⟩, st1212⟩ := Xx1211.virtualBack hx (y := (⟨kT, "reported", "()Lcom/example/examwright/examwright/Method$Attempt;"⟩ : MethodName)) (z := (⟨kT, "reported", "()Lcom/example/examwright/examwright/Method$Attempt;"⟩ : MethodName)) hown (mvT hZ (wk hw 32 rfl)) (mvT hZ (wk hw 33 rfl)) (notFace_of_selects (args := #[]) (mvT hZ (wk hw 35 rfl))) (mvT hZ (wk hw 35 rfl)) (mvT hZ (wk hw 34 rfl)) (by decide) (backOf (W := 0) (rm61 l Z a0 hw [] b1176 h1176 n0 Z1197 q1199 q1200) hZ (wk hw 36 rfl) (wk hw 27 rfl) (by decide) (by decide)) iq1213a iq1213c (g := (mkF m 129 #[sJ j1, zS, sJ j2, zS, sJ j3, zS, sJ j4, zS, sJ j5, zS, sI i1, sI v4_2, sI v18_5, sI v32_8, sJ p3, zS, sR b10, sR b915, sR b946, sR b1176, zU, zU, zU, zU, zU, zU] [(.ref b1176)])) rfl (by rw [hml]; rfl) (Steps.refl _) (argsL := []) (rest := []) (lenOf pd_4 rfl) rfl (by show 2 * 0 + _ ≤ _; exact Nat.le_of_eq rfl) (hb hby at_129) (fun _ _ => ⟨rfl, eh1209, (by decide : 4 + 0 ≤ _), (by decide : 15 + 0 ≤ _)⟩)
    dsimp only [Pt.U, Pt.locs, Pt.cells, Pt.slots] at X1212 l1212 y1212 z1212 st1212 hQ1212
    subst l1212 y1212 z1212
    replace X1212 := own_cs X1212 (c' := 4) (s' := 15) (by decide) (by decide)
    obtain ⟨rfl, N1214, eh1215⟩ := hQ1212
    have N1216 := Fr.app Nx1211 N1214
    refine Go.via st1212 ?_
    obtain ⟨Lx1217, Xx1217, Nx1217⟩ := own_locs X1212 N1216
    show Go p e below Qo T1212 (mkF m 132 #[sJ j1, zS, sJ j2, zS, sJ j3, zS, sJ j4, zS, sJ j5, zS, sI i1, sI v4_2, sI v18_5, sI v32_8, sJ p3, zS, sR b10, sR b915, sR b946, sR b1176, zU, zU, zU, zU, zU, zU] [.null])
    refine Go.of (fun t k => XS.ifnonnullNo Xx1217.here hx rfl (hb hby at_132) rfl k) ?_
    refine Go.of (fun t k => XS.iconst Xx1217.here hx rfl (hb hby at_135) k) ?_
    refine Go.of (fun t k => XS.goto Xx1217.here hx rfl (pc0 := 136) (pc' := 140) rfl (hb hby at_136) (by decide) (by decide) k) ?_
    refine Go.of (fun t k => XS.istore Xx1217.here hx rfl (hb hby at_140) rfl (l' := #[sJ j1, zS, sJ j2, zS, sJ j3, zS, sJ j4, zS, sJ j5, zS, sI i1, sI v4_2, sI v18_5, sI v32_8, sJ p3, zS, sR b10, sR b915, sR b946, sR b1176, sI (1 : Int32), zU, zU, zU, zU, zU]) rfl k) ?_
    refine Go.of (fun t k => XS.aload Xx1217.here hx rfl (hb hby at_142) rfl rfl k) ?_
    refine Go.of (fun t k => XS.lloadN Xx1217.here hx rfl (hb hby at_144) rfl  k) ?_
    refine Go.of (fun t k => XS.aload Xx1217.here hx rfl (hb hby at_145) rfl rfl k) ?_
    show Go p e below Qo T1212 (mkF m 147 #[sJ j1, zS, sJ j2, zS, sJ j3, zS, sJ j4, zS, sJ j5, zS, sI i1, sI v4_2, sI v18_5, sI v32_8, sJ p3, zS, sR b10, sR b915, sR b946, sR b1176, sI (1 : Int32), zU, zU, zU, zU, zU] [(.ref b10), (.long j1), (.ref b1176)])
    refine Go.of (fun t k => XS.lload Xx1217.here hx rfl (hb hby at_147) rfl  k) ?_
    obtain ⟨ciq1219, kiq1219, iq1219a, iq1219b, iq1219c⟩ := isOf hZ eh1215 A1176
    obtain ⟨_, _, ⟨T1218, L1218, k1218, n1218⟩, -, X1218, ⟨Lc1218, hQ1218, l1218, y1218, z1218⟩, st1218⟩ := Xx1217.virtualBack hx (y := (⟨kT, "add", "(JLcom/example/examwright/examwright/Method$Attempt;J)V"⟩ : MethodName)) (z := (⟨kT, "add", "(JLcom/example/examwright/examwright/Method$Attempt;J)V"⟩ : MethodName)) hown (mvT hZ (wk hw 41 rfl)) (mvT hZ (wk hw 42 rfl)) (notFace_of_selects (args := #[]) (mvT hZ (wk hw 44 rfl))) (mvT hZ (wk hw 44 rfl)) (mvT hZ (wk hw 43 rfl)) (by decide) (own_backS (W := 0) (a := b1176) (rm71 l Z a0 hw b1176 j1 b10 j4 (0 : Int64) (0 : Int64) (0 : Int64) (0 : Int64) (0 : Int64) (0 : Int32) x890 h1176 n0 Z1197 A1176 q1198 q1200 q1201 q1199 q1202 q1203 q1204 q1205 q1206 q1187 q1188 g1182 ne1178) hZ (wk hw 45 rfl) (wk hw 43 rfl) (wk hw 27 rfl) q1198 (by decide) (by decide)) iq1219a iq1219c (g := (mkF m 149 #[sJ j1, zS, sJ j2, zS, sJ j3, zS, sJ j4, zS, sJ j5, zS, sI i1, sI v4_2, sI v18_5, sI v32_8, sJ p3, zS, sR b10, sR b915, sR b946, sR b1176, sI (1 : Int32), zU, zU, zU, zU, zU] [(.long j4), (.ref b10), (.long j1), (.ref b1176)])) rfl (by rw [hml]; rfl) (Steps.refl _) (argsL := [(.long j1), (.ref b10), (.long j4)]) (rest := []) (lenOf pd_5 rfl) rfl (by show 2 * 0 + _ ≤ _; exact Nat.le_of_eq rfl) (hb hby at_149) (fun _ _ => ⟨rfl, eh1215, (by decide : 4 + 0 ≤ _), (by decide : 15 + 0 ≤ _)⟩)
    dsimp only [Pt.U, Pt.locs, Pt.cells, Pt.slots] at X1218 l1218 y1218 z1218 st1218 hQ1218
    subst l1218 y1218 z1218
    replace X1218 := own_cs X1218 (c' := 4) (s' := 15) (by decide) (by decide)
    obtain ⟨x1221, x1222, x1223, rfl, N1220, Kc1224, q1225, q1226, q1227, q1228, q1229, q1230, q1231, q1232, q1233, q1234⟩ := hQ1218
    have N1235 := Fr.app Nx1217 N1220
    have q1236 := own_staKeep q1183 Kc1224 (allS (own_plainE A1176) all0)
    have q1237 := own_staKeep q1184 Kc1224 (allS (own_plainE A1176) all0)
    have q1238 := q1185.keep Kc1224 (allS g1182 all0)
    have q1239 := q1186.keep Kc1224
    have q1240 := q1187.keep Kc1224
    have q1241 := q1188.keep Kc1224 (ninS ne1178 nin0)
    have q1242 := q1189.keep Kc1224 (ninS ne1178 nin0)
    have q1243 := q1190.keep Kc1224
    have q1244 := q1191.keep Kc1224 (ninS ne1179 nin0)
    have q1245 := q1192.keep Kc1224 (ninS ne1179 nin0)
    have q1246 := q1193.keep Kc1224
    have q1247 := q1194.keep Kc1224
    have q1248 := q1195.keep Kc1224 (ninS ne1181 nin0)
    have q1249 := q1196.keep Kc1224 (ninS ne1181 nin0)
    have Z1250 : n0 ≤ T1218.heap.size := Nat.le_trans Z1197 Kc1224.1
    refine Go.via st1218 ?_
    obtain ⟨Lx1251, Xx1251, Nx1251⟩ := own_locs X1218 N1235
    show Go p e below Qo T1218 (mkF m 152 #[sJ j1, zS, sJ j2, zS, sJ j3, zS, sJ j4, zS, sJ j5, zS, sI i1, sI v4_2, sI v18_5, sI v32_8, sJ p3, zS, sR b10, sR b915, sR b946, sR b1176, sI (1 : Int32), zU, zU, zU, zU, zU] [])
    refine Go.of (fun t k => XS.aload Xx1251.here hx rfl (hb hby at_152) rfl rfl k) ?_
    obtain ⟨ciq1253, kiq1253, iq1253a, iq1253b, iq1253c⟩ := isOf hZ rfl q1225
    obtain ⟨_, _, ⟨T1252, L1252, k1252, n1252⟩, -, X1252, ⟨Lc1252, hQ1252, l1252, y1252, z1252⟩, st1252⟩ := Xx1251.virtualBack hx (y := (⟨kT, "reported", "()Lcom/example/examwright/examwright/Method$Attempt;"⟩ : MethodName)) (z := (⟨kT, "reported", "()Lcom/example/examwright/examwright/Method$Attempt;"⟩ : MethodName)) hown (mvT hZ (wk hw 32 rfl)) (mvT hZ (wk hw 33 rfl)) (notFace_of_selects (args := #[]) (mvT hZ (wk hw 35 rfl))) (mvT hZ (wk hw 35 rfl)) (mvT hZ (wk hw 34 rfl)) (by decide) (backOf (W := 0) (rm63 l Z a0 hw [] b1176 b10 T1218.heap n0 Z1250 q1229) hZ (wk hw 36 rfl) (wk hw 27 rfl) (by decide) (by decide)) iq1253a iq1253c (g := (mkF m 154 #[sJ j1, zS, sJ j2, zS, sJ j3, zS, sJ j4, zS, sJ j5, zS, sI i1, sI v4_2, sI v18_5, sI v32_8, sJ p3, zS, sR b10, sR b915, sR b946, sR b1176, sI (1 : Int32), zU, zU, zU, zU, zU] [(.ref b1176)])) rfl (by rw [hml]; rfl) (Steps.refl _) (argsL := []) (rest := []) (lenOf pd_4 rfl) rfl (by show 2 * 0 + _ ≤ _; exact Nat.le_of_eq rfl) (hb hby at_154) (fun _ _ => ⟨rfl, rfl, (by decide : 4 + 0 ≤ _), (by decide : 15 + 0 ≤ _)⟩)
    dsimp only [Pt.U, Pt.locs, Pt.cells, Pt.slots] at X1252 l1252 y1252 z1252 st1252 hQ1252
    subst l1252 y1252 z1252
    replace X1252 := own_cs X1252 (c' := 4) (s' := 15) (by decide) (by decide)
    obtain ⟨rfl, N1254, eh1255⟩ := hQ1252
    have N1256 := Fr.app Nx1251 N1254
    refine Go.via st1252 ?_
    obtain ⟨Lx1257, Xx1257, Nx1257⟩ := own_locs X1252 N1256
    show Go p e below Qo T1252 (mkF m 157 #[sJ j1, zS, sJ j2, zS, sJ j3, zS, sJ j4, zS, sJ j5, zS, sI i1, sI v4_2, sI v18_5, sI v32_8, sJ p3, zS, sR b10, sR b915, sR b946, sR b1176, sI (1 : Int32), zU, zU, zU, zU, zU] [(.ref b10)])
    refine Go.of (fun t k => XS.aload Xx1257.here hx rfl (hb hby at_157) rfl rfl k) ?_
    refine Go.of (fun t k => Jvm.RoadKit.acmp (g := (mkF m 159 #[sJ j1, zS, sJ j2, zS, sJ j3, zS, sJ j4, zS, sJ j5, zS, sI i1, sI v4_2, sI v18_5, sI v32_8, sJ p3, zS, sR b10, sR b915, sR b946, sR b1176, sI (1 : Int32), zU, zU, zU, zU, zU] [(.ref b10), (.ref b10)])) Xx1257 hx rfl rfl rfl (pc0 := 159) (pc' := 162) (same := true) rfl (hb hby at_159) rfl (decide_eq_true rfl) (by decide) (by decide) k) ?_
    refine Go.of (fun t k => XS.iconst Xx1257.here hx rfl (hb hby at_162) k) ?_
    refine Go.of (fun t k => XS.goto Xx1257.here hx rfl (pc0 := 163) (pc' := 167) rfl (hb hby at_163) (by decide) (by decide) k) ?_
    refine Go.of (fun t k => XS.istore Xx1257.here hx rfl (hb hby at_167) rfl (l' := #[sJ j1, zS, sJ j2, zS, sJ j3, zS, sJ j4, zS, sJ j5, zS, sI i1, sI v4_2, sI v18_5, sI v32_8, sJ p3, zS, sR b10, sR b915, sR b946, sR b1176, sI (1 : Int32), sI (1 : Int32), zU, zU, zU, zU]) rfl k) ?_
    refine Go.of (fun t k => XS.aload Xx1257.here hx rfl (hb hby at_169) rfl rfl k) ?_
    show Go p e below Qo T1252 (mkF m 171 #[sJ j1, zS, sJ j2, zS, sJ j3, zS, sJ j4, zS, sJ j5, zS, sI i1, sI v4_2, sI v18_5, sI v32_8, sJ p3, zS, sR b10, sR b915, sR b946, sR b1176, sI (1 : Int32), sI (1 : Int32), zU, zU, zU, zU] [(.ref b1176)])
    refine Go.of (fun t k => XS.lloadN Xx1257.here hx rfl (hb hby at_171) rfl  k) ?_
    refine Go.of (fun t k => XS.aload Xx1257.here hx rfl (hb hby at_172) rfl rfl k) ?_
    refine Go.of (fun t k => XS.lload Xx1257.here hx rfl (hb hby at_174) rfl  k) ?_
    obtain ⟨ciq1259, kiq1259, iq1259a, iq1259b, iq1259c⟩ := isOf hZ eh1255 q1225
    obtain ⟨_, _, ⟨T1258, L1258, k1258, n1258⟩, -, X1258, ⟨Lc1258, hQ1258, l1258, y1258, z1258⟩, st1258⟩ := Xx1257.virtualBack hx (y := (⟨kT, "add", "(JLcom/example/examwright/examwright/Method$Attempt;J)V"⟩ : MethodName)) (z := (⟨kT, "add", "(JLcom/example/examwright/examwright/Method$Attempt;J)V"⟩ : MethodName)) hown (mvT hZ (wk hw 41 rfl)) (mvT hZ (wk hw 42 rfl)) (notFace_of_selects (args := #[]) (mvT hZ (wk hw 44 rfl))) (mvT hZ (wk hw 44 rfl)) (mvT hZ (wk hw 43 rfl)) (by decide) (own_backS (W := 0) (a := b1176) (rm76 l Z a0 hw b1176 j2 b915 j5 b10 j1 b10 j1 j4 x1221 x1222 x1223 T1218.heap n0 Z1250 q1225 q1226 q1227 q1228 q1229 q1230 q1231 q1232 q1233 q1234 q1243 q1244 g1182 ne1179) hZ (wk hw 45 rfl) (wk hw 43 rfl) (wk hw 27 rfl) q1226 (by decide) (by decide)) iq1259a iq1259c (g := (mkF m 176 #[sJ j1, zS, sJ j2, zS, sJ j3, zS, sJ j4, zS, sJ j5, zS, sI i1, sI v4_2, sI v18_5, sI v32_8, sJ p3, zS, sR b10, sR b915, sR b946, sR b1176, sI (1 : Int32), sI (1 : Int32), zU, zU, zU, zU] [(.long j5), (.ref b915), (.long j2), (.ref b1176)])) rfl (by rw [hml]; rfl) (Steps.refl _) (argsL := [(.long j2), (.ref b915), (.long j5)]) (rest := []) (lenOf pd_5 rfl) rfl (by show 2 * 0 + _ ≤ _; exact Nat.le_of_eq rfl) (hb hby at_176) (fun _ _ => ⟨rfl, eh1255, (by decide : 4 + 0 ≤ _), (by decide : 15 + 0 ≤ _)⟩)
    dsimp only [Pt.U, Pt.locs, Pt.cells, Pt.slots] at X1258 l1258 y1258 z1258 st1258 hQ1258
    subst l1258 y1258 z1258
    replace X1258 := own_cs X1258 (c' := 4) (s' := 15) (by decide) (by decide)
    obtain ⟨x1261, x1262, x1263, rfl, N1260, Kc1264, q1265, q1266, q1267, q1268, q1269, q1270, q1271, q1272, q1273, q1274⟩ := hQ1258
    have N1275 := Fr.app Nx1257 N1260
    have q1276 := own_staKeep q1236 Kc1264 (allS (own_plainE q1225) all0)
    have q1277 := own_staKeep q1237 Kc1264 (allS (own_plainE q1225) all0)
    have q1278 := q1238.keep Kc1264 (allS g1182 all0)
    have q1279 := q1239.keep Kc1264
    have q1280 := q1240.keep Kc1264
    have q1281 := q1241.keep Kc1264 (ninS ne1178 nin0)
    have q1282 := q1242.keep Kc1264 (ninS ne1178 nin0)
    have q1283 := q1243.keep Kc1264
    have q1284 := q1244.keep Kc1264 (ninS ne1179 nin0)
    have q1285 := q1245.keep Kc1264 (ninS ne1179 nin0)
    have q1286 := q1246.keep Kc1264
    have q1287 := q1247.keep Kc1264
    have q1288 := q1248.keep Kc1264 (ninS ne1181 nin0)
    have q1289 := q1249.keep Kc1264 (ninS ne1181 nin0)
    have Z1290 : n0 ≤ T1258.heap.size := Nat.le_trans Z1250 Kc1264.1
    refine Go.via st1258 ?_
    obtain ⟨Lx1291, Xx1291, Nx1291⟩ := own_locs X1258 N1275
    show Go p e below Qo T1258 (mkF m 179 #[sJ j1, zS, sJ j2, zS, sJ j3, zS, sJ j4, zS, sJ j5, zS, sI i1, sI v4_2, sI v18_5, sI v32_8, sJ p3, zS, sR b10, sR b915, sR b946, sR b1176, sI (1 : Int32), sI (1 : Int32), zU, zU, zU, zU] [])
    refine Go.of (fun t k => XS.aload Xx1291.here hx rfl (hb hby at_179) rfl rfl k) ?_
    refine Go.of (fun t k => XS.lload Xx1291.here hx rfl (hb hby at_181) rfl  k) ?_
    refine Go.of (fun t k => XS.aload Xx1291.here hx rfl (hb hby at_183) rfl rfl k) ?_
    refine Go.of (fun t k => XS.lload Xx1291.here hx rfl (hb hby at_185) rfl  k) ?_
    obtain ⟨ciq1293, kiq1293, iq1293a, iq1293b, iq1293c⟩ := isOf hZ rfl q1265
    obtain ⟨_, _, ⟨T1292, L1292, k1292, n1292⟩, -, X1292, ⟨Lc1292, hQ1292, l1292, y1292, z1292⟩, st1292⟩ := Xx1291.virtualBack hx (y := (⟨kT, "add", "(JLcom/example/examwright/examwright/Method$Attempt;J)V"⟩ : MethodName)) (z := (⟨kT, "add", "(JLcom/example/examwright/examwright/Method$Attempt;J)V"⟩ : MethodName)) hown (mvT hZ (wk hw 41 rfl)) (mvT hZ (wk hw 42 rfl)) (notFace_of_selects (args := #[]) (mvT hZ (wk hw 44 rfl))) (mvT hZ (wk hw 44 rfl)) (mvT hZ (wk hw 43 rfl)) (by decide) (own_backS (W := 0) (a := b1176) (rm77 l Z a0 hw b1176 j3 b946 p3 (if j2 < j1 then b915 else b10) (if j2 < j1 then j2 else j1) b10 j1 j4 x1261 x1262 x1263 x1137 T1258.heap n0 Z1290 q1265 q1266 q1267 q1268 q1269 q1270 q1271 q1272 q1273 q1274 q1287 q1288 g1182 ne1181) hZ (wk hw 45 rfl) (wk hw 43 rfl) (wk hw 27 rfl) q1266 (by decide) (by decide)) iq1293a iq1293c (g := (mkF m 187 #[sJ j1, zS, sJ j2, zS, sJ j3, zS, sJ j4, zS, sJ j5, zS, sI i1, sI v4_2, sI v18_5, sI v32_8, sJ p3, zS, sR b10, sR b915, sR b946, sR b1176, sI (1 : Int32), sI (1 : Int32), zU, zU, zU, zU] [(.long p3), (.ref b946), (.long j3), (.ref b1176)])) rfl (by rw [hml]; rfl) (Steps.refl _) (argsL := [(.long j3), (.ref b946), (.long p3)]) (rest := []) (lenOf pd_5 rfl) rfl (by show 2 * 0 + _ ≤ _; exact Nat.le_of_eq rfl) (hb hby at_187) (fun _ _ => ⟨rfl, rfl, (by decide : 4 + 0 ≤ _), (by decide : 15 + 0 ≤ _)⟩)
    dsimp only [Pt.U, Pt.locs, Pt.cells, Pt.slots] at X1292 l1292 y1292 z1292 st1292 hQ1292
    subst l1292 y1292 z1292
    replace X1292 := own_cs X1292 (c' := 4) (s' := 15) (by decide) (by decide)
    obtain ⟨x1295, x1296, x1297, rfl, N1294, Kc1298, q1299, q1300, q1301, q1302, q1303, q1304, q1305, q1306, q1307, q1308⟩ := hQ1292
    have N1309 := Fr.app Nx1291 N1294
    have q1310 := own_staKeep q1276 Kc1298 (allS (own_plainE q1265) all0)
    have q1311 := own_staKeep q1277 Kc1298 (allS (own_plainE q1265) all0)
    have q1312 := q1278.keep Kc1298 (allS g1182 all0)
    have q1313 := q1279.keep Kc1298
    have q1314 := q1280.keep Kc1298
    have q1315 := q1281.keep Kc1298 (ninS ne1178 nin0)
    have q1316 := q1282.keep Kc1298 (ninS ne1178 nin0)
    have q1317 := q1283.keep Kc1298
    have q1318 := q1284.keep Kc1298 (ninS ne1179 nin0)
    have q1319 := q1285.keep Kc1298 (ninS ne1179 nin0)
    have q1320 := q1286.keep Kc1298
    have q1321 := q1287.keep Kc1298
    have q1322 := q1288.keep Kc1298 (ninS ne1181 nin0)
    have q1323 := q1289.keep Kc1298 (ninS ne1181 nin0)
    have Z1324 : n0 ≤ T1292.heap.size := Nat.le_trans Z1290 Kc1298.1
    refine Go.via st1292 ?_
    obtain ⟨Lx1325, Xx1325, Nx1325⟩ := own_locs X1292 N1309
    show Go p e below Qo T1292 (mkF m 190 #[sJ j1, zS, sJ j2, zS, sJ j3, zS, sJ j4, zS, sJ j5, zS, sI i1, sI v4_2, sI v18_5, sI v32_8, sJ p3, zS, sR b10, sR b915, sR b946, sR b1176, sI (1 : Int32), sI (1 : Int32), zU, zU, zU, zU] [])
    refine Go.of (fun t k => XS.aload Xx1325.here hx rfl (hb hby at_190) rfl rfl k) ?_
    show Go p e below Qo T1292 (mkF m 192 #[sJ j1, zS, sJ j2, zS, sJ j3, zS, sJ j4, zS, sJ j5, zS, sI i1, sI v4_2, sI v18_5, sI v32_8, sJ p3, zS, sR b10, sR b915, sR b946, sR b1176, sI (1 : Int32), sI (1 : Int32), zU, zU, zU, zU] [(.ref b1176)])
    obtain ⟨ciq1327, kiq1327, iq1327a, iq1327b, iq1327c⟩ := isOf hZ rfl q1299
    obtain ⟨_, _, ⟨T1326, L1326, k1326, n1326⟩, -, X1326, ⟨Lc1326, hQ1326, l1326, y1326, z1326⟩, st1326⟩ := Xx1325.virtualBack hx (y := (⟨kT, "reported", "()Lcom/example/examwright/examwright/Method$Attempt;"⟩ : MethodName)) (z := (⟨kT, "reported", "()Lcom/example/examwright/examwright/Method$Attempt;"⟩ : MethodName)) hown (mvT hZ (wk hw 32 rfl)) (mvT hZ (wk hw 33 rfl)) (notFace_of_selects (args := #[]) (mvT hZ (wk hw 35 rfl))) (mvT hZ (wk hw 35 rfl)) (mvT hZ (wk hw 34 rfl)) (by decide) (backOf (W := 0) (rm63 l Z a0 hw [] b1176 (if (p3 < j4 ∨ (p3 = j4 ∧ j3 < j1)) then b946 else b10) T1292.heap n0 Z1324 q1303) hZ (wk hw 36 rfl) (wk hw 27 rfl) (by decide) (by decide)) iq1327a iq1327c (g := (mkF m 192 #[sJ j1, zS, sJ j2, zS, sJ j3, zS, sJ j4, zS, sJ j5, zS, sI i1, sI v4_2, sI v18_5, sI v32_8, sJ p3, zS, sR b10, sR b915, sR b946, sR b1176, sI (1 : Int32), sI (1 : Int32), zU, zU, zU, zU] [(.ref b1176)])) rfl (by rw [hml]; rfl) (Steps.refl _) (argsL := []) (rest := []) (lenOf pd_4 rfl) rfl (by show 2 * 0 + _ ≤ _; exact Nat.le_of_eq rfl) (hb hby at_192) (fun _ _ => ⟨rfl, rfl, (by decide : 4 + 0 ≤ _), (by decide : 15 + 0 ≤ _)⟩)
    dsimp only [Pt.U, Pt.locs, Pt.cells, Pt.slots] at X1326 l1326 y1326 z1326 st1326 hQ1326
    subst l1326 y1326 z1326
    replace X1326 := own_cs X1326 (c' := 4) (s' := 15) (by decide) (by decide)
    obtain ⟨rfl, N1328, eh1329⟩ := hQ1326
    have N1330 := Fr.app Nx1325 N1328
    refine Go.via st1326 ?_
    obtain ⟨Lx1331, Xx1331, Nx1331⟩ := own_locs X1326 N1330
    show Go p e below Qo T1326 (mkF m 195 #[sJ j1, zS, sJ j2, zS, sJ j3, zS, sJ j4, zS, sJ j5, zS, sI i1, sI v4_2, sI v18_5, sI v32_8, sJ p3, zS, sR b10, sR b915, sR b946, sR b1176, sI (1 : Int32), sI (1 : Int32), zU, zU, zU, zU] [(.ref (if (p3 < j4 ∨ (p3 = j4 ∧ j3 < j1)) then b946 else b10))])
    refine Go.of (fun t k => XS.astore Xx1331.here hx rfl (hb hby at_195) rfl rfl (l' := #[sJ j1, zS, sJ j2, zS, sJ j3, zS, sJ j4, zS, sJ j5, zS, sI i1, sI v4_2, sI v18_5, sI v32_8, sJ p3, zS, sR b10, sR b915, sR b946, sR b1176, sI (1 : Int32), sI (1 : Int32), sR (if (p3 < j4 ∨ (p3 = j4 ∧ j3 < j1)) then b946 else b10), zU, zU, zU]) rfl k) ?_
    refine Go.of (fun t k => XS.iload Xx1331.here hx rfl (hb hby at_197) rfl  k) ?_
    refine Go.of (fun t k => XS.ifYes Xx1331.here hx rfl (pc0 := 199) (pc' := 212) rfl (hb hby at_199) rfl ((if0 _ _).trans (feq hc55_18).2) (by decide) (by decide) k) ?_
    refine Go.of (fun t k => XS.iload Xx1331.here hx rfl (hb hby at_212) rfl  k) ?_
    refine Go.of (fun t k => XS.ifNo Xx1331.here hx rfl (hb hby at_214) rfl ((if0 _ _).trans (feq hc55_18).1) k) ?_
    refine Go.of (fun t k => XS.iload Xx1331.here hx rfl (hb hby at_217) rfl  k) ?_
    refine Go.of (fun t k => XS.ifYes Xx1331.here hx rfl (pc0 := 219) (pc' := 234) rfl (hb hby at_219) rfl ((if0 _ _).trans (teq hc78_929).1) (by decide) (by decide) k) ?_
    refine Go.of (fun t k => XS.iload Xx1331.here hx rfl (hb hby at_234) rfl  k) ?_
    show Go p e below Qo T1326 (mkF m 236 #[sJ j1, zS, sJ j2, zS, sJ j3, zS, sJ j4, zS, sJ j5, zS, sI i1, sI v4_2, sI v18_5, sI v32_8, sJ p3, zS, sR b10, sR b915, sR b946, sR b1176, sI (1 : Int32), sI (1 : Int32), sR (if (p3 < j4 ∨ (p3 = j4 ∧ j3 < j1)) then b946 else b10), zU, zU, zU] [(.int v32_8)])
    refine Go.of (fun t k => XS.ifNo Xx1331.here hx rfl (hb hby at_236) rfl ((if0 _ _).trans (feq hc101_964).1) k) ?_
    refine Go.of (fun t k => XS.lload Xx1331.here hx rfl (hb hby at_239) rfl  k) ?_
    refine Go.of (fun t k => XS.lloadN Xx1331.here hx rfl (hb hby at_241) rfl  k) ?_
    refine Go.of (fun t k => XS.lload Xx1331.here hx rfl (hb hby at_242) rfl  k) ?_
    refine Go.of (fun t k => XS.lload Xx1331.here hx rfl (hb hby at_244) rfl  k) ?_
    obtain ⟨_, _, ⟨T1332, L1332, k1332, n1332⟩, -, X1332, ⟨Lc1332, hQ1332, l1332, y1332, z1332⟩, st1332⟩ := Jvm.LawKit.callS Xx1331 hx (y := (⟨kL, "le", "(JJJJ)Z"⟩ : MethodName)) hown (mvT hZ (wk hw 67 rfl)) (mvT hZ (wk hw 68 rfl)) (mvT hZ (wk hw 69 rfl)) (mvT hZ (wk hw 70 rfl)) (by decide) (backOf (W := 0) (rm10 l Z a0 hw [] j4 j1 p3 j3 T1292.heap n0 Z1324 ) hZ (wk hw 70 rfl) (wk hw 69 rfl) (by decide) (by decide)) (g := (mkF m 246 #[sJ j1, zS, sJ j2, zS, sJ j3, zS, sJ j4, zS, sJ j5, zS, sI i1, sI v4_2, sI v18_5, sI v32_8, sJ p3, zS, sR b10, sR b915, sR b946, sR b1176, sI (1 : Int32), sI (1 : Int32), sR (if (p3 < j4 ∨ (p3 = j4 ∧ j3 < j1)) then b946 else b10), zU, zU, zU] [(.long j3), (.long p3), (.long j1), (.long j4)])) rfl (by rw [hml]; rfl) (argsL := [(.long j4), (.long j1), (.long p3), (.long j3)]) (rest := []) (lenOf pd_7 rfl) rfl (by show 2 * 0 + _ ≤ _; exact Nat.le_of_eq rfl) (hb hby at_246) (fun _ _ => ⟨rfl, eh1329, (by decide : 4 + 0 ≤ _), (by decide : 15 + 0 ≤ _)⟩)
    dsimp only [Pt.U, Pt.locs, Pt.cells, Pt.slots] at X1332 l1332 y1332 z1332 st1332 hQ1332
    subst l1332 y1332 z1332
    replace X1332 := own_cs X1332 (c' := 4) (s' := 15) (by decide) (by decide)
    obtain ⟨rfl, N1333, eh1334⟩ := hQ1332
    have N1335 := Fr.app Nx1331 N1333
    refine Go.of st1332 ?_
    obtain ⟨Lx1336, Xx1336, Nx1336⟩ := own_locs X1332 N1335
    show Go p e below Qo T1332 (mkF m 249 #[sJ j1, zS, sJ j2, zS, sJ j3, zS, sJ j4, zS, sJ j5, zS, sI i1, sI v4_2, sI v18_5, sI v32_8, sJ p3, zS, sR b10, sR b915, sR b946, sR b1176, sI (1 : Int32), sI (1 : Int32), sR (if (p3 < j4 ∨ (p3 = j4 ∧ j3 < j1)) then b946 else b10), zU, zU, zU] [(.int (F10 j4 j1 p3 j3))])
    suffices J249_1339 : ∀ (v249_1338 : Int32), v249_1338 = (if (F10 j4 j1 p3 j3) = (0 : Int32) then (0 : Int32) else (1 : Int32)) → Go p e below Qo T1332 (mkF m 257 #[sJ j1, zS, sJ j2, zS, sJ j3, zS, sJ j4, zS, sJ j5, zS, sI i1, sI v4_2, sI v18_5, sI v32_8, sJ p3, zS, sR b10, sR b915, sR b946, sR b1176, sI (1 : Int32), sI (1 : Int32), sR (if (p3 < j4 ∨ (p3 = j4 ∧ j3 < j1)) then b946 else b10), zU, zU, zU] [(.int v249_1338)]) by
      by_cases hc249_1348 : (F10 j4 j1 p3 j3) = (0 : Int32)
      · refine Go.of (fun t k => XS.ifYes Xx1336.here hx rfl (pc0 := 249) (pc' := 256) rfl (hb hby at_249) rfl ((if0 _ _).trans (teq hc249_1348).1) (by decide) (by decide) k) ?_
        refine Go.of (fun t k => XS.iconst Xx1336.here hx rfl (hb hby at_256) k) ?_
        show Go p e below Qo T1332 (mkF m 257 #[sJ j1, zS, sJ j2, zS, sJ j3, zS, sJ j4, zS, sJ j5, zS, sI i1, sI v4_2, sI v18_5, sI v32_8, sJ p3, zS, sR b10, sR b915, sR b946, sR b1176, sI (1 : Int32), sI (1 : Int32), sR (if (p3 < j4 ∨ (p3 = j4 ∧ j3 < j1)) then b946 else b10), zU, zU, zU] [(.int (0 : Int32))])
        exact J249_1339 _ (by first | rfl | (rw [if_pos hc249_1348]) | (simp only [hc249_1348, if_true, if_false]; done) | simp [hc249_1348])
      refine Go.of (fun t k => XS.ifNo Xx1336.here hx rfl (hb hby at_249) rfl ((if0 _ _).trans (feq hc249_1348).1) k) ?_
      refine Go.of (fun t k => XS.iconst Xx1336.here hx rfl (hb hby at_252) k) ?_
      refine Go.of (fun t k => XS.goto Xx1336.here hx rfl (pc0 := 253) (pc' := 257) rfl (hb hby at_253) (by decide) (by decide) k) ?_
      show Go p e below Qo T1332 (mkF m 257 #[sJ j1, zS, sJ j2, zS, sJ j3, zS, sJ j4, zS, sJ j5, zS, sI i1, sI v4_2, sI v18_5, sI v32_8, sJ p3, zS, sR b10, sR b915, sR b946, sR b1176, sI (1 : Int32), sI (1 : Int32), sR (if (p3 < j4 ∨ (p3 = j4 ∧ j3 < j1)) then b946 else b10), zU, zU, zU] [(.int (1 : Int32))])
      exact J249_1339 _ (by first | rfl | (rw [if_neg hc249_1348]) | (simp only [hc249_1348, if_true, if_false]; done) | simp [hc249_1348])
    intro v249_1338 hv249_1338
    show Go p e below Qo T1332 (mkF m 257 #[sJ j1, zS, sJ j2, zS, sJ j3, zS, sJ j4, zS, sJ j5, zS, sI i1, sI v4_2, sI v18_5, sI v32_8, sJ p3, zS, sR b10, sR b915, sR b946, sR b1176, sI (1 : Int32), sI (1 : Int32), sR (if (p3 < j4 ∨ (p3 = j4 ∧ j3 < j1)) then b946 else b10), zU, zU, zU] [(.int v249_1338)])
    refine Go.of (fun t k => XS.istore Xx1336.here hx rfl (hb hby at_257) rfl (l' := #[sJ j1, zS, sJ j2, zS, sJ j3, zS, sJ j4, zS, sJ j5, zS, sI i1, sI v4_2, sI v18_5, sI v32_8, sJ p3, zS, sR b10, sR b915, sR b946, sR b1176, sI (1 : Int32), sI (1 : Int32), sR (if (p3 < j4 ∨ (p3 = j4 ∧ j3 < j1)) then b946 else b10), zU, sI v249_1338, zU]) rfl k) ?_
    refine Go.of (fun t k => XS.iload Xx1336.here hx rfl (hb hby at_259) rfl  k) ?_
    refine Go.of (fun t k => XS.ifYes Xx1336.here hx rfl (pc0 := 261) (pc' := 303) rfl (hb hby at_261) rfl ((if0 _ _).trans (teq hc78_929).1) (by decide) (by decide) k) ?_
    refine Go.of (fun t k => XS.iconst Xx1336.here hx rfl (hb hby at_303) k) ?_
    refine Go.of (fun t k => XS.istore Xx1336.here hx rfl (hb hby at_304) rfl (l' := #[sJ j1, zS, sJ j2, zS, sJ j3, zS, sJ j4, zS, sJ j5, zS, sI i1, sI v4_2, sI v18_5, sI v32_8, sJ p3, zS, sR b10, sR b915, sR b946, sR b1176, sI (1 : Int32), sI (1 : Int32), sR (if (p3 < j4 ∨ (p3 = j4 ∧ j3 < j1)) then b946 else b10), zU, sI v249_1338, sI (0 : Int32)]) rfl k) ?_
    refine Go.of (fun t k => XS.iload Xx1336.here hx rfl (hb hby at_306) rfl  k) ?_
    show Go p e below Qo T1332 (mkF m 308 #[sJ j1, zS, sJ j2, zS, sJ j3, zS, sJ j4, zS, sJ j5, zS, sI i1, sI v4_2, sI v18_5, sI v32_8, sJ p3, zS, sR b10, sR b915, sR b946, sR b1176, sI (1 : Int32), sI (1 : Int32), sR (if (p3 < j4 ∨ (p3 = j4 ∧ j3 < j1)) then b946 else b10), zU, sI v249_1338, sI (0 : Int32)] [(.int v249_1338)])
    suffices J308_1342 : ∀ (v308_1341 : Addr), v308_1341 = (if v249_1338 = (0 : Int32) then b946 else b10) → Go p e below Qo T1332 (mkF m 328 #[sJ j1, zS, sJ j2, zS, sJ j3, zS, sJ j4, zS, sJ j5, zS, sI i1, sI v4_2, sI v18_5, sI v32_8, sJ p3, zS, sR b10, sR b915, sR b946, sR b1176, sI (1 : Int32), sI (1 : Int32), sR (if (p3 < j4 ∨ (p3 = j4 ∧ j3 < j1)) then b946 else b10), zU, sI v249_1338, sI (0 : Int32)] [(.ref v308_1341)]) by
      by_cases hc308_1347 : v249_1338 = (0 : Int32)
      · refine Go.of (fun t k => XS.ifYes Xx1336.here hx rfl (pc0 := 308) (pc' := 316) rfl (hb hby at_308) rfl ((if0 _ _).trans (teq hc308_1347).1) (by decide) (by decide) k) ?_
        refine Go.of (fun t k => XS.iload Xx1336.here hx rfl (hb hby at_316) rfl  k) ?_
        refine Go.of (fun t k => XS.ifYes Xx1336.here hx rfl (pc0 := 318) (pc' := 326) rfl (hb hby at_318) rfl ((if0 _ _).trans (teq (by decide : (0 : Int32) = (0 : Int32))).1) (by decide) (by decide) k) ?_
        refine Go.of (fun t k => XS.aload Xx1336.here hx rfl (hb hby at_326) rfl rfl k) ?_
        show Go p e below Qo T1332 (mkF m 328 #[sJ j1, zS, sJ j2, zS, sJ j3, zS, sJ j4, zS, sJ j5, zS, sI i1, sI v4_2, sI v18_5, sI v32_8, sJ p3, zS, sR b10, sR b915, sR b946, sR b1176, sI (1 : Int32), sI (1 : Int32), sR (if (p3 < j4 ∨ (p3 = j4 ∧ j3 < j1)) then b946 else b10), zU, sI v249_1338, sI (0 : Int32)] [(.ref b946)])
        exact J308_1342 _ (by first | rfl | (rw [if_pos hc308_1347]) | (simp only [hc308_1347, if_true, if_false]; done) | simp [hc308_1347])
      refine Go.of (fun t k => XS.ifNo Xx1336.here hx rfl (hb hby at_308) rfl ((if0 _ _).trans (feq hc308_1347).1) k) ?_
      refine Go.of (fun t k => XS.aload Xx1336.here hx rfl (hb hby at_311) rfl rfl k) ?_
      refine Go.of (fun t k => XS.goto Xx1336.here hx rfl (pc0 := 313) (pc' := 328) rfl (hb hby at_313) (by decide) (by decide) k) ?_
      show Go p e below Qo T1332 (mkF m 328 #[sJ j1, zS, sJ j2, zS, sJ j3, zS, sJ j4, zS, sJ j5, zS, sI i1, sI v4_2, sI v18_5, sI v32_8, sJ p3, zS, sR b10, sR b915, sR b946, sR b1176, sI (1 : Int32), sI (1 : Int32), sR (if (p3 < j4 ∨ (p3 = j4 ∧ j3 < j1)) then b946 else b10), zU, sI v249_1338, sI (0 : Int32)] [(.ref b10)])
      show Go p e below Qo T1332 (mkF m 328 #[sJ j1, zS, sJ j2, zS, sJ j3, zS, sJ j4, zS, sJ j5, zS, sI i1, sI v4_2, sI v18_5, sI v32_8, sJ p3, zS, sR b10, sR b915, sR b946, sR b1176, sI (1 : Int32), sI (1 : Int32), sR (if (p3 < j4 ∨ (p3 = j4 ∧ j3 < j1)) then b946 else b10), zU, sI v249_1338, sI (0 : Int32)] [(.ref b10)])
      exact J308_1342 _ (by first | rfl | (rw [if_neg hc308_1347]) | (simp only [hc308_1347, if_true, if_false]; done) | simp [hc308_1347])
    intro v308_1341 hv308_1341
    show Go p e below Qo T1332 (mkF m 328 #[sJ j1, zS, sJ j2, zS, sJ j3, zS, sJ j4, zS, sJ j5, zS, sI i1, sI v4_2, sI v18_5, sI v32_8, sJ p3, zS, sR b10, sR b915, sR b946, sR b1176, sI (1 : Int32), sI (1 : Int32), sR (if (p3 < j4 ∨ (p3 = j4 ∧ j3 < j1)) then b946 else b10), zU, sI v249_1338, sI (0 : Int32)] [(.ref v308_1341)])
    refine Go.of (fun t k => XS.astore Xx1336.here hx rfl (hb hby at_328) rfl rfl (l' := #[sJ j1, zS, sJ j2, zS, sJ j3, zS, sJ j4, zS, sJ j5, zS, sI i1, sI v4_2, sI v18_5, sI v32_8, sJ p3, zS, sR b10, sR b915, sR b946, sR b1176, sI (1 : Int32), sI (1 : Int32), sR (if (p3 < j4 ∨ (p3 = j4 ∧ j3 < j1)) then b946 else b10), sR v308_1341, sI v249_1338, sI (0 : Int32)]) rfl k) ?_
    show Go p e below Qo T1332 (mkF m 330 #[sJ j1, zS, sJ j2, zS, sJ j3, zS, sJ j4, zS, sJ j5, zS, sI i1, sI v4_2, sI v18_5, sI v32_8, sJ p3, zS, sR b10, sR b915, sR b946, sR b1176, sI (1 : Int32), sI (1 : Int32), sR (if (p3 < j4 ∨ (p3 = j4 ∧ j3 < j1)) then b946 else b10), sR v308_1341, sI v249_1338, sI (0 : Int32)] [])
    refine Go.of (fun t k => XS.goto Xx1336.here hx rfl (pc0 := 330) (pc' := 397) rfl (hb hby at_330) (by decide) (by decide) k) ?_
    refine Go.of (fun t k => XS.iload Xx1336.here hx rfl (hb hby at_397) rfl  k) ?_
    refine Go.of (fun t k => XS.ifNo Xx1336.here hx rfl (hb hby at_399) rfl ((if0 _ _).trans (feq (by decide : ¬ ((1 : Int32) = (0 : Int32)))).1) k) ?_
    refine Go.of (fun t k => XS.iload Xx1336.here hx rfl (hb hby at_402) rfl  k) ?_
    refine Go.of (fun t k => XS.ifNo Xx1336.here hx rfl (hb hby at_404) rfl ((if0 _ _).trans (feq (by decide : ¬ ((1 : Int32) = (0 : Int32)))).1) k) ?_
    refine Go.of (fun t k => XS.aload Xx1336.here hx rfl (hb hby at_407) rfl rfl k) ?_
    refine Go.of (fun t k => XS.aload Xx1336.here hx rfl (hb hby at_409) rfl rfl k) ?_
    suffices J411_1345 : ∀ (v411_1344 : Int32), v411_1344 = (if (if (p3 < j4 ∨ (p3 = j4 ∧ j3 < j1)) then b946 else b10) = v308_1341 then (1 : Int32) else (0 : Int32)) → Go p e below Qo T1332 (mkF m 419 #[sJ j1, zS, sJ j2, zS, sJ j3, zS, sJ j4, zS, sJ j5, zS, sI i1, sI v4_2, sI v18_5, sI v32_8, sJ p3, zS, sR b10, sR b915, sR b946, sR b1176, sI (1 : Int32), sI (1 : Int32), sR (if (p3 < j4 ∨ (p3 = j4 ∧ j3 < j1)) then b946 else b10), sR v308_1341, sI v249_1338, sI (0 : Int32)] [(.int v411_1344)]) by
      by_cases hc411_1346 : (if (p3 < j4 ∨ (p3 = j4 ∧ j3 < j1)) then b946 else b10) = v308_1341
      · refine Go.of (fun t k => Jvm.RoadKit.acmp (g := (mkF m 411 #[sJ j1, zS, sJ j2, zS, sJ j3, zS, sJ j4, zS, sJ j5, zS, sI i1, sI v4_2, sI v18_5, sI v32_8, sJ p3, zS, sR b10, sR b915, sR b946, sR b1176, sI (1 : Int32), sI (1 : Int32), sR (if (p3 < j4 ∨ (p3 = j4 ∧ j3 < j1)) then b946 else b10), sR v308_1341, sI v249_1338, sI (0 : Int32)] [(.ref v308_1341), (.ref (if (p3 < j4 ∨ (p3 = j4 ∧ j3 < j1)) then b946 else b10))])) Xx1336 hx rfl rfl rfl (pc0 := 411) (pc' := 414) (same := true) rfl (hb hby at_411) rfl (decide_eq_true (congrArg Value.ref hc411_1346)) (by decide) (by decide) k) ?_
        refine Go.of (fun t k => XS.iconst Xx1336.here hx rfl (hb hby at_414) k) ?_
        refine Go.of (fun t k => XS.goto Xx1336.here hx rfl (pc0 := 415) (pc' := 419) rfl (hb hby at_415) (by decide) (by decide) k) ?_
        show Go p e below Qo T1332 (mkF m 419 #[sJ j1, zS, sJ j2, zS, sJ j3, zS, sJ j4, zS, sJ j5, zS, sI i1, sI v4_2, sI v18_5, sI v32_8, sJ p3, zS, sR b10, sR b915, sR b946, sR b1176, sI (1 : Int32), sI (1 : Int32), sR (if (p3 < j4 ∨ (p3 = j4 ∧ j3 < j1)) then b946 else b10), sR v308_1341, sI v249_1338, sI (0 : Int32)] [(.int (1 : Int32))])
        exact J411_1345 _ (by first | rfl | (rw [if_pos hc411_1346]) | (simp only [hc411_1346, if_true, if_false]; done) | simp [hc411_1346])
      refine Go.of (fun t k => Jvm.RoadKit.acmp (g := (mkF m 411 #[sJ j1, zS, sJ j2, zS, sJ j3, zS, sJ j4, zS, sJ j5, zS, sI i1, sI v4_2, sI v18_5, sI v32_8, sJ p3, zS, sR b10, sR b915, sR b946, sR b1176, sI (1 : Int32), sI (1 : Int32), sR (if (p3 < j4 ∨ (p3 = j4 ∧ j3 < j1)) then b946 else b10), sR v308_1341, sI v249_1338, sI (0 : Int32)] [(.ref v308_1341), (.ref (if (p3 < j4 ∨ (p3 = j4 ∧ j3 < j1)) then b946 else b10))])) Xx1336 hx rfl rfl rfl (pc0 := 411) (pc' := 418) (same := false) rfl (hb hby at_411) rfl (decide_eq_false fun q => hc411_1346 (Value.ref.inj q)) (by decide) (by decide) k) ?_
      show Go p e below Qo T1332 (mkF m 418 #[sJ j1, zS, sJ j2, zS, sJ j3, zS, sJ j4, zS, sJ j5, zS, sI i1, sI v4_2, sI v18_5, sI v32_8, sJ p3, zS, sR b10, sR b915, sR b946, sR b1176, sI (1 : Int32), sI (1 : Int32), sR (if (p3 < j4 ∨ (p3 = j4 ∧ j3 < j1)) then b946 else b10), sR v308_1341, sI v249_1338, sI (0 : Int32)] [])
      refine Go.of (fun t k => XS.iconst Xx1336.here hx rfl (hb hby at_418) k) ?_
      show Go p e below Qo T1332 (mkF m 419 #[sJ j1, zS, sJ j2, zS, sJ j3, zS, sJ j4, zS, sJ j5, zS, sI i1, sI v4_2, sI v18_5, sI v32_8, sJ p3, zS, sR b10, sR b915, sR b946, sR b1176, sI (1 : Int32), sI (1 : Int32), sR (if (p3 < j4 ∨ (p3 = j4 ∧ j3 < j1)) then b946 else b10), sR v308_1341, sI v249_1338, sI (0 : Int32)] [(.int (0 : Int32))])
      exact J411_1345 _ (by first | rfl | (rw [if_neg hc411_1346]) | (simp only [hc411_1346, if_true, if_false]; done) | simp [hc411_1346])
    intro v411_1344 hv411_1344
    show Go p e below Qo T1332 (mkF m 419 #[sJ j1, zS, sJ j2, zS, sJ j3, zS, sJ j4, zS, sJ j5, zS, sI i1, sI v4_2, sI v18_5, sI v32_8, sJ p3, zS, sR b10, sR b915, sR b946, sR b1176, sI (1 : Int32), sI (1 : Int32), sR (if (p3 < j4 ∨ (p3 = j4 ∧ j3 < j1)) then b946 else b10), sR v308_1341, sI v249_1338, sI (0 : Int32)] [(.int v411_1344)])
    have hfin : v411_1344 = 1 := by
      refine hv411_1344.trans (if_pos ?_)
      have T := own_pair j4 p3 j1 j3 b10 b946
      subst hv249_1338 hv308_1341
      by_cases c0 : (F10 j4 j1 p3 j3) = (0 : Int32)
      all_goals (try simp only [c0, if_true, if_false, own_00, own_10])
      all_goals first | rfl | (exact T.1 (by assumption)) | (exact T.2 (by assumption)) | (exact absurd ⟨(by assumption), (by assumption)⟩ (own_tot j4 p3 j1 j3))
    exact own_retN Xx1336 hx Bd.notSynchronized (t := .boolean) Bd.returns (by simp) (hb hby at_419) (fun u hu hF => hQo _ _ _ ⟨by rw [hfin]; rfl, Nx1336⟩ (own_mono hF (by decide) (by decide)))
  refine Go.of (fun t k => XS.ifNo X915.here hx rfl (hb hby at_78) rfl ((if0 _ _).trans (feq hc78_929).1) k) ?_
  refine Go.of (fun t k => XS.iconst X915.here hx rfl (hb hby at_81) k) ?_
  obtain ⟨_, _, ⟨T1349, L1349, k1349, n1349⟩, -, X1349, ⟨Lc1349, hQ1349, l1349, y1349, z1349⟩, st1349⟩ := Jvm.LawKit.callS X915 hx (y := (⟨"java/lang/Integer", "valueOf", "(I)Ljava/lang/Integer;"⟩ : MethodName)) hown (mvT hZ (wk hw 18 rfl)) (mvT hZ (wk hw 19 rfl)) (mvT hZ (wk hw 20 rfl)) (mvT hZ (wk hw 21 rfl)) (by decide) (backOf (W := 2) (rm42 l Z a0 hw [] (2 : Int32) rc h915 n0 Z926 q919 q920 q921 (hC) (rfl)) hZ (wk hw 21 rfl) (wk hw 20 rfl) (by decide) (by decide)) (g := (mkF m 82 #[sJ j1, zS, sJ j2, zS, sJ j3, zS, sJ j4, zS, sJ j5, zS, sI i1, sI v4_2, sI v18_5, sI v32_8, sJ p3, zS, sR b10, zU, zU, zU, zU, zU, zU, zU, zU, zU] [(.int (2 : Int32)), (.ref b915), (.ref b915)])) rfl (by rw [hml]; rfl) (argsL := [(.int (2 : Int32))]) (rest := [(.ref b915), (.ref b915)]) (lenOf pd_6 rfl) rfl (by show 2 * 0 + _ ≤ _; exact Nat.le_of_eq rfl) (hb hby at_82) (fun _ _ => ⟨rfl, e915, (by decide : 2 + 0 ≤ _), (by decide : 4 + 0 ≤ _)⟩)
  dsimp only [Pt.U, Pt.locs, Pt.cells, Pt.slots] at X1349 l1349 y1349 z1349 st1349 hQ1349
  subst l1349 y1349 z1349
  replace X1349 := own_cs X1349 (c' := 2) (s' := 4) (by decide) (by decide)
  obtain ⟨x1351, rfl, N1350, Kc1352, q1353⟩ := hQ1349
  have N1354 := Fr.app Nx914 N1350
  have q1355 := own_staKeep q919 Kc1352 all0
  have q1356 := own_staKeep q920 Kc1352 all0
  have q1357 := q921.keep Kc1352 all0
  have q1358 := q922.keep Kc1352
  have q1359 := q923.keep Kc1352
  have q1360 := q924.keep Kc1352 nin0
  have q1361 := q925.keep Kc1352 nin0
  have q1362 := A915.keep Kc1352
  have q1363 := q927.keep Kc1352 nin0
  have q1364 := q928.keep Kc1352 nin0
  have Z1365 : n0 ≤ T1349.heap.size := Nat.le_trans Z926 Kc1352.1
  refine Go.of st1349 ?_
  obtain ⟨Lx1366, Xx1366, Nx1366⟩ := own_locs X1349 N1354
  show Go p e below Qo T1349 (mkF m 85 #[sJ j1, zS, sJ j2, zS, sJ j3, zS, sJ j4, zS, sJ j5, zS, sI i1, sI v4_2, sI v18_5, sI v32_8, sJ p3, zS, sR b10, zU, zU, zU, zU, zU, zU, zU, zU, zU] [(.ref x1351), (.ref b915), (.ref b915)])
  refine Go.of (fun t k => XS.goto Xx1366.here hx rfl (pc0 := 85) (pc' := 89) rfl (hb hby at_85) (by decide) (by decide) k) ?_
  show Go p e below Qo T1349 (mkF m 89 #[sJ j1, zS, sJ j2, zS, sJ j3, zS, sJ j4, zS, sJ j5, zS, sI i1, sI v4_2, sI v18_5, sI v32_8, sJ p3, zS, sR b10, zU, zU, zU, zU, zU, zU, zU, zU, zU] [(.ref x1351), (.ref b915), (.ref b915)])
  refine Go.of (fun t k => XS.aconstNull Xx1366.here hx rfl (hb hby at_89) k) ?_
  obtain ⟨_, _, ⟨T1367, L1367, k1367, n1367⟩, -, X1367, ⟨Lc1367, hQ1367, l1367, y1367, z1367⟩, st1367⟩ := Xx1366.specialBack hx (y := (⟨kA, "<init>", "(Ljava/lang/Object;Ljava/util/List;)V"⟩ : MethodName)) rfl hown (mvT hZ (wk hw 3 rfl)) (mvT hZ (wk hw 4 rfl)) (mvT hZ (wk hw 5 rfl)) (by decide) (backOf (W := 1) (rm1 l Z a0 hw [] b915 (.ref x1351) .null .null .null T1349.heap n0 Z1365 q1362 q1363 q1364 g918 rfl rfl) hZ (wk hw 5 rfl) (wk hw 2 rfl) (by decide) (by decide)) (g := (mkF m 90 #[sJ j1, zS, sJ j2, zS, sJ j3, zS, sJ j4, zS, sJ j5, zS, sI i1, sI v4_2, sI v18_5, sI v32_8, sJ p3, zS, sR b10, zU, zU, zU, zU, zU, zU, zU, zU, zU] [.null, (.ref x1351), (.ref b915), (.ref b915)])) rfl (by rw [hml]; rfl) (Steps.refl _) (a := b915) (argsL := [(.ref x1351), .null]) (rest := [(.ref b915)]) (lenOf pd_3 rfl) rfl (by show 2 * 0 + _ ≤ _; exact Nat.le_of_eq rfl) (hb hby at_90) (fun _ _ => ⟨rfl, rfl, (by decide : 2 + 0 ≤ _), (by decide : 4 + 0 ≤ _)⟩)
  dsimp only [Pt.U, Pt.locs, Pt.cells, Pt.slots] at X1367 l1367 y1367 z1367 st1367 hQ1367
  subst l1367 y1367 z1367
  replace X1367 := own_cs X1367 (c' := 2) (s' := 4) (by decide) (by decide)
  obtain ⟨rfl, N1368, Kc1369, q1370, q1371, q1372⟩ := hQ1367
  have N1373 := Fr.app Nx1366 N1368
  have q1374 := own_staKeep q1355 Kc1369 (allS (own_plainE q1362) all0)
  have q1375 := own_staKeep q1356 Kc1369 (allS (own_plainE q1362) all0)
  have q1376 := q1357.keep Kc1369 (allS g918 all0)
  have q1377 := q1358.keep Kc1369
  have q1378 := q1359.keep Kc1369
  have q1379 := q1360.keep Kc1369 (ninS ne917 nin0)
  have q1380 := q1361.keep Kc1369 (ninS ne917 nin0)
  have q1381 := q1353.keep Kc1369
  have Z1382 : n0 ≤ T1367.heap.size := Nat.le_trans Z1365 Kc1369.1
  refine Go.via st1367 ?_
  obtain ⟨Lx1383, Xx1383, Nx1383⟩ := own_locs X1367 N1373
  show Go p e below Qo T1367 (mkF m 93 #[sJ j1, zS, sJ j2, zS, sJ j3, zS, sJ j4, zS, sJ j5, zS, sI i1, sI v4_2, sI v18_5, sI v32_8, sJ p3, zS, sR b10, zU, zU, zU, zU, zU, zU, zU, zU, zU] [(.ref b915)])
  refine Go.of (fun t k => XS.astore Xx1383.here hx rfl (hb hby at_93) rfl rfl (l' := #[sJ j1, zS, sJ j2, zS, sJ j3, zS, sJ j4, zS, sJ j5, zS, sI i1, sI v4_2, sI v18_5, sI v32_8, sJ p3, zS, sR b10, sR b915, zU, zU, zU, zU, zU, zU, zU, zU]) rfl k) ?_
  obtain ⟨T1384, h1384, X1384, e1384, E1384, A1384, D1384, Um1384, st1384⟩ := newO Xx1383 hx hZ hown (wk hw 0 rfl) (wk hw 1 rfl) (wk hw 2 rfl) rfl (g := (mkF m 95 #[sJ j1, zS, sJ j2, zS, sJ j3, zS, sJ j4, zS, sJ j5, zS, sI i1, sI v4_2, sI v18_5, sI v32_8, sJ p3, zS, sR b10, sR b915, zU, zU, zU, zU, zU, zU, zU, zU] [])) rfl (hb hby at_95) (by decide) (by decide)
  obtain ⟨b1384, g1384⟩ : ∃ z, z = T1367.heap.size := ⟨_, rfl⟩
  rw [← g1384] at A1384 D1384 Um1384 st1384
  have ne1385 : x890 ≠ b1384 := Nat.ne_of_lt (Nat.lt_of_lt_of_le q1377.lt (Nat.le_of_eq g1384.symm))
  have ne1386 : b10 ≠ b1384 := Nat.ne_of_lt (Nat.lt_of_lt_of_le q1378.lt (Nat.le_of_eq g1384.symm))
  have ne1387 : x1351 ≠ b1384 := Nat.ne_of_lt (Nat.lt_of_lt_of_le q1381.lt (Nat.le_of_eq g1384.symm))
  have ne1388 : b915 ≠ b1384 := Nat.ne_of_lt (Nat.lt_of_lt_of_le q1370.lt (Nat.le_of_eq g1384.symm))
  have g1389 : n0 ≤ b1384 := Nat.le_trans Z1382 (Nat.le_of_eq g1384.symm)
  have q1390 := q1374.ext E1384
  have q1391 := q1375.ext E1384
  have q1392 := q1376.ext E1384
  have q1393 := q1377.ext E1384
  have q1394 := q1378.ext E1384
  have q1395 := q1379.ext E1384
  have q1396 := q1380.ext E1384
  have q1397 := q1381.ext E1384
  have q1398 := q1370.ext E1384
  have q1399 := q1371.ext E1384
  have q1400 := q1372.ext E1384
  have Z1401 : n0 ≤ h1384.size := Nat.le_trans Z1382 E1384.1
  replace X1384 := own_cs X1384 (c' := 3) (s' := 6) (by decide) (by decide)
  have q1402 : Fld Z h1384 b1384 kA "run" "Ljava/lang/Object;" .null := D1384 (Or.inr (wk hw 15 rfl)) (ty := (.object "java/lang/Object")) (by decide)
  have q1403 : Fld Z h1384 b1384 kA "choices" "Ljava/util/List;" .null := D1384 (Or.inr (wk hw 17 rfl)) (ty := (.object "java/util/List")) (by decide)
  refine Go.of st1384 ?_
  show Go p e below Qo T1384 (mkF m 98 #[sJ j1, zS, sJ j2, zS, sJ j3, zS, sJ j4, zS, sJ j5, zS, sI i1, sI v4_2, sI v18_5, sI v32_8, sJ p3, zS, sR b10, sR b915, zU, zU, zU, zU, zU, zU, zU, zU] [(.ref b1384)])
  refine Go.of (fun t k => XS.dup X1384.here hx rfl (hb hby at_98) rfl rfl k) ?_
  refine Go.of (fun t k => XS.iload X1384.here hx rfl (hb hby at_99) rfl  k) ?_
  by_cases hc101_1404 : v32_8 = (0 : Int32)
  · refine Go.of (fun t k => XS.ifYes X1384.here hx rfl (pc0 := 101) (pc' := 111) rfl (hb hby at_101) rfl ((if0 _ _).trans (teq hc101_1404).1) (by decide) (by decide) k) ?_
    refine Go.of (fun t k => XS.aconstNull X1384.here hx rfl (hb hby at_111) k) ?_
    refine Go.of (fun t k => XS.aconstNull X1384.here hx rfl (hb hby at_112) k) ?_
    obtain ⟨_, _, ⟨T1405, L1405, k1405, n1405⟩, -, X1405, ⟨Lc1405, hQ1405, l1405, y1405, z1405⟩, st1405⟩ := X1384.specialBack hx (y := (⟨kA, "<init>", "(Ljava/lang/Object;Ljava/util/List;)V"⟩ : MethodName)) rfl hown (mvT hZ (wk hw 3 rfl)) (mvT hZ (wk hw 4 rfl)) (mvT hZ (wk hw 5 rfl)) (by decide) (backOf (W := 1) (rm1 l Z a0 hw [] b1384 .null .null .null .null h1384 n0 Z1401 A1384 q1402 q1403 g1389 rfl rfl) hZ (wk hw 5 rfl) (wk hw 2 rfl) (by decide) (by decide)) (g := (mkF m 113 #[sJ j1, zS, sJ j2, zS, sJ j3, zS, sJ j4, zS, sJ j5, zS, sI i1, sI v4_2, sI v18_5, sI v32_8, sJ p3, zS, sR b10, sR b915, zU, zU, zU, zU, zU, zU, zU, zU] [.null, .null, (.ref b1384), (.ref b1384)])) rfl (by rw [hml]; rfl) (Steps.refl _) (a := b1384) (argsL := [.null, .null]) (rest := [(.ref b1384)]) (lenOf pd_3 rfl) rfl (by show 2 * 0 + _ ≤ _; exact Nat.le_of_eq rfl) (hb hby at_113) (fun _ _ => ⟨rfl, e1384, (by decide : 3 + 0 ≤ _), (by decide : 6 + 0 ≤ _)⟩)
    dsimp only [Pt.U, Pt.locs, Pt.cells, Pt.slots] at X1405 l1405 y1405 z1405 st1405 hQ1405
    subst l1405 y1405 z1405
    replace X1405 := own_cs X1405 (c' := 3) (s' := 6) (by decide) (by decide)
    obtain ⟨rfl, N1406, Kc1407, q1408, q1409, q1410⟩ := hQ1405
    have N1411 := Fr.app Nx1383 N1406
    have q1412 := own_staKeep q1390 Kc1407 (allS (own_plainE A1384) all0)
    have q1413 := own_staKeep q1391 Kc1407 (allS (own_plainE A1384) all0)
    have q1414 := q1392.keep Kc1407 (allS g1389 all0)
    have q1415 := q1393.keep Kc1407
    have q1416 := q1394.keep Kc1407
    have q1417 := q1395.keep Kc1407 (ninS ne1386 nin0)
    have q1418 := q1396.keep Kc1407 (ninS ne1386 nin0)
    have q1419 := q1397.keep Kc1407
    have q1420 := q1398.keep Kc1407
    have q1421 := q1399.keep Kc1407 (ninS ne1388 nin0)
    have q1422 := q1400.keep Kc1407 (ninS ne1388 nin0)
    have Z1423 : n0 ≤ T1405.heap.size := Nat.le_trans Z1401 Kc1407.1
    refine Go.via st1405 ?_
    obtain ⟨Lx1424, Xx1424, Nx1424⟩ := own_locs X1405 N1411
    show Go p e below Qo T1405 (mkF m 116 #[sJ j1, zS, sJ j2, zS, sJ j3, zS, sJ j4, zS, sJ j5, zS, sI i1, sI v4_2, sI v18_5, sI v32_8, sJ p3, zS, sR b10, sR b915, zU, zU, zU, zU, zU, zU, zU, zU] [(.ref b1384)])
    refine Go.of (fun t k => XS.astore Xx1424.here hx rfl (hb hby at_116) rfl rfl (l' := #[sJ j1, zS, sJ j2, zS, sJ j3, zS, sJ j4, zS, sJ j5, zS, sI i1, sI v4_2, sI v18_5, sI v32_8, sJ p3, zS, sR b10, sR b915, sR b1384, zU, zU, zU, zU, zU, zU, zU]) rfl k) ?_
    obtain ⟨T1425, h1425, X1425, e1425, E1425, A1425, D1425, Um1425, st1425⟩ := newO Xx1424 hx hZ hown (wk hw 25 rfl) (wk hw 26 rfl) (wk hw 27 rfl) rfl (g := (mkF m 118 #[sJ j1, zS, sJ j2, zS, sJ j3, zS, sJ j4, zS, sJ j5, zS, sI i1, sI v4_2, sI v18_5, sI v32_8, sJ p3, zS, sR b10, sR b915, sR b1384, zU, zU, zU, zU, zU, zU, zU] [])) rfl (hb hby at_118) (by decide) (by decide)
    obtain ⟨b1425, g1425⟩ : ∃ z, z = T1405.heap.size := ⟨_, rfl⟩
    rw [← g1425] at A1425 D1425 Um1425 st1425
    have ne1426 : x890 ≠ b1425 := Nat.ne_of_lt (Nat.lt_of_lt_of_le q1415.lt (Nat.le_of_eq g1425.symm))
    have ne1427 : b10 ≠ b1425 := Nat.ne_of_lt (Nat.lt_of_lt_of_le q1416.lt (Nat.le_of_eq g1425.symm))
    have ne1428 : x1351 ≠ b1425 := Nat.ne_of_lt (Nat.lt_of_lt_of_le q1419.lt (Nat.le_of_eq g1425.symm))
    have ne1429 : b915 ≠ b1425 := Nat.ne_of_lt (Nat.lt_of_lt_of_le q1420.lt (Nat.le_of_eq g1425.symm))
    have ne1430 : b1384 ≠ b1425 := Nat.ne_of_lt (Nat.lt_of_lt_of_le q1408.lt (Nat.le_of_eq g1425.symm))
    have g1431 : n0 ≤ b1425 := Nat.le_trans Z1423 (Nat.le_of_eq g1425.symm)
    have q1432 := q1412.ext E1425
    have q1433 := q1413.ext E1425
    have q1434 := q1414.ext E1425
    have q1435 := q1415.ext E1425
    have q1436 := q1416.ext E1425
    have q1437 := q1417.ext E1425
    have q1438 := q1418.ext E1425
    have q1439 := q1419.ext E1425
    have q1440 := q1420.ext E1425
    have q1441 := q1421.ext E1425
    have q1442 := q1422.ext E1425
    have q1443 := q1408.ext E1425
    have q1444 := q1409.ext E1425
    have q1445 := q1410.ext E1425
    have Z1446 : n0 ≤ h1425.size := Nat.le_trans Z1423 E1425.1
    replace X1425 := own_cs X1425 (c' := 4) (s' := 15) (by decide) (by decide)
    have q1447 : own_mon h1425 b1425 := by obtain ⟨cl, u1, -, u3⟩ := Um1425; exact ⟨cl, u1, u3⟩
    have q1448 : Fld Z h1425 b1425 kT "best" kD .null := D1425 (Or.inl (wk hw 38 rfl)) (ty := (.object kA)) (by decide)
    have q1449 : Fld Z h1425 b1425 kT "first" kD .null := D1425 (Or.inl (wk hw 40 rfl)) (ty := (.object kA)) (by decide)
    have q1450 : Fld Z h1425 b1425 kT "firstSeed" "J" (.long (0 : Int64)) := D1425 (Or.inl (wk hw 47 rfl)) (ty := .long) (by decide)
    have q1451 : Fld Z h1425 b1425 kT "bestSeed" "J" (.long (0 : Int64)) := D1425 (Or.inl (wk hw 54 rfl)) (ty := .long) (by decide)
    have q1452 : Fld Z h1425 b1425 kT "bestPenalty" "J" (.long (0 : Int64)) := D1425 (Or.inl (wk hw 56 rfl)) (ty := .long) (by decide)
    have q1453 : Fld Z h1425 b1425 kT "worstPenalty" "J" (.long (0 : Int64)) := D1425 (Or.inl (wk hw 58 rfl)) (ty := .long) (by decide)
    have q1454 : Fld Z h1425 b1425 kT "penaltySum" "J" (.long (0 : Int64)) := D1425 (Or.inl (wk hw 64 rfl)) (ty := .long) (by decide)
    have q1455 : Fld Z h1425 b1425 kT "feasibleRuns" "I" (.int (0 : Int32)) := D1425 (Or.inl (wk hw 66 rfl)) (ty := .int) (by decide)
    refine Go.of st1425 ?_
    show Go p e below Qo T1425 (mkF m 121 #[sJ j1, zS, sJ j2, zS, sJ j3, zS, sJ j4, zS, sJ j5, zS, sI i1, sI v4_2, sI v18_5, sI v32_8, sJ p3, zS, sR b10, sR b915, sR b1384, zU, zU, zU, zU, zU, zU, zU] [(.ref b1425)])
    refine Go.of (fun t k => XS.dup X1425.here hx rfl (hb hby at_121) rfl rfl k) ?_
    obtain ⟨_, _, ⟨T1456, L1456, k1456, n1456⟩, -, X1456, ⟨Lc1456, hQ1456, l1456, y1456, z1456⟩, st1456⟩ := X1425.specialBack hx (y := (⟨kT, "<init>", "()V"⟩ : MethodName)) rfl hown (mvT hZ (wk hw 28 rfl)) (mvT hZ (wk hw 29 rfl)) (mvT hZ (wk hw 30 rfl)) (by decide) (backOf (W := 1) (rm5 l Z a0 hw [] b1425 h1425 n0 Z1446 ) hZ (wk hw 30 rfl) (wk hw 27 rfl) (by decide) (by decide)) (g := (mkF m 122 #[sJ j1, zS, sJ j2, zS, sJ j3, zS, sJ j4, zS, sJ j5, zS, sI i1, sI v4_2, sI v18_5, sI v32_8, sJ p3, zS, sR b10, sR b915, sR b1384, zU, zU, zU, zU, zU, zU, zU] [(.ref b1425), (.ref b1425)])) rfl (by rw [hml]; rfl) (Steps.refl _) (a := b1425) (argsL := []) (rest := [(.ref b1425)]) (lenOf pd_0 rfl) rfl (by show 2 * 0 + _ ≤ _; exact Nat.le_of_eq rfl) (hb hby at_122) (fun _ _ => ⟨rfl, e1425, (by decide : 4 + 0 ≤ _), (by decide : 15 + 0 ≤ _)⟩)
    dsimp only [Pt.U, Pt.locs, Pt.cells, Pt.slots] at X1456 l1456 y1456 z1456 st1456 hQ1456
    subst l1456 y1456 z1456
    replace X1456 := own_cs X1456 (c' := 4) (s' := 15) (by decide) (by decide)
    obtain ⟨rfl, N1457, eh1458⟩ := hQ1456
    have N1459 := Fr.app Nx1424 N1457
    refine Go.via st1456 ?_
    obtain ⟨Lx1460, Xx1460, Nx1460⟩ := own_locs X1456 N1459
    show Go p e below Qo T1456 (mkF m 125 #[sJ j1, zS, sJ j2, zS, sJ j3, zS, sJ j4, zS, sJ j5, zS, sI i1, sI v4_2, sI v18_5, sI v32_8, sJ p3, zS, sR b10, sR b915, sR b1384, zU, zU, zU, zU, zU, zU, zU] [(.ref b1425)])
    refine Go.of (fun t k => XS.astore Xx1460.here hx rfl (hb hby at_125) rfl rfl (l' := #[sJ j1, zS, sJ j2, zS, sJ j3, zS, sJ j4, zS, sJ j5, zS, sI i1, sI v4_2, sI v18_5, sI v32_8, sJ p3, zS, sR b10, sR b915, sR b1384, sR b1425, zU, zU, zU, zU, zU, zU]) rfl k) ?_
    refine Go.of (fun t k => XS.aload Xx1460.here hx rfl (hb hby at_127) rfl rfl k) ?_
    obtain ⟨ciq1462, kiq1462, iq1462a, iq1462b, iq1462c⟩ := isOf hZ eh1458 A1425
    obtain ⟨_, _, ⟨T1461, L1461, k1461, n1461⟩, -, X1461, ⟨Lc1461, hQ1461, l1461, y1461, z1461⟩, st1461⟩ := Xx1460.virtualBack hx (y := (⟨kT, "reported", "()Lcom/example/examwright/examwright/Method$Attempt;"⟩ : MethodName)) (z := (⟨kT, "reported", "()Lcom/example/examwright/examwright/Method$Attempt;"⟩ : MethodName)) hown (mvT hZ (wk hw 32 rfl)) (mvT hZ (wk hw 33 rfl)) (notFace_of_selects (args := #[]) (mvT hZ (wk hw 35 rfl))) (mvT hZ (wk hw 35 rfl)) (mvT hZ (wk hw 34 rfl)) (by decide) (backOf (W := 0) (rm61 l Z a0 hw [] b1425 h1425 n0 Z1446 q1448 q1449) hZ (wk hw 36 rfl) (wk hw 27 rfl) (by decide) (by decide)) iq1462a iq1462c (g := (mkF m 129 #[sJ j1, zS, sJ j2, zS, sJ j3, zS, sJ j4, zS, sJ j5, zS, sI i1, sI v4_2, sI v18_5, sI v32_8, sJ p3, zS, sR b10, sR b915, sR b1384, sR b1425, zU, zU, zU, zU, zU, zU] [(.ref b1425)])) rfl (by rw [hml]; rfl) (Steps.refl _) (argsL := []) (rest := []) (lenOf pd_4 rfl) rfl (by show 2 * 0 + _ ≤ _; exact Nat.le_of_eq rfl) (hb hby at_129) (fun _ _ => ⟨rfl, eh1458, (by decide : 4 + 0 ≤ _), (by decide : 15 + 0 ≤ _)⟩)
    dsimp only [Pt.U, Pt.locs, Pt.cells, Pt.slots] at X1461 l1461 y1461 z1461 st1461 hQ1461
    subst l1461 y1461 z1461
    replace X1461 := own_cs X1461 (c' := 4) (s' := 15) (by decide) (by decide)
    obtain ⟨rfl, N1463, eh1464⟩ := hQ1461
    have N1465 := Fr.app Nx1460 N1463
    refine Go.via st1461 ?_
    obtain ⟨Lx1466, Xx1466, Nx1466⟩ := own_locs X1461 N1465
    show Go p e below Qo T1461 (mkF m 132 #[sJ j1, zS, sJ j2, zS, sJ j3, zS, sJ j4, zS, sJ j5, zS, sI i1, sI v4_2, sI v18_5, sI v32_8, sJ p3, zS, sR b10, sR b915, sR b1384, sR b1425, zU, zU, zU, zU, zU, zU] [.null])
    refine Go.of (fun t k => XS.ifnonnullNo Xx1466.here hx rfl (hb hby at_132) rfl k) ?_
    show Go p e below Qo T1461 (mkF m 135 #[sJ j1, zS, sJ j2, zS, sJ j3, zS, sJ j4, zS, sJ j5, zS, sI i1, sI v4_2, sI v18_5, sI v32_8, sJ p3, zS, sR b10, sR b915, sR b1384, sR b1425, zU, zU, zU, zU, zU, zU] [])
    refine Go.of (fun t k => XS.iconst Xx1466.here hx rfl (hb hby at_135) k) ?_
    refine Go.of (fun t k => XS.goto Xx1466.here hx rfl (pc0 := 136) (pc' := 140) rfl (hb hby at_136) (by decide) (by decide) k) ?_
    refine Go.of (fun t k => XS.istore Xx1466.here hx rfl (hb hby at_140) rfl (l' := #[sJ j1, zS, sJ j2, zS, sJ j3, zS, sJ j4, zS, sJ j5, zS, sI i1, sI v4_2, sI v18_5, sI v32_8, sJ p3, zS, sR b10, sR b915, sR b1384, sR b1425, sI (1 : Int32), zU, zU, zU, zU, zU]) rfl k) ?_
    refine Go.of (fun t k => XS.aload Xx1466.here hx rfl (hb hby at_142) rfl rfl k) ?_
    refine Go.of (fun t k => XS.lloadN Xx1466.here hx rfl (hb hby at_144) rfl  k) ?_
    refine Go.of (fun t k => XS.aload Xx1466.here hx rfl (hb hby at_145) rfl rfl k) ?_
    refine Go.of (fun t k => XS.lload Xx1466.here hx rfl (hb hby at_147) rfl  k) ?_
    obtain ⟨ciq1468, kiq1468, iq1468a, iq1468b, iq1468c⟩ := isOf hZ eh1464 A1425
    obtain ⟨_, _, ⟨T1467, L1467, k1467, n1467⟩, -, X1467, ⟨Lc1467, hQ1467, l1467, y1467, z1467⟩, st1467⟩ := Xx1466.virtualBack hx (y := (⟨kT, "add", "(JLcom/example/examwright/examwright/Method$Attempt;J)V"⟩ : MethodName)) (z := (⟨kT, "add", "(JLcom/example/examwright/examwright/Method$Attempt;J)V"⟩ : MethodName)) hown (mvT hZ (wk hw 41 rfl)) (mvT hZ (wk hw 42 rfl)) (notFace_of_selects (args := #[]) (mvT hZ (wk hw 44 rfl))) (mvT hZ (wk hw 44 rfl)) (mvT hZ (wk hw 43 rfl)) (by decide) (own_backS (W := 0) (a := b1425) (rm71 l Z a0 hw b1425 j1 b10 j4 (0 : Int64) (0 : Int64) (0 : Int64) (0 : Int64) (0 : Int64) (0 : Int32) x890 h1425 n0 Z1446 A1425 q1447 q1449 q1450 q1448 q1451 q1452 q1453 q1454 q1455 q1436 q1437 g1431 ne1427) hZ (wk hw 45 rfl) (wk hw 43 rfl) (wk hw 27 rfl) q1447 (by decide) (by decide)) iq1468a iq1468c (g := (mkF m 149 #[sJ j1, zS, sJ j2, zS, sJ j3, zS, sJ j4, zS, sJ j5, zS, sI i1, sI v4_2, sI v18_5, sI v32_8, sJ p3, zS, sR b10, sR b915, sR b1384, sR b1425, sI (1 : Int32), zU, zU, zU, zU, zU] [(.long j4), (.ref b10), (.long j1), (.ref b1425)])) rfl (by rw [hml]; rfl) (Steps.refl _) (argsL := [(.long j1), (.ref b10), (.long j4)]) (rest := []) (lenOf pd_5 rfl) rfl (by show 2 * 0 + _ ≤ _; exact Nat.le_of_eq rfl) (hb hby at_149) (fun _ _ => ⟨rfl, eh1464, (by decide : 4 + 0 ≤ _), (by decide : 15 + 0 ≤ _)⟩)
    dsimp only [Pt.U, Pt.locs, Pt.cells, Pt.slots] at X1467 l1467 y1467 z1467 st1467 hQ1467
    subst l1467 y1467 z1467
    replace X1467 := own_cs X1467 (c' := 4) (s' := 15) (by decide) (by decide)
    obtain ⟨x1470, x1471, x1472, rfl, N1469, Kc1473, q1474, q1475, q1476, q1477, q1478, q1479, q1480, q1481, q1482, q1483⟩ := hQ1467
    have N1484 := Fr.app Nx1466 N1469
    have q1485 := own_staKeep q1432 Kc1473 (allS (own_plainE A1425) all0)
    have q1486 := own_staKeep q1433 Kc1473 (allS (own_plainE A1425) all0)
    have q1487 := q1434.keep Kc1473 (allS g1431 all0)
    have q1488 := q1435.keep Kc1473
    have q1489 := q1436.keep Kc1473
    have q1490 := q1437.keep Kc1473 (ninS ne1427 nin0)
    have q1491 := q1438.keep Kc1473 (ninS ne1427 nin0)
    have q1492 := q1439.keep Kc1473
    have q1493 := q1440.keep Kc1473
    have q1494 := q1441.keep Kc1473 (ninS ne1429 nin0)
    have q1495 := q1442.keep Kc1473 (ninS ne1429 nin0)
    have q1496 := q1443.keep Kc1473
    have q1497 := q1444.keep Kc1473 (ninS ne1430 nin0)
    have q1498 := q1445.keep Kc1473 (ninS ne1430 nin0)
    have Z1499 : n0 ≤ T1467.heap.size := Nat.le_trans Z1446 Kc1473.1
    refine Go.via st1467 ?_
    obtain ⟨Lx1500, Xx1500, Nx1500⟩ := own_locs X1467 N1484
    show Go p e below Qo T1467 (mkF m 152 #[sJ j1, zS, sJ j2, zS, sJ j3, zS, sJ j4, zS, sJ j5, zS, sI i1, sI v4_2, sI v18_5, sI v32_8, sJ p3, zS, sR b10, sR b915, sR b1384, sR b1425, sI (1 : Int32), zU, zU, zU, zU, zU] [])
    refine Go.of (fun t k => XS.aload Xx1500.here hx rfl (hb hby at_152) rfl rfl k) ?_
    show Go p e below Qo T1467 (mkF m 154 #[sJ j1, zS, sJ j2, zS, sJ j3, zS, sJ j4, zS, sJ j5, zS, sI i1, sI v4_2, sI v18_5, sI v32_8, sJ p3, zS, sR b10, sR b915, sR b1384, sR b1425, sI (1 : Int32), zU, zU, zU, zU, zU] [(.ref b1425)])
    obtain ⟨ciq1502, kiq1502, iq1502a, iq1502b, iq1502c⟩ := isOf hZ rfl q1474
    obtain ⟨_, _, ⟨T1501, L1501, k1501, n1501⟩, -, X1501, ⟨Lc1501, hQ1501, l1501, y1501, z1501⟩, st1501⟩ := Xx1500.virtualBack hx (y := (⟨kT, "reported", "()Lcom/example/examwright/examwright/Method$Attempt;"⟩ : MethodName)) (z := (⟨kT, "reported", "()Lcom/example/examwright/examwright/Method$Attempt;"⟩ : MethodName)) hown (mvT hZ (wk hw 32 rfl)) (mvT hZ (wk hw 33 rfl)) (notFace_of_selects (args := #[]) (mvT hZ (wk hw 35 rfl))) (mvT hZ (wk hw 35 rfl)) (mvT hZ (wk hw 34 rfl)) (by decide) (backOf (W := 0) (rm63 l Z a0 hw [] b1425 b10 T1467.heap n0 Z1499 q1478) hZ (wk hw 36 rfl) (wk hw 27 rfl) (by decide) (by decide)) iq1502a iq1502c (g := (mkF m 154 #[sJ j1, zS, sJ j2, zS, sJ j3, zS, sJ j4, zS, sJ j5, zS, sI i1, sI v4_2, sI v18_5, sI v32_8, sJ p3, zS, sR b10, sR b915, sR b1384, sR b1425, sI (1 : Int32), zU, zU, zU, zU, zU] [(.ref b1425)])) rfl (by rw [hml]; rfl) (Steps.refl _) (argsL := []) (rest := []) (lenOf pd_4 rfl) rfl (by show 2 * 0 + _ ≤ _; exact Nat.le_of_eq rfl) (hb hby at_154) (fun _ _ => ⟨rfl, rfl, (by decide : 4 + 0 ≤ _), (by decide : 15 + 0 ≤ _)⟩)
    dsimp only [Pt.U, Pt.locs, Pt.cells, Pt.slots] at X1501 l1501 y1501 z1501 st1501 hQ1501
    subst l1501 y1501 z1501
    replace X1501 := own_cs X1501 (c' := 4) (s' := 15) (by decide) (by decide)
    obtain ⟨rfl, N1503, eh1504⟩ := hQ1501
    have N1505 := Fr.app Nx1500 N1503
    refine Go.via st1501 ?_
    obtain ⟨Lx1506, Xx1506, Nx1506⟩ := own_locs X1501 N1505
    show Go p e below Qo T1501 (mkF m 157 #[sJ j1, zS, sJ j2, zS, sJ j3, zS, sJ j4, zS, sJ j5, zS, sI i1, sI v4_2, sI v18_5, sI v32_8, sJ p3, zS, sR b10, sR b915, sR b1384, sR b1425, sI (1 : Int32), zU, zU, zU, zU, zU] [(.ref b10)])
    refine Go.of (fun t k => XS.aload Xx1506.here hx rfl (hb hby at_157) rfl rfl k) ?_
    refine Go.of (fun t k => Jvm.RoadKit.acmp (g := (mkF m 159 #[sJ j1, zS, sJ j2, zS, sJ j3, zS, sJ j4, zS, sJ j5, zS, sI i1, sI v4_2, sI v18_5, sI v32_8, sJ p3, zS, sR b10, sR b915, sR b1384, sR b1425, sI (1 : Int32), zU, zU, zU, zU, zU] [(.ref b10), (.ref b10)])) Xx1506 hx rfl rfl rfl (pc0 := 159) (pc' := 162) (same := true) rfl (hb hby at_159) rfl (decide_eq_true rfl) (by decide) (by decide) k) ?_
    refine Go.of (fun t k => XS.iconst Xx1506.here hx rfl (hb hby at_162) k) ?_
    refine Go.of (fun t k => XS.goto Xx1506.here hx rfl (pc0 := 163) (pc' := 167) rfl (hb hby at_163) (by decide) (by decide) k) ?_
    refine Go.of (fun t k => XS.istore Xx1506.here hx rfl (hb hby at_167) rfl (l' := #[sJ j1, zS, sJ j2, zS, sJ j3, zS, sJ j4, zS, sJ j5, zS, sI i1, sI v4_2, sI v18_5, sI v32_8, sJ p3, zS, sR b10, sR b915, sR b1384, sR b1425, sI (1 : Int32), sI (1 : Int32), zU, zU, zU, zU]) rfl k) ?_
    refine Go.of (fun t k => XS.aload Xx1506.here hx rfl (hb hby at_169) rfl rfl k) ?_
    refine Go.of (fun t k => XS.lloadN Xx1506.here hx rfl (hb hby at_171) rfl  k) ?_
    refine Go.of (fun t k => XS.aload Xx1506.here hx rfl (hb hby at_172) rfl rfl k) ?_
    show Go p e below Qo T1501 (mkF m 174 #[sJ j1, zS, sJ j2, zS, sJ j3, zS, sJ j4, zS, sJ j5, zS, sI i1, sI v4_2, sI v18_5, sI v32_8, sJ p3, zS, sR b10, sR b915, sR b1384, sR b1425, sI (1 : Int32), sI (1 : Int32), zU, zU, zU, zU] [(.ref b915), (.long j2), (.ref b1425)])
    refine Go.of (fun t k => XS.lload Xx1506.here hx rfl (hb hby at_174) rfl  k) ?_
    obtain ⟨ciq1508, kiq1508, iq1508a, iq1508b, iq1508c⟩ := isOf hZ eh1504 q1474
    obtain ⟨_, _, ⟨T1507, L1507, k1507, n1507⟩, -, X1507, ⟨Lc1507, hQ1507, l1507, y1507, z1507⟩, st1507⟩ := Xx1506.virtualBack hx (y := (⟨kT, "add", "(JLcom/example/examwright/examwright/Method$Attempt;J)V"⟩ : MethodName)) (z := (⟨kT, "add", "(JLcom/example/examwright/examwright/Method$Attempt;J)V"⟩ : MethodName)) hown (mvT hZ (wk hw 41 rfl)) (mvT hZ (wk hw 42 rfl)) (notFace_of_selects (args := #[]) (mvT hZ (wk hw 44 rfl))) (mvT hZ (wk hw 44 rfl)) (mvT hZ (wk hw 43 rfl)) (by decide) (own_backS (W := 0) (a := b1425) (rm77 l Z a0 hw b1425 j2 b915 j5 b10 j1 b10 j1 j4 x1470 x1471 x1472 x1351 T1467.heap n0 Z1499 q1474 q1475 q1476 q1477 q1478 q1479 q1480 q1481 q1482 q1483 q1493 q1494 g1431 ne1429) hZ (wk hw 45 rfl) (wk hw 43 rfl) (wk hw 27 rfl) q1475 (by decide) (by decide)) iq1508a iq1508c (g := (mkF m 176 #[sJ j1, zS, sJ j2, zS, sJ j3, zS, sJ j4, zS, sJ j5, zS, sI i1, sI v4_2, sI v18_5, sI v32_8, sJ p3, zS, sR b10, sR b915, sR b1384, sR b1425, sI (1 : Int32), sI (1 : Int32), zU, zU, zU, zU] [(.long j5), (.ref b915), (.long j2), (.ref b1425)])) rfl (by rw [hml]; rfl) (Steps.refl _) (argsL := [(.long j2), (.ref b915), (.long j5)]) (rest := []) (lenOf pd_5 rfl) rfl (by show 2 * 0 + _ ≤ _; exact Nat.le_of_eq rfl) (hb hby at_176) (fun _ _ => ⟨rfl, eh1504, (by decide : 4 + 0 ≤ _), (by decide : 15 + 0 ≤ _)⟩)
    dsimp only [Pt.U, Pt.locs, Pt.cells, Pt.slots] at X1507 l1507 y1507 z1507 st1507 hQ1507
    subst l1507 y1507 z1507
    replace X1507 := own_cs X1507 (c' := 4) (s' := 15) (by decide) (by decide)
    obtain ⟨x1510, x1511, x1512, rfl, N1509, Kc1513, q1514, q1515, q1516, q1517, q1518, q1519, q1520, q1521, q1522, q1523⟩ := hQ1507
    have N1524 := Fr.app Nx1506 N1509
    have q1525 := own_staKeep q1485 Kc1513 (allS (own_plainE q1474) all0)
    have q1526 := own_staKeep q1486 Kc1513 (allS (own_plainE q1474) all0)
    have q1527 := q1487.keep Kc1513 (allS g1431 all0)
    have q1528 := q1488.keep Kc1513
    have q1529 := q1489.keep Kc1513
    have q1530 := q1490.keep Kc1513 (ninS ne1427 nin0)
    have q1531 := q1491.keep Kc1513 (ninS ne1427 nin0)
    have q1532 := q1492.keep Kc1513
    have q1533 := q1493.keep Kc1513
    have q1534 := q1494.keep Kc1513 (ninS ne1429 nin0)
    have q1535 := q1495.keep Kc1513 (ninS ne1429 nin0)
    have q1536 := q1496.keep Kc1513
    have q1537 := q1497.keep Kc1513 (ninS ne1430 nin0)
    have q1538 := q1498.keep Kc1513 (ninS ne1430 nin0)
    have Z1539 : n0 ≤ T1507.heap.size := Nat.le_trans Z1499 Kc1513.1
    refine Go.via st1507 ?_
    obtain ⟨Lx1540, Xx1540, Nx1540⟩ := own_locs X1507 N1524
    show Go p e below Qo T1507 (mkF m 179 #[sJ j1, zS, sJ j2, zS, sJ j3, zS, sJ j4, zS, sJ j5, zS, sI i1, sI v4_2, sI v18_5, sI v32_8, sJ p3, zS, sR b10, sR b915, sR b1384, sR b1425, sI (1 : Int32), sI (1 : Int32), zU, zU, zU, zU] [])
    refine Go.of (fun t k => XS.aload Xx1540.here hx rfl (hb hby at_179) rfl rfl k) ?_
    refine Go.of (fun t k => XS.lload Xx1540.here hx rfl (hb hby at_181) rfl  k) ?_
    refine Go.of (fun t k => XS.aload Xx1540.here hx rfl (hb hby at_183) rfl rfl k) ?_
    refine Go.of (fun t k => XS.lload Xx1540.here hx rfl (hb hby at_185) rfl  k) ?_
    obtain ⟨ciq1542, kiq1542, iq1542a, iq1542b, iq1542c⟩ := isOf hZ rfl q1514
    obtain ⟨_, _, ⟨T1541, L1541, k1541, n1541⟩, -, X1541, ⟨Lc1541, hQ1541, l1541, y1541, z1541⟩, st1541⟩ := Xx1540.virtualBack hx (y := (⟨kT, "add", "(JLcom/example/examwright/examwright/Method$Attempt;J)V"⟩ : MethodName)) (z := (⟨kT, "add", "(JLcom/example/examwright/examwright/Method$Attempt;J)V"⟩ : MethodName)) hown (mvT hZ (wk hw 41 rfl)) (mvT hZ (wk hw 42 rfl)) (notFace_of_selects (args := #[]) (mvT hZ (wk hw 44 rfl))) (mvT hZ (wk hw 44 rfl)) (mvT hZ (wk hw 43 rfl)) (by decide) (own_backS (W := 0) (a := b1425) (rm76 l Z a0 hw b1425 j3 b1384 p3 (if j2 < j1 then b915 else b10) (if j2 < j1 then j2 else j1) (if (j5 < j4 ∨ (j5 = j4 ∧ j2 < j1)) then b915 else b10) (if (j5 < j4 ∨ (j5 = j4 ∧ j2 < j1)) then j2 else j1) (if (j5 < j4 ∨ (j5 = j4 ∧ j2 < j1)) then j5 else j4) x1510 x1511 x1512 T1507.heap n0 Z1539 q1514 q1515 q1516 q1517 q1518 q1519 q1520 q1521 q1522 q1523 q1536 q1537 g1431 ne1430) hZ (wk hw 45 rfl) (wk hw 43 rfl) (wk hw 27 rfl) q1515 (by decide) (by decide)) iq1542a iq1542c (g := (mkF m 187 #[sJ j1, zS, sJ j2, zS, sJ j3, zS, sJ j4, zS, sJ j5, zS, sI i1, sI v4_2, sI v18_5, sI v32_8, sJ p3, zS, sR b10, sR b915, sR b1384, sR b1425, sI (1 : Int32), sI (1 : Int32), zU, zU, zU, zU] [(.long p3), (.ref b1384), (.long j3), (.ref b1425)])) rfl (by rw [hml]; rfl) (Steps.refl _) (argsL := [(.long j3), (.ref b1384), (.long p3)]) (rest := []) (lenOf pd_5 rfl) rfl (by show 2 * 0 + _ ≤ _; exact Nat.le_of_eq rfl) (hb hby at_187) (fun _ _ => ⟨rfl, rfl, (by decide : 4 + 0 ≤ _), (by decide : 15 + 0 ≤ _)⟩)
    dsimp only [Pt.U, Pt.locs, Pt.cells, Pt.slots] at X1541 l1541 y1541 z1541 st1541 hQ1541
    subst l1541 y1541 z1541
    replace X1541 := own_cs X1541 (c' := 4) (s' := 15) (by decide) (by decide)
    obtain ⟨x1544, x1545, x1546, rfl, N1543, Kc1547, q1548, q1549, q1550, q1551, q1552, q1553, q1554, q1555, q1556, q1557⟩ := hQ1541
    have N1558 := Fr.app Nx1540 N1543
    have q1559 := own_staKeep q1525 Kc1547 (allS (own_plainE q1514) all0)
    have q1560 := own_staKeep q1526 Kc1547 (allS (own_plainE q1514) all0)
    have q1561 := q1527.keep Kc1547 (allS g1431 all0)
    have q1562 := q1528.keep Kc1547
    have q1563 := q1529.keep Kc1547
    have q1564 := q1530.keep Kc1547 (ninS ne1427 nin0)
    have q1565 := q1531.keep Kc1547 (ninS ne1427 nin0)
    have q1566 := q1532.keep Kc1547
    have q1567 := q1533.keep Kc1547
    have q1568 := q1534.keep Kc1547 (ninS ne1429 nin0)
    have q1569 := q1535.keep Kc1547 (ninS ne1429 nin0)
    have q1570 := q1536.keep Kc1547
    have q1571 := q1537.keep Kc1547 (ninS ne1430 nin0)
    have q1572 := q1538.keep Kc1547 (ninS ne1430 nin0)
    have Z1573 : n0 ≤ T1541.heap.size := Nat.le_trans Z1539 Kc1547.1
    refine Go.via st1541 ?_
    obtain ⟨Lx1574, Xx1574, Nx1574⟩ := own_locs X1541 N1558
    show Go p e below Qo T1541 (mkF m 190 #[sJ j1, zS, sJ j2, zS, sJ j3, zS, sJ j4, zS, sJ j5, zS, sI i1, sI v4_2, sI v18_5, sI v32_8, sJ p3, zS, sR b10, sR b915, sR b1384, sR b1425, sI (1 : Int32), sI (1 : Int32), zU, zU, zU, zU] [])
    refine Go.of (fun t k => XS.aload Xx1574.here hx rfl (hb hby at_190) rfl rfl k) ?_
    obtain ⟨ciq1576, kiq1576, iq1576a, iq1576b, iq1576c⟩ := isOf hZ rfl q1548
    obtain ⟨_, _, ⟨T1575, L1575, k1575, n1575⟩, -, X1575, ⟨Lc1575, hQ1575, l1575, y1575, z1575⟩, st1575⟩ := Xx1574.virtualBack hx (y := (⟨kT, "reported", "()Lcom/example/examwright/examwright/Method$Attempt;"⟩ : MethodName)) (z := (⟨kT, "reported", "()Lcom/example/examwright/examwright/Method$Attempt;"⟩ : MethodName)) hown (mvT hZ (wk hw 32 rfl)) (mvT hZ (wk hw 33 rfl)) (notFace_of_selects (args := #[]) (mvT hZ (wk hw 35 rfl))) (mvT hZ (wk hw 35 rfl)) (mvT hZ (wk hw 34 rfl)) (by decide) (backOf (W := 0) (rm63 l Z a0 hw [] b1425 (if (j5 < j4 ∨ (j5 = j4 ∧ j2 < j1)) then b915 else b10) T1541.heap n0 Z1573 q1552) hZ (wk hw 36 rfl) (wk hw 27 rfl) (by decide) (by decide)) iq1576a iq1576c (g := (mkF m 192 #[sJ j1, zS, sJ j2, zS, sJ j3, zS, sJ j4, zS, sJ j5, zS, sI i1, sI v4_2, sI v18_5, sI v32_8, sJ p3, zS, sR b10, sR b915, sR b1384, sR b1425, sI (1 : Int32), sI (1 : Int32), zU, zU, zU, zU] [(.ref b1425)])) rfl (by rw [hml]; rfl) (Steps.refl _) (argsL := []) (rest := []) (lenOf pd_4 rfl) rfl (by show 2 * 0 + _ ≤ _; exact Nat.le_of_eq rfl) (hb hby at_192) (fun _ _ => ⟨rfl, rfl, (by decide : 4 + 0 ≤ _), (by decide : 15 + 0 ≤ _)⟩)
    dsimp only [Pt.U, Pt.locs, Pt.cells, Pt.slots] at X1575 l1575 y1575 z1575 st1575 hQ1575
    subst l1575 y1575 z1575
    replace X1575 := own_cs X1575 (c' := 4) (s' := 15) (by decide) (by decide)
    obtain ⟨rfl, N1577, eh1578⟩ := hQ1575
    have N1579 := Fr.app Nx1574 N1577
    refine Go.via st1575 ?_
    obtain ⟨Lx1580, Xx1580, Nx1580⟩ := own_locs X1575 N1579
    show Go p e below Qo T1575 (mkF m 195 #[sJ j1, zS, sJ j2, zS, sJ j3, zS, sJ j4, zS, sJ j5, zS, sI i1, sI v4_2, sI v18_5, sI v32_8, sJ p3, zS, sR b10, sR b915, sR b1384, sR b1425, sI (1 : Int32), sI (1 : Int32), zU, zU, zU, zU] [(.ref (if (j5 < j4 ∨ (j5 = j4 ∧ j2 < j1)) then b915 else b10))])
    refine Go.of (fun t k => XS.astore Xx1580.here hx rfl (hb hby at_195) rfl rfl (l' := #[sJ j1, zS, sJ j2, zS, sJ j3, zS, sJ j4, zS, sJ j5, zS, sI i1, sI v4_2, sI v18_5, sI v32_8, sJ p3, zS, sR b10, sR b915, sR b1384, sR b1425, sI (1 : Int32), sI (1 : Int32), sR (if (j5 < j4 ∨ (j5 = j4 ∧ j2 < j1)) then b915 else b10), zU, zU, zU]) rfl k) ?_
    refine Go.of (fun t k => XS.iload Xx1580.here hx rfl (hb hby at_197) rfl  k) ?_
    show Go p e below Qo T1575 (mkF m 199 #[sJ j1, zS, sJ j2, zS, sJ j3, zS, sJ j4, zS, sJ j5, zS, sI i1, sI v4_2, sI v18_5, sI v32_8, sJ p3, zS, sR b10, sR b915, sR b1384, sR b1425, sI (1 : Int32), sI (1 : Int32), sR (if (j5 < j4 ∨ (j5 = j4 ∧ j2 < j1)) then b915 else b10), zU, zU, zU] [(.int v4_2)])
    refine Go.of (fun t k => XS.ifYes Xx1580.here hx rfl (pc0 := 199) (pc' := 212) rfl (hb hby at_199) rfl ((if0 _ _).trans (feq hc55_18).2) (by decide) (by decide) k) ?_
    refine Go.of (fun t k => XS.iload Xx1580.here hx rfl (hb hby at_212) rfl  k) ?_
    refine Go.of (fun t k => XS.ifNo Xx1580.here hx rfl (hb hby at_214) rfl ((if0 _ _).trans (feq hc55_18).1) k) ?_
    refine Go.of (fun t k => XS.iload Xx1580.here hx rfl (hb hby at_217) rfl  k) ?_
    refine Go.of (fun t k => XS.ifNo Xx1580.here hx rfl (hb hby at_219) rfl ((if0 _ _).trans (feq hc78_929).1) k) ?_
    refine Go.of (fun t k => XS.lload Xx1580.here hx rfl (hb hby at_222) rfl  k) ?_
    refine Go.of (fun t k => XS.lloadN Xx1580.here hx rfl (hb hby at_224) rfl  k) ?_
    refine Go.of (fun t k => XS.lload Xx1580.here hx rfl (hb hby at_225) rfl  k) ?_
    show Go p e below Qo T1575 (mkF m 227 #[sJ j1, zS, sJ j2, zS, sJ j3, zS, sJ j4, zS, sJ j5, zS, sI i1, sI v4_2, sI v18_5, sI v32_8, sJ p3, zS, sR b10, sR b915, sR b1384, sR b1425, sI (1 : Int32), sI (1 : Int32), sR (if (j5 < j4 ∨ (j5 = j4 ∧ j2 < j1)) then b915 else b10), zU, zU, zU] [(.long j5), (.long j1), (.long j4)])
    refine Go.of (fun t k => XS.lloadN Xx1580.here hx rfl (hb hby at_227) rfl  k) ?_
    obtain ⟨_, _, ⟨T1581, L1581, k1581, n1581⟩, -, X1581, ⟨Lc1581, hQ1581, l1581, y1581, z1581⟩, st1581⟩ := Jvm.LawKit.callS Xx1580 hx (y := (⟨kL, "le", "(JJJJ)Z"⟩ : MethodName)) hown (mvT hZ (wk hw 67 rfl)) (mvT hZ (wk hw 68 rfl)) (mvT hZ (wk hw 69 rfl)) (mvT hZ (wk hw 70 rfl)) (by decide) (backOf (W := 0) (rm10 l Z a0 hw [] j4 j1 j5 j2 T1541.heap n0 Z1573 ) hZ (wk hw 70 rfl) (wk hw 69 rfl) (by decide) (by decide)) (g := (mkF m 228 #[sJ j1, zS, sJ j2, zS, sJ j3, zS, sJ j4, zS, sJ j5, zS, sI i1, sI v4_2, sI v18_5, sI v32_8, sJ p3, zS, sR b10, sR b915, sR b1384, sR b1425, sI (1 : Int32), sI (1 : Int32), sR (if (j5 < j4 ∨ (j5 = j4 ∧ j2 < j1)) then b915 else b10), zU, zU, zU] [(.long j2), (.long j5), (.long j1), (.long j4)])) rfl (by rw [hml]; rfl) (argsL := [(.long j4), (.long j1), (.long j5), (.long j2)]) (rest := []) (lenOf pd_7 rfl) rfl (by show 2 * 0 + _ ≤ _; exact Nat.le_of_eq rfl) (hb hby at_228) (fun _ _ => ⟨rfl, eh1578, (by decide : 4 + 0 ≤ _), (by decide : 15 + 0 ≤ _)⟩)
    dsimp only [Pt.U, Pt.locs, Pt.cells, Pt.slots] at X1581 l1581 y1581 z1581 st1581 hQ1581
    subst l1581 y1581 z1581
    replace X1581 := own_cs X1581 (c' := 4) (s' := 15) (by decide) (by decide)
    obtain ⟨rfl, N1582, eh1583⟩ := hQ1581
    have N1584 := Fr.app Nx1580 N1582
    refine Go.of st1581 ?_
    obtain ⟨Lx1585, Xx1585, Nx1585⟩ := own_locs X1581 N1584
    show Go p e below Qo T1581 (mkF m 231 #[sJ j1, zS, sJ j2, zS, sJ j3, zS, sJ j4, zS, sJ j5, zS, sI i1, sI v4_2, sI v18_5, sI v32_8, sJ p3, zS, sR b10, sR b915, sR b1384, sR b1425, sI (1 : Int32), sI (1 : Int32), sR (if (j5 < j4 ∨ (j5 = j4 ∧ j2 < j1)) then b915 else b10), zU, zU, zU] [(.int (F10 j4 j1 j5 j2))])
    suffices J231_1588 : ∀ (v231_1587 : Int32), v231_1587 = (if (F10 j4 j1 j5 j2) = (0 : Int32) then (0 : Int32) else (1 : Int32)) → Go p e below Qo T1581 (mkF m 257 #[sJ j1, zS, sJ j2, zS, sJ j3, zS, sJ j4, zS, sJ j5, zS, sI i1, sI v4_2, sI v18_5, sI v32_8, sJ p3, zS, sR b10, sR b915, sR b1384, sR b1425, sI (1 : Int32), sI (1 : Int32), sR (if (j5 < j4 ∨ (j5 = j4 ∧ j2 < j1)) then b915 else b10), zU, zU, zU] [(.int v231_1587)]) by
      by_cases hc231_1608 : (F10 j4 j1 j5 j2) = (0 : Int32)
      · refine Go.of (fun t k => XS.ifYes Xx1585.here hx rfl (pc0 := 231) (pc' := 256) rfl (hb hby at_231) rfl ((if0 _ _).trans (teq hc231_1608).1) (by decide) (by decide) k) ?_
        show Go p e below Qo T1581 (mkF m 256 #[sJ j1, zS, sJ j2, zS, sJ j3, zS, sJ j4, zS, sJ j5, zS, sI i1, sI v4_2, sI v18_5, sI v32_8, sJ p3, zS, sR b10, sR b915, sR b1384, sR b1425, sI (1 : Int32), sI (1 : Int32), sR (if (j5 < j4 ∨ (j5 = j4 ∧ j2 < j1)) then b915 else b10), zU, zU, zU] [])
        refine Go.of (fun t k => XS.iconst Xx1585.here hx rfl (hb hby at_256) k) ?_
        show Go p e below Qo T1581 (mkF m 257 #[sJ j1, zS, sJ j2, zS, sJ j3, zS, sJ j4, zS, sJ j5, zS, sI i1, sI v4_2, sI v18_5, sI v32_8, sJ p3, zS, sR b10, sR b915, sR b1384, sR b1425, sI (1 : Int32), sI (1 : Int32), sR (if (j5 < j4 ∨ (j5 = j4 ∧ j2 < j1)) then b915 else b10), zU, zU, zU] [(.int (0 : Int32))])
        exact J231_1588 _ (by first | rfl | (rw [if_pos hc231_1608]) | (simp only [hc231_1608, if_true, if_false]; done) | simp [hc231_1608])
      refine Go.of (fun t k => XS.ifNo Xx1585.here hx rfl (hb hby at_231) rfl ((if0 _ _).trans (feq hc231_1608).1) k) ?_
      refine Go.of (fun t k => XS.iload Xx1585.here hx rfl (hb hby at_234) rfl  k) ?_
      refine Go.of (fun t k => XS.ifYes Xx1585.here hx rfl (pc0 := 236) (pc' := 252) rfl (hb hby at_236) rfl ((if0 _ _).trans (teq hc101_1404).1) (by decide) (by decide) k) ?_
      refine Go.of (fun t k => XS.iconst Xx1585.here hx rfl (hb hby at_252) k) ?_
      refine Go.of (fun t k => XS.goto Xx1585.here hx rfl (pc0 := 253) (pc' := 257) rfl (hb hby at_253) (by decide) (by decide) k) ?_
      show Go p e below Qo T1581 (mkF m 257 #[sJ j1, zS, sJ j2, zS, sJ j3, zS, sJ j4, zS, sJ j5, zS, sI i1, sI v4_2, sI v18_5, sI v32_8, sJ p3, zS, sR b10, sR b915, sR b1384, sR b1425, sI (1 : Int32), sI (1 : Int32), sR (if (j5 < j4 ∨ (j5 = j4 ∧ j2 < j1)) then b915 else b10), zU, zU, zU] [(.int (1 : Int32))])
      exact J231_1588 _ (by first | rfl | (rw [if_neg hc231_1608]) | (simp only [hc231_1608, if_true, if_false]; done) | simp [hc231_1608])
    intro v231_1587 hv231_1587
    show Go p e below Qo T1581 (mkF m 257 #[sJ j1, zS, sJ j2, zS, sJ j3, zS, sJ j4, zS, sJ j5, zS, sI i1, sI v4_2, sI v18_5, sI v32_8, sJ p3, zS, sR b10, sR b915, sR b1384, sR b1425, sI (1 : Int32), sI (1 : Int32), sR (if (j5 < j4 ∨ (j5 = j4 ∧ j2 < j1)) then b915 else b10), zU, zU, zU] [(.int v231_1587)])
    refine Go.of (fun t k => XS.istore Xx1585.here hx rfl (hb hby at_257) rfl (l' := #[sJ j1, zS, sJ j2, zS, sJ j3, zS, sJ j4, zS, sJ j5, zS, sI i1, sI v4_2, sI v18_5, sI v32_8, sJ p3, zS, sR b10, sR b915, sR b1384, sR b1425, sI (1 : Int32), sI (1 : Int32), sR (if (j5 < j4 ∨ (j5 = j4 ∧ j2 < j1)) then b915 else b10), zU, sI v231_1587, zU]) rfl k) ?_
    refine Go.of (fun t k => XS.iload Xx1585.here hx rfl (hb hby at_259) rfl  k) ?_
    refine Go.of (fun t k => XS.ifNo Xx1585.here hx rfl (hb hby at_261) rfl ((if0 _ _).trans (feq hc78_929).1) k) ?_
    refine Go.of (fun t k => XS.iload Xx1585.here hx rfl (hb hby at_264) rfl  k) ?_
    refine Go.of (fun t k => XS.ifNo Xx1585.here hx rfl (hb hby at_266) rfl ((if0 _ _).trans (feq hc55_18).1) k) ?_
    refine Go.of (fun t k => XS.lload Xx1585.here hx rfl (hb hby at_269) rfl  k) ?_
    refine Go.of (fun t k => XS.lloadN Xx1585.here hx rfl (hb hby at_271) rfl  k) ?_
    refine Go.of (fun t k => XS.lload Xx1585.here hx rfl (hb hby at_272) rfl  k) ?_
    show Go p e below Qo T1581 (mkF m 274 #[sJ j1, zS, sJ j2, zS, sJ j3, zS, sJ j4, zS, sJ j5, zS, sI i1, sI v4_2, sI v18_5, sI v32_8, sJ p3, zS, sR b10, sR b915, sR b1384, sR b1425, sI (1 : Int32), sI (1 : Int32), sR (if (j5 < j4 ∨ (j5 = j4 ∧ j2 < j1)) then b915 else b10), zU, sI v231_1587, zU] [(.long j4), (.long j2), (.long j5)])
    refine Go.of (fun t k => XS.lloadN Xx1585.here hx rfl (hb hby at_274) rfl  k) ?_
    obtain ⟨_, _, ⟨T1589, L1589, k1589, n1589⟩, -, X1589, ⟨Lc1589, hQ1589, l1589, y1589, z1589⟩, st1589⟩ := Jvm.LawKit.callS Xx1585 hx (y := (⟨kL, "le", "(JJJJ)Z"⟩ : MethodName)) hown (mvT hZ (wk hw 67 rfl)) (mvT hZ (wk hw 68 rfl)) (mvT hZ (wk hw 69 rfl)) (mvT hZ (wk hw 70 rfl)) (by decide) (backOf (W := 0) (rm10 l Z a0 hw [] j5 j2 j4 j1 T1541.heap n0 Z1573 ) hZ (wk hw 70 rfl) (wk hw 69 rfl) (by decide) (by decide)) (g := (mkF m 275 #[sJ j1, zS, sJ j2, zS, sJ j3, zS, sJ j4, zS, sJ j5, zS, sI i1, sI v4_2, sI v18_5, sI v32_8, sJ p3, zS, sR b10, sR b915, sR b1384, sR b1425, sI (1 : Int32), sI (1 : Int32), sR (if (j5 < j4 ∨ (j5 = j4 ∧ j2 < j1)) then b915 else b10), zU, sI v231_1587, zU] [(.long j1), (.long j4), (.long j2), (.long j5)])) rfl (by rw [hml]; rfl) (argsL := [(.long j5), (.long j2), (.long j4), (.long j1)]) (rest := []) (lenOf pd_7 rfl) rfl (by show 2 * 0 + _ ≤ _; exact Nat.le_of_eq rfl) (hb hby at_275) (fun _ _ => ⟨rfl, eh1583, (by decide : 4 + 0 ≤ _), (by decide : 15 + 0 ≤ _)⟩)
    dsimp only [Pt.U, Pt.locs, Pt.cells, Pt.slots] at X1589 l1589 y1589 z1589 st1589 hQ1589
    subst l1589 y1589 z1589
    replace X1589 := own_cs X1589 (c' := 4) (s' := 15) (by decide) (by decide)
    obtain ⟨rfl, N1590, eh1591⟩ := hQ1589
    have N1592 := Fr.app Nx1585 N1590
    refine Go.of st1589 ?_
    obtain ⟨Lx1593, Xx1593, Nx1593⟩ := own_locs X1589 N1592
    show Go p e below Qo T1589 (mkF m 278 #[sJ j1, zS, sJ j2, zS, sJ j3, zS, sJ j4, zS, sJ j5, zS, sI i1, sI v4_2, sI v18_5, sI v32_8, sJ p3, zS, sR b10, sR b915, sR b1384, sR b1425, sI (1 : Int32), sI (1 : Int32), sR (if (j5 < j4 ∨ (j5 = j4 ∧ j2 < j1)) then b915 else b10), zU, sI v231_1587, zU] [(.int (F10 j5 j2 j4 j1))])
    suffices J278_1596 : ∀ (v278_1595 : Int32), v278_1595 = (if (F10 j5 j2 j4 j1) = (0 : Int32) then (0 : Int32) else (1 : Int32)) → Go p e below Qo T1589 (mkF m 304 #[sJ j1, zS, sJ j2, zS, sJ j3, zS, sJ j4, zS, sJ j5, zS, sI i1, sI v4_2, sI v18_5, sI v32_8, sJ p3, zS, sR b10, sR b915, sR b1384, sR b1425, sI (1 : Int32), sI (1 : Int32), sR (if (j5 < j4 ∨ (j5 = j4 ∧ j2 < j1)) then b915 else b10), zU, sI v231_1587, zU] [(.int v278_1595)]) by
      by_cases hc278_1607 : (F10 j5 j2 j4 j1) = (0 : Int32)
      · refine Go.of (fun t k => XS.ifYes Xx1593.here hx rfl (pc0 := 278) (pc' := 303) rfl (hb hby at_278) rfl ((if0 _ _).trans (teq hc278_1607).1) (by decide) (by decide) k) ?_
        refine Go.of (fun t k => XS.iconst Xx1593.here hx rfl (hb hby at_303) k) ?_
        show Go p e below Qo T1589 (mkF m 304 #[sJ j1, zS, sJ j2, zS, sJ j3, zS, sJ j4, zS, sJ j5, zS, sI i1, sI v4_2, sI v18_5, sI v32_8, sJ p3, zS, sR b10, sR b915, sR b1384, sR b1425, sI (1 : Int32), sI (1 : Int32), sR (if (j5 < j4 ∨ (j5 = j4 ∧ j2 < j1)) then b915 else b10), zU, sI v231_1587, zU] [(.int (0 : Int32))])
        exact J278_1596 _ (by first | rfl | (rw [if_pos hc278_1607]) | (simp only [hc278_1607, if_true, if_false]; done) | simp [hc278_1607])
      refine Go.of (fun t k => XS.ifNo Xx1593.here hx rfl (hb hby at_278) rfl ((if0 _ _).trans (feq hc278_1607).1) k) ?_
      refine Go.of (fun t k => XS.iload Xx1593.here hx rfl (hb hby at_281) rfl  k) ?_
      refine Go.of (fun t k => XS.ifYes Xx1593.here hx rfl (pc0 := 283) (pc' := 299) rfl (hb hby at_283) rfl ((if0 _ _).trans (teq hc101_1404).1) (by decide) (by decide) k) ?_
      refine Go.of (fun t k => XS.iconst Xx1593.here hx rfl (hb hby at_299) k) ?_
      refine Go.of (fun t k => XS.goto Xx1593.here hx rfl (pc0 := 300) (pc' := 304) rfl (hb hby at_300) (by decide) (by decide) k) ?_
      show Go p e below Qo T1589 (mkF m 304 #[sJ j1, zS, sJ j2, zS, sJ j3, zS, sJ j4, zS, sJ j5, zS, sI i1, sI v4_2, sI v18_5, sI v32_8, sJ p3, zS, sR b10, sR b915, sR b1384, sR b1425, sI (1 : Int32), sI (1 : Int32), sR (if (j5 < j4 ∨ (j5 = j4 ∧ j2 < j1)) then b915 else b10), zU, sI v231_1587, zU] [(.int (1 : Int32))])
      exact J278_1596 _ (by first | rfl | (rw [if_neg hc278_1607]) | (simp only [hc278_1607, if_true, if_false]; done) | simp [hc278_1607])
    intro v278_1595 hv278_1595
    show Go p e below Qo T1589 (mkF m 304 #[sJ j1, zS, sJ j2, zS, sJ j3, zS, sJ j4, zS, sJ j5, zS, sI i1, sI v4_2, sI v18_5, sI v32_8, sJ p3, zS, sR b10, sR b915, sR b1384, sR b1425, sI (1 : Int32), sI (1 : Int32), sR (if (j5 < j4 ∨ (j5 = j4 ∧ j2 < j1)) then b915 else b10), zU, sI v231_1587, zU] [(.int v278_1595)])
    refine Go.of (fun t k => XS.istore Xx1593.here hx rfl (hb hby at_304) rfl (l' := #[sJ j1, zS, sJ j2, zS, sJ j3, zS, sJ j4, zS, sJ j5, zS, sI i1, sI v4_2, sI v18_5, sI v32_8, sJ p3, zS, sR b10, sR b915, sR b1384, sR b1425, sI (1 : Int32), sI (1 : Int32), sR (if (j5 < j4 ∨ (j5 = j4 ∧ j2 < j1)) then b915 else b10), zU, sI v231_1587, sI v278_1595]) rfl k) ?_
    refine Go.of (fun t k => XS.iload Xx1593.here hx rfl (hb hby at_306) rfl  k) ?_
    suffices J308_1600 : ∀ (v308_1599 : Addr), v308_1599 = (if v231_1587 = (0 : Int32) then (if v278_1595 = (0 : Int32) then b1384 else b915) else b10) → Go p e below Qo T1589 (mkF m 328 #[sJ j1, zS, sJ j2, zS, sJ j3, zS, sJ j4, zS, sJ j5, zS, sI i1, sI v4_2, sI v18_5, sI v32_8, sJ p3, zS, sR b10, sR b915, sR b1384, sR b1425, sI (1 : Int32), sI (1 : Int32), sR (if (j5 < j4 ∨ (j5 = j4 ∧ j2 < j1)) then b915 else b10), zU, sI v231_1587, sI v278_1595] [(.ref v308_1599)]) by
      by_cases hc308_1605 : v231_1587 = (0 : Int32)
      · refine Go.of (fun t k => XS.ifYes Xx1593.here hx rfl (pc0 := 308) (pc' := 316) rfl (hb hby at_308) rfl ((if0 _ _).trans (teq hc308_1605).1) (by decide) (by decide) k) ?_
        refine Go.of (fun t k => XS.iload Xx1593.here hx rfl (hb hby at_316) rfl  k) ?_
        show Go p e below Qo T1589 (mkF m 318 #[sJ j1, zS, sJ j2, zS, sJ j3, zS, sJ j4, zS, sJ j5, zS, sI i1, sI v4_2, sI v18_5, sI v32_8, sJ p3, zS, sR b10, sR b915, sR b1384, sR b1425, sI (1 : Int32), sI (1 : Int32), sR (if (j5 < j4 ∨ (j5 = j4 ∧ j2 < j1)) then b915 else b10), zU, sI v231_1587, sI v278_1595] [(.int v278_1595)])
        by_cases hc318_1606 : v278_1595 = (0 : Int32)
        · refine Go.of (fun t k => XS.ifYes Xx1593.here hx rfl (pc0 := 318) (pc' := 326) rfl (hb hby at_318) rfl ((if0 _ _).trans (teq hc318_1606).1) (by decide) (by decide) k) ?_
          refine Go.of (fun t k => XS.aload Xx1593.here hx rfl (hb hby at_326) rfl rfl k) ?_
          show Go p e below Qo T1589 (mkF m 328 #[sJ j1, zS, sJ j2, zS, sJ j3, zS, sJ j4, zS, sJ j5, zS, sI i1, sI v4_2, sI v18_5, sI v32_8, sJ p3, zS, sR b10, sR b915, sR b1384, sR b1425, sI (1 : Int32), sI (1 : Int32), sR (if (j5 < j4 ∨ (j5 = j4 ∧ j2 < j1)) then b915 else b10), zU, sI v231_1587, sI v278_1595] [(.ref b1384)])
          exact J308_1600 _ (by first | rfl | (rw [if_pos hc308_1605, if_pos hc318_1606]) | (simp only [hc308_1605, hc318_1606, if_true, if_false]; done) | simp [hc308_1605, hc318_1606])
        refine Go.of (fun t k => XS.ifNo Xx1593.here hx rfl (hb hby at_318) rfl ((if0 _ _).trans (feq hc318_1606).1) k) ?_
        refine Go.of (fun t k => XS.aload Xx1593.here hx rfl (hb hby at_321) rfl rfl k) ?_
        refine Go.of (fun t k => XS.goto Xx1593.here hx rfl (pc0 := 323) (pc' := 328) rfl (hb hby at_323) (by decide) (by decide) k) ?_
        show Go p e below Qo T1589 (mkF m 328 #[sJ j1, zS, sJ j2, zS, sJ j3, zS, sJ j4, zS, sJ j5, zS, sI i1, sI v4_2, sI v18_5, sI v32_8, sJ p3, zS, sR b10, sR b915, sR b1384, sR b1425, sI (1 : Int32), sI (1 : Int32), sR (if (j5 < j4 ∨ (j5 = j4 ∧ j2 < j1)) then b915 else b10), zU, sI v231_1587, sI v278_1595] [(.ref b915)])
        exact J308_1600 _ (by first | rfl | (rw [if_pos hc308_1605, if_neg hc318_1606]) | (simp only [hc308_1605, hc318_1606, if_true, if_false]; done) | simp [hc308_1605, hc318_1606])
      refine Go.of (fun t k => XS.ifNo Xx1593.here hx rfl (hb hby at_308) rfl ((if0 _ _).trans (feq hc308_1605).1) k) ?_
      refine Go.of (fun t k => XS.aload Xx1593.here hx rfl (hb hby at_311) rfl rfl k) ?_
      refine Go.of (fun t k => XS.goto Xx1593.here hx rfl (pc0 := 313) (pc' := 328) rfl (hb hby at_313) (by decide) (by decide) k) ?_
      show Go p e below Qo T1589 (mkF m 328 #[sJ j1, zS, sJ j2, zS, sJ j3, zS, sJ j4, zS, sJ j5, zS, sI i1, sI v4_2, sI v18_5, sI v32_8, sJ p3, zS, sR b10, sR b915, sR b1384, sR b1425, sI (1 : Int32), sI (1 : Int32), sR (if (j5 < j4 ∨ (j5 = j4 ∧ j2 < j1)) then b915 else b10), zU, sI v231_1587, sI v278_1595] [(.ref b10)])
      show Go p e below Qo T1589 (mkF m 328 #[sJ j1, zS, sJ j2, zS, sJ j3, zS, sJ j4, zS, sJ j5, zS, sI i1, sI v4_2, sI v18_5, sI v32_8, sJ p3, zS, sR b10, sR b915, sR b1384, sR b1425, sI (1 : Int32), sI (1 : Int32), sR (if (j5 < j4 ∨ (j5 = j4 ∧ j2 < j1)) then b915 else b10), zU, sI v231_1587, sI v278_1595] [(.ref b10)])
      exact J308_1600 _ (by first | rfl | (rw [if_neg hc308_1605]) | (simp only [hc308_1605, if_true, if_false]; done) | simp [hc308_1605])
    intro v308_1599 hv308_1599
    show Go p e below Qo T1589 (mkF m 328 #[sJ j1, zS, sJ j2, zS, sJ j3, zS, sJ j4, zS, sJ j5, zS, sI i1, sI v4_2, sI v18_5, sI v32_8, sJ p3, zS, sR b10, sR b915, sR b1384, sR b1425, sI (1 : Int32), sI (1 : Int32), sR (if (j5 < j4 ∨ (j5 = j4 ∧ j2 < j1)) then b915 else b10), zU, sI v231_1587, sI v278_1595] [(.ref v308_1599)])
    refine Go.of (fun t k => XS.astore Xx1593.here hx rfl (hb hby at_328) rfl rfl (l' := #[sJ j1, zS, sJ j2, zS, sJ j3, zS, sJ j4, zS, sJ j5, zS, sI i1, sI v4_2, sI v18_5, sI v32_8, sJ p3, zS, sR b10, sR b915, sR b1384, sR b1425, sI (1 : Int32), sI (1 : Int32), sR (if (j5 < j4 ∨ (j5 = j4 ∧ j2 < j1)) then b915 else b10), sR v308_1599, sI v231_1587, sI v278_1595]) rfl k) ?_
    refine Go.of (fun t k => XS.goto Xx1593.here hx rfl (pc0 := 330) (pc' := 397) rfl (hb hby at_330) (by decide) (by decide) k) ?_
    refine Go.of (fun t k => XS.iload Xx1593.here hx rfl (hb hby at_397) rfl  k) ?_
    refine Go.of (fun t k => XS.ifNo Xx1593.here hx rfl (hb hby at_399) rfl ((if0 _ _).trans (feq (by decide : ¬ ((1 : Int32) = (0 : Int32)))).1) k) ?_
    show Go p e below Qo T1589 (mkF m 402 #[sJ j1, zS, sJ j2, zS, sJ j3, zS, sJ j4, zS, sJ j5, zS, sI i1, sI v4_2, sI v18_5, sI v32_8, sJ p3, zS, sR b10, sR b915, sR b1384, sR b1425, sI (1 : Int32), sI (1 : Int32), sR (if (j5 < j4 ∨ (j5 = j4 ∧ j2 < j1)) then b915 else b10), sR v308_1599, sI v231_1587, sI v278_1595] [])
    refine Go.of (fun t k => XS.iload Xx1593.here hx rfl (hb hby at_402) rfl  k) ?_
    refine Go.of (fun t k => XS.ifNo Xx1593.here hx rfl (hb hby at_404) rfl ((if0 _ _).trans (feq (by decide : ¬ ((1 : Int32) = (0 : Int32)))).1) k) ?_
    refine Go.of (fun t k => XS.aload Xx1593.here hx rfl (hb hby at_407) rfl rfl k) ?_
    refine Go.of (fun t k => XS.aload Xx1593.here hx rfl (hb hby at_409) rfl rfl k) ?_
    suffices J411_1603 : ∀ (v411_1602 : Int32), v411_1602 = (if (if (j5 < j4 ∨ (j5 = j4 ∧ j2 < j1)) then b915 else b10) = v308_1599 then (1 : Int32) else (0 : Int32)) → Go p e below Qo T1589 (mkF m 419 #[sJ j1, zS, sJ j2, zS, sJ j3, zS, sJ j4, zS, sJ j5, zS, sI i1, sI v4_2, sI v18_5, sI v32_8, sJ p3, zS, sR b10, sR b915, sR b1384, sR b1425, sI (1 : Int32), sI (1 : Int32), sR (if (j5 < j4 ∨ (j5 = j4 ∧ j2 < j1)) then b915 else b10), sR v308_1599, sI v231_1587, sI v278_1595] [(.int v411_1602)]) by
      by_cases hc411_1604 : (if (j5 < j4 ∨ (j5 = j4 ∧ j2 < j1)) then b915 else b10) = v308_1599
      · refine Go.of (fun t k => Jvm.RoadKit.acmp (g := (mkF m 411 #[sJ j1, zS, sJ j2, zS, sJ j3, zS, sJ j4, zS, sJ j5, zS, sI i1, sI v4_2, sI v18_5, sI v32_8, sJ p3, zS, sR b10, sR b915, sR b1384, sR b1425, sI (1 : Int32), sI (1 : Int32), sR (if (j5 < j4 ∨ (j5 = j4 ∧ j2 < j1)) then b915 else b10), sR v308_1599, sI v231_1587, sI v278_1595] [(.ref v308_1599), (.ref (if (j5 < j4 ∨ (j5 = j4 ∧ j2 < j1)) then b915 else b10))])) Xx1593 hx rfl rfl rfl (pc0 := 411) (pc' := 414) (same := true) rfl (hb hby at_411) rfl (decide_eq_true (congrArg Value.ref hc411_1604)) (by decide) (by decide) k) ?_
        refine Go.of (fun t k => XS.iconst Xx1593.here hx rfl (hb hby at_414) k) ?_
        refine Go.of (fun t k => XS.goto Xx1593.here hx rfl (pc0 := 415) (pc' := 419) rfl (hb hby at_415) (by decide) (by decide) k) ?_
        show Go p e below Qo T1589 (mkF m 419 #[sJ j1, zS, sJ j2, zS, sJ j3, zS, sJ j4, zS, sJ j5, zS, sI i1, sI v4_2, sI v18_5, sI v32_8, sJ p3, zS, sR b10, sR b915, sR b1384, sR b1425, sI (1 : Int32), sI (1 : Int32), sR (if (j5 < j4 ∨ (j5 = j4 ∧ j2 < j1)) then b915 else b10), sR v308_1599, sI v231_1587, sI v278_1595] [(.int (1 : Int32))])
        exact J411_1603 _ (by first | rfl | (rw [if_pos hc411_1604]) | (simp only [hc411_1604, if_true, if_false]; done) | simp [hc411_1604])
      refine Go.of (fun t k => Jvm.RoadKit.acmp (g := (mkF m 411 #[sJ j1, zS, sJ j2, zS, sJ j3, zS, sJ j4, zS, sJ j5, zS, sI i1, sI v4_2, sI v18_5, sI v32_8, sJ p3, zS, sR b10, sR b915, sR b1384, sR b1425, sI (1 : Int32), sI (1 : Int32), sR (if (j5 < j4 ∨ (j5 = j4 ∧ j2 < j1)) then b915 else b10), sR v308_1599, sI v231_1587, sI v278_1595] [(.ref v308_1599), (.ref (if (j5 < j4 ∨ (j5 = j4 ∧ j2 < j1)) then b915 else b10))])) Xx1593 hx rfl rfl rfl (pc0 := 411) (pc' := 418) (same := false) rfl (hb hby at_411) rfl (decide_eq_false fun q => hc411_1604 (Value.ref.inj q)) (by decide) (by decide) k) ?_
      refine Go.of (fun t k => XS.iconst Xx1593.here hx rfl (hb hby at_418) k) ?_
      show Go p e below Qo T1589 (mkF m 419 #[sJ j1, zS, sJ j2, zS, sJ j3, zS, sJ j4, zS, sJ j5, zS, sI i1, sI v4_2, sI v18_5, sI v32_8, sJ p3, zS, sR b10, sR b915, sR b1384, sR b1425, sI (1 : Int32), sI (1 : Int32), sR (if (j5 < j4 ∨ (j5 = j4 ∧ j2 < j1)) then b915 else b10), sR v308_1599, sI v231_1587, sI v278_1595] [(.int (0 : Int32))])
      exact J411_1603 _ (by first | rfl | (rw [if_neg hc411_1604]) | (simp only [hc411_1604, if_true, if_false]; done) | simp [hc411_1604])
    intro v411_1602 hv411_1602
    show Go p e below Qo T1589 (mkF m 419 #[sJ j1, zS, sJ j2, zS, sJ j3, zS, sJ j4, zS, sJ j5, zS, sI i1, sI v4_2, sI v18_5, sI v32_8, sJ p3, zS, sR b10, sR b915, sR b1384, sR b1425, sI (1 : Int32), sI (1 : Int32), sR (if (j5 < j4 ∨ (j5 = j4 ∧ j2 < j1)) then b915 else b10), sR v308_1599, sI v231_1587, sI v278_1595] [(.int v411_1602)])
    have hfin : v411_1602 = 1 := by
      refine hv411_1602.trans (if_pos ?_)
      have T := own_pair j4 j5 j1 j2 b10 b915
      subst hv231_1587 hv278_1595 hv308_1599
      by_cases c0 : (F10 j4 j1 j5 j2) = (0 : Int32)
      all_goals by_cases c1 : (F10 j5 j2 j4 j1) = (0 : Int32)
      all_goals (try simp only [c0, c1, if_true, if_false, own_00, own_10])
      all_goals first | rfl | (exact T.1 (by assumption)) | (exact T.2 (by assumption)) | (exact absurd ⟨(by assumption), (by assumption)⟩ (own_tot j4 j5 j1 j2))
    exact own_retN Xx1593 hx Bd.notSynchronized (t := .boolean) Bd.returns (by simp) (hb hby at_419) (fun u hu hF => hQo _ _ _ ⟨by rw [hfin]; rfl, Nx1593⟩ (own_mono hF (by decide) (by decide)))
  refine Go.of (fun t k => XS.ifNo X1384.here hx rfl (hb hby at_101) rfl ((if0 _ _).trans (feq hc101_1404).1) k) ?_
  refine Go.of (fun t k => XS.iconst X1384.here hx rfl (hb hby at_104) k) ?_
  show Go p e below Qo T1384 (mkF m 105 #[sJ j1, zS, sJ j2, zS, sJ j3, zS, sJ j4, zS, sJ j5, zS, sI i1, sI v4_2, sI v18_5, sI v32_8, sJ p3, zS, sR b10, sR b915, zU, zU, zU, zU, zU, zU, zU, zU] [(.int (3 : Int32)), (.ref b1384), (.ref b1384)])
  obtain ⟨_, _, ⟨T1609, L1609, k1609, n1609⟩, -, X1609, ⟨Lc1609, hQ1609, l1609, y1609, z1609⟩, st1609⟩ := Jvm.LawKit.callS X1384 hx (y := (⟨"java/lang/Integer", "valueOf", "(I)Ljava/lang/Integer;"⟩ : MethodName)) hown (mvT hZ (wk hw 18 rfl)) (mvT hZ (wk hw 19 rfl)) (mvT hZ (wk hw 20 rfl)) (mvT hZ (wk hw 21 rfl)) (by decide) (backOf (W := 2) (rm43 l Z a0 hw [] (3 : Int32) rc h1384 n0 Z1401 q1390 q1391 q1392 (hC) (rfl)) hZ (wk hw 21 rfl) (wk hw 20 rfl) (by decide) (by decide)) (g := (mkF m 105 #[sJ j1, zS, sJ j2, zS, sJ j3, zS, sJ j4, zS, sJ j5, zS, sI i1, sI v4_2, sI v18_5, sI v32_8, sJ p3, zS, sR b10, sR b915, zU, zU, zU, zU, zU, zU, zU, zU] [(.int (3 : Int32)), (.ref b1384), (.ref b1384)])) rfl (by rw [hml]; rfl) (argsL := [(.int (3 : Int32))]) (rest := [(.ref b1384), (.ref b1384)]) (lenOf pd_6 rfl) rfl (by show 2 * 0 + _ ≤ _; exact Nat.le_of_eq rfl) (hb hby at_105) (fun _ _ => ⟨rfl, e1384, (by decide : 3 + 0 ≤ _), (by decide : 6 + 0 ≤ _)⟩)
  dsimp only [Pt.U, Pt.locs, Pt.cells, Pt.slots] at X1609 l1609 y1609 z1609 st1609 hQ1609
  subst l1609 y1609 z1609
  replace X1609 := own_cs X1609 (c' := 3) (s' := 6) (by decide) (by decide)
  obtain ⟨x1611, rfl, N1610, Kc1612, q1613⟩ := hQ1609
  have N1614 := Fr.app Nx1383 N1610
  have q1615 := own_staKeep q1390 Kc1612 all0
  have q1616 := own_staKeep q1391 Kc1612 all0
  have q1617 := q1392.keep Kc1612 all0
  have q1618 := q1393.keep Kc1612
  have q1619 := q1394.keep Kc1612
  have q1620 := q1395.keep Kc1612 nin0
  have q1621 := q1396.keep Kc1612 nin0
  have q1622 := q1397.keep Kc1612
  have q1623 := q1398.keep Kc1612
  have q1624 := q1399.keep Kc1612 nin0
  have q1625 := q1400.keep Kc1612 nin0
  have q1626 := A1384.keep Kc1612
  have q1627 := q1402.keep Kc1612 nin0
  have q1628 := q1403.keep Kc1612 nin0
  have Z1629 : n0 ≤ T1609.heap.size := Nat.le_trans Z1401 Kc1612.1
  refine Go.of st1609 ?_
  obtain ⟨Lx1630, Xx1630, Nx1630⟩ := own_locs X1609 N1614
  show Go p e below Qo T1609 (mkF m 108 #[sJ j1, zS, sJ j2, zS, sJ j3, zS, sJ j4, zS, sJ j5, zS, sI i1, sI v4_2, sI v18_5, sI v32_8, sJ p3, zS, sR b10, sR b915, zU, zU, zU, zU, zU, zU, zU, zU] [(.ref x1611), (.ref b1384), (.ref b1384)])
  refine Go.of (fun t k => XS.goto Xx1630.here hx rfl (pc0 := 108) (pc' := 112) rfl (hb hby at_108) (by decide) (by decide) k) ?_
  refine Go.of (fun t k => XS.aconstNull Xx1630.here hx rfl (hb hby at_112) k) ?_
  obtain ⟨_, _, ⟨T1631, L1631, k1631, n1631⟩, -, X1631, ⟨Lc1631, hQ1631, l1631, y1631, z1631⟩, st1631⟩ := Xx1630.specialBack hx (y := (⟨kA, "<init>", "(Ljava/lang/Object;Ljava/util/List;)V"⟩ : MethodName)) rfl hown (mvT hZ (wk hw 3 rfl)) (mvT hZ (wk hw 4 rfl)) (mvT hZ (wk hw 5 rfl)) (by decide) (backOf (W := 1) (rm1 l Z a0 hw [] b1384 (.ref x1611) .null .null .null T1609.heap n0 Z1629 q1626 q1627 q1628 g1389 rfl rfl) hZ (wk hw 5 rfl) (wk hw 2 rfl) (by decide) (by decide)) (g := (mkF m 113 #[sJ j1, zS, sJ j2, zS, sJ j3, zS, sJ j4, zS, sJ j5, zS, sI i1, sI v4_2, sI v18_5, sI v32_8, sJ p3, zS, sR b10, sR b915, zU, zU, zU, zU, zU, zU, zU, zU] [.null, (.ref x1611), (.ref b1384), (.ref b1384)])) rfl (by rw [hml]; rfl) (Steps.refl _) (a := b1384) (argsL := [(.ref x1611), .null]) (rest := [(.ref b1384)]) (lenOf pd_3 rfl) rfl (by show 2 * 0 + _ ≤ _; exact Nat.le_of_eq rfl) (hb hby at_113) (fun _ _ => ⟨rfl, rfl, (by decide : 3 + 0 ≤ _), (by decide : 6 + 0 ≤ _)⟩)
  dsimp only [Pt.U, Pt.locs, Pt.cells, Pt.slots] at X1631 l1631 y1631 z1631 st1631 hQ1631
  subst l1631 y1631 z1631
  replace X1631 := own_cs X1631 (c' := 3) (s' := 6) (by decide) (by decide)
  obtain ⟨rfl, N1632, Kc1633, q1634, q1635, q1636⟩ := hQ1631
  have N1637 := Fr.app Nx1630 N1632
  have q1638 := own_staKeep q1615 Kc1633 (allS (own_plainE q1626) all0)
  have q1639 := own_staKeep q1616 Kc1633 (allS (own_plainE q1626) all0)
  have q1640 := q1617.keep Kc1633 (allS g1389 all0)
  have q1641 := q1618.keep Kc1633
  have q1642 := q1619.keep Kc1633
  have q1643 := q1620.keep Kc1633 (ninS ne1386 nin0)
  have q1644 := q1621.keep Kc1633 (ninS ne1386 nin0)
  have q1645 := q1622.keep Kc1633
  have q1646 := q1623.keep Kc1633
  have q1647 := q1624.keep Kc1633 (ninS ne1388 nin0)
  have q1648 := q1625.keep Kc1633 (ninS ne1388 nin0)
  have q1649 := q1613.keep Kc1633
  have Z1650 : n0 ≤ T1631.heap.size := Nat.le_trans Z1629 Kc1633.1
  refine Go.via st1631 ?_
  obtain ⟨Lx1651, Xx1651, Nx1651⟩ := own_locs X1631 N1637
  show Go p e below Qo T1631 (mkF m 116 #[sJ j1, zS, sJ j2, zS, sJ j3, zS, sJ j4, zS, sJ j5, zS, sI i1, sI v4_2, sI v18_5, sI v32_8, sJ p3, zS, sR b10, sR b915, zU, zU, zU, zU, zU, zU, zU, zU] [(.ref b1384)])
  refine Go.of (fun t k => XS.astore Xx1651.here hx rfl (hb hby at_116) rfl rfl (l' := #[sJ j1, zS, sJ j2, zS, sJ j3, zS, sJ j4, zS, sJ j5, zS, sI i1, sI v4_2, sI v18_5, sI v32_8, sJ p3, zS, sR b10, sR b915, sR b1384, zU, zU, zU, zU, zU, zU, zU]) rfl k) ?_
  obtain ⟨T1652, h1652, X1652, e1652, E1652, A1652, D1652, Um1652, st1652⟩ := newO Xx1651 hx hZ hown (wk hw 25 rfl) (wk hw 26 rfl) (wk hw 27 rfl) rfl (g := (mkF m 118 #[sJ j1, zS, sJ j2, zS, sJ j3, zS, sJ j4, zS, sJ j5, zS, sI i1, sI v4_2, sI v18_5, sI v32_8, sJ p3, zS, sR b10, sR b915, sR b1384, zU, zU, zU, zU, zU, zU, zU] [])) rfl (hb hby at_118) (by decide) (by decide)
  obtain ⟨b1652, g1652⟩ : ∃ z, z = T1631.heap.size := ⟨_, rfl⟩
  rw [← g1652] at A1652 D1652 Um1652 st1652
  have ne1653 : x890 ≠ b1652 := Nat.ne_of_lt (Nat.lt_of_lt_of_le q1641.lt (Nat.le_of_eq g1652.symm))
  have ne1654 : b10 ≠ b1652 := Nat.ne_of_lt (Nat.lt_of_lt_of_le q1642.lt (Nat.le_of_eq g1652.symm))
  have ne1655 : x1351 ≠ b1652 := Nat.ne_of_lt (Nat.lt_of_lt_of_le q1645.lt (Nat.le_of_eq g1652.symm))
  have ne1656 : b915 ≠ b1652 := Nat.ne_of_lt (Nat.lt_of_lt_of_le q1646.lt (Nat.le_of_eq g1652.symm))
  have ne1657 : x1611 ≠ b1652 := Nat.ne_of_lt (Nat.lt_of_lt_of_le q1649.lt (Nat.le_of_eq g1652.symm))
  have ne1658 : b1384 ≠ b1652 := Nat.ne_of_lt (Nat.lt_of_lt_of_le q1634.lt (Nat.le_of_eq g1652.symm))
  have g1659 : n0 ≤ b1652 := Nat.le_trans Z1650 (Nat.le_of_eq g1652.symm)
  have q1660 := q1638.ext E1652
  have q1661 := q1639.ext E1652
  have q1662 := q1640.ext E1652
  have q1663 := q1641.ext E1652
  have q1664 := q1642.ext E1652
  have q1665 := q1643.ext E1652
  have q1666 := q1644.ext E1652
  have q1667 := q1645.ext E1652
  have q1668 := q1646.ext E1652
  have q1669 := q1647.ext E1652
  have q1670 := q1648.ext E1652
  have q1671 := q1649.ext E1652
  have q1672 := q1634.ext E1652
  have q1673 := q1635.ext E1652
  have q1674 := q1636.ext E1652
  have Z1675 : n0 ≤ h1652.size := Nat.le_trans Z1650 E1652.1
  replace X1652 := own_cs X1652 (c' := 4) (s' := 15) (by decide) (by decide)
  have q1676 : own_mon h1652 b1652 := by obtain ⟨cl, u1, -, u3⟩ := Um1652; exact ⟨cl, u1, u3⟩
  have q1677 : Fld Z h1652 b1652 kT "best" kD .null := D1652 (Or.inl (wk hw 38 rfl)) (ty := (.object kA)) (by decide)
  have q1678 : Fld Z h1652 b1652 kT "first" kD .null := D1652 (Or.inl (wk hw 40 rfl)) (ty := (.object kA)) (by decide)
  have q1679 : Fld Z h1652 b1652 kT "firstSeed" "J" (.long (0 : Int64)) := D1652 (Or.inl (wk hw 47 rfl)) (ty := .long) (by decide)
  have q1680 : Fld Z h1652 b1652 kT "bestSeed" "J" (.long (0 : Int64)) := D1652 (Or.inl (wk hw 54 rfl)) (ty := .long) (by decide)
  have q1681 : Fld Z h1652 b1652 kT "bestPenalty" "J" (.long (0 : Int64)) := D1652 (Or.inl (wk hw 56 rfl)) (ty := .long) (by decide)
  have q1682 : Fld Z h1652 b1652 kT "worstPenalty" "J" (.long (0 : Int64)) := D1652 (Or.inl (wk hw 58 rfl)) (ty := .long) (by decide)
  have q1683 : Fld Z h1652 b1652 kT "penaltySum" "J" (.long (0 : Int64)) := D1652 (Or.inl (wk hw 64 rfl)) (ty := .long) (by decide)
  have q1684 : Fld Z h1652 b1652 kT "feasibleRuns" "I" (.int (0 : Int32)) := D1652 (Or.inl (wk hw 66 rfl)) (ty := .int) (by decide)
  refine Go.of st1652 ?_
  show Go p e below Qo T1652 (mkF m 121 #[sJ j1, zS, sJ j2, zS, sJ j3, zS, sJ j4, zS, sJ j5, zS, sI i1, sI v4_2, sI v18_5, sI v32_8, sJ p3, zS, sR b10, sR b915, sR b1384, zU, zU, zU, zU, zU, zU, zU] [(.ref b1652)])
  refine Go.of (fun t k => XS.dup X1652.here hx rfl (hb hby at_121) rfl rfl k) ?_
  obtain ⟨_, _, ⟨T1685, L1685, k1685, n1685⟩, -, X1685, ⟨Lc1685, hQ1685, l1685, y1685, z1685⟩, st1685⟩ := X1652.specialBack hx (y := (⟨kT, "<init>", "()V"⟩ : MethodName)) rfl hown (mvT hZ (wk hw 28 rfl)) (mvT hZ (wk hw 29 rfl)) (mvT hZ (wk hw 30 rfl)) (by decide) (backOf (W := 1) (rm5 l Z a0 hw [] b1652 h1652 n0 Z1675 ) hZ (wk hw 30 rfl) (wk hw 27 rfl) (by decide) (by decide)) (g := (mkF m 122 #[sJ j1, zS, sJ j2, zS, sJ j3, zS, sJ j4, zS, sJ j5, zS, sI i1, sI v4_2, sI v18_5, sI v32_8, sJ p3, zS, sR b10, sR b915, sR b1384, zU, zU, zU, zU, zU, zU, zU] [(.ref b1652), (.ref b1652)])) rfl (by rw [hml]; rfl) (Steps.refl _) (a := b1652) (argsL := []) (rest := [(.ref b1652)]) (lenOf pd_0 rfl) rfl (by show 2 * 0 + _ ≤ _; exact Nat.le_of_eq rfl) (hb hby at_122) (fun _ _ => ⟨rfl, e1652, (by decide : 4 + 0 ≤ _), (by decide : 15 + 0 ≤ _)⟩)
  dsimp only [Pt.U, Pt.locs, Pt.cells, Pt.slots] at X1685 l1685 y1685 z1685 st1685 hQ1685
  subst l1685 y1685 z1685
  replace X1685 := own_cs X1685 (c' := 4) (s' := 15) (by decide) (by decide)
  obtain ⟨rfl, N1686, eh1687⟩ := hQ1685
  have N1688 := Fr.app Nx1651 N1686
  refine Go.via st1685 ?_
  obtain ⟨Lx1689, Xx1689, Nx1689⟩ := own_locs X1685 N1688
  show Go p e below Qo T1685 (mkF m 125 #[sJ j1, zS, sJ j2, zS, sJ j3, zS, sJ j4, zS, sJ j5, zS, sI i1, sI v4_2, sI v18_5, sI v32_8, sJ p3, zS, sR b10, sR b915, sR b1384, zU, zU, zU, zU, zU, zU, zU] [(.ref b1652)])
  refine Go.of (fun t k => XS.astore Xx1689.here hx rfl (hb hby at_125) rfl rfl (l' := #[sJ j1, zS, sJ j2, zS, sJ j3, zS, sJ j4, zS, sJ j5, zS, sI i1, sI v4_2, sI v18_5, sI v32_8, sJ p3, zS, sR b10, sR b915, sR b1384, sR b1652, zU, zU, zU, zU, zU, zU]) rfl k) ?_
  refine Go.of (fun t k => XS.aload Xx1689.here hx rfl (hb hby at_127) rfl rfl k) ?_
  obtain ⟨ciq1691, kiq1691, iq1691a, iq1691b, iq1691c⟩ := isOf hZ eh1687 A1652
  obtain ⟨_, _, ⟨T1690, L1690, k1690, n1690⟩, -, X1690, ⟨Lc1690, hQ1690, l1690, y1690, z1690⟩, st1690⟩ := Xx1689.virtualBack hx (y := (⟨kT, "reported", "()Lcom/example/examwright/examwright/Method$Attempt;"⟩ : MethodName)) (z := (⟨kT, "reported", "()Lcom/example/examwright/examwright/Method$Attempt;"⟩ : MethodName)) hown (mvT hZ (wk hw 32 rfl)) (mvT hZ (wk hw 33 rfl)) (notFace_of_selects (args := #[]) (mvT hZ (wk hw 35 rfl))) (mvT hZ (wk hw 35 rfl)) (mvT hZ (wk hw 34 rfl)) (by decide) (backOf (W := 0) (rm61 l Z a0 hw [] b1652 h1652 n0 Z1675 q1677 q1678) hZ (wk hw 36 rfl) (wk hw 27 rfl) (by decide) (by decide)) iq1691a iq1691c (g := (mkF m 129 #[sJ j1, zS, sJ j2, zS, sJ j3, zS, sJ j4, zS, sJ j5, zS, sI i1, sI v4_2, sI v18_5, sI v32_8, sJ p3, zS, sR b10, sR b915, sR b1384, sR b1652, zU, zU, zU, zU, zU, zU] [(.ref b1652)])) rfl (by rw [hml]; rfl) (Steps.refl _) (argsL := []) (rest := []) (lenOf pd_4 rfl) rfl (by show 2 * 0 + _ ≤ _; exact Nat.le_of_eq rfl) (hb hby at_129) (fun _ _ => ⟨rfl, eh1687, (by decide : 4 + 0 ≤ _), (by decide : 15 + 0 ≤ _)⟩)
  dsimp only [Pt.U, Pt.locs, Pt.cells, Pt.slots] at X1690 l1690 y1690 z1690 st1690 hQ1690
  subst l1690 y1690 z1690
  replace X1690 := own_cs X1690 (c' := 4) (s' := 15) (by decide) (by decide)
  obtain ⟨rfl, N1692, eh1693⟩ := hQ1690
  have N1694 := Fr.app Nx1689 N1692
  refine Go.via st1690 ?_
  obtain ⟨Lx1695, Xx1695, Nx1695⟩ := own_locs X1690 N1694
  show Go p e below Qo T1690 (mkF m 132 #[sJ j1, zS, sJ j2, zS, sJ j3, zS, sJ j4, zS, sJ j5, zS, sI i1, sI v4_2, sI v18_5, sI v32_8, sJ p3, zS, sR b10, sR b915, sR b1384, sR b1652, zU, zU, zU, zU, zU, zU] [.null])
  refine Go.of (fun t k => XS.ifnonnullNo Xx1695.here hx rfl (hb hby at_132) rfl k) ?_
  refine Go.of (fun t k => XS.iconst Xx1695.here hx rfl (hb hby at_135) k) ?_
  show Go p e below Qo T1690 (mkF m 136 #[sJ j1, zS, sJ j2, zS, sJ j3, zS, sJ j4, zS, sJ j5, zS, sI i1, sI v4_2, sI v18_5, sI v32_8, sJ p3, zS, sR b10, sR b915, sR b1384, sR b1652, zU, zU, zU, zU, zU, zU] [(.int (1 : Int32))])
  refine Go.of (fun t k => XS.goto Xx1695.here hx rfl (pc0 := 136) (pc' := 140) rfl (hb hby at_136) (by decide) (by decide) k) ?_
  refine Go.of (fun t k => XS.istore Xx1695.here hx rfl (hb hby at_140) rfl (l' := #[sJ j1, zS, sJ j2, zS, sJ j3, zS, sJ j4, zS, sJ j5, zS, sI i1, sI v4_2, sI v18_5, sI v32_8, sJ p3, zS, sR b10, sR b915, sR b1384, sR b1652, sI (1 : Int32), zU, zU, zU, zU, zU]) rfl k) ?_
  refine Go.of (fun t k => XS.aload Xx1695.here hx rfl (hb hby at_142) rfl rfl k) ?_
  refine Go.of (fun t k => XS.lloadN Xx1695.here hx rfl (hb hby at_144) rfl  k) ?_
  refine Go.of (fun t k => XS.aload Xx1695.here hx rfl (hb hby at_145) rfl rfl k) ?_
  refine Go.of (fun t k => XS.lload Xx1695.here hx rfl (hb hby at_147) rfl  k) ?_
  obtain ⟨ciq1697, kiq1697, iq1697a, iq1697b, iq1697c⟩ := isOf hZ eh1693 A1652
  obtain ⟨_, _, ⟨T1696, L1696, k1696, n1696⟩, -, X1696, ⟨Lc1696, hQ1696, l1696, y1696, z1696⟩, st1696⟩ := Xx1695.virtualBack hx (y := (⟨kT, "add", "(JLcom/example/examwright/examwright/Method$Attempt;J)V"⟩ : MethodName)) (z := (⟨kT, "add", "(JLcom/example/examwright/examwright/Method$Attempt;J)V"⟩ : MethodName)) hown (mvT hZ (wk hw 41 rfl)) (mvT hZ (wk hw 42 rfl)) (notFace_of_selects (args := #[]) (mvT hZ (wk hw 44 rfl))) (mvT hZ (wk hw 44 rfl)) (mvT hZ (wk hw 43 rfl)) (by decide) (own_backS (W := 0) (a := b1652) (rm71 l Z a0 hw b1652 j1 b10 j4 (0 : Int64) (0 : Int64) (0 : Int64) (0 : Int64) (0 : Int64) (0 : Int32) x890 h1652 n0 Z1675 A1652 q1676 q1678 q1679 q1677 q1680 q1681 q1682 q1683 q1684 q1664 q1665 g1659 ne1654) hZ (wk hw 45 rfl) (wk hw 43 rfl) (wk hw 27 rfl) q1676 (by decide) (by decide)) iq1697a iq1697c (g := (mkF m 149 #[sJ j1, zS, sJ j2, zS, sJ j3, zS, sJ j4, zS, sJ j5, zS, sI i1, sI v4_2, sI v18_5, sI v32_8, sJ p3, zS, sR b10, sR b915, sR b1384, sR b1652, sI (1 : Int32), zU, zU, zU, zU, zU] [(.long j4), (.ref b10), (.long j1), (.ref b1652)])) rfl (by rw [hml]; rfl) (Steps.refl _) (argsL := [(.long j1), (.ref b10), (.long j4)]) (rest := []) (lenOf pd_5 rfl) rfl (by show 2 * 0 + _ ≤ _; exact Nat.le_of_eq rfl) (hb hby at_149) (fun _ _ => ⟨rfl, eh1693, (by decide : 4 + 0 ≤ _), (by decide : 15 + 0 ≤ _)⟩)
  dsimp only [Pt.U, Pt.locs, Pt.cells, Pt.slots] at X1696 l1696 y1696 z1696 st1696 hQ1696
  subst l1696 y1696 z1696
  replace X1696 := own_cs X1696 (c' := 4) (s' := 15) (by decide) (by decide)
  obtain ⟨x1699, x1700, x1701, rfl, N1698, Kc1702, q1703, q1704, q1705, q1706, q1707, q1708, q1709, q1710, q1711, q1712⟩ := hQ1696
  have N1713 := Fr.app Nx1695 N1698
  have q1714 := own_staKeep q1660 Kc1702 (allS (own_plainE A1652) all0)
  have q1715 := own_staKeep q1661 Kc1702 (allS (own_plainE A1652) all0)
  have q1716 := q1662.keep Kc1702 (allS g1659 all0)
  have q1717 := q1663.keep Kc1702
  have q1718 := q1664.keep Kc1702
  have q1719 := q1665.keep Kc1702 (ninS ne1654 nin0)
  have q1720 := q1666.keep Kc1702 (ninS ne1654 nin0)
  have q1721 := q1667.keep Kc1702
  have q1722 := q1668.keep Kc1702
  have q1723 := q1669.keep Kc1702 (ninS ne1656 nin0)
  have q1724 := q1670.keep Kc1702 (ninS ne1656 nin0)
  have q1725 := q1671.keep Kc1702
  have q1726 := q1672.keep Kc1702
  have q1727 := q1673.keep Kc1702 (ninS ne1658 nin0)
  have q1728 := q1674.keep Kc1702 (ninS ne1658 nin0)
  have Z1729 : n0 ≤ T1696.heap.size := Nat.le_trans Z1675 Kc1702.1
  refine Go.via st1696 ?_
  obtain ⟨Lx1730, Xx1730, Nx1730⟩ := own_locs X1696 N1713
  show Go p e below Qo T1696 (mkF m 152 #[sJ j1, zS, sJ j2, zS, sJ j3, zS, sJ j4, zS, sJ j5, zS, sI i1, sI v4_2, sI v18_5, sI v32_8, sJ p3, zS, sR b10, sR b915, sR b1384, sR b1652, sI (1 : Int32), zU, zU, zU, zU, zU] [])
  refine Go.of (fun t k => XS.aload Xx1730.here hx rfl (hb hby at_152) rfl rfl k) ?_
  obtain ⟨ciq1732, kiq1732, iq1732a, iq1732b, iq1732c⟩ := isOf hZ rfl q1703
  obtain ⟨_, _, ⟨T1731, L1731, k1731, n1731⟩, -, X1731, ⟨Lc1731, hQ1731, l1731, y1731, z1731⟩, st1731⟩ := Xx1730.virtualBack hx (y := (⟨kT, "reported", "()Lcom/example/examwright/examwright/Method$Attempt;"⟩ : MethodName)) (z := (⟨kT, "reported", "()Lcom/example/examwright/examwright/Method$Attempt;"⟩ : MethodName)) hown (mvT hZ (wk hw 32 rfl)) (mvT hZ (wk hw 33 rfl)) (notFace_of_selects (args := #[]) (mvT hZ (wk hw 35 rfl))) (mvT hZ (wk hw 35 rfl)) (mvT hZ (wk hw 34 rfl)) (by decide) (backOf (W := 0) (rm63 l Z a0 hw [] b1652 b10 T1696.heap n0 Z1729 q1707) hZ (wk hw 36 rfl) (wk hw 27 rfl) (by decide) (by decide)) iq1732a iq1732c (g := (mkF m 154 #[sJ j1, zS, sJ j2, zS, sJ j3, zS, sJ j4, zS, sJ j5, zS, sI i1, sI v4_2, sI v18_5, sI v32_8, sJ p3, zS, sR b10, sR b915, sR b1384, sR b1652, sI (1 : Int32), zU, zU, zU, zU, zU] [(.ref b1652)])) rfl (by rw [hml]; rfl) (Steps.refl _) (argsL := []) (rest := []) (lenOf pd_4 rfl) rfl (by show 2 * 0 + _ ≤ _; exact Nat.le_of_eq rfl) (hb hby at_154) (fun _ _ => ⟨rfl, rfl, (by decide : 4 + 0 ≤ _), (by decide : 15 + 0 ≤ _)⟩)
  dsimp only [Pt.U, Pt.locs, Pt.cells, Pt.slots] at X1731 l1731 y1731 z1731 st1731 hQ1731
  subst l1731 y1731 z1731
  replace X1731 := own_cs X1731 (c' := 4) (s' := 15) (by decide) (by decide)
  obtain ⟨rfl, N1733, eh1734⟩ := hQ1731
  have N1735 := Fr.app Nx1730 N1733
  refine Go.via st1731 ?_
  obtain ⟨Lx1736, Xx1736, Nx1736⟩ := own_locs X1731 N1735
  show Go p e below Qo T1731 (mkF m 157 #[sJ j1, zS, sJ j2, zS, sJ j3, zS, sJ j4, zS, sJ j5, zS, sI i1, sI v4_2, sI v18_5, sI v32_8, sJ p3, zS, sR b10, sR b915, sR b1384, sR b1652, sI (1 : Int32), zU, zU, zU, zU, zU] [(.ref b10)])
  refine Go.of (fun t k => XS.aload Xx1736.here hx rfl (hb hby at_157) rfl rfl k) ?_
  show Go p e below Qo T1731 (mkF m 159 #[sJ j1, zS, sJ j2, zS, sJ j3, zS, sJ j4, zS, sJ j5, zS, sI i1, sI v4_2, sI v18_5, sI v32_8, sJ p3, zS, sR b10, sR b915, sR b1384, sR b1652, sI (1 : Int32), zU, zU, zU, zU, zU] [(.ref b10), (.ref b10)])
  refine Go.of (fun t k => Jvm.RoadKit.acmp (g := (mkF m 159 #[sJ j1, zS, sJ j2, zS, sJ j3, zS, sJ j4, zS, sJ j5, zS, sI i1, sI v4_2, sI v18_5, sI v32_8, sJ p3, zS, sR b10, sR b915, sR b1384, sR b1652, sI (1 : Int32), zU, zU, zU, zU, zU] [(.ref b10), (.ref b10)])) Xx1736 hx rfl rfl rfl (pc0 := 159) (pc' := 162) (same := true) rfl (hb hby at_159) rfl (decide_eq_true rfl) (by decide) (by decide) k) ?_
  refine Go.of (fun t k => XS.iconst Xx1736.here hx rfl (hb hby at_162) k) ?_
  refine Go.of (fun t k => XS.goto Xx1736.here hx rfl (pc0 := 163) (pc' := 167) rfl (hb hby at_163) (by decide) (by decide) k) ?_
  refine Go.of (fun t k => XS.istore Xx1736.here hx rfl (hb hby at_167) rfl (l' := #[sJ j1, zS, sJ j2, zS, sJ j3, zS, sJ j4, zS, sJ j5, zS, sI i1, sI v4_2, sI v18_5, sI v32_8, sJ p3, zS, sR b10, sR b915, sR b1384, sR b1652, sI (1 : Int32), sI (1 : Int32), zU, zU, zU, zU]) rfl k) ?_
  refine Go.of (fun t k => XS.aload Xx1736.here hx rfl (hb hby at_169) rfl rfl k) ?_
  refine Go.of (fun t k => XS.lloadN Xx1736.here hx rfl (hb hby at_171) rfl  k) ?_
  refine Go.of (fun t k => XS.aload Xx1736.here hx rfl (hb hby at_172) rfl rfl k) ?_
  refine Go.of (fun t k => XS.lload Xx1736.here hx rfl (hb hby at_174) rfl  k) ?_
  show Go p e below Qo T1731 (mkF m 176 #[sJ j1, zS, sJ j2, zS, sJ j3, zS, sJ j4, zS, sJ j5, zS, sI i1, sI v4_2, sI v18_5, sI v32_8, sJ p3, zS, sR b10, sR b915, sR b1384, sR b1652, sI (1 : Int32), sI (1 : Int32), zU, zU, zU, zU] [(.long j5), (.ref b915), (.long j2), (.ref b1652)])
  obtain ⟨ciq1738, kiq1738, iq1738a, iq1738b, iq1738c⟩ := isOf hZ eh1734 q1703
  obtain ⟨_, _, ⟨T1737, L1737, k1737, n1737⟩, -, X1737, ⟨Lc1737, hQ1737, l1737, y1737, z1737⟩, st1737⟩ := Xx1736.virtualBack hx (y := (⟨kT, "add", "(JLcom/example/examwright/examwright/Method$Attempt;J)V"⟩ : MethodName)) (z := (⟨kT, "add", "(JLcom/example/examwright/examwright/Method$Attempt;J)V"⟩ : MethodName)) hown (mvT hZ (wk hw 41 rfl)) (mvT hZ (wk hw 42 rfl)) (notFace_of_selects (args := #[]) (mvT hZ (wk hw 44 rfl))) (mvT hZ (wk hw 44 rfl)) (mvT hZ (wk hw 43 rfl)) (by decide) (own_backS (W := 0) (a := b1652) (rm77 l Z a0 hw b1652 j2 b915 j5 b10 j1 b10 j1 j4 x1699 x1700 x1701 x1351 T1696.heap n0 Z1729 q1703 q1704 q1705 q1706 q1707 q1708 q1709 q1710 q1711 q1712 q1722 q1723 g1659 ne1656) hZ (wk hw 45 rfl) (wk hw 43 rfl) (wk hw 27 rfl) q1704 (by decide) (by decide)) iq1738a iq1738c (g := (mkF m 176 #[sJ j1, zS, sJ j2, zS, sJ j3, zS, sJ j4, zS, sJ j5, zS, sI i1, sI v4_2, sI v18_5, sI v32_8, sJ p3, zS, sR b10, sR b915, sR b1384, sR b1652, sI (1 : Int32), sI (1 : Int32), zU, zU, zU, zU] [(.long j5), (.ref b915), (.long j2), (.ref b1652)])) rfl (by rw [hml]; rfl) (Steps.refl _) (argsL := [(.long j2), (.ref b915), (.long j5)]) (rest := []) (lenOf pd_5 rfl) rfl (by show 2 * 0 + _ ≤ _; exact Nat.le_of_eq rfl) (hb hby at_176) (fun _ _ => ⟨rfl, eh1734, (by decide : 4 + 0 ≤ _), (by decide : 15 + 0 ≤ _)⟩)
  dsimp only [Pt.U, Pt.locs, Pt.cells, Pt.slots] at X1737 l1737 y1737 z1737 st1737 hQ1737
  subst l1737 y1737 z1737
  replace X1737 := own_cs X1737 (c' := 4) (s' := 15) (by decide) (by decide)
  obtain ⟨x1740, x1741, x1742, rfl, N1739, Kc1743, q1744, q1745, q1746, q1747, q1748, q1749, q1750, q1751, q1752, q1753⟩ := hQ1737
  have N1754 := Fr.app Nx1736 N1739
  have q1755 := own_staKeep q1714 Kc1743 (allS (own_plainE q1703) all0)
  have q1756 := own_staKeep q1715 Kc1743 (allS (own_plainE q1703) all0)
  have q1757 := q1716.keep Kc1743 (allS g1659 all0)
  have q1758 := q1717.keep Kc1743
  have q1759 := q1718.keep Kc1743
  have q1760 := q1719.keep Kc1743 (ninS ne1654 nin0)
  have q1761 := q1720.keep Kc1743 (ninS ne1654 nin0)
  have q1762 := q1721.keep Kc1743
  have q1763 := q1722.keep Kc1743
  have q1764 := q1723.keep Kc1743 (ninS ne1656 nin0)
  have q1765 := q1724.keep Kc1743 (ninS ne1656 nin0)
  have q1766 := q1725.keep Kc1743
  have q1767 := q1726.keep Kc1743
  have q1768 := q1727.keep Kc1743 (ninS ne1658 nin0)
  have q1769 := q1728.keep Kc1743 (ninS ne1658 nin0)
  have Z1770 : n0 ≤ T1737.heap.size := Nat.le_trans Z1729 Kc1743.1
  refine Go.via st1737 ?_
  obtain ⟨Lx1771, Xx1771, Nx1771⟩ := own_locs X1737 N1754
  show Go p e below Qo T1737 (mkF m 179 #[sJ j1, zS, sJ j2, zS, sJ j3, zS, sJ j4, zS, sJ j5, zS, sI i1, sI v4_2, sI v18_5, sI v32_8, sJ p3, zS, sR b10, sR b915, sR b1384, sR b1652, sI (1 : Int32), sI (1 : Int32), zU, zU, zU, zU] [])
  refine Go.of (fun t k => XS.aload Xx1771.here hx rfl (hb hby at_179) rfl rfl k) ?_
  refine Go.of (fun t k => XS.lload Xx1771.here hx rfl (hb hby at_181) rfl  k) ?_
  refine Go.of (fun t k => XS.aload Xx1771.here hx rfl (hb hby at_183) rfl rfl k) ?_
  refine Go.of (fun t k => XS.lload Xx1771.here hx rfl (hb hby at_185) rfl  k) ?_
  obtain ⟨ciq1773, kiq1773, iq1773a, iq1773b, iq1773c⟩ := isOf hZ rfl q1744
  obtain ⟨_, _, ⟨T1772, L1772, k1772, n1772⟩, -, X1772, ⟨Lc1772, hQ1772, l1772, y1772, z1772⟩, st1772⟩ := Xx1771.virtualBack hx (y := (⟨kT, "add", "(JLcom/example/examwright/examwright/Method$Attempt;J)V"⟩ : MethodName)) (z := (⟨kT, "add", "(JLcom/example/examwright/examwright/Method$Attempt;J)V"⟩ : MethodName)) hown (mvT hZ (wk hw 41 rfl)) (mvT hZ (wk hw 42 rfl)) (notFace_of_selects (args := #[]) (mvT hZ (wk hw 44 rfl))) (mvT hZ (wk hw 44 rfl)) (mvT hZ (wk hw 43 rfl)) (by decide) (own_backS (W := 0) (a := b1652) (rm77 l Z a0 hw b1652 j3 b1384 p3 (if j2 < j1 then b915 else b10) (if j2 < j1 then j2 else j1) (if (j5 < j4 ∨ (j5 = j4 ∧ j2 < j1)) then b915 else b10) (if (j5 < j4 ∨ (j5 = j4 ∧ j2 < j1)) then j2 else j1) (if (j5 < j4 ∨ (j5 = j4 ∧ j2 < j1)) then j5 else j4) x1740 x1741 x1742 x1611 T1737.heap n0 Z1770 q1744 q1745 q1746 q1747 q1748 q1749 q1750 q1751 q1752 q1753 q1767 q1768 g1659 ne1658) hZ (wk hw 45 rfl) (wk hw 43 rfl) (wk hw 27 rfl) q1745 (by decide) (by decide)) iq1773a iq1773c (g := (mkF m 187 #[sJ j1, zS, sJ j2, zS, sJ j3, zS, sJ j4, zS, sJ j5, zS, sI i1, sI v4_2, sI v18_5, sI v32_8, sJ p3, zS, sR b10, sR b915, sR b1384, sR b1652, sI (1 : Int32), sI (1 : Int32), zU, zU, zU, zU] [(.long p3), (.ref b1384), (.long j3), (.ref b1652)])) rfl (by rw [hml]; rfl) (Steps.refl _) (argsL := [(.long j3), (.ref b1384), (.long p3)]) (rest := []) (lenOf pd_5 rfl) rfl (by show 2 * 0 + _ ≤ _; exact Nat.le_of_eq rfl) (hb hby at_187) (fun _ _ => ⟨rfl, rfl, (by decide : 4 + 0 ≤ _), (by decide : 15 + 0 ≤ _)⟩)
  dsimp only [Pt.U, Pt.locs, Pt.cells, Pt.slots] at X1772 l1772 y1772 z1772 st1772 hQ1772
  subst l1772 y1772 z1772
  replace X1772 := own_cs X1772 (c' := 4) (s' := 15) (by decide) (by decide)
  obtain ⟨x1775, x1776, x1777, rfl, N1774, Kc1778, q1779, q1780, q1781, q1782, q1783, q1784, q1785, q1786, q1787, q1788⟩ := hQ1772
  have N1789 := Fr.app Nx1771 N1774
  have q1790 := own_staKeep q1755 Kc1778 (allS (own_plainE q1744) all0)
  have q1791 := own_staKeep q1756 Kc1778 (allS (own_plainE q1744) all0)
  have q1792 := q1757.keep Kc1778 (allS g1659 all0)
  have q1793 := q1758.keep Kc1778
  have q1794 := q1759.keep Kc1778
  have q1795 := q1760.keep Kc1778 (ninS ne1654 nin0)
  have q1796 := q1761.keep Kc1778 (ninS ne1654 nin0)
  have q1797 := q1762.keep Kc1778
  have q1798 := q1763.keep Kc1778
  have q1799 := q1764.keep Kc1778 (ninS ne1656 nin0)
  have q1800 := q1765.keep Kc1778 (ninS ne1656 nin0)
  have q1801 := q1766.keep Kc1778
  have q1802 := q1767.keep Kc1778
  have q1803 := q1768.keep Kc1778 (ninS ne1658 nin0)
  have q1804 := q1769.keep Kc1778 (ninS ne1658 nin0)
  have Z1805 : n0 ≤ T1772.heap.size := Nat.le_trans Z1770 Kc1778.1
  refine Go.via st1772 ?_
  obtain ⟨Lx1806, Xx1806, Nx1806⟩ := own_locs X1772 N1789
  show Go p e below Qo T1772 (mkF m 190 #[sJ j1, zS, sJ j2, zS, sJ j3, zS, sJ j4, zS, sJ j5, zS, sI i1, sI v4_2, sI v18_5, sI v32_8, sJ p3, zS, sR b10, sR b915, sR b1384, sR b1652, sI (1 : Int32), sI (1 : Int32), zU, zU, zU, zU] [])
  refine Go.of (fun t k => XS.aload Xx1806.here hx rfl (hb hby at_190) rfl rfl k) ?_
  obtain ⟨ciq1808, kiq1808, iq1808a, iq1808b, iq1808c⟩ := isOf hZ rfl q1779
  obtain ⟨_, _, ⟨T1807, L1807, k1807, n1807⟩, -, X1807, ⟨Lc1807, hQ1807, l1807, y1807, z1807⟩, st1807⟩ := Xx1806.virtualBack hx (y := (⟨kT, "reported", "()Lcom/example/examwright/examwright/Method$Attempt;"⟩ : MethodName)) (z := (⟨kT, "reported", "()Lcom/example/examwright/examwright/Method$Attempt;"⟩ : MethodName)) hown (mvT hZ (wk hw 32 rfl)) (mvT hZ (wk hw 33 rfl)) (notFace_of_selects (args := #[]) (mvT hZ (wk hw 35 rfl))) (mvT hZ (wk hw 35 rfl)) (mvT hZ (wk hw 34 rfl)) (by decide) (backOf (W := 0) (rm63 l Z a0 hw [] b1652 (if (p3 < (if (j5 < j4 ∨ (j5 = j4 ∧ j2 < j1)) then j5 else j4) ∨ (p3 = (if (j5 < j4 ∨ (j5 = j4 ∧ j2 < j1)) then j5 else j4) ∧ j3 < (if (j5 < j4 ∨ (j5 = j4 ∧ j2 < j1)) then j2 else j1))) then b1384 else (if (j5 < j4 ∨ (j5 = j4 ∧ j2 < j1)) then b915 else b10)) T1772.heap n0 Z1805 q1783) hZ (wk hw 36 rfl) (wk hw 27 rfl) (by decide) (by decide)) iq1808a iq1808c (g := (mkF m 192 #[sJ j1, zS, sJ j2, zS, sJ j3, zS, sJ j4, zS, sJ j5, zS, sI i1, sI v4_2, sI v18_5, sI v32_8, sJ p3, zS, sR b10, sR b915, sR b1384, sR b1652, sI (1 : Int32), sI (1 : Int32), zU, zU, zU, zU] [(.ref b1652)])) rfl (by rw [hml]; rfl) (Steps.refl _) (argsL := []) (rest := []) (lenOf pd_4 rfl) rfl (by show 2 * 0 + _ ≤ _; exact Nat.le_of_eq rfl) (hb hby at_192) (fun _ _ => ⟨rfl, rfl, (by decide : 4 + 0 ≤ _), (by decide : 15 + 0 ≤ _)⟩)
  dsimp only [Pt.U, Pt.locs, Pt.cells, Pt.slots] at X1807 l1807 y1807 z1807 st1807 hQ1807
  subst l1807 y1807 z1807
  replace X1807 := own_cs X1807 (c' := 4) (s' := 15) (by decide) (by decide)
  obtain ⟨rfl, N1809, eh1810⟩ := hQ1807
  have N1811 := Fr.app Nx1806 N1809
  refine Go.via st1807 ?_
  obtain ⟨Lx1812, Xx1812, Nx1812⟩ := own_locs X1807 N1811
  show Go p e below Qo T1807 (mkF m 195 #[sJ j1, zS, sJ j2, zS, sJ j3, zS, sJ j4, zS, sJ j5, zS, sI i1, sI v4_2, sI v18_5, sI v32_8, sJ p3, zS, sR b10, sR b915, sR b1384, sR b1652, sI (1 : Int32), sI (1 : Int32), zU, zU, zU, zU] [(.ref (if (p3 < (if (j5 < j4 ∨ (j5 = j4 ∧ j2 < j1)) then j5 else j4) ∨ (p3 = (if (j5 < j4 ∨ (j5 = j4 ∧ j2 < j1)) then j5 else j4) ∧ j3 < (if (j5 < j4 ∨ (j5 = j4 ∧ j2 < j1)) then j2 else j1))) then b1384 else (if (j5 < j4 ∨ (j5 = j4 ∧ j2 < j1)) then b915 else b10)))])
  refine Go.of (fun t k => XS.astore Xx1812.here hx rfl (hb hby at_195) rfl rfl (l' := #[sJ j1, zS, sJ j2, zS, sJ j3, zS, sJ j4, zS, sJ j5, zS, sI i1, sI v4_2, sI v18_5, sI v32_8, sJ p3, zS, sR b10, sR b915, sR b1384, sR b1652, sI (1 : Int32), sI (1 : Int32), sR (if (p3 < (if (j5 < j4 ∨ (j5 = j4 ∧ j2 < j1)) then j5 else j4) ∨ (p3 = (if (j5 < j4 ∨ (j5 = j4 ∧ j2 < j1)) then j5 else j4) ∧ j3 < (if (j5 < j4 ∨ (j5 = j4 ∧ j2 < j1)) then j2 else j1))) then b1384 else (if (j5 < j4 ∨ (j5 = j4 ∧ j2 < j1)) then b915 else b10)), zU, zU, zU]) rfl k) ?_
  refine Go.of (fun t k => XS.iload Xx1812.here hx rfl (hb hby at_197) rfl  k) ?_
  refine Go.of (fun t k => XS.ifYes Xx1812.here hx rfl (pc0 := 199) (pc' := 212) rfl (hb hby at_199) rfl ((if0 _ _).trans (feq hc55_18).2) (by decide) (by decide) k) ?_
  show Go p e below Qo T1807 (mkF m 212 #[sJ j1, zS, sJ j2, zS, sJ j3, zS, sJ j4, zS, sJ j5, zS, sI i1, sI v4_2, sI v18_5, sI v32_8, sJ p3, zS, sR b10, sR b915, sR b1384, sR b1652, sI (1 : Int32), sI (1 : Int32), sR (if (p3 < (if (j5 < j4 ∨ (j5 = j4 ∧ j2 < j1)) then j5 else j4) ∨ (p3 = (if (j5 < j4 ∨ (j5 = j4 ∧ j2 < j1)) then j5 else j4) ∧ j3 < (if (j5 < j4 ∨ (j5 = j4 ∧ j2 < j1)) then j2 else j1))) then b1384 else (if (j5 < j4 ∨ (j5 = j4 ∧ j2 < j1)) then b915 else b10)), zU, zU, zU] [])
  refine Go.of (fun t k => XS.iload Xx1812.here hx rfl (hb hby at_212) rfl  k) ?_
  refine Go.of (fun t k => XS.ifNo Xx1812.here hx rfl (hb hby at_214) rfl ((if0 _ _).trans (feq hc55_18).1) k) ?_
  refine Go.of (fun t k => XS.iload Xx1812.here hx rfl (hb hby at_217) rfl  k) ?_
  refine Go.of (fun t k => XS.ifNo Xx1812.here hx rfl (hb hby at_219) rfl ((if0 _ _).trans (feq hc78_929).1) k) ?_
  refine Go.of (fun t k => XS.lload Xx1812.here hx rfl (hb hby at_222) rfl  k) ?_
  refine Go.of (fun t k => XS.lloadN Xx1812.here hx rfl (hb hby at_224) rfl  k) ?_
  refine Go.of (fun t k => XS.lload Xx1812.here hx rfl (hb hby at_225) rfl  k) ?_
  refine Go.of (fun t k => XS.lloadN Xx1812.here hx rfl (hb hby at_227) rfl  k) ?_
  show Go p e below Qo T1807 (mkF m 228 #[sJ j1, zS, sJ j2, zS, sJ j3, zS, sJ j4, zS, sJ j5, zS, sI i1, sI v4_2, sI v18_5, sI v32_8, sJ p3, zS, sR b10, sR b915, sR b1384, sR b1652, sI (1 : Int32), sI (1 : Int32), sR (if (p3 < (if (j5 < j4 ∨ (j5 = j4 ∧ j2 < j1)) then j5 else j4) ∨ (p3 = (if (j5 < j4 ∨ (j5 = j4 ∧ j2 < j1)) then j5 else j4) ∧ j3 < (if (j5 < j4 ∨ (j5 = j4 ∧ j2 < j1)) then j2 else j1))) then b1384 else (if (j5 < j4 ∨ (j5 = j4 ∧ j2 < j1)) then b915 else b10)), zU, zU, zU] [(.long j2), (.long j5), (.long j1), (.long j4)])
  obtain ⟨_, _, ⟨T1813, L1813, k1813, n1813⟩, -, X1813, ⟨Lc1813, hQ1813, l1813, y1813, z1813⟩, st1813⟩ := Jvm.LawKit.callS Xx1812 hx (y := (⟨kL, "le", "(JJJJ)Z"⟩ : MethodName)) hown (mvT hZ (wk hw 67 rfl)) (mvT hZ (wk hw 68 rfl)) (mvT hZ (wk hw 69 rfl)) (mvT hZ (wk hw 70 rfl)) (by decide) (backOf (W := 0) (rm10 l Z a0 hw [] j4 j1 j5 j2 T1772.heap n0 Z1805 ) hZ (wk hw 70 rfl) (wk hw 69 rfl) (by decide) (by decide)) (g := (mkF m 228 #[sJ j1, zS, sJ j2, zS, sJ j3, zS, sJ j4, zS, sJ j5, zS, sI i1, sI v4_2, sI v18_5, sI v32_8, sJ p3, zS, sR b10, sR b915, sR b1384, sR b1652, sI (1 : Int32), sI (1 : Int32), sR (if (p3 < (if (j5 < j4 ∨ (j5 = j4 ∧ j2 < j1)) then j5 else j4) ∨ (p3 = (if (j5 < j4 ∨ (j5 = j4 ∧ j2 < j1)) then j5 else j4) ∧ j3 < (if (j5 < j4 ∨ (j5 = j4 ∧ j2 < j1)) then j2 else j1))) then b1384 else (if (j5 < j4 ∨ (j5 = j4 ∧ j2 < j1)) then b915 else b10)), zU, zU, zU] [(.long j2), (.long j5), (.long j1), (.long j4)])) rfl (by rw [hml]; rfl) (argsL := [(.long j4), (.long j1), (.long j5), (.long j2)]) (rest := []) (lenOf pd_7 rfl) rfl (by show 2 * 0 + _ ≤ _; exact Nat.le_of_eq rfl) (hb hby at_228) (fun _ _ => ⟨rfl, eh1810, (by decide : 4 + 0 ≤ _), (by decide : 15 + 0 ≤ _)⟩)
  dsimp only [Pt.U, Pt.locs, Pt.cells, Pt.slots] at X1813 l1813 y1813 z1813 st1813 hQ1813
  subst l1813 y1813 z1813
  replace X1813 := own_cs X1813 (c' := 4) (s' := 15) (by decide) (by decide)
  obtain ⟨rfl, N1814, eh1815⟩ := hQ1813
  have N1816 := Fr.app Nx1812 N1814
  refine Go.of st1813 ?_
  obtain ⟨Lx1817, Xx1817, Nx1817⟩ := own_locs X1813 N1816
  show Go p e below Qo T1813 (mkF m 231 #[sJ j1, zS, sJ j2, zS, sJ j3, zS, sJ j4, zS, sJ j5, zS, sI i1, sI v4_2, sI v18_5, sI v32_8, sJ p3, zS, sR b10, sR b915, sR b1384, sR b1652, sI (1 : Int32), sI (1 : Int32), sR (if (p3 < (if (j5 < j4 ∨ (j5 = j4 ∧ j2 < j1)) then j5 else j4) ∨ (p3 = (if (j5 < j4 ∨ (j5 = j4 ∧ j2 < j1)) then j5 else j4) ∧ j3 < (if (j5 < j4 ∨ (j5 = j4 ∧ j2 < j1)) then j2 else j1))) then b1384 else (if (j5 < j4 ∨ (j5 = j4 ∧ j2 < j1)) then b915 else b10)), zU, zU, zU] [(.int (F10 j4 j1 j5 j2))])
  by_cases hc231_1818 : (F10 j4 j1 j5 j2) = (0 : Int32)
  · refine Go.of (fun t k => XS.ifYes Xx1817.here hx rfl (pc0 := 231) (pc' := 256) rfl (hb hby at_231) rfl ((if0 _ _).trans (teq hc231_1818).1) (by decide) (by decide) k) ?_
    refine Go.of (fun t k => XS.iconst Xx1817.here hx rfl (hb hby at_256) k) ?_
    refine Go.of (fun t k => XS.istore Xx1817.here hx rfl (hb hby at_257) rfl (l' := #[sJ j1, zS, sJ j2, zS, sJ j3, zS, sJ j4, zS, sJ j5, zS, sI i1, sI v4_2, sI v18_5, sI v32_8, sJ p3, zS, sR b10, sR b915, sR b1384, sR b1652, sI (1 : Int32), sI (1 : Int32), sR (if (p3 < (if (j5 < j4 ∨ (j5 = j4 ∧ j2 < j1)) then j5 else j4) ∨ (p3 = (if (j5 < j4 ∨ (j5 = j4 ∧ j2 < j1)) then j5 else j4) ∧ j3 < (if (j5 < j4 ∨ (j5 = j4 ∧ j2 < j1)) then j2 else j1))) then b1384 else (if (j5 < j4 ∨ (j5 = j4 ∧ j2 < j1)) then b915 else b10)), zU, sI (0 : Int32), zU]) rfl k) ?_
    refine Go.of (fun t k => XS.iload Xx1817.here hx rfl (hb hby at_259) rfl  k) ?_
    refine Go.of (fun t k => XS.ifNo Xx1817.here hx rfl (hb hby at_261) rfl ((if0 _ _).trans (feq hc78_929).1) k) ?_
    refine Go.of (fun t k => XS.iload Xx1817.here hx rfl (hb hby at_264) rfl  k) ?_
    refine Go.of (fun t k => XS.ifNo Xx1817.here hx rfl (hb hby at_266) rfl ((if0 _ _).trans (feq hc55_18).1) k) ?_
    show Go p e below Qo T1813 (mkF m 269 #[sJ j1, zS, sJ j2, zS, sJ j3, zS, sJ j4, zS, sJ j5, zS, sI i1, sI v4_2, sI v18_5, sI v32_8, sJ p3, zS, sR b10, sR b915, sR b1384, sR b1652, sI (1 : Int32), sI (1 : Int32), sR (if (p3 < (if (j5 < j4 ∨ (j5 = j4 ∧ j2 < j1)) then j5 else j4) ∨ (p3 = (if (j5 < j4 ∨ (j5 = j4 ∧ j2 < j1)) then j5 else j4) ∧ j3 < (if (j5 < j4 ∨ (j5 = j4 ∧ j2 < j1)) then j2 else j1))) then b1384 else (if (j5 < j4 ∨ (j5 = j4 ∧ j2 < j1)) then b915 else b10)), zU, sI (0 : Int32), zU] [])
    refine Go.of (fun t k => XS.lload Xx1817.here hx rfl (hb hby at_269) rfl  k) ?_
    refine Go.of (fun t k => XS.lloadN Xx1817.here hx rfl (hb hby at_271) rfl  k) ?_
    refine Go.of (fun t k => XS.lload Xx1817.here hx rfl (hb hby at_272) rfl  k) ?_
    refine Go.of (fun t k => XS.lloadN Xx1817.here hx rfl (hb hby at_274) rfl  k) ?_
    obtain ⟨_, _, ⟨T1819, L1819, k1819, n1819⟩, -, X1819, ⟨Lc1819, hQ1819, l1819, y1819, z1819⟩, st1819⟩ := Jvm.LawKit.callS Xx1817 hx (y := (⟨kL, "le", "(JJJJ)Z"⟩ : MethodName)) hown (mvT hZ (wk hw 67 rfl)) (mvT hZ (wk hw 68 rfl)) (mvT hZ (wk hw 69 rfl)) (mvT hZ (wk hw 70 rfl)) (by decide) (backOf (W := 0) (rm10 l Z a0 hw [] j5 j2 j4 j1 T1772.heap n0 Z1805 ) hZ (wk hw 70 rfl) (wk hw 69 rfl) (by decide) (by decide)) (g := (mkF m 275 #[sJ j1, zS, sJ j2, zS, sJ j3, zS, sJ j4, zS, sJ j5, zS, sI i1, sI v4_2, sI v18_5, sI v32_8, sJ p3, zS, sR b10, sR b915, sR b1384, sR b1652, sI (1 : Int32), sI (1 : Int32), sR (if (p3 < (if (j5 < j4 ∨ (j5 = j4 ∧ j2 < j1)) then j5 else j4) ∨ (p3 = (if (j5 < j4 ∨ (j5 = j4 ∧ j2 < j1)) then j5 else j4) ∧ j3 < (if (j5 < j4 ∨ (j5 = j4 ∧ j2 < j1)) then j2 else j1))) then b1384 else (if (j5 < j4 ∨ (j5 = j4 ∧ j2 < j1)) then b915 else b10)), zU, sI (0 : Int32), zU] [(.long j1), (.long j4), (.long j2), (.long j5)])) rfl (by rw [hml]; rfl) (argsL := [(.long j5), (.long j2), (.long j4), (.long j1)]) (rest := []) (lenOf pd_7 rfl) rfl (by show 2 * 0 + _ ≤ _; exact Nat.le_of_eq rfl) (hb hby at_275) (fun _ _ => ⟨rfl, eh1815, (by decide : 4 + 0 ≤ _), (by decide : 15 + 0 ≤ _)⟩)
    dsimp only [Pt.U, Pt.locs, Pt.cells, Pt.slots] at X1819 l1819 y1819 z1819 st1819 hQ1819
    subst l1819 y1819 z1819
    replace X1819 := own_cs X1819 (c' := 4) (s' := 15) (by decide) (by decide)
    obtain ⟨rfl, N1820, eh1821⟩ := hQ1819
    have N1822 := Fr.app Nx1817 N1820
    refine Go.of st1819 ?_
    obtain ⟨Lx1823, Xx1823, Nx1823⟩ := own_locs X1819 N1822
    show Go p e below Qo T1819 (mkF m 278 #[sJ j1, zS, sJ j2, zS, sJ j3, zS, sJ j4, zS, sJ j5, zS, sI i1, sI v4_2, sI v18_5, sI v32_8, sJ p3, zS, sR b10, sR b915, sR b1384, sR b1652, sI (1 : Int32), sI (1 : Int32), sR (if (p3 < (if (j5 < j4 ∨ (j5 = j4 ∧ j2 < j1)) then j5 else j4) ∨ (p3 = (if (j5 < j4 ∨ (j5 = j4 ∧ j2 < j1)) then j5 else j4) ∧ j3 < (if (j5 < j4 ∨ (j5 = j4 ∧ j2 < j1)) then j2 else j1))) then b1384 else (if (j5 < j4 ∨ (j5 = j4 ∧ j2 < j1)) then b915 else b10)), zU, sI (0 : Int32), zU] [(.int (F10 j5 j2 j4 j1))])
    by_cases hc278_1824 : (F10 j5 j2 j4 j1) = (0 : Int32)
    · refine Go.of (fun t k => XS.ifYes Xx1823.here hx rfl (pc0 := 278) (pc' := 303) rfl (hb hby at_278) rfl ((if0 _ _).trans (teq hc278_1824).1) (by decide) (by decide) k) ?_
      refine Go.of (fun t k => XS.iconst Xx1823.here hx rfl (hb hby at_303) k) ?_
      refine Go.of (fun t k => XS.istore Xx1823.here hx rfl (hb hby at_304) rfl (l' := #[sJ j1, zS, sJ j2, zS, sJ j3, zS, sJ j4, zS, sJ j5, zS, sI i1, sI v4_2, sI v18_5, sI v32_8, sJ p3, zS, sR b10, sR b915, sR b1384, sR b1652, sI (1 : Int32), sI (1 : Int32), sR (if (p3 < (if (j5 < j4 ∨ (j5 = j4 ∧ j2 < j1)) then j5 else j4) ∨ (p3 = (if (j5 < j4 ∨ (j5 = j4 ∧ j2 < j1)) then j5 else j4) ∧ j3 < (if (j5 < j4 ∨ (j5 = j4 ∧ j2 < j1)) then j2 else j1))) then b1384 else (if (j5 < j4 ∨ (j5 = j4 ∧ j2 < j1)) then b915 else b10)), zU, sI (0 : Int32), sI (0 : Int32)]) rfl k) ?_
      show Go p e below Qo T1819 (mkF m 306 #[sJ j1, zS, sJ j2, zS, sJ j3, zS, sJ j4, zS, sJ j5, zS, sI i1, sI v4_2, sI v18_5, sI v32_8, sJ p3, zS, sR b10, sR b915, sR b1384, sR b1652, sI (1 : Int32), sI (1 : Int32), sR (if (p3 < (if (j5 < j4 ∨ (j5 = j4 ∧ j2 < j1)) then j5 else j4) ∨ (p3 = (if (j5 < j4 ∨ (j5 = j4 ∧ j2 < j1)) then j5 else j4) ∧ j3 < (if (j5 < j4 ∨ (j5 = j4 ∧ j2 < j1)) then j2 else j1))) then b1384 else (if (j5 < j4 ∨ (j5 = j4 ∧ j2 < j1)) then b915 else b10)), zU, sI (0 : Int32), sI (0 : Int32)] [])
      refine Go.of (fun t k => XS.iload Xx1823.here hx rfl (hb hby at_306) rfl  k) ?_
      refine Go.of (fun t k => XS.ifYes Xx1823.here hx rfl (pc0 := 308) (pc' := 316) rfl (hb hby at_308) rfl ((if0 _ _).trans (teq (by decide : (0 : Int32) = (0 : Int32))).1) (by decide) (by decide) k) ?_
      refine Go.of (fun t k => XS.iload Xx1823.here hx rfl (hb hby at_316) rfl  k) ?_
      refine Go.of (fun t k => XS.ifYes Xx1823.here hx rfl (pc0 := 318) (pc' := 326) rfl (hb hby at_318) rfl ((if0 _ _).trans (teq (by decide : (0 : Int32) = (0 : Int32))).1) (by decide) (by decide) k) ?_
      refine Go.of (fun t k => XS.aload Xx1823.here hx rfl (hb hby at_326) rfl rfl k) ?_
      refine Go.of (fun t k => XS.astore Xx1823.here hx rfl (hb hby at_328) rfl rfl (l' := #[sJ j1, zS, sJ j2, zS, sJ j3, zS, sJ j4, zS, sJ j5, zS, sI i1, sI v4_2, sI v18_5, sI v32_8, sJ p3, zS, sR b10, sR b915, sR b1384, sR b1652, sI (1 : Int32), sI (1 : Int32), sR (if (p3 < (if (j5 < j4 ∨ (j5 = j4 ∧ j2 < j1)) then j5 else j4) ∨ (p3 = (if (j5 < j4 ∨ (j5 = j4 ∧ j2 < j1)) then j5 else j4) ∧ j3 < (if (j5 < j4 ∨ (j5 = j4 ∧ j2 < j1)) then j2 else j1))) then b1384 else (if (j5 < j4 ∨ (j5 = j4 ∧ j2 < j1)) then b915 else b10)), sR b1384, sI (0 : Int32), sI (0 : Int32)]) rfl k) ?_
      refine Go.of (fun t k => XS.goto Xx1823.here hx rfl (pc0 := 330) (pc' := 397) rfl (hb hby at_330) (by decide) (by decide) k) ?_
      refine Go.of (fun t k => XS.iload Xx1823.here hx rfl (hb hby at_397) rfl  k) ?_
      show Go p e below Qo T1819 (mkF m 399 #[sJ j1, zS, sJ j2, zS, sJ j3, zS, sJ j4, zS, sJ j5, zS, sI i1, sI v4_2, sI v18_5, sI v32_8, sJ p3, zS, sR b10, sR b915, sR b1384, sR b1652, sI (1 : Int32), sI (1 : Int32), sR (if (p3 < (if (j5 < j4 ∨ (j5 = j4 ∧ j2 < j1)) then j5 else j4) ∨ (p3 = (if (j5 < j4 ∨ (j5 = j4 ∧ j2 < j1)) then j5 else j4) ∧ j3 < (if (j5 < j4 ∨ (j5 = j4 ∧ j2 < j1)) then j2 else j1))) then b1384 else (if (j5 < j4 ∨ (j5 = j4 ∧ j2 < j1)) then b915 else b10)), sR b1384, sI (0 : Int32), sI (0 : Int32)] [(.int (1 : Int32))])
      refine Go.of (fun t k => XS.ifNo Xx1823.here hx rfl (hb hby at_399) rfl ((if0 _ _).trans (feq (by decide : ¬ ((1 : Int32) = (0 : Int32)))).1) k) ?_
      refine Go.of (fun t k => XS.iload Xx1823.here hx rfl (hb hby at_402) rfl  k) ?_
      refine Go.of (fun t k => XS.ifNo Xx1823.here hx rfl (hb hby at_404) rfl ((if0 _ _).trans (feq (by decide : ¬ ((1 : Int32) = (0 : Int32)))).1) k) ?_
      refine Go.of (fun t k => XS.aload Xx1823.here hx rfl (hb hby at_407) rfl rfl k) ?_
      refine Go.of (fun t k => XS.aload Xx1823.here hx rfl (hb hby at_409) rfl rfl k) ?_
      suffices J411_1827 : ∀ (v411_1826 : Int32), v411_1826 = (if (if (p3 < (if (j5 < j4 ∨ (j5 = j4 ∧ j2 < j1)) then j5 else j4) ∨ (p3 = (if (j5 < j4 ∨ (j5 = j4 ∧ j2 < j1)) then j5 else j4) ∧ j3 < (if (j5 < j4 ∨ (j5 = j4 ∧ j2 < j1)) then j2 else j1))) then b1384 else (if (j5 < j4 ∨ (j5 = j4 ∧ j2 < j1)) then b915 else b10)) = b1384 then (1 : Int32) else (0 : Int32)) → Go p e below Qo T1819 (mkF m 419 #[sJ j1, zS, sJ j2, zS, sJ j3, zS, sJ j4, zS, sJ j5, zS, sI i1, sI v4_2, sI v18_5, sI v32_8, sJ p3, zS, sR b10, sR b915, sR b1384, sR b1652, sI (1 : Int32), sI (1 : Int32), sR (if (p3 < (if (j5 < j4 ∨ (j5 = j4 ∧ j2 < j1)) then j5 else j4) ∨ (p3 = (if (j5 < j4 ∨ (j5 = j4 ∧ j2 < j1)) then j5 else j4) ∧ j3 < (if (j5 < j4 ∨ (j5 = j4 ∧ j2 < j1)) then j2 else j1))) then b1384 else (if (j5 < j4 ∨ (j5 = j4 ∧ j2 < j1)) then b915 else b10)), sR b1384, sI (0 : Int32), sI (0 : Int32)] [(.int v411_1826)]) by
        by_cases hc411_1828 : (if (p3 < (if (j5 < j4 ∨ (j5 = j4 ∧ j2 < j1)) then j5 else j4) ∨ (p3 = (if (j5 < j4 ∨ (j5 = j4 ∧ j2 < j1)) then j5 else j4) ∧ j3 < (if (j5 < j4 ∨ (j5 = j4 ∧ j2 < j1)) then j2 else j1))) then b1384 else (if (j5 < j4 ∨ (j5 = j4 ∧ j2 < j1)) then b915 else b10)) = b1384
        · refine Go.of (fun t k => Jvm.RoadKit.acmp (g := (mkF m 411 #[sJ j1, zS, sJ j2, zS, sJ j3, zS, sJ j4, zS, sJ j5, zS, sI i1, sI v4_2, sI v18_5, sI v32_8, sJ p3, zS, sR b10, sR b915, sR b1384, sR b1652, sI (1 : Int32), sI (1 : Int32), sR (if (p3 < (if (j5 < j4 ∨ (j5 = j4 ∧ j2 < j1)) then j5 else j4) ∨ (p3 = (if (j5 < j4 ∨ (j5 = j4 ∧ j2 < j1)) then j5 else j4) ∧ j3 < (if (j5 < j4 ∨ (j5 = j4 ∧ j2 < j1)) then j2 else j1))) then b1384 else (if (j5 < j4 ∨ (j5 = j4 ∧ j2 < j1)) then b915 else b10)), sR b1384, sI (0 : Int32), sI (0 : Int32)] [(.ref b1384), (.ref (if (p3 < (if (j5 < j4 ∨ (j5 = j4 ∧ j2 < j1)) then j5 else j4) ∨ (p3 = (if (j5 < j4 ∨ (j5 = j4 ∧ j2 < j1)) then j5 else j4) ∧ j3 < (if (j5 < j4 ∨ (j5 = j4 ∧ j2 < j1)) then j2 else j1))) then b1384 else (if (j5 < j4 ∨ (j5 = j4 ∧ j2 < j1)) then b915 else b10)))])) Xx1823 hx rfl rfl rfl (pc0 := 411) (pc' := 414) (same := true) rfl (hb hby at_411) rfl (decide_eq_true (congrArg Value.ref hc411_1828)) (by decide) (by decide) k) ?_
          refine Go.of (fun t k => XS.iconst Xx1823.here hx rfl (hb hby at_414) k) ?_
          refine Go.of (fun t k => XS.goto Xx1823.here hx rfl (pc0 := 415) (pc' := 419) rfl (hb hby at_415) (by decide) (by decide) k) ?_
          show Go p e below Qo T1819 (mkF m 419 #[sJ j1, zS, sJ j2, zS, sJ j3, zS, sJ j4, zS, sJ j5, zS, sI i1, sI v4_2, sI v18_5, sI v32_8, sJ p3, zS, sR b10, sR b915, sR b1384, sR b1652, sI (1 : Int32), sI (1 : Int32), sR (if (p3 < (if (j5 < j4 ∨ (j5 = j4 ∧ j2 < j1)) then j5 else j4) ∨ (p3 = (if (j5 < j4 ∨ (j5 = j4 ∧ j2 < j1)) then j5 else j4) ∧ j3 < (if (j5 < j4 ∨ (j5 = j4 ∧ j2 < j1)) then j2 else j1))) then b1384 else (if (j5 < j4 ∨ (j5 = j4 ∧ j2 < j1)) then b915 else b10)), sR b1384, sI (0 : Int32), sI (0 : Int32)] [(.int (1 : Int32))])
          exact J411_1827 _ (by first | rfl | (rw [if_pos hc411_1828]) | (simp only [hc411_1828, if_true, if_false]; done) | simp [hc411_1828])
        refine Go.of (fun t k => Jvm.RoadKit.acmp (g := (mkF m 411 #[sJ j1, zS, sJ j2, zS, sJ j3, zS, sJ j4, zS, sJ j5, zS, sI i1, sI v4_2, sI v18_5, sI v32_8, sJ p3, zS, sR b10, sR b915, sR b1384, sR b1652, sI (1 : Int32), sI (1 : Int32), sR (if (p3 < (if (j5 < j4 ∨ (j5 = j4 ∧ j2 < j1)) then j5 else j4) ∨ (p3 = (if (j5 < j4 ∨ (j5 = j4 ∧ j2 < j1)) then j5 else j4) ∧ j3 < (if (j5 < j4 ∨ (j5 = j4 ∧ j2 < j1)) then j2 else j1))) then b1384 else (if (j5 < j4 ∨ (j5 = j4 ∧ j2 < j1)) then b915 else b10)), sR b1384, sI (0 : Int32), sI (0 : Int32)] [(.ref b1384), (.ref (if (p3 < (if (j5 < j4 ∨ (j5 = j4 ∧ j2 < j1)) then j5 else j4) ∨ (p3 = (if (j5 < j4 ∨ (j5 = j4 ∧ j2 < j1)) then j5 else j4) ∧ j3 < (if (j5 < j4 ∨ (j5 = j4 ∧ j2 < j1)) then j2 else j1))) then b1384 else (if (j5 < j4 ∨ (j5 = j4 ∧ j2 < j1)) then b915 else b10)))])) Xx1823 hx rfl rfl rfl (pc0 := 411) (pc' := 418) (same := false) rfl (hb hby at_411) rfl (decide_eq_false fun q => hc411_1828 (Value.ref.inj q)) (by decide) (by decide) k) ?_
        refine Go.of (fun t k => XS.iconst Xx1823.here hx rfl (hb hby at_418) k) ?_
        show Go p e below Qo T1819 (mkF m 419 #[sJ j1, zS, sJ j2, zS, sJ j3, zS, sJ j4, zS, sJ j5, zS, sI i1, sI v4_2, sI v18_5, sI v32_8, sJ p3, zS, sR b10, sR b915, sR b1384, sR b1652, sI (1 : Int32), sI (1 : Int32), sR (if (p3 < (if (j5 < j4 ∨ (j5 = j4 ∧ j2 < j1)) then j5 else j4) ∨ (p3 = (if (j5 < j4 ∨ (j5 = j4 ∧ j2 < j1)) then j5 else j4) ∧ j3 < (if (j5 < j4 ∨ (j5 = j4 ∧ j2 < j1)) then j2 else j1))) then b1384 else (if (j5 < j4 ∨ (j5 = j4 ∧ j2 < j1)) then b915 else b10)), sR b1384, sI (0 : Int32), sI (0 : Int32)] [(.int (0 : Int32))])
        exact J411_1827 _ (by first | rfl | (rw [if_neg hc411_1828]) | (simp only [hc411_1828, if_true, if_false]; done) | simp [hc411_1828])
      intro v411_1826 hv411_1826
      show Go p e below Qo T1819 (mkF m 419 #[sJ j1, zS, sJ j2, zS, sJ j3, zS, sJ j4, zS, sJ j5, zS, sI i1, sI v4_2, sI v18_5, sI v32_8, sJ p3, zS, sR b10, sR b915, sR b1384, sR b1652, sI (1 : Int32), sI (1 : Int32), sR (if (p3 < (if (j5 < j4 ∨ (j5 = j4 ∧ j2 < j1)) then j5 else j4) ∨ (p3 = (if (j5 < j4 ∨ (j5 = j4 ∧ j2 < j1)) then j5 else j4) ∧ j3 < (if (j5 < j4 ∨ (j5 = j4 ∧ j2 < j1)) then j2 else j1))) then b1384 else (if (j5 < j4 ∨ (j5 = j4 ∧ j2 < j1)) then b915 else b10)), sR b1384, sI (0 : Int32), sI (0 : Int32)] [(.int v411_1826)])
      have hfin : v411_1826 = 1 := by
        refine hv411_1826.trans (if_pos ?_)
        have T := own_three j4 j5 p3 j1 j2 j3 b10 b915 b1384
        skip
        all_goals first | rfl | (exact T.1 (by assumption) (by assumption)) | (exact T.2.1 (Or.inl (by assumption)) (by assumption) (by assumption)) | (exact T.2.1 (Or.inr (by assumption)) (by assumption) (by assumption)) | (exact T.2.2 (Or.inl (by assumption)) (Or.inl (by assumption))) | (exact T.2.2 (Or.inl (by assumption)) (Or.inr (by assumption))) | (exact T.2.2 (Or.inr (by assumption)) (Or.inl (by assumption))) | (exact T.2.2 (Or.inr (by assumption)) (Or.inr (by assumption)))
      exact own_retN Xx1823 hx Bd.notSynchronized (t := .boolean) Bd.returns (by simp) (hb hby at_419) (fun u hu hF => hQo _ _ _ ⟨by rw [hfin]; rfl, Nx1823⟩ (own_mono hF (by decide) (by decide)))
    refine Go.of (fun t k => XS.ifNo Xx1823.here hx rfl (hb hby at_278) rfl ((if0 _ _).trans (feq hc278_1824).1) k) ?_
    show Go p e below Qo T1819 (mkF m 281 #[sJ j1, zS, sJ j2, zS, sJ j3, zS, sJ j4, zS, sJ j5, zS, sI i1, sI v4_2, sI v18_5, sI v32_8, sJ p3, zS, sR b10, sR b915, sR b1384, sR b1652, sI (1 : Int32), sI (1 : Int32), sR (if (p3 < (if (j5 < j4 ∨ (j5 = j4 ∧ j2 < j1)) then j5 else j4) ∨ (p3 = (if (j5 < j4 ∨ (j5 = j4 ∧ j2 < j1)) then j5 else j4) ∧ j3 < (if (j5 < j4 ∨ (j5 = j4 ∧ j2 < j1)) then j2 else j1))) then b1384 else (if (j5 < j4 ∨ (j5 = j4 ∧ j2 < j1)) then b915 else b10)), zU, sI (0 : Int32), zU] [])
    refine Go.of (fun t k => XS.iload Xx1823.here hx rfl (hb hby at_281) rfl  k) ?_
    refine Go.of (fun t k => XS.ifNo Xx1823.here hx rfl (hb hby at_283) rfl ((if0 _ _).trans (feq hc101_1404).1) k) ?_
    refine Go.of (fun t k => XS.lload Xx1823.here hx rfl (hb hby at_286) rfl  k) ?_
    refine Go.of (fun t k => XS.lloadN Xx1823.here hx rfl (hb hby at_288) rfl  k) ?_
    refine Go.of (fun t k => XS.lload Xx1823.here hx rfl (hb hby at_289) rfl  k) ?_
    refine Go.of (fun t k => XS.lload Xx1823.here hx rfl (hb hby at_291) rfl  k) ?_
    obtain ⟨_, _, ⟨T1829, L1829, k1829, n1829⟩, -, X1829, ⟨Lc1829, hQ1829, l1829, y1829, z1829⟩, st1829⟩ := Jvm.LawKit.callS Xx1823 hx (y := (⟨kL, "le", "(JJJJ)Z"⟩ : MethodName)) hown (mvT hZ (wk hw 67 rfl)) (mvT hZ (wk hw 68 rfl)) (mvT hZ (wk hw 69 rfl)) (mvT hZ (wk hw 70 rfl)) (by decide) (backOf (W := 0) (rm10 l Z a0 hw [] j5 j2 p3 j3 T1772.heap n0 Z1805 ) hZ (wk hw 70 rfl) (wk hw 69 rfl) (by decide) (by decide)) (g := (mkF m 293 #[sJ j1, zS, sJ j2, zS, sJ j3, zS, sJ j4, zS, sJ j5, zS, sI i1, sI v4_2, sI v18_5, sI v32_8, sJ p3, zS, sR b10, sR b915, sR b1384, sR b1652, sI (1 : Int32), sI (1 : Int32), sR (if (p3 < (if (j5 < j4 ∨ (j5 = j4 ∧ j2 < j1)) then j5 else j4) ∨ (p3 = (if (j5 < j4 ∨ (j5 = j4 ∧ j2 < j1)) then j5 else j4) ∧ j3 < (if (j5 < j4 ∨ (j5 = j4 ∧ j2 < j1)) then j2 else j1))) then b1384 else (if (j5 < j4 ∨ (j5 = j4 ∧ j2 < j1)) then b915 else b10)), zU, sI (0 : Int32), zU] [(.long j3), (.long p3), (.long j2), (.long j5)])) rfl (by rw [hml]; rfl) (argsL := [(.long j5), (.long j2), (.long p3), (.long j3)]) (rest := []) (lenOf pd_7 rfl) rfl (by show 2 * 0 + _ ≤ _; exact Nat.le_of_eq rfl) (hb hby at_293) (fun _ _ => ⟨rfl, eh1821, (by decide : 4 + 0 ≤ _), (by decide : 15 + 0 ≤ _)⟩)
    dsimp only [Pt.U, Pt.locs, Pt.cells, Pt.slots] at X1829 l1829 y1829 z1829 st1829 hQ1829
    subst l1829 y1829 z1829
    replace X1829 := own_cs X1829 (c' := 4) (s' := 15) (by decide) (by decide)
    obtain ⟨rfl, N1830, eh1831⟩ := hQ1829
    have N1832 := Fr.app Nx1823 N1830
    refine Go.of st1829 ?_
    obtain ⟨Lx1833, Xx1833, Nx1833⟩ := own_locs X1829 N1832
    show Go p e below Qo T1829 (mkF m 296 #[sJ j1, zS, sJ j2, zS, sJ j3, zS, sJ j4, zS, sJ j5, zS, sI i1, sI v4_2, sI v18_5, sI v32_8, sJ p3, zS, sR b10, sR b915, sR b1384, sR b1652, sI (1 : Int32), sI (1 : Int32), sR (if (p3 < (if (j5 < j4 ∨ (j5 = j4 ∧ j2 < j1)) then j5 else j4) ∨ (p3 = (if (j5 < j4 ∨ (j5 = j4 ∧ j2 < j1)) then j5 else j4) ∧ j3 < (if (j5 < j4 ∨ (j5 = j4 ∧ j2 < j1)) then j2 else j1))) then b1384 else (if (j5 < j4 ∨ (j5 = j4 ∧ j2 < j1)) then b915 else b10)), zU, sI (0 : Int32), zU] [(.int (F10 j5 j2 p3 j3))])
    suffices J296_1836 : ∀ (v296_1835 : Int32), v296_1835 = (if (F10 j5 j2 p3 j3) = (0 : Int32) then (0 : Int32) else (1 : Int32)) → Go p e below Qo T1829 (mkF m 304 #[sJ j1, zS, sJ j2, zS, sJ j3, zS, sJ j4, zS, sJ j5, zS, sI i1, sI v4_2, sI v18_5, sI v32_8, sJ p3, zS, sR b10, sR b915, sR b1384, sR b1652, sI (1 : Int32), sI (1 : Int32), sR (if (p3 < (if (j5 < j4 ∨ (j5 = j4 ∧ j2 < j1)) then j5 else j4) ∨ (p3 = (if (j5 < j4 ∨ (j5 = j4 ∧ j2 < j1)) then j5 else j4) ∧ j3 < (if (j5 < j4 ∨ (j5 = j4 ∧ j2 < j1)) then j2 else j1))) then b1384 else (if (j5 < j4 ∨ (j5 = j4 ∧ j2 < j1)) then b915 else b10)), zU, sI (0 : Int32), zU] [(.int v296_1835)]) by
      by_cases hc296_1845 : (F10 j5 j2 p3 j3) = (0 : Int32)
      · refine Go.of (fun t k => XS.ifYes Xx1833.here hx rfl (pc0 := 296) (pc' := 303) rfl (hb hby at_296) rfl ((if0 _ _).trans (teq hc296_1845).1) (by decide) (by decide) k) ?_
        refine Go.of (fun t k => XS.iconst Xx1833.here hx rfl (hb hby at_303) k) ?_
        show Go p e below Qo T1829 (mkF m 304 #[sJ j1, zS, sJ j2, zS, sJ j3, zS, sJ j4, zS, sJ j5, zS, sI i1, sI v4_2, sI v18_5, sI v32_8, sJ p3, zS, sR b10, sR b915, sR b1384, sR b1652, sI (1 : Int32), sI (1 : Int32), sR (if (p3 < (if (j5 < j4 ∨ (j5 = j4 ∧ j2 < j1)) then j5 else j4) ∨ (p3 = (if (j5 < j4 ∨ (j5 = j4 ∧ j2 < j1)) then j5 else j4) ∧ j3 < (if (j5 < j4 ∨ (j5 = j4 ∧ j2 < j1)) then j2 else j1))) then b1384 else (if (j5 < j4 ∨ (j5 = j4 ∧ j2 < j1)) then b915 else b10)), zU, sI (0 : Int32), zU] [(.int (0 : Int32))])
        exact J296_1836 _ (by first | rfl | (rw [if_pos hc296_1845]) | (simp only [hc296_1845, if_true, if_false]; done) | simp [hc296_1845])
      refine Go.of (fun t k => XS.ifNo Xx1833.here hx rfl (hb hby at_296) rfl ((if0 _ _).trans (feq hc296_1845).1) k) ?_
      refine Go.of (fun t k => XS.iconst Xx1833.here hx rfl (hb hby at_299) k) ?_
      refine Go.of (fun t k => XS.goto Xx1833.here hx rfl (pc0 := 300) (pc' := 304) rfl (hb hby at_300) (by decide) (by decide) k) ?_
      show Go p e below Qo T1829 (mkF m 304 #[sJ j1, zS, sJ j2, zS, sJ j3, zS, sJ j4, zS, sJ j5, zS, sI i1, sI v4_2, sI v18_5, sI v32_8, sJ p3, zS, sR b10, sR b915, sR b1384, sR b1652, sI (1 : Int32), sI (1 : Int32), sR (if (p3 < (if (j5 < j4 ∨ (j5 = j4 ∧ j2 < j1)) then j5 else j4) ∨ (p3 = (if (j5 < j4 ∨ (j5 = j4 ∧ j2 < j1)) then j5 else j4) ∧ j3 < (if (j5 < j4 ∨ (j5 = j4 ∧ j2 < j1)) then j2 else j1))) then b1384 else (if (j5 < j4 ∨ (j5 = j4 ∧ j2 < j1)) then b915 else b10)), zU, sI (0 : Int32), zU] [(.int (1 : Int32))])
      show Go p e below Qo T1829 (mkF m 304 #[sJ j1, zS, sJ j2, zS, sJ j3, zS, sJ j4, zS, sJ j5, zS, sI i1, sI v4_2, sI v18_5, sI v32_8, sJ p3, zS, sR b10, sR b915, sR b1384, sR b1652, sI (1 : Int32), sI (1 : Int32), sR (if (p3 < (if (j5 < j4 ∨ (j5 = j4 ∧ j2 < j1)) then j5 else j4) ∨ (p3 = (if (j5 < j4 ∨ (j5 = j4 ∧ j2 < j1)) then j5 else j4) ∧ j3 < (if (j5 < j4 ∨ (j5 = j4 ∧ j2 < j1)) then j2 else j1))) then b1384 else (if (j5 < j4 ∨ (j5 = j4 ∧ j2 < j1)) then b915 else b10)), zU, sI (0 : Int32), zU] [(.int (1 : Int32))])
      exact J296_1836 _ (by first | rfl | (rw [if_neg hc296_1845]) | (simp only [hc296_1845, if_true, if_false]; done) | simp [hc296_1845])
    intro v296_1835 hv296_1835
    show Go p e below Qo T1829 (mkF m 304 #[sJ j1, zS, sJ j2, zS, sJ j3, zS, sJ j4, zS, sJ j5, zS, sI i1, sI v4_2, sI v18_5, sI v32_8, sJ p3, zS, sR b10, sR b915, sR b1384, sR b1652, sI (1 : Int32), sI (1 : Int32), sR (if (p3 < (if (j5 < j4 ∨ (j5 = j4 ∧ j2 < j1)) then j5 else j4) ∨ (p3 = (if (j5 < j4 ∨ (j5 = j4 ∧ j2 < j1)) then j5 else j4) ∧ j3 < (if (j5 < j4 ∨ (j5 = j4 ∧ j2 < j1)) then j2 else j1))) then b1384 else (if (j5 < j4 ∨ (j5 = j4 ∧ j2 < j1)) then b915 else b10)), zU, sI (0 : Int32), zU] [(.int v296_1835)])
    refine Go.of (fun t k => XS.istore Xx1833.here hx rfl (hb hby at_304) rfl (l' := #[sJ j1, zS, sJ j2, zS, sJ j3, zS, sJ j4, zS, sJ j5, zS, sI i1, sI v4_2, sI v18_5, sI v32_8, sJ p3, zS, sR b10, sR b915, sR b1384, sR b1652, sI (1 : Int32), sI (1 : Int32), sR (if (p3 < (if (j5 < j4 ∨ (j5 = j4 ∧ j2 < j1)) then j5 else j4) ∨ (p3 = (if (j5 < j4 ∨ (j5 = j4 ∧ j2 < j1)) then j5 else j4) ∧ j3 < (if (j5 < j4 ∨ (j5 = j4 ∧ j2 < j1)) then j2 else j1))) then b1384 else (if (j5 < j4 ∨ (j5 = j4 ∧ j2 < j1)) then b915 else b10)), zU, sI (0 : Int32), sI v296_1835]) rfl k) ?_
    refine Go.of (fun t k => XS.iload Xx1833.here hx rfl (hb hby at_306) rfl  k) ?_
    refine Go.of (fun t k => XS.ifYes Xx1833.here hx rfl (pc0 := 308) (pc' := 316) rfl (hb hby at_308) rfl ((if0 _ _).trans (teq (by decide : (0 : Int32) = (0 : Int32))).1) (by decide) (by decide) k) ?_
    refine Go.of (fun t k => XS.iload Xx1833.here hx rfl (hb hby at_316) rfl  k) ?_
    suffices J318_1839 : ∀ (v318_1838 : Addr), v318_1838 = (if v296_1835 = (0 : Int32) then b1384 else b915) → Go p e below Qo T1829 (mkF m 328 #[sJ j1, zS, sJ j2, zS, sJ j3, zS, sJ j4, zS, sJ j5, zS, sI i1, sI v4_2, sI v18_5, sI v32_8, sJ p3, zS, sR b10, sR b915, sR b1384, sR b1652, sI (1 : Int32), sI (1 : Int32), sR (if (p3 < (if (j5 < j4 ∨ (j5 = j4 ∧ j2 < j1)) then j5 else j4) ∨ (p3 = (if (j5 < j4 ∨ (j5 = j4 ∧ j2 < j1)) then j5 else j4) ∧ j3 < (if (j5 < j4 ∨ (j5 = j4 ∧ j2 < j1)) then j2 else j1))) then b1384 else (if (j5 < j4 ∨ (j5 = j4 ∧ j2 < j1)) then b915 else b10)), zU, sI (0 : Int32), sI v296_1835] [(.ref v318_1838)]) by
      by_cases hc318_1844 : v296_1835 = (0 : Int32)
      · refine Go.of (fun t k => XS.ifYes Xx1833.here hx rfl (pc0 := 318) (pc' := 326) rfl (hb hby at_318) rfl ((if0 _ _).trans (teq hc318_1844).1) (by decide) (by decide) k) ?_
        refine Go.of (fun t k => XS.aload Xx1833.here hx rfl (hb hby at_326) rfl rfl k) ?_
        show Go p e below Qo T1829 (mkF m 328 #[sJ j1, zS, sJ j2, zS, sJ j3, zS, sJ j4, zS, sJ j5, zS, sI i1, sI v4_2, sI v18_5, sI v32_8, sJ p3, zS, sR b10, sR b915, sR b1384, sR b1652, sI (1 : Int32), sI (1 : Int32), sR (if (p3 < (if (j5 < j4 ∨ (j5 = j4 ∧ j2 < j1)) then j5 else j4) ∨ (p3 = (if (j5 < j4 ∨ (j5 = j4 ∧ j2 < j1)) then j5 else j4) ∧ j3 < (if (j5 < j4 ∨ (j5 = j4 ∧ j2 < j1)) then j2 else j1))) then b1384 else (if (j5 < j4 ∨ (j5 = j4 ∧ j2 < j1)) then b915 else b10)), zU, sI (0 : Int32), sI v296_1835] [(.ref b1384)])
        show Go p e below Qo T1829 (mkF m 328 #[sJ j1, zS, sJ j2, zS, sJ j3, zS, sJ j4, zS, sJ j5, zS, sI i1, sI v4_2, sI v18_5, sI v32_8, sJ p3, zS, sR b10, sR b915, sR b1384, sR b1652, sI (1 : Int32), sI (1 : Int32), sR (if (p3 < (if (j5 < j4 ∨ (j5 = j4 ∧ j2 < j1)) then j5 else j4) ∨ (p3 = (if (j5 < j4 ∨ (j5 = j4 ∧ j2 < j1)) then j5 else j4) ∧ j3 < (if (j5 < j4 ∨ (j5 = j4 ∧ j2 < j1)) then j2 else j1))) then b1384 else (if (j5 < j4 ∨ (j5 = j4 ∧ j2 < j1)) then b915 else b10)), zU, sI (0 : Int32), sI v296_1835] [(.ref b1384)])
        exact J318_1839 _ (by first | rfl | (rw [if_pos hc318_1844]) | (simp only [hc318_1844, if_true, if_false]; done) | simp [hc318_1844])
      refine Go.of (fun t k => XS.ifNo Xx1833.here hx rfl (hb hby at_318) rfl ((if0 _ _).trans (feq hc318_1844).1) k) ?_
      refine Go.of (fun t k => XS.aload Xx1833.here hx rfl (hb hby at_321) rfl rfl k) ?_
      refine Go.of (fun t k => XS.goto Xx1833.here hx rfl (pc0 := 323) (pc' := 328) rfl (hb hby at_323) (by decide) (by decide) k) ?_
      show Go p e below Qo T1829 (mkF m 328 #[sJ j1, zS, sJ j2, zS, sJ j3, zS, sJ j4, zS, sJ j5, zS, sI i1, sI v4_2, sI v18_5, sI v32_8, sJ p3, zS, sR b10, sR b915, sR b1384, sR b1652, sI (1 : Int32), sI (1 : Int32), sR (if (p3 < (if (j5 < j4 ∨ (j5 = j4 ∧ j2 < j1)) then j5 else j4) ∨ (p3 = (if (j5 < j4 ∨ (j5 = j4 ∧ j2 < j1)) then j5 else j4) ∧ j3 < (if (j5 < j4 ∨ (j5 = j4 ∧ j2 < j1)) then j2 else j1))) then b1384 else (if (j5 < j4 ∨ (j5 = j4 ∧ j2 < j1)) then b915 else b10)), zU, sI (0 : Int32), sI v296_1835] [(.ref b915)])
      exact J318_1839 _ (by first | rfl | (rw [if_neg hc318_1844]) | (simp only [hc318_1844, if_true, if_false]; done) | simp [hc318_1844])
    intro v318_1838 hv318_1838
    show Go p e below Qo T1829 (mkF m 328 #[sJ j1, zS, sJ j2, zS, sJ j3, zS, sJ j4, zS, sJ j5, zS, sI i1, sI v4_2, sI v18_5, sI v32_8, sJ p3, zS, sR b10, sR b915, sR b1384, sR b1652, sI (1 : Int32), sI (1 : Int32), sR (if (p3 < (if (j5 < j4 ∨ (j5 = j4 ∧ j2 < j1)) then j5 else j4) ∨ (p3 = (if (j5 < j4 ∨ (j5 = j4 ∧ j2 < j1)) then j5 else j4) ∧ j3 < (if (j5 < j4 ∨ (j5 = j4 ∧ j2 < j1)) then j2 else j1))) then b1384 else (if (j5 < j4 ∨ (j5 = j4 ∧ j2 < j1)) then b915 else b10)), zU, sI (0 : Int32), sI v296_1835] [(.ref v318_1838)])
    refine Go.of (fun t k => XS.astore Xx1833.here hx rfl (hb hby at_328) rfl rfl (l' := #[sJ j1, zS, sJ j2, zS, sJ j3, zS, sJ j4, zS, sJ j5, zS, sI i1, sI v4_2, sI v18_5, sI v32_8, sJ p3, zS, sR b10, sR b915, sR b1384, sR b1652, sI (1 : Int32), sI (1 : Int32), sR (if (p3 < (if (j5 < j4 ∨ (j5 = j4 ∧ j2 < j1)) then j5 else j4) ∨ (p3 = (if (j5 < j4 ∨ (j5 = j4 ∧ j2 < j1)) then j5 else j4) ∧ j3 < (if (j5 < j4 ∨ (j5 = j4 ∧ j2 < j1)) then j2 else j1))) then b1384 else (if (j5 < j4 ∨ (j5 = j4 ∧ j2 < j1)) then b915 else b10)), sR v318_1838, sI (0 : Int32), sI v296_1835]) rfl k) ?_
    refine Go.of (fun t k => XS.goto Xx1833.here hx rfl (pc0 := 330) (pc' := 397) rfl (hb hby at_330) (by decide) (by decide) k) ?_
    refine Go.of (fun t k => XS.iload Xx1833.here hx rfl (hb hby at_397) rfl  k) ?_
    refine Go.of (fun t k => XS.ifNo Xx1833.here hx rfl (hb hby at_399) rfl ((if0 _ _).trans (feq (by decide : ¬ ((1 : Int32) = (0 : Int32)))).1) k) ?_
    show Go p e below Qo T1829 (mkF m 402 #[sJ j1, zS, sJ j2, zS, sJ j3, zS, sJ j4, zS, sJ j5, zS, sI i1, sI v4_2, sI v18_5, sI v32_8, sJ p3, zS, sR b10, sR b915, sR b1384, sR b1652, sI (1 : Int32), sI (1 : Int32), sR (if (p3 < (if (j5 < j4 ∨ (j5 = j4 ∧ j2 < j1)) then j5 else j4) ∨ (p3 = (if (j5 < j4 ∨ (j5 = j4 ∧ j2 < j1)) then j5 else j4) ∧ j3 < (if (j5 < j4 ∨ (j5 = j4 ∧ j2 < j1)) then j2 else j1))) then b1384 else (if (j5 < j4 ∨ (j5 = j4 ∧ j2 < j1)) then b915 else b10)), sR v318_1838, sI (0 : Int32), sI v296_1835] [])
    refine Go.of (fun t k => XS.iload Xx1833.here hx rfl (hb hby at_402) rfl  k) ?_
    refine Go.of (fun t k => XS.ifNo Xx1833.here hx rfl (hb hby at_404) rfl ((if0 _ _).trans (feq (by decide : ¬ ((1 : Int32) = (0 : Int32)))).1) k) ?_
    refine Go.of (fun t k => XS.aload Xx1833.here hx rfl (hb hby at_407) rfl rfl k) ?_
    refine Go.of (fun t k => XS.aload Xx1833.here hx rfl (hb hby at_409) rfl rfl k) ?_
    suffices J411_1842 : ∀ (v411_1841 : Int32), v411_1841 = (if (if (p3 < (if (j5 < j4 ∨ (j5 = j4 ∧ j2 < j1)) then j5 else j4) ∨ (p3 = (if (j5 < j4 ∨ (j5 = j4 ∧ j2 < j1)) then j5 else j4) ∧ j3 < (if (j5 < j4 ∨ (j5 = j4 ∧ j2 < j1)) then j2 else j1))) then b1384 else (if (j5 < j4 ∨ (j5 = j4 ∧ j2 < j1)) then b915 else b10)) = v318_1838 then (1 : Int32) else (0 : Int32)) → Go p e below Qo T1829 (mkF m 419 #[sJ j1, zS, sJ j2, zS, sJ j3, zS, sJ j4, zS, sJ j5, zS, sI i1, sI v4_2, sI v18_5, sI v32_8, sJ p3, zS, sR b10, sR b915, sR b1384, sR b1652, sI (1 : Int32), sI (1 : Int32), sR (if (p3 < (if (j5 < j4 ∨ (j5 = j4 ∧ j2 < j1)) then j5 else j4) ∨ (p3 = (if (j5 < j4 ∨ (j5 = j4 ∧ j2 < j1)) then j5 else j4) ∧ j3 < (if (j5 < j4 ∨ (j5 = j4 ∧ j2 < j1)) then j2 else j1))) then b1384 else (if (j5 < j4 ∨ (j5 = j4 ∧ j2 < j1)) then b915 else b10)), sR v318_1838, sI (0 : Int32), sI v296_1835] [(.int v411_1841)]) by
      by_cases hc411_1843 : (if (p3 < (if (j5 < j4 ∨ (j5 = j4 ∧ j2 < j1)) then j5 else j4) ∨ (p3 = (if (j5 < j4 ∨ (j5 = j4 ∧ j2 < j1)) then j5 else j4) ∧ j3 < (if (j5 < j4 ∨ (j5 = j4 ∧ j2 < j1)) then j2 else j1))) then b1384 else (if (j5 < j4 ∨ (j5 = j4 ∧ j2 < j1)) then b915 else b10)) = v318_1838
      · refine Go.of (fun t k => Jvm.RoadKit.acmp (g := (mkF m 411 #[sJ j1, zS, sJ j2, zS, sJ j3, zS, sJ j4, zS, sJ j5, zS, sI i1, sI v4_2, sI v18_5, sI v32_8, sJ p3, zS, sR b10, sR b915, sR b1384, sR b1652, sI (1 : Int32), sI (1 : Int32), sR (if (p3 < (if (j5 < j4 ∨ (j5 = j4 ∧ j2 < j1)) then j5 else j4) ∨ (p3 = (if (j5 < j4 ∨ (j5 = j4 ∧ j2 < j1)) then j5 else j4) ∧ j3 < (if (j5 < j4 ∨ (j5 = j4 ∧ j2 < j1)) then j2 else j1))) then b1384 else (if (j5 < j4 ∨ (j5 = j4 ∧ j2 < j1)) then b915 else b10)), sR v318_1838, sI (0 : Int32), sI v296_1835] [(.ref v318_1838), (.ref (if (p3 < (if (j5 < j4 ∨ (j5 = j4 ∧ j2 < j1)) then j5 else j4) ∨ (p3 = (if (j5 < j4 ∨ (j5 = j4 ∧ j2 < j1)) then j5 else j4) ∧ j3 < (if (j5 < j4 ∨ (j5 = j4 ∧ j2 < j1)) then j2 else j1))) then b1384 else (if (j5 < j4 ∨ (j5 = j4 ∧ j2 < j1)) then b915 else b10)))])) Xx1833 hx rfl rfl rfl (pc0 := 411) (pc' := 414) (same := true) rfl (hb hby at_411) rfl (decide_eq_true (congrArg Value.ref hc411_1843)) (by decide) (by decide) k) ?_
        refine Go.of (fun t k => XS.iconst Xx1833.here hx rfl (hb hby at_414) k) ?_
        refine Go.of (fun t k => XS.goto Xx1833.here hx rfl (pc0 := 415) (pc' := 419) rfl (hb hby at_415) (by decide) (by decide) k) ?_
        show Go p e below Qo T1829 (mkF m 419 #[sJ j1, zS, sJ j2, zS, sJ j3, zS, sJ j4, zS, sJ j5, zS, sI i1, sI v4_2, sI v18_5, sI v32_8, sJ p3, zS, sR b10, sR b915, sR b1384, sR b1652, sI (1 : Int32), sI (1 : Int32), sR (if (p3 < (if (j5 < j4 ∨ (j5 = j4 ∧ j2 < j1)) then j5 else j4) ∨ (p3 = (if (j5 < j4 ∨ (j5 = j4 ∧ j2 < j1)) then j5 else j4) ∧ j3 < (if (j5 < j4 ∨ (j5 = j4 ∧ j2 < j1)) then j2 else j1))) then b1384 else (if (j5 < j4 ∨ (j5 = j4 ∧ j2 < j1)) then b915 else b10)), sR v318_1838, sI (0 : Int32), sI v296_1835] [(.int (1 : Int32))])
        exact J411_1842 _ (by first | rfl | (rw [if_pos hc411_1843]) | (simp only [hc411_1843, if_true, if_false]; done) | simp [hc411_1843])
      refine Go.of (fun t k => Jvm.RoadKit.acmp (g := (mkF m 411 #[sJ j1, zS, sJ j2, zS, sJ j3, zS, sJ j4, zS, sJ j5, zS, sI i1, sI v4_2, sI v18_5, sI v32_8, sJ p3, zS, sR b10, sR b915, sR b1384, sR b1652, sI (1 : Int32), sI (1 : Int32), sR (if (p3 < (if (j5 < j4 ∨ (j5 = j4 ∧ j2 < j1)) then j5 else j4) ∨ (p3 = (if (j5 < j4 ∨ (j5 = j4 ∧ j2 < j1)) then j5 else j4) ∧ j3 < (if (j5 < j4 ∨ (j5 = j4 ∧ j2 < j1)) then j2 else j1))) then b1384 else (if (j5 < j4 ∨ (j5 = j4 ∧ j2 < j1)) then b915 else b10)), sR v318_1838, sI (0 : Int32), sI v296_1835] [(.ref v318_1838), (.ref (if (p3 < (if (j5 < j4 ∨ (j5 = j4 ∧ j2 < j1)) then j5 else j4) ∨ (p3 = (if (j5 < j4 ∨ (j5 = j4 ∧ j2 < j1)) then j5 else j4) ∧ j3 < (if (j5 < j4 ∨ (j5 = j4 ∧ j2 < j1)) then j2 else j1))) then b1384 else (if (j5 < j4 ∨ (j5 = j4 ∧ j2 < j1)) then b915 else b10)))])) Xx1833 hx rfl rfl rfl (pc0 := 411) (pc' := 418) (same := false) rfl (hb hby at_411) rfl (decide_eq_false fun q => hc411_1843 (Value.ref.inj q)) (by decide) (by decide) k) ?_
      refine Go.of (fun t k => XS.iconst Xx1833.here hx rfl (hb hby at_418) k) ?_
      show Go p e below Qo T1829 (mkF m 419 #[sJ j1, zS, sJ j2, zS, sJ j3, zS, sJ j4, zS, sJ j5, zS, sI i1, sI v4_2, sI v18_5, sI v32_8, sJ p3, zS, sR b10, sR b915, sR b1384, sR b1652, sI (1 : Int32), sI (1 : Int32), sR (if (p3 < (if (j5 < j4 ∨ (j5 = j4 ∧ j2 < j1)) then j5 else j4) ∨ (p3 = (if (j5 < j4 ∨ (j5 = j4 ∧ j2 < j1)) then j5 else j4) ∧ j3 < (if (j5 < j4 ∨ (j5 = j4 ∧ j2 < j1)) then j2 else j1))) then b1384 else (if (j5 < j4 ∨ (j5 = j4 ∧ j2 < j1)) then b915 else b10)), sR v318_1838, sI (0 : Int32), sI v296_1835] [(.int (0 : Int32))])
      exact J411_1842 _ (by first | rfl | (rw [if_neg hc411_1843]) | (simp only [hc411_1843, if_true, if_false]; done) | simp [hc411_1843])
    intro v411_1841 hv411_1841
    show Go p e below Qo T1829 (mkF m 419 #[sJ j1, zS, sJ j2, zS, sJ j3, zS, sJ j4, zS, sJ j5, zS, sI i1, sI v4_2, sI v18_5, sI v32_8, sJ p3, zS, sR b10, sR b915, sR b1384, sR b1652, sI (1 : Int32), sI (1 : Int32), sR (if (p3 < (if (j5 < j4 ∨ (j5 = j4 ∧ j2 < j1)) then j5 else j4) ∨ (p3 = (if (j5 < j4 ∨ (j5 = j4 ∧ j2 < j1)) then j5 else j4) ∧ j3 < (if (j5 < j4 ∨ (j5 = j4 ∧ j2 < j1)) then j2 else j1))) then b1384 else (if (j5 < j4 ∨ (j5 = j4 ∧ j2 < j1)) then b915 else b10)), sR v318_1838, sI (0 : Int32), sI v296_1835] [(.int v411_1841)])
    have hfin : v411_1841 = 1 := by
      refine hv411_1841.trans (if_pos ?_)
      have T := own_three j4 j5 p3 j1 j2 j3 b10 b915 b1384
      subst hv296_1835 hv318_1838
      by_cases c0 : (F10 j5 j2 p3 j3) = (0 : Int32)
      all_goals (try simp only [c0, if_true, if_false, own_00, own_10])
      all_goals first | rfl | (exact T.1 (by assumption) (by assumption)) | (exact T.2.1 (Or.inl (by assumption)) (by assumption) (by assumption)) | (exact T.2.1 (Or.inr (by assumption)) (by assumption) (by assumption)) | (exact T.2.2 (Or.inl (by assumption)) (Or.inl (by assumption))) | (exact T.2.2 (Or.inl (by assumption)) (Or.inr (by assumption))) | (exact T.2.2 (Or.inr (by assumption)) (Or.inl (by assumption))) | (exact T.2.2 (Or.inr (by assumption)) (Or.inr (by assumption)))
    exact own_retN Xx1833 hx Bd.notSynchronized (t := .boolean) Bd.returns (by simp) (hb hby at_419) (fun u hu hF => hQo _ _ _ ⟨by rw [hfin]; rfl, Nx1833⟩ (own_mono hF (by decide) (by decide)))
  refine Go.of (fun t k => XS.ifNo Xx1817.here hx rfl (hb hby at_231) rfl ((if0 _ _).trans (feq hc231_1818).1) k) ?_
  refine Go.of (fun t k => XS.iload Xx1817.here hx rfl (hb hby at_234) rfl  k) ?_
  refine Go.of (fun t k => XS.ifNo Xx1817.here hx rfl (hb hby at_236) rfl ((if0 _ _).trans (feq hc101_1404).1) k) ?_
  refine Go.of (fun t k => XS.lload Xx1817.here hx rfl (hb hby at_239) rfl  k) ?_
  refine Go.of (fun t k => XS.lloadN Xx1817.here hx rfl (hb hby at_241) rfl  k) ?_
  refine Go.of (fun t k => XS.lload Xx1817.here hx rfl (hb hby at_242) rfl  k) ?_
  refine Go.of (fun t k => XS.lload Xx1817.here hx rfl (hb hby at_244) rfl  k) ?_
  obtain ⟨_, _, ⟨T1846, L1846, k1846, n1846⟩, -, X1846, ⟨Lc1846, hQ1846, l1846, y1846, z1846⟩, st1846⟩ := Jvm.LawKit.callS Xx1817 hx (y := (⟨kL, "le", "(JJJJ)Z"⟩ : MethodName)) hown (mvT hZ (wk hw 67 rfl)) (mvT hZ (wk hw 68 rfl)) (mvT hZ (wk hw 69 rfl)) (mvT hZ (wk hw 70 rfl)) (by decide) (backOf (W := 0) (rm10 l Z a0 hw [] j4 j1 p3 j3 T1772.heap n0 Z1805 ) hZ (wk hw 70 rfl) (wk hw 69 rfl) (by decide) (by decide)) (g := (mkF m 246 #[sJ j1, zS, sJ j2, zS, sJ j3, zS, sJ j4, zS, sJ j5, zS, sI i1, sI v4_2, sI v18_5, sI v32_8, sJ p3, zS, sR b10, sR b915, sR b1384, sR b1652, sI (1 : Int32), sI (1 : Int32), sR (if (p3 < (if (j5 < j4 ∨ (j5 = j4 ∧ j2 < j1)) then j5 else j4) ∨ (p3 = (if (j5 < j4 ∨ (j5 = j4 ∧ j2 < j1)) then j5 else j4) ∧ j3 < (if (j5 < j4 ∨ (j5 = j4 ∧ j2 < j1)) then j2 else j1))) then b1384 else (if (j5 < j4 ∨ (j5 = j4 ∧ j2 < j1)) then b915 else b10)), zU, zU, zU] [(.long j3), (.long p3), (.long j1), (.long j4)])) rfl (by rw [hml]; rfl) (argsL := [(.long j4), (.long j1), (.long p3), (.long j3)]) (rest := []) (lenOf pd_7 rfl) rfl (by show 2 * 0 + _ ≤ _; exact Nat.le_of_eq rfl) (hb hby at_246) (fun _ _ => ⟨rfl, eh1815, (by decide : 4 + 0 ≤ _), (by decide : 15 + 0 ≤ _)⟩)
  dsimp only [Pt.U, Pt.locs, Pt.cells, Pt.slots] at X1846 l1846 y1846 z1846 st1846 hQ1846
  subst l1846 y1846 z1846
  replace X1846 := own_cs X1846 (c' := 4) (s' := 15) (by decide) (by decide)
  obtain ⟨rfl, N1847, eh1848⟩ := hQ1846
  have N1849 := Fr.app Nx1817 N1847
  refine Go.of st1846 ?_
  obtain ⟨Lx1850, Xx1850, Nx1850⟩ := own_locs X1846 N1849
  show Go p e below Qo T1846 (mkF m 249 #[sJ j1, zS, sJ j2, zS, sJ j3, zS, sJ j4, zS, sJ j5, zS, sI i1, sI v4_2, sI v18_5, sI v32_8, sJ p3, zS, sR b10, sR b915, sR b1384, sR b1652, sI (1 : Int32), sI (1 : Int32), sR (if (p3 < (if (j5 < j4 ∨ (j5 = j4 ∧ j2 < j1)) then j5 else j4) ∨ (p3 = (if (j5 < j4 ∨ (j5 = j4 ∧ j2 < j1)) then j5 else j4) ∧ j3 < (if (j5 < j4 ∨ (j5 = j4 ∧ j2 < j1)) then j2 else j1))) then b1384 else (if (j5 < j4 ∨ (j5 = j4 ∧ j2 < j1)) then b915 else b10)), zU, zU, zU] [(.int (F10 j4 j1 p3 j3))])
  suffices J249_1853 : ∀ (v249_1852 : Int32), v249_1852 = (if (F10 j4 j1 p3 j3) = (0 : Int32) then (0 : Int32) else (1 : Int32)) → Go p e below Qo T1846 (mkF m 257 #[sJ j1, zS, sJ j2, zS, sJ j3, zS, sJ j4, zS, sJ j5, zS, sI i1, sI v4_2, sI v18_5, sI v32_8, sJ p3, zS, sR b10, sR b915, sR b1384, sR b1652, sI (1 : Int32), sI (1 : Int32), sR (if (p3 < (if (j5 < j4 ∨ (j5 = j4 ∧ j2 < j1)) then j5 else j4) ∨ (p3 = (if (j5 < j4 ∨ (j5 = j4 ∧ j2 < j1)) then j5 else j4) ∧ j3 < (if (j5 < j4 ∨ (j5 = j4 ∧ j2 < j1)) then j2 else j1))) then b1384 else (if (j5 < j4 ∨ (j5 = j4 ∧ j2 < j1)) then b915 else b10)), zU, zU, zU] [(.int v249_1852)]) by
    by_cases hc249_1887 : (F10 j4 j1 p3 j3) = (0 : Int32)
    · refine Go.of (fun t k => XS.ifYes Xx1850.here hx rfl (pc0 := 249) (pc' := 256) rfl (hb hby at_249) rfl ((if0 _ _).trans (teq hc249_1887).1) (by decide) (by decide) k) ?_
      refine Go.of (fun t k => XS.iconst Xx1850.here hx rfl (hb hby at_256) k) ?_
      show Go p e below Qo T1846 (mkF m 257 #[sJ j1, zS, sJ j2, zS, sJ j3, zS, sJ j4, zS, sJ j5, zS, sI i1, sI v4_2, sI v18_5, sI v32_8, sJ p3, zS, sR b10, sR b915, sR b1384, sR b1652, sI (1 : Int32), sI (1 : Int32), sR (if (p3 < (if (j5 < j4 ∨ (j5 = j4 ∧ j2 < j1)) then j5 else j4) ∨ (p3 = (if (j5 < j4 ∨ (j5 = j4 ∧ j2 < j1)) then j5 else j4) ∧ j3 < (if (j5 < j4 ∨ (j5 = j4 ∧ j2 < j1)) then j2 else j1))) then b1384 else (if (j5 < j4 ∨ (j5 = j4 ∧ j2 < j1)) then b915 else b10)), zU, zU, zU] [(.int (0 : Int32))])
      exact J249_1853 _ (by first | rfl | (rw [if_pos hc249_1887]) | (simp only [hc249_1887, if_true, if_false]; done) | simp [hc249_1887])
    refine Go.of (fun t k => XS.ifNo Xx1850.here hx rfl (hb hby at_249) rfl ((if0 _ _).trans (feq hc249_1887).1) k) ?_
    refine Go.of (fun t k => XS.iconst Xx1850.here hx rfl (hb hby at_252) k) ?_
    refine Go.of (fun t k => XS.goto Xx1850.here hx rfl (pc0 := 253) (pc' := 257) rfl (hb hby at_253) (by decide) (by decide) k) ?_
    show Go p e below Qo T1846 (mkF m 257 #[sJ j1, zS, sJ j2, zS, sJ j3, zS, sJ j4, zS, sJ j5, zS, sI i1, sI v4_2, sI v18_5, sI v32_8, sJ p3, zS, sR b10, sR b915, sR b1384, sR b1652, sI (1 : Int32), sI (1 : Int32), sR (if (p3 < (if (j5 < j4 ∨ (j5 = j4 ∧ j2 < j1)) then j5 else j4) ∨ (p3 = (if (j5 < j4 ∨ (j5 = j4 ∧ j2 < j1)) then j5 else j4) ∧ j3 < (if (j5 < j4 ∨ (j5 = j4 ∧ j2 < j1)) then j2 else j1))) then b1384 else (if (j5 < j4 ∨ (j5 = j4 ∧ j2 < j1)) then b915 else b10)), zU, zU, zU] [(.int (1 : Int32))])
    show Go p e below Qo T1846 (mkF m 257 #[sJ j1, zS, sJ j2, zS, sJ j3, zS, sJ j4, zS, sJ j5, zS, sI i1, sI v4_2, sI v18_5, sI v32_8, sJ p3, zS, sR b10, sR b915, sR b1384, sR b1652, sI (1 : Int32), sI (1 : Int32), sR (if (p3 < (if (j5 < j4 ∨ (j5 = j4 ∧ j2 < j1)) then j5 else j4) ∨ (p3 = (if (j5 < j4 ∨ (j5 = j4 ∧ j2 < j1)) then j5 else j4) ∧ j3 < (if (j5 < j4 ∨ (j5 = j4 ∧ j2 < j1)) then j2 else j1))) then b1384 else (if (j5 < j4 ∨ (j5 = j4 ∧ j2 < j1)) then b915 else b10)), zU, zU, zU] [(.int (1 : Int32))])
    exact J249_1853 _ (by first | rfl | (rw [if_neg hc249_1887]) | (simp only [hc249_1887, if_true, if_false]; done) | simp [hc249_1887])
  intro v249_1852 hv249_1852
  show Go p e below Qo T1846 (mkF m 257 #[sJ j1, zS, sJ j2, zS, sJ j3, zS, sJ j4, zS, sJ j5, zS, sI i1, sI v4_2, sI v18_5, sI v32_8, sJ p3, zS, sR b10, sR b915, sR b1384, sR b1652, sI (1 : Int32), sI (1 : Int32), sR (if (p3 < (if (j5 < j4 ∨ (j5 = j4 ∧ j2 < j1)) then j5 else j4) ∨ (p3 = (if (j5 < j4 ∨ (j5 = j4 ∧ j2 < j1)) then j5 else j4) ∧ j3 < (if (j5 < j4 ∨ (j5 = j4 ∧ j2 < j1)) then j2 else j1))) then b1384 else (if (j5 < j4 ∨ (j5 = j4 ∧ j2 < j1)) then b915 else b10)), zU, zU, zU] [(.int v249_1852)])
  refine Go.of (fun t k => XS.istore Xx1850.here hx rfl (hb hby at_257) rfl (l' := #[sJ j1, zS, sJ j2, zS, sJ j3, zS, sJ j4, zS, sJ j5, zS, sI i1, sI v4_2, sI v18_5, sI v32_8, sJ p3, zS, sR b10, sR b915, sR b1384, sR b1652, sI (1 : Int32), sI (1 : Int32), sR (if (p3 < (if (j5 < j4 ∨ (j5 = j4 ∧ j2 < j1)) then j5 else j4) ∨ (p3 = (if (j5 < j4 ∨ (j5 = j4 ∧ j2 < j1)) then j5 else j4) ∧ j3 < (if (j5 < j4 ∨ (j5 = j4 ∧ j2 < j1)) then j2 else j1))) then b1384 else (if (j5 < j4 ∨ (j5 = j4 ∧ j2 < j1)) then b915 else b10)), zU, sI v249_1852, zU]) rfl k) ?_
  refine Go.of (fun t k => XS.iload Xx1850.here hx rfl (hb hby at_259) rfl  k) ?_
  refine Go.of (fun t k => XS.ifNo Xx1850.here hx rfl (hb hby at_261) rfl ((if0 _ _).trans (feq hc78_929).1) k) ?_
  refine Go.of (fun t k => XS.iload Xx1850.here hx rfl (hb hby at_264) rfl  k) ?_
  show Go p e below Qo T1846 (mkF m 266 #[sJ j1, zS, sJ j2, zS, sJ j3, zS, sJ j4, zS, sJ j5, zS, sI i1, sI v4_2, sI v18_5, sI v32_8, sJ p3, zS, sR b10, sR b915, sR b1384, sR b1652, sI (1 : Int32), sI (1 : Int32), sR (if (p3 < (if (j5 < j4 ∨ (j5 = j4 ∧ j2 < j1)) then j5 else j4) ∨ (p3 = (if (j5 < j4 ∨ (j5 = j4 ∧ j2 < j1)) then j5 else j4) ∧ j3 < (if (j5 < j4 ∨ (j5 = j4 ∧ j2 < j1)) then j2 else j1))) then b1384 else (if (j5 < j4 ∨ (j5 = j4 ∧ j2 < j1)) then b915 else b10)), zU, sI v249_1852, zU] [(.int v4_2)])
  refine Go.of (fun t k => XS.ifNo Xx1850.here hx rfl (hb hby at_266) rfl ((if0 _ _).trans (feq hc55_18).1) k) ?_
  refine Go.of (fun t k => XS.lload Xx1850.here hx rfl (hb hby at_269) rfl  k) ?_
  refine Go.of (fun t k => XS.lloadN Xx1850.here hx rfl (hb hby at_271) rfl  k) ?_
  refine Go.of (fun t k => XS.lload Xx1850.here hx rfl (hb hby at_272) rfl  k) ?_
  refine Go.of (fun t k => XS.lloadN Xx1850.here hx rfl (hb hby at_274) rfl  k) ?_
  obtain ⟨_, _, ⟨T1854, L1854, k1854, n1854⟩, -, X1854, ⟨Lc1854, hQ1854, l1854, y1854, z1854⟩, st1854⟩ := Jvm.LawKit.callS Xx1850 hx (y := (⟨kL, "le", "(JJJJ)Z"⟩ : MethodName)) hown (mvT hZ (wk hw 67 rfl)) (mvT hZ (wk hw 68 rfl)) (mvT hZ (wk hw 69 rfl)) (mvT hZ (wk hw 70 rfl)) (by decide) (backOf (W := 0) (rm10 l Z a0 hw [] j5 j2 j4 j1 T1772.heap n0 Z1805 ) hZ (wk hw 70 rfl) (wk hw 69 rfl) (by decide) (by decide)) (g := (mkF m 275 #[sJ j1, zS, sJ j2, zS, sJ j3, zS, sJ j4, zS, sJ j5, zS, sI i1, sI v4_2, sI v18_5, sI v32_8, sJ p3, zS, sR b10, sR b915, sR b1384, sR b1652, sI (1 : Int32), sI (1 : Int32), sR (if (p3 < (if (j5 < j4 ∨ (j5 = j4 ∧ j2 < j1)) then j5 else j4) ∨ (p3 = (if (j5 < j4 ∨ (j5 = j4 ∧ j2 < j1)) then j5 else j4) ∧ j3 < (if (j5 < j4 ∨ (j5 = j4 ∧ j2 < j1)) then j2 else j1))) then b1384 else (if (j5 < j4 ∨ (j5 = j4 ∧ j2 < j1)) then b915 else b10)), zU, sI v249_1852, zU] [(.long j1), (.long j4), (.long j2), (.long j5)])) rfl (by rw [hml]; rfl) (argsL := [(.long j5), (.long j2), (.long j4), (.long j1)]) (rest := []) (lenOf pd_7 rfl) rfl (by show 2 * 0 + _ ≤ _; exact Nat.le_of_eq rfl) (hb hby at_275) (fun _ _ => ⟨rfl, eh1848, (by decide : 4 + 0 ≤ _), (by decide : 15 + 0 ≤ _)⟩)
  dsimp only [Pt.U, Pt.locs, Pt.cells, Pt.slots] at X1854 l1854 y1854 z1854 st1854 hQ1854
  subst l1854 y1854 z1854
  replace X1854 := own_cs X1854 (c' := 4) (s' := 15) (by decide) (by decide)
  obtain ⟨rfl, N1855, eh1856⟩ := hQ1854
  have N1857 := Fr.app Nx1850 N1855
  refine Go.of st1854 ?_
  obtain ⟨Lx1858, Xx1858, Nx1858⟩ := own_locs X1854 N1857
  show Go p e below Qo T1854 (mkF m 278 #[sJ j1, zS, sJ j2, zS, sJ j3, zS, sJ j4, zS, sJ j5, zS, sI i1, sI v4_2, sI v18_5, sI v32_8, sJ p3, zS, sR b10, sR b915, sR b1384, sR b1652, sI (1 : Int32), sI (1 : Int32), sR (if (p3 < (if (j5 < j4 ∨ (j5 = j4 ∧ j2 < j1)) then j5 else j4) ∨ (p3 = (if (j5 < j4 ∨ (j5 = j4 ∧ j2 < j1)) then j5 else j4) ∧ j3 < (if (j5 < j4 ∨ (j5 = j4 ∧ j2 < j1)) then j2 else j1))) then b1384 else (if (j5 < j4 ∨ (j5 = j4 ∧ j2 < j1)) then b915 else b10)), zU, sI v249_1852, zU] [(.int (F10 j5 j2 j4 j1))])
  by_cases hc278_1859 : (F10 j5 j2 j4 j1) = (0 : Int32)
  · refine Go.of (fun t k => XS.ifYes Xx1858.here hx rfl (pc0 := 278) (pc' := 303) rfl (hb hby at_278) rfl ((if0 _ _).trans (teq hc278_1859).1) (by decide) (by decide) k) ?_
    refine Go.of (fun t k => XS.iconst Xx1858.here hx rfl (hb hby at_303) k) ?_
    show Go p e below Qo T1854 (mkF m 304 #[sJ j1, zS, sJ j2, zS, sJ j3, zS, sJ j4, zS, sJ j5, zS, sI i1, sI v4_2, sI v18_5, sI v32_8, sJ p3, zS, sR b10, sR b915, sR b1384, sR b1652, sI (1 : Int32), sI (1 : Int32), sR (if (p3 < (if (j5 < j4 ∨ (j5 = j4 ∧ j2 < j1)) then j5 else j4) ∨ (p3 = (if (j5 < j4 ∨ (j5 = j4 ∧ j2 < j1)) then j5 else j4) ∧ j3 < (if (j5 < j4 ∨ (j5 = j4 ∧ j2 < j1)) then j2 else j1))) then b1384 else (if (j5 < j4 ∨ (j5 = j4 ∧ j2 < j1)) then b915 else b10)), zU, sI v249_1852, zU] [(.int (0 : Int32))])
    refine Go.of (fun t k => XS.istore Xx1858.here hx rfl (hb hby at_304) rfl (l' := #[sJ j1, zS, sJ j2, zS, sJ j3, zS, sJ j4, zS, sJ j5, zS, sI i1, sI v4_2, sI v18_5, sI v32_8, sJ p3, zS, sR b10, sR b915, sR b1384, sR b1652, sI (1 : Int32), sI (1 : Int32), sR (if (p3 < (if (j5 < j4 ∨ (j5 = j4 ∧ j2 < j1)) then j5 else j4) ∨ (p3 = (if (j5 < j4 ∨ (j5 = j4 ∧ j2 < j1)) then j5 else j4) ∧ j3 < (if (j5 < j4 ∨ (j5 = j4 ∧ j2 < j1)) then j2 else j1))) then b1384 else (if (j5 < j4 ∨ (j5 = j4 ∧ j2 < j1)) then b915 else b10)), zU, sI v249_1852, sI (0 : Int32)]) rfl k) ?_
    refine Go.of (fun t k => XS.iload Xx1858.here hx rfl (hb hby at_306) rfl  k) ?_
    suffices J308_1862 : ∀ (v308_1861 : Addr), v308_1861 = (if v249_1852 = (0 : Int32) then b1384 else b10) → Go p e below Qo T1854 (mkF m 328 #[sJ j1, zS, sJ j2, zS, sJ j3, zS, sJ j4, zS, sJ j5, zS, sI i1, sI v4_2, sI v18_5, sI v32_8, sJ p3, zS, sR b10, sR b915, sR b1384, sR b1652, sI (1 : Int32), sI (1 : Int32), sR (if (p3 < (if (j5 < j4 ∨ (j5 = j4 ∧ j2 < j1)) then j5 else j4) ∨ (p3 = (if (j5 < j4 ∨ (j5 = j4 ∧ j2 < j1)) then j5 else j4) ∧ j3 < (if (j5 < j4 ∨ (j5 = j4 ∧ j2 < j1)) then j2 else j1))) then b1384 else (if (j5 < j4 ∨ (j5 = j4 ∧ j2 < j1)) then b915 else b10)), zU, sI v249_1852, sI (0 : Int32)] [(.ref v308_1861)]) by
      by_cases hc308_1867 : v249_1852 = (0 : Int32)
      · refine Go.of (fun t k => XS.ifYes Xx1858.here hx rfl (pc0 := 308) (pc' := 316) rfl (hb hby at_308) rfl ((if0 _ _).trans (teq hc308_1867).1) (by decide) (by decide) k) ?_
        refine Go.of (fun t k => XS.iload Xx1858.here hx rfl (hb hby at_316) rfl  k) ?_
        refine Go.of (fun t k => XS.ifYes Xx1858.here hx rfl (pc0 := 318) (pc' := 326) rfl (hb hby at_318) rfl ((if0 _ _).trans (teq (by decide : (0 : Int32) = (0 : Int32))).1) (by decide) (by decide) k) ?_
        refine Go.of (fun t k => XS.aload Xx1858.here hx rfl (hb hby at_326) rfl rfl k) ?_
        show Go p e below Qo T1854 (mkF m 328 #[sJ j1, zS, sJ j2, zS, sJ j3, zS, sJ j4, zS, sJ j5, zS, sI i1, sI v4_2, sI v18_5, sI v32_8, sJ p3, zS, sR b10, sR b915, sR b1384, sR b1652, sI (1 : Int32), sI (1 : Int32), sR (if (p3 < (if (j5 < j4 ∨ (j5 = j4 ∧ j2 < j1)) then j5 else j4) ∨ (p3 = (if (j5 < j4 ∨ (j5 = j4 ∧ j2 < j1)) then j5 else j4) ∧ j3 < (if (j5 < j4 ∨ (j5 = j4 ∧ j2 < j1)) then j2 else j1))) then b1384 else (if (j5 < j4 ∨ (j5 = j4 ∧ j2 < j1)) then b915 else b10)), zU, sI v249_1852, sI (0 : Int32)] [(.ref b1384)])
        exact J308_1862 _ (by first | rfl | (rw [if_pos hc308_1867]) | (simp only [hc308_1867, if_true, if_false]; done) | simp [hc308_1867])
      refine Go.of (fun t k => XS.ifNo Xx1858.here hx rfl (hb hby at_308) rfl ((if0 _ _).trans (feq hc308_1867).1) k) ?_
      show Go p e below Qo T1854 (mkF m 311 #[sJ j1, zS, sJ j2, zS, sJ j3, zS, sJ j4, zS, sJ j5, zS, sI i1, sI v4_2, sI v18_5, sI v32_8, sJ p3, zS, sR b10, sR b915, sR b1384, sR b1652, sI (1 : Int32), sI (1 : Int32), sR (if (p3 < (if (j5 < j4 ∨ (j5 = j4 ∧ j2 < j1)) then j5 else j4) ∨ (p3 = (if (j5 < j4 ∨ (j5 = j4 ∧ j2 < j1)) then j5 else j4) ∧ j3 < (if (j5 < j4 ∨ (j5 = j4 ∧ j2 < j1)) then j2 else j1))) then b1384 else (if (j5 < j4 ∨ (j5 = j4 ∧ j2 < j1)) then b915 else b10)), zU, sI v249_1852, sI (0 : Int32)] [])
      refine Go.of (fun t k => XS.aload Xx1858.here hx rfl (hb hby at_311) rfl rfl k) ?_
      refine Go.of (fun t k => XS.goto Xx1858.here hx rfl (pc0 := 313) (pc' := 328) rfl (hb hby at_313) (by decide) (by decide) k) ?_
      show Go p e below Qo T1854 (mkF m 328 #[sJ j1, zS, sJ j2, zS, sJ j3, zS, sJ j4, zS, sJ j5, zS, sI i1, sI v4_2, sI v18_5, sI v32_8, sJ p3, zS, sR b10, sR b915, sR b1384, sR b1652, sI (1 : Int32), sI (1 : Int32), sR (if (p3 < (if (j5 < j4 ∨ (j5 = j4 ∧ j2 < j1)) then j5 else j4) ∨ (p3 = (if (j5 < j4 ∨ (j5 = j4 ∧ j2 < j1)) then j5 else j4) ∧ j3 < (if (j5 < j4 ∨ (j5 = j4 ∧ j2 < j1)) then j2 else j1))) then b1384 else (if (j5 < j4 ∨ (j5 = j4 ∧ j2 < j1)) then b915 else b10)), zU, sI v249_1852, sI (0 : Int32)] [(.ref b10)])
      exact J308_1862 _ (by first | rfl | (rw [if_neg hc308_1867]) | (simp only [hc308_1867, if_true, if_false]; done) | simp [hc308_1867])
    intro v308_1861 hv308_1861
    show Go p e below Qo T1854 (mkF m 328 #[sJ j1, zS, sJ j2, zS, sJ j3, zS, sJ j4, zS, sJ j5, zS, sI i1, sI v4_2, sI v18_5, sI v32_8, sJ p3, zS, sR b10, sR b915, sR b1384, sR b1652, sI (1 : Int32), sI (1 : Int32), sR (if (p3 < (if (j5 < j4 ∨ (j5 = j4 ∧ j2 < j1)) then j5 else j4) ∨ (p3 = (if (j5 < j4 ∨ (j5 = j4 ∧ j2 < j1)) then j5 else j4) ∧ j3 < (if (j5 < j4 ∨ (j5 = j4 ∧ j2 < j1)) then j2 else j1))) then b1384 else (if (j5 < j4 ∨ (j5 = j4 ∧ j2 < j1)) then b915 else b10)), zU, sI v249_1852, sI (0 : Int32)] [(.ref v308_1861)])
    refine Go.of (fun t k => XS.astore Xx1858.here hx rfl (hb hby at_328) rfl rfl (l' := #[sJ j1, zS, sJ j2, zS, sJ j3, zS, sJ j4, zS, sJ j5, zS, sI i1, sI v4_2, sI v18_5, sI v32_8, sJ p3, zS, sR b10, sR b915, sR b1384, sR b1652, sI (1 : Int32), sI (1 : Int32), sR (if (p3 < (if (j5 < j4 ∨ (j5 = j4 ∧ j2 < j1)) then j5 else j4) ∨ (p3 = (if (j5 < j4 ∨ (j5 = j4 ∧ j2 < j1)) then j5 else j4) ∧ j3 < (if (j5 < j4 ∨ (j5 = j4 ∧ j2 < j1)) then j2 else j1))) then b1384 else (if (j5 < j4 ∨ (j5 = j4 ∧ j2 < j1)) then b915 else b10)), sR v308_1861, sI v249_1852, sI (0 : Int32)]) rfl k) ?_
    refine Go.of (fun t k => XS.goto Xx1858.here hx rfl (pc0 := 330) (pc' := 397) rfl (hb hby at_330) (by decide) (by decide) k) ?_
    refine Go.of (fun t k => XS.iload Xx1858.here hx rfl (hb hby at_397) rfl  k) ?_
    refine Go.of (fun t k => XS.ifNo Xx1858.here hx rfl (hb hby at_399) rfl ((if0 _ _).trans (feq (by decide : ¬ ((1 : Int32) = (0 : Int32)))).1) k) ?_
    refine Go.of (fun t k => XS.iload Xx1858.here hx rfl (hb hby at_402) rfl  k) ?_
    refine Go.of (fun t k => XS.ifNo Xx1858.here hx rfl (hb hby at_404) rfl ((if0 _ _).trans (feq (by decide : ¬ ((1 : Int32) = (0 : Int32)))).1) k) ?_
    refine Go.of (fun t k => XS.aload Xx1858.here hx rfl (hb hby at_407) rfl rfl k) ?_
    show Go p e below Qo T1854 (mkF m 409 #[sJ j1, zS, sJ j2, zS, sJ j3, zS, sJ j4, zS, sJ j5, zS, sI i1, sI v4_2, sI v18_5, sI v32_8, sJ p3, zS, sR b10, sR b915, sR b1384, sR b1652, sI (1 : Int32), sI (1 : Int32), sR (if (p3 < (if (j5 < j4 ∨ (j5 = j4 ∧ j2 < j1)) then j5 else j4) ∨ (p3 = (if (j5 < j4 ∨ (j5 = j4 ∧ j2 < j1)) then j5 else j4) ∧ j3 < (if (j5 < j4 ∨ (j5 = j4 ∧ j2 < j1)) then j2 else j1))) then b1384 else (if (j5 < j4 ∨ (j5 = j4 ∧ j2 < j1)) then b915 else b10)), sR v308_1861, sI v249_1852, sI (0 : Int32)] [(.ref (if (p3 < (if (j5 < j4 ∨ (j5 = j4 ∧ j2 < j1)) then j5 else j4) ∨ (p3 = (if (j5 < j4 ∨ (j5 = j4 ∧ j2 < j1)) then j5 else j4) ∧ j3 < (if (j5 < j4 ∨ (j5 = j4 ∧ j2 < j1)) then j2 else j1))) then b1384 else (if (j5 < j4 ∨ (j5 = j4 ∧ j2 < j1)) then b915 else b10)))])
    refine Go.of (fun t k => XS.aload Xx1858.here hx rfl (hb hby at_409) rfl rfl k) ?_
    suffices J411_1865 : ∀ (v411_1864 : Int32), v411_1864 = (if (if (p3 < (if (j5 < j4 ∨ (j5 = j4 ∧ j2 < j1)) then j5 else j4) ∨ (p3 = (if (j5 < j4 ∨ (j5 = j4 ∧ j2 < j1)) then j5 else j4) ∧ j3 < (if (j5 < j4 ∨ (j5 = j4 ∧ j2 < j1)) then j2 else j1))) then b1384 else (if (j5 < j4 ∨ (j5 = j4 ∧ j2 < j1)) then b915 else b10)) = v308_1861 then (1 : Int32) else (0 : Int32)) → Go p e below Qo T1854 (mkF m 419 #[sJ j1, zS, sJ j2, zS, sJ j3, zS, sJ j4, zS, sJ j5, zS, sI i1, sI v4_2, sI v18_5, sI v32_8, sJ p3, zS, sR b10, sR b915, sR b1384, sR b1652, sI (1 : Int32), sI (1 : Int32), sR (if (p3 < (if (j5 < j4 ∨ (j5 = j4 ∧ j2 < j1)) then j5 else j4) ∨ (p3 = (if (j5 < j4 ∨ (j5 = j4 ∧ j2 < j1)) then j5 else j4) ∧ j3 < (if (j5 < j4 ∨ (j5 = j4 ∧ j2 < j1)) then j2 else j1))) then b1384 else (if (j5 < j4 ∨ (j5 = j4 ∧ j2 < j1)) then b915 else b10)), sR v308_1861, sI v249_1852, sI (0 : Int32)] [(.int v411_1864)]) by
      by_cases hc411_1866 : (if (p3 < (if (j5 < j4 ∨ (j5 = j4 ∧ j2 < j1)) then j5 else j4) ∨ (p3 = (if (j5 < j4 ∨ (j5 = j4 ∧ j2 < j1)) then j5 else j4) ∧ j3 < (if (j5 < j4 ∨ (j5 = j4 ∧ j2 < j1)) then j2 else j1))) then b1384 else (if (j5 < j4 ∨ (j5 = j4 ∧ j2 < j1)) then b915 else b10)) = v308_1861
      · refine Go.of (fun t k => Jvm.RoadKit.acmp (g := (mkF m 411 #[sJ j1, zS, sJ j2, zS, sJ j3, zS, sJ j4, zS, sJ j5, zS, sI i1, sI v4_2, sI v18_5, sI v32_8, sJ p3, zS, sR b10, sR b915, sR b1384, sR b1652, sI (1 : Int32), sI (1 : Int32), sR (if (p3 < (if (j5 < j4 ∨ (j5 = j4 ∧ j2 < j1)) then j5 else j4) ∨ (p3 = (if (j5 < j4 ∨ (j5 = j4 ∧ j2 < j1)) then j5 else j4) ∧ j3 < (if (j5 < j4 ∨ (j5 = j4 ∧ j2 < j1)) then j2 else j1))) then b1384 else (if (j5 < j4 ∨ (j5 = j4 ∧ j2 < j1)) then b915 else b10)), sR v308_1861, sI v249_1852, sI (0 : Int32)] [(.ref v308_1861), (.ref (if (p3 < (if (j5 < j4 ∨ (j5 = j4 ∧ j2 < j1)) then j5 else j4) ∨ (p3 = (if (j5 < j4 ∨ (j5 = j4 ∧ j2 < j1)) then j5 else j4) ∧ j3 < (if (j5 < j4 ∨ (j5 = j4 ∧ j2 < j1)) then j2 else j1))) then b1384 else (if (j5 < j4 ∨ (j5 = j4 ∧ j2 < j1)) then b915 else b10)))])) Xx1858 hx rfl rfl rfl (pc0 := 411) (pc' := 414) (same := true) rfl (hb hby at_411) rfl (decide_eq_true (congrArg Value.ref hc411_1866)) (by decide) (by decide) k) ?_
        refine Go.of (fun t k => XS.iconst Xx1858.here hx rfl (hb hby at_414) k) ?_
        show Go p e below Qo T1854 (mkF m 415 #[sJ j1, zS, sJ j2, zS, sJ j3, zS, sJ j4, zS, sJ j5, zS, sI i1, sI v4_2, sI v18_5, sI v32_8, sJ p3, zS, sR b10, sR b915, sR b1384, sR b1652, sI (1 : Int32), sI (1 : Int32), sR (if (p3 < (if (j5 < j4 ∨ (j5 = j4 ∧ j2 < j1)) then j5 else j4) ∨ (p3 = (if (j5 < j4 ∨ (j5 = j4 ∧ j2 < j1)) then j5 else j4) ∧ j3 < (if (j5 < j4 ∨ (j5 = j4 ∧ j2 < j1)) then j2 else j1))) then b1384 else (if (j5 < j4 ∨ (j5 = j4 ∧ j2 < j1)) then b915 else b10)), sR v308_1861, sI v249_1852, sI (0 : Int32)] [(.int (1 : Int32))])
        refine Go.of (fun t k => XS.goto Xx1858.here hx rfl (pc0 := 415) (pc' := 419) rfl (hb hby at_415) (by decide) (by decide) k) ?_
        show Go p e below Qo T1854 (mkF m 419 #[sJ j1, zS, sJ j2, zS, sJ j3, zS, sJ j4, zS, sJ j5, zS, sI i1, sI v4_2, sI v18_5, sI v32_8, sJ p3, zS, sR b10, sR b915, sR b1384, sR b1652, sI (1 : Int32), sI (1 : Int32), sR (if (p3 < (if (j5 < j4 ∨ (j5 = j4 ∧ j2 < j1)) then j5 else j4) ∨ (p3 = (if (j5 < j4 ∨ (j5 = j4 ∧ j2 < j1)) then j5 else j4) ∧ j3 < (if (j5 < j4 ∨ (j5 = j4 ∧ j2 < j1)) then j2 else j1))) then b1384 else (if (j5 < j4 ∨ (j5 = j4 ∧ j2 < j1)) then b915 else b10)), sR v308_1861, sI v249_1852, sI (0 : Int32)] [(.int (1 : Int32))])
        exact J411_1865 _ (by first | rfl | (rw [if_pos hc411_1866]) | (simp only [hc411_1866, if_true, if_false]; done) | simp [hc411_1866])
      refine Go.of (fun t k => Jvm.RoadKit.acmp (g := (mkF m 411 #[sJ j1, zS, sJ j2, zS, sJ j3, zS, sJ j4, zS, sJ j5, zS, sI i1, sI v4_2, sI v18_5, sI v32_8, sJ p3, zS, sR b10, sR b915, sR b1384, sR b1652, sI (1 : Int32), sI (1 : Int32), sR (if (p3 < (if (j5 < j4 ∨ (j5 = j4 ∧ j2 < j1)) then j5 else j4) ∨ (p3 = (if (j5 < j4 ∨ (j5 = j4 ∧ j2 < j1)) then j5 else j4) ∧ j3 < (if (j5 < j4 ∨ (j5 = j4 ∧ j2 < j1)) then j2 else j1))) then b1384 else (if (j5 < j4 ∨ (j5 = j4 ∧ j2 < j1)) then b915 else b10)), sR v308_1861, sI v249_1852, sI (0 : Int32)] [(.ref v308_1861), (.ref (if (p3 < (if (j5 < j4 ∨ (j5 = j4 ∧ j2 < j1)) then j5 else j4) ∨ (p3 = (if (j5 < j4 ∨ (j5 = j4 ∧ j2 < j1)) then j5 else j4) ∧ j3 < (if (j5 < j4 ∨ (j5 = j4 ∧ j2 < j1)) then j2 else j1))) then b1384 else (if (j5 < j4 ∨ (j5 = j4 ∧ j2 < j1)) then b915 else b10)))])) Xx1858 hx rfl rfl rfl (pc0 := 411) (pc' := 418) (same := false) rfl (hb hby at_411) rfl (decide_eq_false fun q => hc411_1866 (Value.ref.inj q)) (by decide) (by decide) k) ?_
      refine Go.of (fun t k => XS.iconst Xx1858.here hx rfl (hb hby at_418) k) ?_
      show Go p e below Qo T1854 (mkF m 419 #[sJ j1, zS, sJ j2, zS, sJ j3, zS, sJ j4, zS, sJ j5, zS, sI i1, sI v4_2, sI v18_5, sI v32_8, sJ p3, zS, sR b10, sR b915, sR b1384, sR b1652, sI (1 : Int32), sI (1 : Int32), sR (if (p3 < (if (j5 < j4 ∨ (j5 = j4 ∧ j2 < j1)) then j5 else j4) ∨ (p3 = (if (j5 < j4 ∨ (j5 = j4 ∧ j2 < j1)) then j5 else j4) ∧ j3 < (if (j5 < j4 ∨ (j5 = j4 ∧ j2 < j1)) then j2 else j1))) then b1384 else (if (j5 < j4 ∨ (j5 = j4 ∧ j2 < j1)) then b915 else b10)), sR v308_1861, sI v249_1852, sI (0 : Int32)] [(.int (0 : Int32))])
      exact J411_1865 _ (by first | rfl | (rw [if_neg hc411_1866]) | (simp only [hc411_1866, if_true, if_false]; done) | simp [hc411_1866])
    intro v411_1864 hv411_1864
    show Go p e below Qo T1854 (mkF m 419 #[sJ j1, zS, sJ j2, zS, sJ j3, zS, sJ j4, zS, sJ j5, zS, sI i1, sI v4_2, sI v18_5, sI v32_8, sJ p3, zS, sR b10, sR b915, sR b1384, sR b1652, sI (1 : Int32), sI (1 : Int32), sR (if (p3 < (if (j5 < j4 ∨ (j5 = j4 ∧ j2 < j1)) then j5 else j4) ∨ (p3 = (if (j5 < j4 ∨ (j5 = j4 ∧ j2 < j1)) then j5 else j4) ∧ j3 < (if (j5 < j4 ∨ (j5 = j4 ∧ j2 < j1)) then j2 else j1))) then b1384 else (if (j5 < j4 ∨ (j5 = j4 ∧ j2 < j1)) then b915 else b10)), sR v308_1861, sI v249_1852, sI (0 : Int32)] [(.int v411_1864)])
    have hfin : v411_1864 = 1 := by
      refine hv411_1864.trans (if_pos ?_)
      have T := own_three j4 j5 p3 j1 j2 j3 b10 b915 b1384
      subst hv249_1852 hv308_1861
      by_cases c0 : (F10 j4 j1 p3 j3) = (0 : Int32)
      all_goals (try simp only [c0, if_true, if_false, own_00, own_10])
      all_goals first | rfl | (exact T.1 (by assumption) (by assumption)) | (exact T.2.1 (Or.inl (by assumption)) (by assumption) (by assumption)) | (exact T.2.1 (Or.inr (by assumption)) (by assumption) (by assumption)) | (exact T.2.2 (Or.inl (by assumption)) (Or.inl (by assumption))) | (exact T.2.2 (Or.inl (by assumption)) (Or.inr (by assumption))) | (exact T.2.2 (Or.inr (by assumption)) (Or.inl (by assumption))) | (exact T.2.2 (Or.inr (by assumption)) (Or.inr (by assumption)))
    exact own_retN Xx1858 hx Bd.notSynchronized (t := .boolean) Bd.returns (by simp) (hb hby at_419) (fun u hu hF => hQo _ _ _ ⟨by rw [hfin]; rfl, Nx1858⟩ (own_mono hF (by decide) (by decide)))
  refine Go.of (fun t k => XS.ifNo Xx1858.here hx rfl (hb hby at_278) rfl ((if0 _ _).trans (feq hc278_1859).1) k) ?_
  refine Go.of (fun t k => XS.iload Xx1858.here hx rfl (hb hby at_281) rfl  k) ?_
  refine Go.of (fun t k => XS.ifNo Xx1858.here hx rfl (hb hby at_283) rfl ((if0 _ _).trans (feq hc101_1404).1) k) ?_
  refine Go.of (fun t k => XS.lload Xx1858.here hx rfl (hb hby at_286) rfl  k) ?_
  refine Go.of (fun t k => XS.lloadN Xx1858.here hx rfl (hb hby at_288) rfl  k) ?_
  refine Go.of (fun t k => XS.lload Xx1858.here hx rfl (hb hby at_289) rfl  k) ?_
  show Go p e below Qo T1854 (mkF m 291 #[sJ j1, zS, sJ j2, zS, sJ j3, zS, sJ j4, zS, sJ j5, zS, sI i1, sI v4_2, sI v18_5, sI v32_8, sJ p3, zS, sR b10, sR b915, sR b1384, sR b1652, sI (1 : Int32), sI (1 : Int32), sR (if (p3 < (if (j5 < j4 ∨ (j5 = j4 ∧ j2 < j1)) then j5 else j4) ∨ (p3 = (if (j5 < j4 ∨ (j5 = j4 ∧ j2 < j1)) then j5 else j4) ∧ j3 < (if (j5 < j4 ∨ (j5 = j4 ∧ j2 < j1)) then j2 else j1))) then b1384 else (if (j5 < j4 ∨ (j5 = j4 ∧ j2 < j1)) then b915 else b10)), zU, sI v249_1852, zU] [(.long p3), (.long j2), (.long j5)])
  refine Go.of (fun t k => XS.lload Xx1858.here hx rfl (hb hby at_291) rfl  k) ?_
  obtain ⟨_, _, ⟨T1868, L1868, k1868, n1868⟩, -, X1868, ⟨Lc1868, hQ1868, l1868, y1868, z1868⟩, st1868⟩ := Jvm.LawKit.callS Xx1858 hx (y := (⟨kL, "le", "(JJJJ)Z"⟩ : MethodName)) hown (mvT hZ (wk hw 67 rfl)) (mvT hZ (wk hw 68 rfl)) (mvT hZ (wk hw 69 rfl)) (mvT hZ (wk hw 70 rfl)) (by decide) (backOf (W := 0) (rm10 l Z a0 hw [] j5 j2 p3 j3 T1772.heap n0 Z1805 ) hZ (wk hw 70 rfl) (wk hw 69 rfl) (by decide) (by decide)) (g := (mkF m 293 #[sJ j1, zS, sJ j2, zS, sJ j3, zS, sJ j4, zS, sJ j5, zS, sI i1, sI v4_2, sI v18_5, sI v32_8, sJ p3, zS, sR b10, sR b915, sR b1384, sR b1652, sI (1 : Int32), sI (1 : Int32), sR (if (p3 < (if (j5 < j4 ∨ (j5 = j4 ∧ j2 < j1)) then j5 else j4) ∨ (p3 = (if (j5 < j4 ∨ (j5 = j4 ∧ j2 < j1)) then j5 else j4) ∧ j3 < (if (j5 < j4 ∨ (j5 = j4 ∧ j2 < j1)) then j2 else j1))) then b1384 else (if (j5 < j4 ∨ (j5 = j4 ∧ j2 < j1)) then b915 else b10)), zU, sI v249_1852, zU] [(.long j3), (.long p3), (.long j2), (.long j5)])) rfl (by rw [hml]; rfl) (argsL := [(.long j5), (.long j2), (.long p3), (.long j3)]) (rest := []) (lenOf pd_7 rfl) rfl (by show 2 * 0 + _ ≤ _; exact Nat.le_of_eq rfl) (hb hby at_293) (fun _ _ => ⟨rfl, eh1856, (by decide : 4 + 0 ≤ _), (by decide : 15 + 0 ≤ _)⟩)
  dsimp only [Pt.U, Pt.locs, Pt.cells, Pt.slots] at X1868 l1868 y1868 z1868 st1868 hQ1868
  subst l1868 y1868 z1868
  replace X1868 := own_cs X1868 (c' := 4) (s' := 15) (by decide) (by decide)
  obtain ⟨rfl, N1869, eh1870⟩ := hQ1868
  have N1871 := Fr.app Nx1858 N1869
  refine Go.of st1868 ?_
  obtain ⟨Lx1872, Xx1872, Nx1872⟩ := own_locs X1868 N1871
  show Go p e below Qo T1868 (mkF m 296 #[sJ j1, zS, sJ j2, zS, sJ j3, zS, sJ j4, zS, sJ j5, zS, sI i1, sI v4_2, sI v18_5, sI v32_8, sJ p3, zS, sR b10, sR b915, sR b1384, sR b1652, sI (1 : Int32), sI (1 : Int32), sR (if (p3 < (if (j5 < j4 ∨ (j5 = j4 ∧ j2 < j1)) then j5 else j4) ∨ (p3 = (if (j5 < j4 ∨ (j5 = j4 ∧ j2 < j1)) then j5 else j4) ∧ j3 < (if (j5 < j4 ∨ (j5 = j4 ∧ j2 < j1)) then j2 else j1))) then b1384 else (if (j5 < j4 ∨ (j5 = j4 ∧ j2 < j1)) then b915 else b10)), zU, sI v249_1852, zU] [(.int (F10 j5 j2 p3 j3))])
  suffices J296_1875 : ∀ (v296_1874 : Int32), v296_1874 = (if (F10 j5 j2 p3 j3) = (0 : Int32) then (0 : Int32) else (1 : Int32)) → Go p e below Qo T1868 (mkF m 304 #[sJ j1, zS, sJ j2, zS, sJ j3, zS, sJ j4, zS, sJ j5, zS, sI i1, sI v4_2, sI v18_5, sI v32_8, sJ p3, zS, sR b10, sR b915, sR b1384, sR b1652, sI (1 : Int32), sI (1 : Int32), sR (if (p3 < (if (j5 < j4 ∨ (j5 = j4 ∧ j2 < j1)) then j5 else j4) ∨ (p3 = (if (j5 < j4 ∨ (j5 = j4 ∧ j2 < j1)) then j5 else j4) ∧ j3 < (if (j5 < j4 ∨ (j5 = j4 ∧ j2 < j1)) then j2 else j1))) then b1384 else (if (j5 < j4 ∨ (j5 = j4 ∧ j2 < j1)) then b915 else b10)), zU, sI v249_1852, zU] [(.int v296_1874)]) by
    by_cases hc296_1886 : (F10 j5 j2 p3 j3) = (0 : Int32)
    · refine Go.of (fun t k => XS.ifYes Xx1872.here hx rfl (pc0 := 296) (pc' := 303) rfl (hb hby at_296) rfl ((if0 _ _).trans (teq hc296_1886).1) (by decide) (by decide) k) ?_
      refine Go.of (fun t k => XS.iconst Xx1872.here hx rfl (hb hby at_303) k) ?_
      show Go p e below Qo T1868 (mkF m 304 #[sJ j1, zS, sJ j2, zS, sJ j3, zS, sJ j4, zS, sJ j5, zS, sI i1, sI v4_2, sI v18_5, sI v32_8, sJ p3, zS, sR b10, sR b915, sR b1384, sR b1652, sI (1 : Int32), sI (1 : Int32), sR (if (p3 < (if (j5 < j4 ∨ (j5 = j4 ∧ j2 < j1)) then j5 else j4) ∨ (p3 = (if (j5 < j4 ∨ (j5 = j4 ∧ j2 < j1)) then j5 else j4) ∧ j3 < (if (j5 < j4 ∨ (j5 = j4 ∧ j2 < j1)) then j2 else j1))) then b1384 else (if (j5 < j4 ∨ (j5 = j4 ∧ j2 < j1)) then b915 else b10)), zU, sI v249_1852, zU] [(.int (0 : Int32))])
      show Go p e below Qo T1868 (mkF m 304 #[sJ j1, zS, sJ j2, zS, sJ j3, zS, sJ j4, zS, sJ j5, zS, sI i1, sI v4_2, sI v18_5, sI v32_8, sJ p3, zS, sR b10, sR b915, sR b1384, sR b1652, sI (1 : Int32), sI (1 : Int32), sR (if (p3 < (if (j5 < j4 ∨ (j5 = j4 ∧ j2 < j1)) then j5 else j4) ∨ (p3 = (if (j5 < j4 ∨ (j5 = j4 ∧ j2 < j1)) then j5 else j4) ∧ j3 < (if (j5 < j4 ∨ (j5 = j4 ∧ j2 < j1)) then j2 else j1))) then b1384 else (if (j5 < j4 ∨ (j5 = j4 ∧ j2 < j1)) then b915 else b10)), zU, sI v249_1852, zU] [(.int (0 : Int32))])
      exact J296_1875 _ (by first | rfl | (rw [if_pos hc296_1886]) | (simp only [hc296_1886, if_true, if_false]; done) | simp [hc296_1886])
    refine Go.of (fun t k => XS.ifNo Xx1872.here hx rfl (hb hby at_296) rfl ((if0 _ _).trans (feq hc296_1886).1) k) ?_
    refine Go.of (fun t k => XS.iconst Xx1872.here hx rfl (hb hby at_299) k) ?_
    refine Go.of (fun t k => XS.goto Xx1872.here hx rfl (pc0 := 300) (pc' := 304) rfl (hb hby at_300) (by decide) (by decide) k) ?_
    show Go p e below Qo T1868 (mkF m 304 #[sJ j1, zS, sJ j2, zS, sJ j3, zS, sJ j4, zS, sJ j5, zS, sI i1, sI v4_2, sI v18_5, sI v32_8, sJ p3, zS, sR b10, sR b915, sR b1384, sR b1652, sI (1 : Int32), sI (1 : Int32), sR (if (p3 < (if (j5 < j4 ∨ (j5 = j4 ∧ j2 < j1)) then j5 else j4) ∨ (p3 = (if (j5 < j4 ∨ (j5 = j4 ∧ j2 < j1)) then j5 else j4) ∧ j3 < (if (j5 < j4 ∨ (j5 = j4 ∧ j2 < j1)) then j2 else j1))) then b1384 else (if (j5 < j4 ∨ (j5 = j4 ∧ j2 < j1)) then b915 else b10)), zU, sI v249_1852, zU] [(.int (1 : Int32))])
    exact J296_1875 _ (by first | rfl | (rw [if_neg hc296_1886]) | (simp only [hc296_1886, if_true, if_false]; done) | simp [hc296_1886])
  intro v296_1874 hv296_1874
  show Go p e below Qo T1868 (mkF m 304 #[sJ j1, zS, sJ j2, zS, sJ j3, zS, sJ j4, zS, sJ j5, zS, sI i1, sI v4_2, sI v18_5, sI v32_8, sJ p3, zS, sR b10, sR b915, sR b1384, sR b1652, sI (1 : Int32), sI (1 : Int32), sR (if (p3 < (if (j5 < j4 ∨ (j5 = j4 ∧ j2 < j1)) then j5 else j4) ∨ (p3 = (if (j5 < j4 ∨ (j5 = j4 ∧ j2 < j1)) then j5 else j4) ∧ j3 < (if (j5 < j4 ∨ (j5 = j4 ∧ j2 < j1)) then j2 else j1))) then b1384 else (if (j5 < j4 ∨ (j5 = j4 ∧ j2 < j1)) then b915 else b10)), zU, sI v249_1852, zU] [(.int v296_1874)])
  refine Go.of (fun t k => XS.istore Xx1872.here hx rfl (hb hby at_304) rfl (l' := #[sJ j1, zS, sJ j2, zS, sJ j3, zS, sJ j4, zS, sJ j5, zS, sI i1, sI v4_2, sI v18_5, sI v32_8, sJ p3, zS, sR b10, sR b915, sR b1384, sR b1652, sI (1 : Int32), sI (1 : Int32), sR (if (p3 < (if (j5 < j4 ∨ (j5 = j4 ∧ j2 < j1)) then j5 else j4) ∨ (p3 = (if (j5 < j4 ∨ (j5 = j4 ∧ j2 < j1)) then j5 else j4) ∧ j3 < (if (j5 < j4 ∨ (j5 = j4 ∧ j2 < j1)) then j2 else j1))) then b1384 else (if (j5 < j4 ∨ (j5 = j4 ∧ j2 < j1)) then b915 else b10)), zU, sI v249_1852, sI v296_1874]) rfl k) ?_
  refine Go.of (fun t k => XS.iload Xx1872.here hx rfl (hb hby at_306) rfl  k) ?_
  show Go p e below Qo T1868 (mkF m 308 #[sJ j1, zS, sJ j2, zS, sJ j3, zS, sJ j4, zS, sJ j5, zS, sI i1, sI v4_2, sI v18_5, sI v32_8, sJ p3, zS, sR b10, sR b915, sR b1384, sR b1652, sI (1 : Int32), sI (1 : Int32), sR (if (p3 < (if (j5 < j4 ∨ (j5 = j4 ∧ j2 < j1)) then j5 else j4) ∨ (p3 = (if (j5 < j4 ∨ (j5 = j4 ∧ j2 < j1)) then j5 else j4) ∧ j3 < (if (j5 < j4 ∨ (j5 = j4 ∧ j2 < j1)) then j2 else j1))) then b1384 else (if (j5 < j4 ∨ (j5 = j4 ∧ j2 < j1)) then b915 else b10)), zU, sI v249_1852, sI v296_1874] [(.int v249_1852)])
  suffices J308_1879 : ∀ (v308_1878 : Addr), v308_1878 = (if v249_1852 = (0 : Int32) then (if v296_1874 = (0 : Int32) then b1384 else b915) else b10) → Go p e below Qo T1868 (mkF m 328 #[sJ j1, zS, sJ j2, zS, sJ j3, zS, sJ j4, zS, sJ j5, zS, sI i1, sI v4_2, sI v18_5, sI v32_8, sJ p3, zS, sR b10, sR b915, sR b1384, sR b1652, sI (1 : Int32), sI (1 : Int32), sR (if (p3 < (if (j5 < j4 ∨ (j5 = j4 ∧ j2 < j1)) then j5 else j4) ∨ (p3 = (if (j5 < j4 ∨ (j5 = j4 ∧ j2 < j1)) then j5 else j4) ∧ j3 < (if (j5 < j4 ∨ (j5 = j4 ∧ j2 < j1)) then j2 else j1))) then b1384 else (if (j5 < j4 ∨ (j5 = j4 ∧ j2 < j1)) then b915 else b10)), zU, sI v249_1852, sI v296_1874] [(.ref v308_1878)]) by
    by_cases hc308_1884 : v249_1852 = (0 : Int32)
    · refine Go.of (fun t k => XS.ifYes Xx1872.here hx rfl (pc0 := 308) (pc' := 316) rfl (hb hby at_308) rfl ((if0 _ _).trans (teq hc308_1884).1) (by decide) (by decide) k) ?_
      refine Go.of (fun t k => XS.iload Xx1872.here hx rfl (hb hby at_316) rfl  k) ?_
      by_cases hc318_1885 : v296_1874 = (0 : Int32)
      · refine Go.of (fun t k => XS.ifYes Xx1872.here hx rfl (pc0 := 318) (pc' := 326) rfl (hb hby at_318) rfl ((if0 _ _).trans (teq hc318_1885).1) (by decide) (by decide) k) ?_
        refine Go.of (fun t k => XS.aload Xx1872.here hx rfl (hb hby at_326) rfl rfl k) ?_
        show Go p e below Qo T1868 (mkF m 328 #[sJ j1, zS, sJ j2, zS, sJ j3, zS, sJ j4, zS, sJ j5, zS, sI i1, sI v4_2, sI v18_5, sI v32_8, sJ p3, zS, sR b10, sR b915, sR b1384, sR b1652, sI (1 : Int32), sI (1 : Int32), sR (if (p3 < (if (j5 < j4 ∨ (j5 = j4 ∧ j2 < j1)) then j5 else j4) ∨ (p3 = (if (j5 < j4 ∨ (j5 = j4 ∧ j2 < j1)) then j5 else j4) ∧ j3 < (if (j5 < j4 ∨ (j5 = j4 ∧ j2 < j1)) then j2 else j1))) then b1384 else (if (j5 < j4 ∨ (j5 = j4 ∧ j2 < j1)) then b915 else b10)), zU, sI v249_1852, sI v296_1874] [(.ref b1384)])
        show Go p e below Qo T1868 (mkF m 328 #[sJ j1, zS, sJ j2, zS, sJ j3, zS, sJ j4, zS, sJ j5, zS, sI i1, sI v4_2, sI v18_5, sI v32_8, sJ p3, zS, sR b10, sR b915, sR b1384, sR b1652, sI (1 : Int32), sI (1 : Int32), sR (if (p3 < (if (j5 < j4 ∨ (j5 = j4 ∧ j2 < j1)) then j5 else j4) ∨ (p3 = (if (j5 < j4 ∨ (j5 = j4 ∧ j2 < j1)) then j5 else j4) ∧ j3 < (if (j5 < j4 ∨ (j5 = j4 ∧ j2 < j1)) then j2 else j1))) then b1384 else (if (j5 < j4 ∨ (j5 = j4 ∧ j2 < j1)) then b915 else b10)), zU, sI v249_1852, sI v296_1874] [(.ref b1384)])
        exact J308_1879 _ (by first | rfl | (rw [if_pos hc308_1884, if_pos hc318_1885]) | (simp only [hc308_1884, hc318_1885, if_true, if_false]; done) | simp [hc308_1884, hc318_1885])
      refine Go.of (fun t k => XS.ifNo Xx1872.here hx rfl (hb hby at_318) rfl ((if0 _ _).trans (feq hc318_1885).1) k) ?_
      refine Go.of (fun t k => XS.aload Xx1872.here hx rfl (hb hby at_321) rfl rfl k) ?_
      refine Go.of (fun t k => XS.goto Xx1872.here hx rfl (pc0 := 323) (pc' := 328) rfl (hb hby at_323) (by decide) (by decide) k) ?_
      show Go p e below Qo T1868 (mkF m 328 #[sJ j1, zS, sJ j2, zS, sJ j3, zS, sJ j4, zS, sJ j5, zS, sI i1, sI v4_2, sI v18_5, sI v32_8, sJ p3, zS, sR b10, sR b915, sR b1384, sR b1652, sI (1 : Int32), sI (1 : Int32), sR (if (p3 < (if (j5 < j4 ∨ (j5 = j4 ∧ j2 < j1)) then j5 else j4) ∨ (p3 = (if (j5 < j4 ∨ (j5 = j4 ∧ j2 < j1)) then j5 else j4) ∧ j3 < (if (j5 < j4 ∨ (j5 = j4 ∧ j2 < j1)) then j2 else j1))) then b1384 else (if (j5 < j4 ∨ (j5 = j4 ∧ j2 < j1)) then b915 else b10)), zU, sI v249_1852, sI v296_1874] [(.ref b915)])
      exact J308_1879 _ (by first | rfl | (rw [if_pos hc308_1884, if_neg hc318_1885]) | (simp only [hc308_1884, hc318_1885, if_true, if_false]; done) | simp [hc308_1884, hc318_1885])
    refine Go.of (fun t k => XS.ifNo Xx1872.here hx rfl (hb hby at_308) rfl ((if0 _ _).trans (feq hc308_1884).1) k) ?_
    refine Go.of (fun t k => XS.aload Xx1872.here hx rfl (hb hby at_311) rfl rfl k) ?_
    refine Go.of (fun t k => XS.goto Xx1872.here hx rfl (pc0 := 313) (pc' := 328) rfl (hb hby at_313) (by decide) (by decide) k) ?_
    show Go p e below Qo T1868 (mkF m 328 #[sJ j1, zS, sJ j2, zS, sJ j3, zS, sJ j4, zS, sJ j5, zS, sI i1, sI v4_2, sI v18_5, sI v32_8, sJ p3, zS, sR b10, sR b915, sR b1384, sR b1652, sI (1 : Int32), sI (1 : Int32), sR (if (p3 < (if (j5 < j4 ∨ (j5 = j4 ∧ j2 < j1)) then j5 else j4) ∨ (p3 = (if (j5 < j4 ∨ (j5 = j4 ∧ j2 < j1)) then j5 else j4) ∧ j3 < (if (j5 < j4 ∨ (j5 = j4 ∧ j2 < j1)) then j2 else j1))) then b1384 else (if (j5 < j4 ∨ (j5 = j4 ∧ j2 < j1)) then b915 else b10)), zU, sI v249_1852, sI v296_1874] [(.ref b10)])
    exact J308_1879 _ (by first | rfl | (rw [if_neg hc308_1884]) | (simp only [hc308_1884, if_true, if_false]; done) | simp [hc308_1884])
  intro v308_1878 hv308_1878
  show Go p e below Qo T1868 (mkF m 328 #[sJ j1, zS, sJ j2, zS, sJ j3, zS, sJ j4, zS, sJ j5, zS, sI i1, sI v4_2, sI v18_5, sI v32_8, sJ p3, zS, sR b10, sR b915, sR b1384, sR b1652, sI (1 : Int32), sI (1 : Int32), sR (if (p3 < (if (j5 < j4 ∨ (j5 = j4 ∧ j2 < j1)) then j5 else j4) ∨ (p3 = (if (j5 < j4 ∨ (j5 = j4 ∧ j2 < j1)) then j5 else j4) ∧ j3 < (if (j5 < j4 ∨ (j5 = j4 ∧ j2 < j1)) then j2 else j1))) then b1384 else (if (j5 < j4 ∨ (j5 = j4 ∧ j2 < j1)) then b915 else b10)), zU, sI v249_1852, sI v296_1874] [(.ref v308_1878)])
  refine Go.of (fun t k => XS.astore Xx1872.here hx rfl (hb hby at_328) rfl rfl (l' := #[sJ j1, zS, sJ j2, zS, sJ j3, zS, sJ j4, zS, sJ j5, zS, sI i1, sI v4_2, sI v18_5, sI v32_8, sJ p3, zS, sR b10, sR b915, sR b1384, sR b1652, sI (1 : Int32), sI (1 : Int32), sR (if (p3 < (if (j5 < j4 ∨ (j5 = j4 ∧ j2 < j1)) then j5 else j4) ∨ (p3 = (if (j5 < j4 ∨ (j5 = j4 ∧ j2 < j1)) then j5 else j4) ∧ j3 < (if (j5 < j4 ∨ (j5 = j4 ∧ j2 < j1)) then j2 else j1))) then b1384 else (if (j5 < j4 ∨ (j5 = j4 ∧ j2 < j1)) then b915 else b10)), sR v308_1878, sI v249_1852, sI v296_1874]) rfl k) ?_
  refine Go.of (fun t k => XS.goto Xx1872.here hx rfl (pc0 := 330) (pc' := 397) rfl (hb hby at_330) (by decide) (by decide) k) ?_
  refine Go.of (fun t k => XS.iload Xx1872.here hx rfl (hb hby at_397) rfl  k) ?_
  refine Go.of (fun t k => XS.ifNo Xx1872.here hx rfl (hb hby at_399) rfl ((if0 _ _).trans (feq (by decide : ¬ ((1 : Int32) = (0 : Int32)))).1) k) ?_
  refine Go.of (fun t k => XS.iload Xx1872.here hx rfl (hb hby at_402) rfl  k) ?_
  refine Go.of (fun t k => XS.ifNo Xx1872.here hx rfl (hb hby at_404) rfl ((if0 _ _).trans (feq (by decide : ¬ ((1 : Int32) = (0 : Int32)))).1) k) ?_
  show Go p e below Qo T1868 (mkF m 407 #[sJ j1, zS, sJ j2, zS, sJ j3, zS, sJ j4, zS, sJ j5, zS, sI i1, sI v4_2, sI v18_5, sI v32_8, sJ p3, zS, sR b10, sR b915, sR b1384, sR b1652, sI (1 : Int32), sI (1 : Int32), sR (if (p3 < (if (j5 < j4 ∨ (j5 = j4 ∧ j2 < j1)) then j5 else j4) ∨ (p3 = (if (j5 < j4 ∨ (j5 = j4 ∧ j2 < j1)) then j5 else j4) ∧ j3 < (if (j5 < j4 ∨ (j5 = j4 ∧ j2 < j1)) then j2 else j1))) then b1384 else (if (j5 < j4 ∨ (j5 = j4 ∧ j2 < j1)) then b915 else b10)), sR v308_1878, sI v249_1852, sI v296_1874] [])
  refine Go.of (fun t k => XS.aload Xx1872.here hx rfl (hb hby at_407) rfl rfl k) ?_
  refine Go.of (fun t k => XS.aload Xx1872.here hx rfl (hb hby at_409) rfl rfl k) ?_
  suffices J411_1882 : ∀ (v411_1881 : Int32), v411_1881 = (if (if (p3 < (if (j5 < j4 ∨ (j5 = j4 ∧ j2 < j1)) then j5 else j4) ∨ (p3 = (if (j5 < j4 ∨ (j5 = j4 ∧ j2 < j1)) then j5 else j4) ∧ j3 < (if (j5 < j4 ∨ (j5 = j4 ∧ j2 < j1)) then j2 else j1))) then b1384 else (if (j5 < j4 ∨ (j5 = j4 ∧ j2 < j1)) then b915 else b10)) = v308_1878 then (1 : Int32) else (0 : Int32)) → Go p e below Qo T1868 (mkF m 419 #[sJ j1, zS, sJ j2, zS, sJ j3, zS, sJ j4, zS, sJ j5, zS, sI i1, sI v4_2, sI v18_5, sI v32_8, sJ p3, zS, sR b10, sR b915, sR b1384, sR b1652, sI (1 : Int32), sI (1 : Int32), sR (if (p3 < (if (j5 < j4 ∨ (j5 = j4 ∧ j2 < j1)) then j5 else j4) ∨ (p3 = (if (j5 < j4 ∨ (j5 = j4 ∧ j2 < j1)) then j5 else j4) ∧ j3 < (if (j5 < j4 ∨ (j5 = j4 ∧ j2 < j1)) then j2 else j1))) then b1384 else (if (j5 < j4 ∨ (j5 = j4 ∧ j2 < j1)) then b915 else b10)), sR v308_1878, sI v249_1852, sI v296_1874] [(.int v411_1881)]) by
    by_cases hc411_1883 : (if (p3 < (if (j5 < j4 ∨ (j5 = j4 ∧ j2 < j1)) then j5 else j4) ∨ (p3 = (if (j5 < j4 ∨ (j5 = j4 ∧ j2 < j1)) then j5 else j4) ∧ j3 < (if (j5 < j4 ∨ (j5 = j4 ∧ j2 < j1)) then j2 else j1))) then b1384 else (if (j5 < j4 ∨ (j5 = j4 ∧ j2 < j1)) then b915 else b10)) = v308_1878
    · refine Go.of (fun t k => Jvm.RoadKit.acmp (g := (mkF m 411 #[sJ j1, zS, sJ j2, zS, sJ j3, zS, sJ j4, zS, sJ j5, zS, sI i1, sI v4_2, sI v18_5, sI v32_8, sJ p3, zS, sR b10, sR b915, sR b1384, sR b1652, sI (1 : Int32), sI (1 : Int32), sR (if (p3 < (if (j5 < j4 ∨ (j5 = j4 ∧ j2 < j1)) then j5 else j4) ∨ (p3 = (if (j5 < j4 ∨ (j5 = j4 ∧ j2 < j1)) then j5 else j4) ∧ j3 < (if (j5 < j4 ∨ (j5 = j4 ∧ j2 < j1)) then j2 else j1))) then b1384 else (if (j5 < j4 ∨ (j5 = j4 ∧ j2 < j1)) then b915 else b10)), sR v308_1878, sI v249_1852, sI v296_1874] [(.ref v308_1878), (.ref (if (p3 < (if (j5 < j4 ∨ (j5 = j4 ∧ j2 < j1)) then j5 else j4) ∨ (p3 = (if (j5 < j4 ∨ (j5 = j4 ∧ j2 < j1)) then j5 else j4) ∧ j3 < (if (j5 < j4 ∨ (j5 = j4 ∧ j2 < j1)) then j2 else j1))) then b1384 else (if (j5 < j4 ∨ (j5 = j4 ∧ j2 < j1)) then b915 else b10)))])) Xx1872 hx rfl rfl rfl (pc0 := 411) (pc' := 414) (same := true) rfl (hb hby at_411) rfl (decide_eq_true (congrArg Value.ref hc411_1883)) (by decide) (by decide) k) ?_
      show Go p e below Qo T1868 (mkF m 414 #[sJ j1, zS, sJ j2, zS, sJ j3, zS, sJ j4, zS, sJ j5, zS, sI i1, sI v4_2, sI v18_5, sI v32_8, sJ p3, zS, sR b10, sR b915, sR b1384, sR b1652, sI (1 : Int32), sI (1 : Int32), sR (if (p3 < (if (j5 < j4 ∨ (j5 = j4 ∧ j2 < j1)) then j5 else j4) ∨ (p3 = (if (j5 < j4 ∨ (j5 = j4 ∧ j2 < j1)) then j5 else j4) ∧ j3 < (if (j5 < j4 ∨ (j5 = j4 ∧ j2 < j1)) then j2 else j1))) then b1384 else (if (j5 < j4 ∨ (j5 = j4 ∧ j2 < j1)) then b915 else b10)), sR v308_1878, sI v249_1852, sI v296_1874] [])
      refine Go.of (fun t k => XS.iconst Xx1872.here hx rfl (hb hby at_414) k) ?_
      refine Go.of (fun t k => XS.goto Xx1872.here hx rfl (pc0 := 415) (pc' := 419) rfl (hb hby at_415) (by decide) (by decide) k) ?_
      show Go p e below Qo T1868 (mkF m 419 #[sJ j1, zS, sJ j2, zS, sJ j3, zS, sJ j4, zS, sJ j5, zS, sI i1, sI v4_2, sI v18_5, sI v32_8, sJ p3, zS, sR b10, sR b915, sR b1384, sR b1652, sI (1 : Int32), sI (1 : Int32), sR (if (p3 < (if (j5 < j4 ∨ (j5 = j4 ∧ j2 < j1)) then j5 else j4) ∨ (p3 = (if (j5 < j4 ∨ (j5 = j4 ∧ j2 < j1)) then j5 else j4) ∧ j3 < (if (j5 < j4 ∨ (j5 = j4 ∧ j2 < j1)) then j2 else j1))) then b1384 else (if (j5 < j4 ∨ (j5 = j4 ∧ j2 < j1)) then b915 else b10)), sR v308_1878, sI v249_1852, sI v296_1874] [(.int (1 : Int32))])
      exact J411_1882 _ (by first | rfl | (rw [if_pos hc411_1883]) | (simp only [hc411_1883, if_true, if_false]; done) | simp [hc411_1883])
    refine Go.of (fun t k => Jvm.RoadKit.acmp (g := (mkF m 411 #[sJ j1, zS, sJ j2, zS, sJ j3, zS, sJ j4, zS, sJ j5, zS, sI i1, sI v4_2, sI v18_5, sI v32_8, sJ p3, zS, sR b10, sR b915, sR b1384, sR b1652, sI (1 : Int32), sI (1 : Int32), sR (if (p3 < (if (j5 < j4 ∨ (j5 = j4 ∧ j2 < j1)) then j5 else j4) ∨ (p3 = (if (j5 < j4 ∨ (j5 = j4 ∧ j2 < j1)) then j5 else j4) ∧ j3 < (if (j5 < j4 ∨ (j5 = j4 ∧ j2 < j1)) then j2 else j1))) then b1384 else (if (j5 < j4 ∨ (j5 = j4 ∧ j2 < j1)) then b915 else b10)), sR v308_1878, sI v249_1852, sI v296_1874] [(.ref v308_1878), (.ref (if (p3 < (if (j5 < j4 ∨ (j5 = j4 ∧ j2 < j1)) then j5 else j4) ∨ (p3 = (if (j5 < j4 ∨ (j5 = j4 ∧ j2 < j1)) then j5 else j4) ∧ j3 < (if (j5 < j4 ∨ (j5 = j4 ∧ j2 < j1)) then j2 else j1))) then b1384 else (if (j5 < j4 ∨ (j5 = j4 ∧ j2 < j1)) then b915 else b10)))])) Xx1872 hx rfl rfl rfl (pc0 := 411) (pc' := 418) (same := false) rfl (hb hby at_411) rfl (decide_eq_false fun q => hc411_1883 (Value.ref.inj q)) (by decide) (by decide) k) ?_
    refine Go.of (fun t k => XS.iconst Xx1872.here hx rfl (hb hby at_418) k) ?_
    show Go p e below Qo T1868 (mkF m 419 #[sJ j1, zS, sJ j2, zS, sJ j3, zS, sJ j4, zS, sJ j5, zS, sI i1, sI v4_2, sI v18_5, sI v32_8, sJ p3, zS, sR b10, sR b915, sR b1384, sR b1652, sI (1 : Int32), sI (1 : Int32), sR (if (p3 < (if (j5 < j4 ∨ (j5 = j4 ∧ j2 < j1)) then j5 else j4) ∨ (p3 = (if (j5 < j4 ∨ (j5 = j4 ∧ j2 < j1)) then j5 else j4) ∧ j3 < (if (j5 < j4 ∨ (j5 = j4 ∧ j2 < j1)) then j2 else j1))) then b1384 else (if (j5 < j4 ∨ (j5 = j4 ∧ j2 < j1)) then b915 else b10)), sR v308_1878, sI v249_1852, sI v296_1874] [(.int (0 : Int32))])
    exact J411_1882 _ (by first | rfl | (rw [if_neg hc411_1883]) | (simp only [hc411_1883, if_true, if_false]; done) | simp [hc411_1883])
  intro v411_1881 hv411_1881
  show Go p e below Qo T1868 (mkF m 419 #[sJ j1, zS, sJ j2, zS, sJ j3, zS, sJ j4, zS, sJ j5, zS, sI i1, sI v4_2, sI v18_5, sI v32_8, sJ p3, zS, sR b10, sR b915, sR b1384, sR b1652, sI (1 : Int32), sI (1 : Int32), sR (if (p3 < (if (j5 < j4 ∨ (j5 = j4 ∧ j2 < j1)) then j5 else j4) ∨ (p3 = (if (j5 < j4 ∨ (j5 = j4 ∧ j2 < j1)) then j5 else j4) ∧ j3 < (if (j5 < j4 ∨ (j5 = j4 ∧ j2 < j1)) then j2 else j1))) then b1384 else (if (j5 < j4 ∨ (j5 = j4 ∧ j2 < j1)) then b915 else b10)), sR v308_1878, sI v249_1852, sI v296_1874] [(.int v411_1881)])
  have hfin : v411_1881 = 1 := by
    refine hv411_1881.trans (if_pos ?_)
    have T := own_three j4 j5 p3 j1 j2 j3 b10 b915 b1384
    subst hv249_1852 hv296_1874 hv308_1878
    by_cases c0 : (F10 j4 j1 p3 j3) = (0 : Int32)
    all_goals by_cases c1 : (F10 j5 j2 p3 j3) = (0 : Int32)
    all_goals (try simp only [c0, c1, if_true, if_false, own_00, own_10])
    all_goals first | rfl | (exact T.1 (by assumption) (by assumption)) | (exact T.2.1 (Or.inl (by assumption)) (by assumption) (by assumption)) | (exact T.2.1 (Or.inr (by assumption)) (by assumption) (by assumption)) | (exact T.2.2 (Or.inl (by assumption)) (Or.inl (by assumption))) | (exact T.2.2 (Or.inl (by assumption)) (Or.inr (by assumption))) | (exact T.2.2 (Or.inr (by assumption)) (Or.inl (by assumption))) | (exact T.2.2 (Or.inr (by assumption)) (Or.inr (by assumption)))
  exact own_retN Xx1872 hx Bd.notSynchronized (t := .boolean) Bd.returns (by simp) (hb hby at_419) (fun u hu hF => hQo _ _ _ ⟨by rw [hfin]; rfl, Nx1872⟩ (own_mono hF (by decide) (by decide)))
set_option maxRecDepth 65536 in
set_option maxHeartbeats 40000000 in
theorem comes_1 {Post : Tables → Env → Array Value → State → Outcome → State → Prop} (hpost : ∀ tb e args s v u, (limb_1_1.after args s (.returned v) u = true ∧ limb_1_2.after args s (.returned v) u = true ∧ True) → FrameEnd s (.returned v) u (Jvm.fieldLocs frame_1_writes args s ++ Jvm.arrayLocs frame_1_arrays args s ++ Jvm.staticLocs frame_1_statics s) 16 128 → Post tb e args s (.returned v) u) :
    ArmFor flags0 classFile x code maxLocals ret World_1 tables_1 room_1 Calls_1 rest_1 Pre_1 Post := by
  intro l hfl _ _ p e ha hc hk s m args below hf hA hF happ hP
  obtain ⟨hcalls, hrest, hpre⟩ := hP
  obtain ⟨-, -, -, hnamed, -, -, -, hat⟩ := (Spec.applies_iff hf).mp happ
  obtain ⟨hg, hn⟩ := and_e (Cond.before_iff.mp (show (Jvm.Cond.and given_1 narrow_1).before args s = true from hpre))
  obtain ⟨hg0, hgr0⟩ := and_e hg
  obtain ⟨ha0, hgr1⟩ := and_e hgr0
  obtain ⟨ha1, hgr2⟩ := and_e hgr1
  obtain ⟨ha2, hgr3⟩ := and_e hgr2
  obtain ⟨ha3, hgr4⟩ := and_e hgr3
  obtain ⟨ha4, hgr5⟩ := and_e hgr4
  obtain ⟨w0, w1, w2, w3, w4, w5, rfl⟩ : ∃ w0 w1 w2 w3 w4 w5 : Value, args = #[w0, w1, w2, w3, w4, w5] := by
    have hs : args.size = 6 := by simpa [Cond.value, given_1] using hg0
    obtain ⟨L⟩ := args
    match L, hs with
    | [w0, w1, w2, w3, w4, w5], _ => exact ⟨w0, w1, w2, w3, w4, w5, rfl⟩
  have hw := fun d (hd : d ∈ tables_1) => atoms_spec (ws := Jvm.Cond.code x code maxLocals ret :: tables_1) hat d (List.mem_cons_of_mem _ hd)
  have hfit : Fit s := fun {y c} hc i hi => by
    obtain ⟨ha, rfl⟩ := Array.getElem?_eq_some_iff.mp hc
    have q := List.all_eq_true.mp ((Array.all_eq_true_iff_forall_mem.mp hF) _ (Array.getElem_mem ha)) i (List.mem_range.mpr hi)
    simpa [Array.getElem?_eq_getElem hi] using q
  obtain ⟨hsets, hown0⟩ := atoms_of _ (rest_1_c_eq ▸ (show rest_1_c.before _ s = true from hrest))
  obtain ⟨i0, ei0⟩ := isL_v ha0
  obtain rfl : w0 = (.long i0) := Option.some.inj ei0
  obtain ⟨i1, ei1⟩ := isL_v ha1
  obtain rfl : w1 = (.long i1) := Option.some.inj ei1
  obtain ⟨i2, ei2⟩ := isL_v ha2
  obtain rfl : w2 = (.long i2) := Option.some.inj ei2
  obtain ⟨i3, ei3⟩ := isL_v ha3
  obtain rfl : w3 = (.long i3) := Option.some.inj ei3
  obtain ⟨i4, ei4⟩ := isL_v ha4
  obtain rfl : w4 = (.long i4) := Option.some.inj ei4
  obtain ⟨i5, ei5⟩ := is_v hgr5
  obtain rfl : w5 = (.int i5) := Option.some.inj ei5
  have Sh : Sta s s.heap "java/lang/Integer$IntegerCache" "high" "I" (.int (127 : Int32)) := Sta.start (own_eqI (Cond.before_iff.mp (hsets _ (List.mem_of_getElem? (i := 3) rfl)))) (Or.inl (hsets _ (List.mem_of_getElem? (i := 1) rfl)))
  obtain ⟨rc, evc⟩ := arr_v (Cond.before_iff.mp (hsets _ (List.mem_of_getElem? (i := 4) rfl)))
  have Sc : Sta s s.heap "java/lang/Integer$IntegerCache" "cache" "[Ljava/lang/Integer;" (.ref rc) := Sta.start evc (Or.inr ⟨(wk hw 23 rfl), (hsets _ (List.mem_of_getElem? (i := 2) rfl))⟩)
  have hC : own_cache s rc := own_cache_start evc (hsets _ (List.mem_of_getElem? (i := 4) rfl)) (hsets _ (List.mem_of_getElem? (i := 6) rfl)) (hsets _ (List.mem_of_getElem? (i := 7) rfl))
  obtain ⟨n, o, h1, h2, h3, _, L, rfl, ⟨rfl, N⟩, hq⟩ := rm0 l s _ hw tables_1 i0 i1 i2 i3 i4 i5 rc s.heap s.heap.size (Nat.le_refl _) Sh Sc (Old.start s) hC p e ha hc hk s m _ below hf ((Spec.applies_iff_loose hf).mp happ).1 ⟨rfl, State.Warmed39.refl s, rfl⟩ trivial
  refine ⟨n, _, h1, h2, h3, hpost _ _ _ _ _ _ ⟨Cond.after_iff.mpr rfl, Cond.after_iff.mpr (eq_i res_at (Term.int_eval (1)) rfl), trivial⟩ ⟨hq.1, hq.2.1, (hq.2.2.sift fun y hy => Or.inr (N y hy)).mono (by decide) (by decide)⟩⟩
theorem main_1_1 : Claimed_1_1 := comes_1 fun _ _ _ _ _ _ h hF => ⟨h.1, hF⟩
theorem main_1_2 : Claimed_1_2 := comes_1 fun _ _ _ _ _ _ h hF => ⟨h.2.1, hF⟩
end Jvm.Pilot.@@N@@
namespace Jvm.Pilot.@@N@@
open Jvm Jvm.ClassFile Sem Op Lib Jvm.Free Jvm.Stand Jvm.Pilot.@@N@@.Jvm.D
/-! MADE BY PROGRAM (witnessworld.py) out of the Statement's table words and the real class files: 19 classes; the members and pool entries that the words name. The judged class is class 1, her method 2. -/
namespace start1
open Jvm.ClassFile
def u (s : String) : CpInfo := .utf8 (stringToUtf16 s)
/-- a pool by its gaps: so many unusable entries, then the entry; so many at the end -/
def gap : Nat → List CpInfo → List CpInfo
  | 0, r => r
  | n + 1, r => .unusable :: gap n r
def poolList (es : List (Nat × CpInfo)) (last : Nat) : List CpInfo := es.foldr (fun e r => gap e.1 (e.2 :: r)) (gap last [])
def pool (es : List (Nat × CpInfo)) (last : Nat) : Array CpInfo := ⟨poolList es last⟩
def fileOf (pool : Array CpInfo) (this : Nat) (attrs : Array Attribute := #[]) (ms : Array MethodInfo := #[]) (fl : Nat := 33) (sup : Nat := 0) (ifs : Array Nat := #[]) (fds : Array FieldInfo := #[]) : ClassFile where
  minorVersion := 0
  majorVersion := 65
  constantPool := pool
  accessFlags := fl
  thisClass := this
  superClass := sup
  interfaces := ifs
  fields := fds
  methods := ms
  attributes := attrs
def plain (name : String) (sup : Option ClassId) : Class where
  name := name
  kind := .ordinary
  loader := none
  accessFlags := 33
  super := sup
  interfaces := #[]
  cf := none
  fields := #[]
  methods := #[]
  instanceTypes := #[]
  staticTypes := #[]
  resolved := #[]
  callSites := []
  init := .initialized
  statics := none
  mirror := none

def pool0 : Array CpInfo := pool [(5, u "<init>"), (0, u "()V"), (1, .class_ 10), (1, u "java/lang/Object")] 113

def k0c0 : Code := { maxStack := 0, maxLocals := 1, code := object_method_1_code, exceptionTable := #[], attributes := #[] }
def k0m0 : Method := { name := "<init>", desc := "()V", sig := { parameters := [], returnType := none }, accessFlags := 1, code := some k0c0 }
/-- java/lang/Object -/
def k0 : Class := { plain "java/lang/Object" none with
  accessFlags := 33
  interfaces := #[]
  cf := some (fileOf pool0 8 #[] #[{ accessFlags := 1, nameIndex := 5, descriptorIndex := 6, attributes := #[] }] 33 0 #[] #[])
  fields := #[]
  methods := #[k0m0]
  instanceTypes := #[]
  staticTypes := #[]
  resolved := Array.replicate 124 none
  statics := none }

def pool1 : Array CpInfo := pool [(2, .class_ 4), (0, .nameAndType 5 6), (0, u "java/lang/Object"), (0, u "<init>"), (0, u "()V"), (0, .class_ 8), (0, u "com/example/examwright/examwright/Method$Attempt"), (0, .methodref 10 11), (0, .class_ 12), (0, .nameAndType 13 14), (0, u "java/lang/Integer"), (0, u "valueOf"), (0, u "(I)Ljava/lang/Integer;"), (0, .methodref 7 16), (0, .nameAndType 5 17), (0, u "(Ljava/lang/Object;Ljava/util/List;)V"), (0, .class_ 19), (0, u "com/example/examwright/examwright/Tally"), (0, .methodref 18 3), (0, .methodref 18 22), (0, .nameAndType 23 24), (0, u "reported"), (0, u "()Lcom/example/examwright/examwright/Method$Attempt;"), (0, .methodref 18 26), (0, .nameAndType 27 28), (0, u "add"), (0, u "(JLcom/example/examwright/examwright/Method$Attempt;J)V"), (0, .methodref 30 31), (0, .class_ 32), (0, .nameAndType 33 34), (0, u "com/example/examwright/examwright/TallyReportedPinLaw"), (0, u "le"), (0, u "(JJJJ)Z"), (3, u "law"), (0, u "(JJJJJI)Z")] 6

def k1m0 : Method := { name := "<init>", desc := "()V", sig := { parameters := [], returnType := none }, accessFlags := 2, code := none }
def k1c1 : Code := { maxStack := 4, maxLocals := 8, code := method_2_code, exceptionTable := #[], attributes := #[] }
def k1m1 : Method := { name := "le", desc := "(JJJJ)Z", sig := { parameters := [.long, .long, .long, .long], returnType := some .boolean }, accessFlags := 10, code := some k1c1 }
def k1c2 : Code := { maxStack := 8, maxLocals := 26, code := code, exceptionTable := #[], attributes := #[] }
def k1m2 : Method := { name := "law", desc := "(JJJJJI)Z", sig := { parameters := [.long, .long, .long, .long, .long, .int], returnType := some .boolean }, accessFlags := 9, code := some k1c2 }
/-- com/example/examwright/examwright/TallyReportedPinLaw -/
def k1 : Class := { plain "com/example/examwright/examwright/TallyReportedPinLaw" (some 0) with
  accessFlags := 49
  interfaces := #[]
  cf := some (fileOf pool1 30 #[] #[{ accessFlags := 2, nameIndex := 5, descriptorIndex := 6, attributes := #[] }, { accessFlags := 10, nameIndex := 33, descriptorIndex := 34, attributes := #[] }, { accessFlags := 9, nameIndex := 38, descriptorIndex := 39, attributes := #[] }] 49 2 #[] #[])
  fields := #[]
  methods := #[k1m0, k1m1, k1m2]
  instanceTypes := #[]
  staticTypes := #[]
  resolved := Array.replicate 46 none
  statics := none }

def pool2 : Array CpInfo := pool [(1, .methodref 2 3), (0, .class_ 4), (0, .nameAndType 5 6), (0, u "java/lang/Object"), (0, u "<init>"), (0, u "()V"), (0, .class_ 8), (0, u "java/lang/Record")] 13

def k2c0 : Code := { maxStack := 1, maxLocals := 1, code := jdk_30_method_1_code, exceptionTable := #[], attributes := #[] }
def k2m0 : Method := { name := "<init>", desc := "()V", sig := { parameters := [], returnType := none }, accessFlags := 4, code := some k2c0 }
/-- java/lang/Record -/
def k2 : Class := { plain "java/lang/Record" (some 0) with
  accessFlags := 1057
  interfaces := #[]
  cf := some (fileOf pool2 7 #[] #[{ accessFlags := 4, nameIndex := 5, descriptorIndex := 6, attributes := #[] }] 1057 2 #[] #[])
  fields := #[]
  methods := #[k2m0]
  instanceTypes := #[]
  staticTypes := #[]
  resolved := Array.replicate 22 none
  statics := none }

def pool3 : Array CpInfo := pool [(1, .methodref 2 3), (0, .class_ 4), (0, .nameAndType 5 6), (0, u "java/lang/Record"), (0, u "<init>"), (0, u "()V"), (0, .fieldref 8 9), (0, .class_ 10), (0, .nameAndType 11 12), (0, u "com/example/examwright/examwright/Method$Attempt"), (0, u "run"), (0, u "Ljava/lang/Object;"), (0, .fieldref 8 14), (0, .nameAndType 15 16), (0, u "choices"), (0, u "Ljava/util/List;"), (15, u "(Ljava/lang/Object;Ljava/util/List;)V"), (7, u "()Ljava/lang/Object;"), (7, .class_ 49), (0, u "com/example/examwright/examwright/Method")] 20

def k3c0 : Code := { maxStack := 2, maxLocals := 3, code := prog_26_method_1_code, exceptionTable := #[], attributes := #[] }
def k3m0 : Method := { name := "<init>", desc := "(Ljava/lang/Object;Ljava/util/List;)V", sig := { parameters := [(.object "java/lang/Object"), (.object "java/util/List")], returnType := none }, accessFlags := 1, code := some k3c0 }
def k3c1 : Code := { maxStack := 1, maxLocals := 1, code := prog_26_method_5_code, exceptionTable := #[], attributes := #[] }
def k3m1 : Method := { name := "run", desc := "()Ljava/lang/Object;", sig := { parameters := [], returnType := some (.object "java/lang/Object") }, accessFlags := 1, code := some k3c1 }
/-- com/example/examwright/examwright/Method$Attempt -/
def k3 : Class := { plain "com/example/examwright/examwright/Method$Attempt" (some 2) with
  accessFlags := 49
  interfaces := #[]
  cf := some (fileOf pool3 8 #[.nestHost 48] #[{ accessFlags := 1, nameIndex := 5, descriptorIndex := 32, attributes := #[] }, { accessFlags := 1, nameIndex := 11, descriptorIndex := 40, attributes := #[] }] 49 2 #[] #[{ accessFlags := 18, nameIndex := 11, descriptorIndex := 12, attributes := #[] }, { accessFlags := 18, nameIndex := 15, descriptorIndex := 16, attributes := #[] }])
  fields := #[{ name := "run", type := (.object "java/lang/Object"), accessFlags := 18, slot := 0, constantValue := 0 }, { name := "choices", type := (.object "java/util/List"), accessFlags := 18, slot := 1, constantValue := 0 }]
  methods := #[k3m0, k3m1]
  instanceTypes := #[(.object "java/lang/Object"), (.object "java/util/List")]
  staticTypes := #[]
  resolved := Array.replicate 70 none
  statics := none }

def pool4 : Array CpInfo := pool [(1, .class_ 2), (0, u "java/io/Serializable"), (0, .class_ 4), (0, u "java/lang/Object")] 2

/-- java/io/Serializable -/
def k4 : Class := { plain "java/io/Serializable" (some 0) with
  accessFlags := 1537
  interfaces := #[]
  cf := some (fileOf pool4 1 #[] #[] 1537 3 #[] #[])
  fields := #[]
  methods := #[]
  instanceTypes := #[]
  staticTypes := #[]
  resolved := Array.replicate 7 none
  statics := none }

def pool5 : Array CpInfo := pool [(2, .class_ 4), (1, u "java/lang/Object"), (0, u "<init>"), (0, u "()V"), (1, .class_ 10), (1, u "java/lang/Number"), (2, .class_ 14), (0, u "java/io/Serializable"), (0, u "serialVersionUID"), (0, u "J")] 20

def k5m0 : Method := { name := "<init>", desc := "()V", sig := { parameters := [], returnType := none }, accessFlags := 1, code := none }
/-- java/lang/Number -/
def k5 : Class := { plain "java/lang/Number" (some 0) with
  accessFlags := 1057
  interfaces := #[4]
  cf := some (fileOf pool5 8 #[] #[{ accessFlags := 1, nameIndex := 5, descriptorIndex := 6, attributes := #[] }] 1057 2 #[13] #[{ accessFlags := 26, nameIndex := 15, descriptorIndex := 16, attributes := #[] }])
  fields := #[{ name := "serialVersionUID", type := .long, accessFlags := 26, slot := 0, constantValue := 0 }]
  methods := #[k5m0]
  instanceTypes := #[]
  staticTypes := #[.long]
  resolved := Array.replicate 37 none
  statics := none }

def pool6 : Array CpInfo := pool [(1, .class_ 2), (0, u "java/lang/Comparable"), (0, .class_ 4), (0, u "java/lang/Object")] 7

/-- java/lang/Comparable -/
def k6 : Class := { plain "java/lang/Comparable" (some 0) with
  accessFlags := 1537
  interfaces := #[]
  cf := some (fileOf pool6 1 #[] #[] 1537 3 #[] #[])
  fields := #[]
  methods := #[]
  instanceTypes := #[]
  staticTypes := #[]
  resolved := Array.replicate 12 none
  statics := none }

def pool7 : Array CpInfo := pool [(1, .class_ 2), (0, u "java/lang/constant/Constable"), (0, .class_ 4), (0, u "java/lang/Object")] 6

/-- java/lang/constant/Constable -/
def k7 : Class := { plain "java/lang/constant/Constable" (some 0) with
  accessFlags := 1537
  interfaces := #[]
  cf := some (fileOf pool7 1 #[] #[] 1537 3 #[] #[])
  fields := #[]
  methods := #[]
  instanceTypes := #[]
  staticTypes := #[]
  resolved := Array.replicate 11 none
  statics := none }

def pool8 : Array CpInfo := pool [(1, .class_ 2), (0, u "java/lang/constant/ConstantDesc"), (0, .class_ 4), (0, u "java/lang/Object")] 32

/-- java/lang/constant/ConstantDesc -/
def k8 : Class := { plain "java/lang/constant/ConstantDesc" (some 0) with
  accessFlags := 1537
  interfaces := #[]
  cf := some (fileOf pool8 1 #[] #[] 1537 3 #[] #[])
  fields := #[]
  methods := #[]
  instanceTypes := #[]
  staticTypes := #[]
  resolved := Array.replicate 37 none
  statics := none }

def pool9 : Array CpInfo := pool [(1, .class_ 2), (0, u "java/lang/Integer"), (16, u "digits"), (0, u "[C"), (64, u "DigitOnes"), (0, u "[B"), (2, u "DigitTens"), (97, u "valueOf"), (0, u "(I)Ljava/lang/Integer;"), (0, .class_ 190), (0, u "java/lang/Integer$IntegerCache"), (0, .fieldref 189 192), (0, .nameAndType 193 194), (0, u "high"), (0, u "I"), (0, .fieldref 189 196), (0, .nameAndType 197 198), (0, u "cache"), (0, u "[Ljava/lang/Integer;"), (4, .class_ 204), (0, u "java/lang/Number"), (2, u "value"), (94, u "TYPE"), (0, u "Ljava/lang/Class;"), (0, .class_ 305), (0, u "java/lang/Comparable"), (0, .class_ 307), (0, u "java/lang/constant/Constable"), (0, .class_ 309), (0, u "java/lang/constant/ConstantDesc"), (0, u "MIN_VALUE"), (1, u "MAX_VALUE"), (3, u "SIZE"), (1, u "BYTES"), (1, u "serialVersionUID"), (0, u "J")] 131

def k9c0 : Code := { maxStack := 3, maxLocals := 1, code := jdk_33_method_22_code, exceptionTable := #[], attributes := #[] }
def k9m0 : Method := { name := "valueOf", desc := "(I)Ljava/lang/Integer;", sig := { parameters := [.int], returnType := some (.object "java/lang/Integer") }, accessFlags := 9, code := some k9c0 }
/-- java/lang/Integer -/
def k9 : Class := { plain "java/lang/Integer" (some 5) with
  accessFlags := 49
  interfaces := #[6, 7, 8]
  cf := some (fileOf pool9 1 #[.nestMembers #[189]] #[{ accessFlags := 9, nameIndex := 187, descriptorIndex := 188, attributes := #[] }] 49 203 #[304, 306, 308] #[{ accessFlags := 25, nameIndex := 310, descriptorIndex := 194, attributes := #[] }, { accessFlags := 25, nameIndex := 312, descriptorIndex := 194, attributes := #[] }, { accessFlags := 25, nameIndex := 302, descriptorIndex := 303, attributes := #[] }, { accessFlags := 24, nameIndex := 19, descriptorIndex := 20, attributes := #[] }, { accessFlags := 24, nameIndex := 89, descriptorIndex := 86, attributes := #[] }, { accessFlags := 24, nameIndex := 85, descriptorIndex := 86, attributes := #[] }, { accessFlags := 18, nameIndex := 207, descriptorIndex := 194, attributes := #[] }, { accessFlags := 25, nameIndex := 316, descriptorIndex := 194, attributes := #[] }, { accessFlags := 25, nameIndex := 318, descriptorIndex := 194, attributes := #[] }, { accessFlags := 26, nameIndex := 320, descriptorIndex := 321, attributes := #[] }])
  fields := #[{ name := "MIN_VALUE", type := .int, accessFlags := 25, slot := 0, constantValue := 0 }, { name := "MAX_VALUE", type := .int, accessFlags := 25, slot := 1, constantValue := 0 }, { name := "TYPE", type := (.object "java/lang/Class"), accessFlags := 25, slot := 2, constantValue := 0 }, { name := "digits", type := (.array .char), accessFlags := 24, slot := 3, constantValue := 0 }, { name := "DigitTens", type := (.array .byte), accessFlags := 24, slot := 4, constantValue := 0 }, { name := "DigitOnes", type := (.array .byte), accessFlags := 24, slot := 5, constantValue := 0 }, { name := "value", type := .int, accessFlags := 18, slot := 0, constantValue := 0 }, { name := "SIZE", type := .int, accessFlags := 25, slot := 6, constantValue := 0 }, { name := "BYTES", type := .int, accessFlags := 25, slot := 7, constantValue := 0 }, { name := "serialVersionUID", type := .long, accessFlags := 26, slot := 8, constantValue := 0 }]
  methods := #[k9m0]
  instanceTypes := #[.int]
  staticTypes := #[.int, .int, (.object "java/lang/Class"), (.array .char), (.array .byte), (.array .byte), .int, .int, .long]
  resolved := Array.replicate 453 none
  statics := none }

def pool10 : Array CpInfo := pool [(2, .class_ 4), (1, u "java/lang/Object"), (0, u "<init>"), (0, u "()V"), (0, .class_ 8), (0, u "java/lang/Integer"), (7, .class_ 18), (1, u "java/lang/Integer$IntegerCache"), (0, u "$assertionsDisabled"), (0, u "Z"), (26, u "high"), (0, u "I"), (8, u "archivedCache"), (0, u "[Ljava/lang/Integer;"), (12, u "cache"), (0, u "low")] 27

def k10m0 : Method := { name := "<init>", desc := "()V", sig := { parameters := [], returnType := none }, accessFlags := 2, code := none }
/-- java/lang/Integer$IntegerCache -/
def k10 : Class := { plain "java/lang/Integer$IntegerCache" (some 0) with
  accessFlags := 48
  interfaces := #[]
  cf := some (fileOf pool10 16 #[.nestHost 7] #[{ accessFlags := 2, nameIndex := 5, descriptorIndex := 6, attributes := #[] }] 48 2 #[] #[{ accessFlags := 24, nameIndex := 72, descriptorIndex := 48, attributes := #[] }, { accessFlags := 24, nameIndex := 47, descriptorIndex := 48, attributes := #[] }, { accessFlags := 24, nameIndex := 71, descriptorIndex := 58, attributes := #[] }, { accessFlags := 8, nameIndex := 57, descriptorIndex := 58, attributes := #[] }, { accessFlags := 4120, nameIndex := 19, descriptorIndex := 20, attributes := #[] }])
  fields := #[{ name := "low", type := .int, accessFlags := 24, slot := 0, constantValue := 0 }, { name := "high", type := .int, accessFlags := 24, slot := 1, constantValue := 0 }, { name := "cache", type := (.array (.object "java/lang/Integer")), accessFlags := 24, slot := 2, constantValue := 0 }, { name := "archivedCache", type := (.array (.object "java/lang/Integer")), accessFlags := 8, slot := 3, constantValue := 0 }, { name := "$assertionsDisabled", type := .boolean, accessFlags := 4120, slot := 4, constantValue := 0 }]
  methods := #[k10m0]
  instanceTypes := #[]
  staticTypes := #[.int, .int, (.array (.object "java/lang/Integer")), (.array (.object "java/lang/Integer")), .boolean]
  resolved := Array.replicate 100 none
  statics := some 0 }

def pool11 : Array CpInfo := pool [(1, .methodref 2 3), (0, .class_ 4), (0, .nameAndType 5 6), (0, u "java/lang/Object"), (0, u "<init>"), (0, u "()V"), (6, .class_ 14), (0, u "com/example/examwright/examwright/Tally"), (9, .class_ 26), (1, u "java/lang/Math"), (35, u "()Ljava/lang/Object;"), (50, u "seconds"), (0, u "Ljava/lang/String;"), (0, .fieldref 13 116), (0, .nameAndType 117 118), (0, u "first"), (0, u "Lcom/example/examwright/examwright/Method$Attempt;"), (0, .fieldref 13 120), (0, .nameAndType 121 122), (0, u "firstSeed"), (0, u "J"), (0, .methodref 124 125), (0, .class_ 126), (0, .nameAndType 127 62), (0, u "com/example/examwright/examwright/Method$Attempt"), (0, u "run"), (0, .fieldref 13 129), (0, .nameAndType 130 118), (0, u "best"), (0, .fieldref 13 132), (0, .nameAndType 133 122), (0, u "bestPenalty"), (0, .fieldref 13 135), (0, .nameAndType 136 122), (0, u "bestSeed"), (0, .fieldref 13 138), (0, .nameAndType 139 122), (0, u "worstPenalty"), (0, .methodref 24 141), (0, .nameAndType 142 143), (0, u "max"), (0, u "(JJ)J"), (0, .fieldref 13 145), (0, .nameAndType 146 122), (0, u "penaltySum"), (0, .fieldref 13 148), (0, .nameAndType 149 150), (0, u "feasibleRuns"), (0, u "I"), (21, u "add"), (0, u "(JLcom/example/examwright/examwright/Method$Attempt;J)V"), (0, u "NANOS_PER_SECOND"), (16, u "reported"), (0, u "()Lcom/example/examwright/examwright/Method$Attempt;")] 31

def k11c0 : Code := { maxStack := 1, maxLocals := 1, code := prog_38_method_1_code, exceptionTable := #[], attributes := #[] }
def k11m0 : Method := { name := "<init>", desc := "()V", sig := { parameters := [], returnType := none }, accessFlags := 0, code := some k11c0 }
def k11c1 : Code := { maxStack := 5, maxLocals := 6, code := ⟨#[0x2a, 0xb4, 0x00, 0x73, 0xc6, 0x00, 0x0c, 0x1f, 0x2a, 0xb4, 0x00, 0x77, 0x94, 0x9c, 0x00, 0x0d, 0x2a, 0x2d, 0xb5, 0x00, 0x73, 0x2a, 0x1f, 0xb5, 0x00, 0x77, 0x2d, 0xb6, 0x00, 0x7b, 0xc7, 0x00, 0x04, 0xb1, 0x2a, 0xb4, 0x00, 0x80, 0xc6, 0x00, 0x20, 0x16, 0x04, 0x2a, 0xb4, 0x00, 0x83, 0x94, 0x9b, 0x00, 0x16, 0x16, 0x04, 0x2a, 0xb4, 0x00, 0x83, 0x94, 0x9a, 0x00, 0x1c, 0x1f, 0x2a, 0xb4, 0x00, 0x86, 0x94, 0x9c, 0x00, 0x13, 0x2a, 0x2d, 0xb5, 0x00, 0x80, 0x2a, 0x1f, 0xb5, 0x00, 0x86, 0x2a, 0x16, 0x04, 0xb5, 0x00, 0x83, 0x2a, 0x2a, 0xb4, 0x00, 0x89, 0x16, 0x04, 0xb8, 0x00, 0x8c, 0xb5, 0x00, 0x89, 0x2a, 0x59, 0xb4, 0x00, 0x90, 0x16, 0x04, 0x61, 0xb5, 0x00, 0x90, 0x2a, 0x59, 0xb4, 0x00, 0x93, 0x04, 0x60, 0xb5, 0x00, 0x93, 0xb1]⟩, exceptionTable := #[], attributes := #[] }
def k11m1 : Method := { name := "add", desc := "(JLcom/example/examwright/examwright/Method$Attempt;J)V", sig := { parameters := [.long, (.object "com/example/examwright/examwright/Method$Attempt"), .long], returnType := none }, accessFlags := 32, code := some k11c1 }
def k11c2 : Code := { maxStack := 1, maxLocals := 1, code := prog_38_method_10_code, exceptionTable := #[], attributes := #[] }
def k11m2 : Method := { name := "reported", desc := "()Lcom/example/examwright/examwright/Method$Attempt;", sig := { parameters := [], returnType := some (.object "com/example/examwright/examwright/Method$Attempt") }, accessFlags := 0, code := some k11c2 }
/-- com/example/examwright/examwright/Tally -/
def k11 : Class := { plain "com/example/examwright/examwright/Tally" (some 0) with
  accessFlags := 48
  interfaces := #[]
  cf := some (fileOf pool11 13 #[] #[{ accessFlags := 0, nameIndex := 5, descriptorIndex := 6, attributes := #[] }, { accessFlags := 32, nameIndex := 172, descriptorIndex := 173, attributes := #[] }, { accessFlags := 0, nameIndex := 191, descriptorIndex := 192, attributes := #[] }] 48 2 #[] #[{ accessFlags := 26, nameIndex := 174, descriptorIndex := 122, attributes := #[] }, { accessFlags := 2, nameIndex := 149, descriptorIndex := 150, attributes := #[] }, { accessFlags := 2, nameIndex := 146, descriptorIndex := 122, attributes := #[] }, { accessFlags := 2, nameIndex := 139, descriptorIndex := 122, attributes := #[] }, { accessFlags := 2, nameIndex := 133, descriptorIndex := 122, attributes := #[] }, { accessFlags := 2, nameIndex := 136, descriptorIndex := 122, attributes := #[] }, { accessFlags := 2, nameIndex := 130, descriptorIndex := 118, attributes := #[] }, { accessFlags := 2, nameIndex := 117, descriptorIndex := 118, attributes := #[] }, { accessFlags := 2, nameIndex := 121, descriptorIndex := 122, attributes := #[] }, { accessFlags := 2, nameIndex := 113, descriptorIndex := 114, attributes := #[] }])
  fields := #[{ name := "NANOS_PER_SECOND", type := .long, accessFlags := 26, slot := 0, constantValue := 0 }, { name := "feasibleRuns", type := .int, accessFlags := 2, slot := 0, constantValue := 0 }, { name := "penaltySum", type := .long, accessFlags := 2, slot := 1, constantValue := 0 }, { name := "worstPenalty", type := .long, accessFlags := 2, slot := 2, constantValue := 0 }, { name := "bestPenalty", type := .long, accessFlags := 2, slot := 3, constantValue := 0 }, { name := "bestSeed", type := .long, accessFlags := 2, slot := 4, constantValue := 0 }, { name := "best", type := (.object "com/example/examwright/examwright/Method$Attempt"), accessFlags := 2, slot := 5, constantValue := 0 }, { name := "first", type := (.object "com/example/examwright/examwright/Method$Attempt"), accessFlags := 2, slot := 6, constantValue := 0 }, { name := "firstSeed", type := .long, accessFlags := 2, slot := 7, constantValue := 0 }, { name := "seconds", type := (.object "java/lang/String"), accessFlags := 2, slot := 8, constantValue := 0 }]
  methods := #[k11m0, k11m1, k11m2]
  instanceTypes := #[.int, .long, .long, .long, .long, (.object "com/example/examwright/examwright/Method$Attempt"), (.object "com/example/examwright/examwright/Method$Attempt"), .long, (.object "java/lang/String")]
  staticTypes := #[.long]
  resolved := Array.replicate 224 none
  statics := none }

def pool12 : Array CpInfo := pool [(1, .class_ 2), (0, u "java/lang/Math"), (1, .class_ 6), (1, u "java/lang/Object"), (0, u "<init>"), (0, u "()V"), (89, .class_ 100), (1, u "java/lang/Math$RandomNumberGeneratorHolder"), (20, u "(JJ)J"), (50, u "negativeZeroFloatBits"), (0, u "J"), (2, u "negativeZeroDoubleBits"), (21, u "max"), (46, u "$assertionsDisabled"), (0, u "Z"), (91, u "twoToTheDoubleScaleDown"), (0, u "D"), (4, u "twoToTheDoubleScaleUp"), (9, u "E"), (3, u "PI"), (2, u "TAU"), (2, u "DEGREES_TO_RADIANS"), (0, u "RADIANS_TO_DEGREES")] 94

def k12m0 : Method := { name := "<init>", desc := "()V", sig := { parameters := [], returnType := none }, accessFlags := 2, code := none }
def k12c1 : Code := { maxStack := 4, maxLocals := 4, code := jdk_29_method_66_code, exceptionTable := #[], attributes := #[] }
def k12m1 : Method := { name := "max", desc := "(JJ)J", sig := { parameters := [.long, .long], returnType := some .long }, accessFlags := 9, code := some k12c1 }
/-- java/lang/Math -/
def k12 : Class := { plain "java/lang/Math" (some 0) with
  accessFlags := 49
  interfaces := #[]
  cf := some (fileOf pool12 1 #[.nestMembers #[98]] #[{ accessFlags := 2, nameIndex := 7, descriptorIndex := 8, attributes := #[] }, { accessFlags := 9, nameIndex := 198, descriptorIndex := 121, attributes := #[] }] 49 4 #[] #[{ accessFlags := 25, nameIndex := 354, descriptorIndex := 339, attributes := #[] }, { accessFlags := 25, nameIndex := 358, descriptorIndex := 339, attributes := #[] }, { accessFlags := 25, nameIndex := 361, descriptorIndex := 339, attributes := #[] }, { accessFlags := 26, nameIndex := 364, descriptorIndex := 339, attributes := #[] }, { accessFlags := 26, nameIndex := 365, descriptorIndex := 339, attributes := #[] }, { accessFlags := 26, nameIndex := 172, descriptorIndex := 173, attributes := #[] }, { accessFlags := 26, nameIndex := 176, descriptorIndex := 173, attributes := #[] }, { accessFlags := 8, nameIndex := 344, descriptorIndex := 339, attributes := #[] }, { accessFlags := 8, nameIndex := 338, descriptorIndex := 339, attributes := #[] }, { accessFlags := 4120, nameIndex := 245, descriptorIndex := 246, attributes := #[] }])
  fields := #[{ name := "E", type := .double, accessFlags := 25, slot := 0, constantValue := 0 }, { name := "PI", type := .double, accessFlags := 25, slot := 1, constantValue := 0 }, { name := "TAU", type := .double, accessFlags := 25, slot := 2, constantValue := 0 }, { name := "DEGREES_TO_RADIANS", type := .double, accessFlags := 26, slot := 3, constantValue := 0 }, { name := "RADIANS_TO_DEGREES", type := .double, accessFlags := 26, slot := 4, constantValue := 0 }, { name := "negativeZeroFloatBits", type := .long, accessFlags := 26, slot := 5, constantValue := 0 }, { name := "negativeZeroDoubleBits", type := .long, accessFlags := 26, slot := 6, constantValue := 0 }, { name := "twoToTheDoubleScaleUp", type := .double, accessFlags := 8, slot := 7, constantValue := 0 }, { name := "twoToTheDoubleScaleDown", type := .double, accessFlags := 8, slot := 8, constantValue := 0 }, { name := "$assertionsDisabled", type := .boolean, accessFlags := 4120, slot := 9, constantValue := 0 }]
  methods := #[k12m0, k12m1]
  instanceTypes := #[]
  staticTypes := #[.double, .double, .double, .double, .double, .long, .long, .double, .double, .boolean]
  resolved := Array.replicate 460 none
  statics := none }

def pool13 : Array CpInfo := pool [(1, u "java/lang/Cloneable"), (0, .class_ 1), (0, u "java/lang/Object"), (0, .class_ 3)] 3

/-- java/lang/Cloneable -/
def k13 : Class := { plain "java/lang/Cloneable" (some 0) with
  accessFlags := 1537
  interfaces := #[]
  cf := some (fileOf pool13 2 #[] #[] 1537 4 #[] #[])
  fields := #[]
  methods := #[]
  instanceTypes := #[]
  staticTypes := #[]
  resolved := Array.replicate 8 none
  statics := none }

/-- the primitive byte -/
def k14 : Class := { plain "byte" none with kind := .primitive 'B', accessFlags := 0x411 }
/-- [B -/
def k15 : Class := { plain "[B" (some 0) with kind := .array 14 .byte, interfaces := #[13, 4], accessFlags := 1041 }

/-- the primitive int -/
def k16 : Class := { plain "int" none with kind := .primitive 'I', accessFlags := 0x411 }
/-- [I -/
def k17 : Class := { plain "[I" (some 0) with kind := .array 16 .int, interfaces := #[13, 4], accessFlags := 1041 }

/-- [Ljava/lang/Integer; -/
def k18 : Class := { plain "[Ljava/lang/Integer;" (some 0) with kind := .array 9 (.object "java/lang/Integer"), interfaces := #[13, 4], accessFlags := 1041 }

def heap : Heap := #[{ cls := 10, slots := #[.int 0, .int 127, .ref 1, .null, .int 0], vm := .statics 10 },
  { cls := 18, slots := #[.ref 2, .ref 3, .ref 4, .ref 5, .ref 6, .ref 7, .ref 8, .ref 9, .ref 10, .ref 11, .ref 12, .ref 13, .ref 14, .ref 15, .ref 16, .ref 17, .ref 18, .ref 19, .ref 20, .ref 21, .ref 22, .ref 23, .ref 24, .ref 25, .ref 26, .ref 27, .ref 28, .ref 29, .ref 30, .ref 31, .ref 32, .ref 33, .ref 34, .ref 35, .ref 36, .ref 37, .ref 38, .ref 39, .ref 40, .ref 41, .ref 42, .ref 43, .ref 44, .ref 45, .ref 46, .ref 47, .ref 48, .ref 49, .ref 50, .ref 51, .ref 52, .ref 53, .ref 54, .ref 55, .ref 56, .ref 57, .ref 58, .ref 59, .ref 60, .ref 61, .ref 62, .ref 63, .ref 64, .ref 65, .ref 66, .ref 67, .ref 68, .ref 69, .ref 70, .ref 71, .ref 72, .ref 73, .ref 74, .ref 75, .ref 76, .ref 77, .ref 78, .ref 79, .ref 80, .ref 81, .ref 82, .ref 83, .ref 84, .ref 85, .ref 86, .ref 87, .ref 88, .ref 89, .ref 90, .ref 91, .ref 92, .ref 93, .ref 94, .ref 95, .ref 96, .ref 97, .ref 98, .ref 99, .ref 100, .ref 101, .ref 102, .ref 103, .ref 104, .ref 105, .ref 106, .ref 107, .ref 108, .ref 109, .ref 110, .ref 111, .ref 112, .ref 113, .ref 114, .ref 115, .ref 116, .ref 117, .ref 118, .ref 119, .ref 120, .ref 121, .ref 122, .ref 123, .ref 124, .ref 125, .ref 126, .ref 127, .ref 128, .ref 129, .ref 130, .ref 131, .ref 132, .ref 133, .ref 134, .ref 135, .ref 136, .ref 137, .ref 138, .ref 139, .ref 140, .ref 141, .ref 142, .ref 143, .ref 144, .ref 145, .ref 146, .ref 147, .ref 148, .ref 149, .ref 150, .ref 151, .ref 152, .ref 153, .ref 154, .ref 155, .ref 156, .ref 157, .ref 158, .ref 159, .ref 160, .ref 161, .ref 162, .ref 163, .ref 164, .ref 165, .ref 166, .ref 167, .ref 168, .ref 169, .ref 170, .ref 171, .ref 172, .ref 173, .ref 174, .ref 175, .ref 176, .ref 177, .ref 178, .ref 179, .ref 180, .ref 181, .ref 182, .ref 183, .ref 184, .ref 185, .ref 186, .ref 187, .ref 188, .ref 189, .ref 190, .ref 191, .ref 192, .ref 193, .ref 194, .ref 195, .ref 196, .ref 197, .ref 198, .ref 199, .ref 200, .ref 201, .ref 202, .ref 203, .ref 204, .ref 205, .ref 206, .ref 207, .ref 208, .ref 209, .ref 210, .ref 211, .ref 212, .ref 213, .ref 214, .ref 215, .ref 216, .ref 217, .ref 218, .ref 219, .ref 220, .ref 221, .ref 222, .ref 223, .ref 224, .ref 225, .ref 226, .ref 227, .ref 228, .ref 229, .ref 230, .ref 231, .ref 232, .ref 233, .ref 234, .ref 235, .ref 236, .ref 237, .ref 238, .ref 239, .ref 240, .ref 241, .ref 242, .ref 243, .ref 244, .ref 245, .ref 246, .ref 247, .ref 248, .ref 249, .ref 250, .ref 251, .ref 252, .ref 253, .ref 254, .ref 255, .ref 256, .ref 257], vm := .none },
  { cls := 9, slots := #[.int (-128)], vm := .none },
  { cls := 9, slots := #[.int (-127)], vm := .none },
  { cls := 9, slots := #[.int (-126)], vm := .none },
  { cls := 9, slots := #[.int (-125)], vm := .none },
  { cls := 9, slots := #[.int (-124)], vm := .none },
  { cls := 9, slots := #[.int (-123)], vm := .none },
  { cls := 9, slots := #[.int (-122)], vm := .none },
  { cls := 9, slots := #[.int (-121)], vm := .none },
  { cls := 9, slots := #[.int (-120)], vm := .none },
  { cls := 9, slots := #[.int (-119)], vm := .none },
  { cls := 9, slots := #[.int (-118)], vm := .none },
  { cls := 9, slots := #[.int (-117)], vm := .none },
  { cls := 9, slots := #[.int (-116)], vm := .none },
  { cls := 9, slots := #[.int (-115)], vm := .none },
  { cls := 9, slots := #[.int (-114)], vm := .none },
  { cls := 9, slots := #[.int (-113)], vm := .none },
  { cls := 9, slots := #[.int (-112)], vm := .none },
  { cls := 9, slots := #[.int (-111)], vm := .none },
  { cls := 9, slots := #[.int (-110)], vm := .none },
  { cls := 9, slots := #[.int (-109)], vm := .none },
  { cls := 9, slots := #[.int (-108)], vm := .none },
  { cls := 9, slots := #[.int (-107)], vm := .none },
  { cls := 9, slots := #[.int (-106)], vm := .none },
  { cls := 9, slots := #[.int (-105)], vm := .none },
  { cls := 9, slots := #[.int (-104)], vm := .none },
  { cls := 9, slots := #[.int (-103)], vm := .none },
  { cls := 9, slots := #[.int (-102)], vm := .none },
  { cls := 9, slots := #[.int (-101)], vm := .none },
  { cls := 9, slots := #[.int (-100)], vm := .none },
  { cls := 9, slots := #[.int (-99)], vm := .none },
  { cls := 9, slots := #[.int (-98)], vm := .none },
  { cls := 9, slots := #[.int (-97)], vm := .none },
  { cls := 9, slots := #[.int (-96)], vm := .none },
  { cls := 9, slots := #[.int (-95)], vm := .none },
  { cls := 9, slots := #[.int (-94)], vm := .none },
  { cls := 9, slots := #[.int (-93)], vm := .none },
  { cls := 9, slots := #[.int (-92)], vm := .none },
  { cls := 9, slots := #[.int (-91)], vm := .none },
  { cls := 9, slots := #[.int (-90)], vm := .none },
  { cls := 9, slots := #[.int (-89)], vm := .none },
  { cls := 9, slots := #[.int (-88)], vm := .none },
  { cls := 9, slots := #[.int (-87)], vm := .none },
  { cls := 9, slots := #[.int (-86)], vm := .none },
  { cls := 9, slots := #[.int (-85)], vm := .none },
  { cls := 9, slots := #[.int (-84)], vm := .none },
  { cls := 9, slots := #[.int (-83)], vm := .none },
  { cls := 9, slots := #[.int (-82)], vm := .none },
  { cls := 9, slots := #[.int (-81)], vm := .none },
  { cls := 9, slots := #[.int (-80)], vm := .none },
  { cls := 9, slots := #[.int (-79)], vm := .none },
  { cls := 9, slots := #[.int (-78)], vm := .none },
  { cls := 9, slots := #[.int (-77)], vm := .none },
  { cls := 9, slots := #[.int (-76)], vm := .none },
  { cls := 9, slots := #[.int (-75)], vm := .none },
  { cls := 9, slots := #[.int (-74)], vm := .none },
  { cls := 9, slots := #[.int (-73)], vm := .none },
  { cls := 9, slots := #[.int (-72)], vm := .none },
  { cls := 9, slots := #[.int (-71)], vm := .none },
  { cls := 9, slots := #[.int (-70)], vm := .none },
  { cls := 9, slots := #[.int (-69)], vm := .none },
  { cls := 9, slots := #[.int (-68)], vm := .none },
  { cls := 9, slots := #[.int (-67)], vm := .none },
  { cls := 9, slots := #[.int (-66)], vm := .none },
  { cls := 9, slots := #[.int (-65)], vm := .none },
  { cls := 9, slots := #[.int (-64)], vm := .none },
  { cls := 9, slots := #[.int (-63)], vm := .none },
  { cls := 9, slots := #[.int (-62)], vm := .none },
  { cls := 9, slots := #[.int (-61)], vm := .none },
  { cls := 9, slots := #[.int (-60)], vm := .none },
  { cls := 9, slots := #[.int (-59)], vm := .none },
  { cls := 9, slots := #[.int (-58)], vm := .none },
  { cls := 9, slots := #[.int (-57)], vm := .none },
  { cls := 9, slots := #[.int (-56)], vm := .none },
  { cls := 9, slots := #[.int (-55)], vm := .none },
  { cls := 9, slots := #[.int (-54)], vm := .none },
  { cls := 9, slots := #[.int (-53)], vm := .none },
  { cls := 9, slots := #[.int (-52)], vm := .none },
  { cls := 9, slots := #[.int (-51)], vm := .none },
  { cls := 9, slots := #[.int (-50)], vm := .none },
  { cls := 9, slots := #[.int (-49)], vm := .none },
  { cls := 9, slots := #[.int (-48)], vm := .none },
  { cls := 9, slots := #[.int (-47)], vm := .none },
  { cls := 9, slots := #[.int (-46)], vm := .none },
  { cls := 9, slots := #[.int (-45)], vm := .none },
  { cls := 9, slots := #[.int (-44)], vm := .none },
  { cls := 9, slots := #[.int (-43)], vm := .none },
  { cls := 9, slots := #[.int (-42)], vm := .none },
  { cls := 9, slots := #[.int (-41)], vm := .none },
  { cls := 9, slots := #[.int (-40)], vm := .none },
  { cls := 9, slots := #[.int (-39)], vm := .none },
  { cls := 9, slots := #[.int (-38)], vm := .none },
  { cls := 9, slots := #[.int (-37)], vm := .none },
  { cls := 9, slots := #[.int (-36)], vm := .none },
  { cls := 9, slots := #[.int (-35)], vm := .none },
  { cls := 9, slots := #[.int (-34)], vm := .none },
  { cls := 9, slots := #[.int (-33)], vm := .none },
  { cls := 9, slots := #[.int (-32)], vm := .none },
  { cls := 9, slots := #[.int (-31)], vm := .none },
  { cls := 9, slots := #[.int (-30)], vm := .none },
  { cls := 9, slots := #[.int (-29)], vm := .none },
  { cls := 9, slots := #[.int (-28)], vm := .none },
  { cls := 9, slots := #[.int (-27)], vm := .none },
  { cls := 9, slots := #[.int (-26)], vm := .none },
  { cls := 9, slots := #[.int (-25)], vm := .none },
  { cls := 9, slots := #[.int (-24)], vm := .none },
  { cls := 9, slots := #[.int (-23)], vm := .none },
  { cls := 9, slots := #[.int (-22)], vm := .none },
  { cls := 9, slots := #[.int (-21)], vm := .none },
  { cls := 9, slots := #[.int (-20)], vm := .none },
  { cls := 9, slots := #[.int (-19)], vm := .none },
  { cls := 9, slots := #[.int (-18)], vm := .none },
  { cls := 9, slots := #[.int (-17)], vm := .none },
  { cls := 9, slots := #[.int (-16)], vm := .none },
  { cls := 9, slots := #[.int (-15)], vm := .none },
  { cls := 9, slots := #[.int (-14)], vm := .none },
  { cls := 9, slots := #[.int (-13)], vm := .none },
  { cls := 9, slots := #[.int (-12)], vm := .none },
  { cls := 9, slots := #[.int (-11)], vm := .none },
  { cls := 9, slots := #[.int (-10)], vm := .none },
  { cls := 9, slots := #[.int (-9)], vm := .none },
  { cls := 9, slots := #[.int (-8)], vm := .none },
  { cls := 9, slots := #[.int (-7)], vm := .none },
  { cls := 9, slots := #[.int (-6)], vm := .none },
  { cls := 9, slots := #[.int (-5)], vm := .none },
  { cls := 9, slots := #[.int (-4)], vm := .none },
  { cls := 9, slots := #[.int (-3)], vm := .none },
  { cls := 9, slots := #[.int (-2)], vm := .none },
  { cls := 9, slots := #[.int (-1)], vm := .none },
  { cls := 9, slots := #[.int 0], vm := .none },
  { cls := 9, slots := #[.int 1], vm := .none },
  { cls := 9, slots := #[.int 2], vm := .none },
  { cls := 9, slots := #[.int 3], vm := .none },
  { cls := 9, slots := #[.int 4], vm := .none },
  { cls := 9, slots := #[.int 5], vm := .none },
  { cls := 9, slots := #[.int 6], vm := .none },
  { cls := 9, slots := #[.int 7], vm := .none },
  { cls := 9, slots := #[.int 8], vm := .none },
  { cls := 9, slots := #[.int 9], vm := .none },
  { cls := 9, slots := #[.int 10], vm := .none },
  { cls := 9, slots := #[.int 11], vm := .none },
  { cls := 9, slots := #[.int 12], vm := .none },
  { cls := 9, slots := #[.int 13], vm := .none },
  { cls := 9, slots := #[.int 14], vm := .none },
  { cls := 9, slots := #[.int 15], vm := .none },
  { cls := 9, slots := #[.int 16], vm := .none },
  { cls := 9, slots := #[.int 17], vm := .none },
  { cls := 9, slots := #[.int 18], vm := .none },
  { cls := 9, slots := #[.int 19], vm := .none },
  { cls := 9, slots := #[.int 20], vm := .none },
  { cls := 9, slots := #[.int 21], vm := .none },
  { cls := 9, slots := #[.int 22], vm := .none },
  { cls := 9, slots := #[.int 23], vm := .none },
  { cls := 9, slots := #[.int 24], vm := .none },
  { cls := 9, slots := #[.int 25], vm := .none },
  { cls := 9, slots := #[.int 26], vm := .none },
  { cls := 9, slots := #[.int 27], vm := .none },
  { cls := 9, slots := #[.int 28], vm := .none },
  { cls := 9, slots := #[.int 29], vm := .none },
  { cls := 9, slots := #[.int 30], vm := .none },
  { cls := 9, slots := #[.int 31], vm := .none },
  { cls := 9, slots := #[.int 32], vm := .none },
  { cls := 9, slots := #[.int 33], vm := .none },
  { cls := 9, slots := #[.int 34], vm := .none },
  { cls := 9, slots := #[.int 35], vm := .none },
  { cls := 9, slots := #[.int 36], vm := .none },
  { cls := 9, slots := #[.int 37], vm := .none },
  { cls := 9, slots := #[.int 38], vm := .none },
  { cls := 9, slots := #[.int 39], vm := .none },
  { cls := 9, slots := #[.int 40], vm := .none },
  { cls := 9, slots := #[.int 41], vm := .none },
  { cls := 9, slots := #[.int 42], vm := .none },
  { cls := 9, slots := #[.int 43], vm := .none },
  { cls := 9, slots := #[.int 44], vm := .none },
  { cls := 9, slots := #[.int 45], vm := .none },
  { cls := 9, slots := #[.int 46], vm := .none },
  { cls := 9, slots := #[.int 47], vm := .none },
  { cls := 9, slots := #[.int 48], vm := .none },
  { cls := 9, slots := #[.int 49], vm := .none },
  { cls := 9, slots := #[.int 50], vm := .none },
  { cls := 9, slots := #[.int 51], vm := .none },
  { cls := 9, slots := #[.int 52], vm := .none },
  { cls := 9, slots := #[.int 53], vm := .none },
  { cls := 9, slots := #[.int 54], vm := .none },
  { cls := 9, slots := #[.int 55], vm := .none },
  { cls := 9, slots := #[.int 56], vm := .none },
  { cls := 9, slots := #[.int 57], vm := .none },
  { cls := 9, slots := #[.int 58], vm := .none },
  { cls := 9, slots := #[.int 59], vm := .none },
  { cls := 9, slots := #[.int 60], vm := .none },
  { cls := 9, slots := #[.int 61], vm := .none },
  { cls := 9, slots := #[.int 62], vm := .none },
  { cls := 9, slots := #[.int 63], vm := .none },
  { cls := 9, slots := #[.int 64], vm := .none },
  { cls := 9, slots := #[.int 65], vm := .none },
  { cls := 9, slots := #[.int 66], vm := .none },
  { cls := 9, slots := #[.int 67], vm := .none },
  { cls := 9, slots := #[.int 68], vm := .none },
  { cls := 9, slots := #[.int 69], vm := .none },
  { cls := 9, slots := #[.int 70], vm := .none },
  { cls := 9, slots := #[.int 71], vm := .none },
  { cls := 9, slots := #[.int 72], vm := .none },
  { cls := 9, slots := #[.int 73], vm := .none },
  { cls := 9, slots := #[.int 74], vm := .none },
  { cls := 9, slots := #[.int 75], vm := .none },
  { cls := 9, slots := #[.int 76], vm := .none },
  { cls := 9, slots := #[.int 77], vm := .none },
  { cls := 9, slots := #[.int 78], vm := .none },
  { cls := 9, slots := #[.int 79], vm := .none },
  { cls := 9, slots := #[.int 80], vm := .none },
  { cls := 9, slots := #[.int 81], vm := .none },
  { cls := 9, slots := #[.int 82], vm := .none },
  { cls := 9, slots := #[.int 83], vm := .none },
  { cls := 9, slots := #[.int 84], vm := .none },
  { cls := 9, slots := #[.int 85], vm := .none },
  { cls := 9, slots := #[.int 86], vm := .none },
  { cls := 9, slots := #[.int 87], vm := .none },
  { cls := 9, slots := #[.int 88], vm := .none },
  { cls := 9, slots := #[.int 89], vm := .none },
  { cls := 9, slots := #[.int 90], vm := .none },
  { cls := 9, slots := #[.int 91], vm := .none },
  { cls := 9, slots := #[.int 92], vm := .none },
  { cls := 9, slots := #[.int 93], vm := .none },
  { cls := 9, slots := #[.int 94], vm := .none },
  { cls := 9, slots := #[.int 95], vm := .none },
  { cls := 9, slots := #[.int 96], vm := .none },
  { cls := 9, slots := #[.int 97], vm := .none },
  { cls := 9, slots := #[.int 98], vm := .none },
  { cls := 9, slots := #[.int 99], vm := .none },
  { cls := 9, slots := #[.int 100], vm := .none },
  { cls := 9, slots := #[.int 101], vm := .none },
  { cls := 9, slots := #[.int 102], vm := .none },
  { cls := 9, slots := #[.int 103], vm := .none },
  { cls := 9, slots := #[.int 104], vm := .none },
  { cls := 9, slots := #[.int 105], vm := .none },
  { cls := 9, slots := #[.int 106], vm := .none },
  { cls := 9, slots := #[.int 107], vm := .none },
  { cls := 9, slots := #[.int 108], vm := .none },
  { cls := 9, slots := #[.int 109], vm := .none },
  { cls := 9, slots := #[.int 110], vm := .none },
  { cls := 9, slots := #[.int 111], vm := .none },
  { cls := 9, slots := #[.int 112], vm := .none },
  { cls := 9, slots := #[.int 113], vm := .none },
  { cls := 9, slots := #[.int 114], vm := .none },
  { cls := 9, slots := #[.int 115], vm := .none },
  { cls := 9, slots := #[.int 116], vm := .none },
  { cls := 9, slots := #[.int 117], vm := .none },
  { cls := 9, slots := #[.int 118], vm := .none },
  { cls := 9, slots := #[.int 119], vm := .none },
  { cls := 9, slots := #[.int 120], vm := .none },
  { cls := 9, slots := #[.int 121], vm := .none },
  { cls := 9, slots := #[.int 122], vm := .none },
  { cls := 9, slots := #[.int 123], vm := .none },
  { cls := 9, slots := #[.int 124], vm := .none },
  { cls := 9, slots := #[.int 125], vm := .none },
  { cls := 9, slots := #[.int 126], vm := .none },
  { cls := 9, slots := #[.int 127], vm := .none }]
def classes : Array Class := #[k0, k1, k2, k3, k4, k5, k6, k7, k8, k9, k10, k11, k12, k13, k14, k15, k16, k17, k18]
def interned : List (Array UInt16 × Addr) := []
def slotsUsed : Nat := 517
def theMethod : MethodId := ⟨1, 2⟩
def args0 : Array Value := #[.long 1, .long 2, .long 3, .long 4, .long 5, .int 7]
def aboutOver (below : List Frame) : State where
  vm := { classes := classes, interned := interned.toArray }
  heap := heap
  slotsUsed := slotsUsed
  threads := #[{ frames := .invoking theMethod args0 :: below }]
def below0 : List Frame := [.native { method := ⟨0, 0⟩, args := #[] }]
def about1 : State := aboutOver below0
def p0 : Program := .bare "" "" ""
def e0 : Env := launch0.env 0 0 0
theorem w_frames : about1.frames = Frame.invoking theMethod args0 :: below0 := rfl
set_option maxRecDepth 65536 in
theorem w_args : argsFit about1.vm theMethod args0 = true := by decide +kernel
set_option maxRecDepth 65536 in
theorem w_heap : heapFits about1 = true := by decide +kernel
set_option maxRecDepth 65536 in
theorem w_runnable : about1.curStatus? = some .runnable := by decide +kernel
set_option maxRecDepth 65536 in
theorem w_alone : about1.alone = true := by decide +kernel
set_option maxRecDepth 65536 in
theorem w_named : about1.methodNamed? x = some theMethod := by decide +kernel
set_option maxRecDepth 65536 in
theorem w_hears : about1.hears theMethod below0 = true := by decide +kernel
set_option maxRecDepth 65536 in
theorem w_ripe : about1.ripe theMethod args0 below0 = true := by decide +kernel
theorem w_running : about1.status = .running := rfl
set_option maxRecDepth 65536 in
theorem w_room : about1.hasRoom e0.platform room_1 = true :=
  launch0.hasRoom_least _ room_1 (by decide +kernel) (by decide +kernel) (by decide +kernel) (by decide +kernel) (by decide +kernel) (by decide +kernel)
theorem allAtoms_all (ts : List Jvm.Cond) (a : Array Jvm.Value) (st : Jvm.State) : (allAtoms ts).before a st = ts.all (fun c => c.before a st) := by
  induction ts with
  | nil => rfl
  | cons c t ih =>
    show (Jvm.Cond.and c (allAtoms t)).before a st = _
    rw [Jvm.Cond.before_and, ih, List.all_cons]
def words1 : List Jvm.Cond := Jvm.Cond.code x code maxLocals ret :: tables_1
/-- a 'code' word, met by the world's own term for the bytes: nothing is compared byte by byte -/
theorem code_word {y : MethodName} {bytes : ByteArray} {mx : Nat} {rt : Option FieldType} {a : Array Value} {s : State} {m : MethodId} {meth : Method} {c : Code} (h1 : s.methodNamed? y = some m) (h2 : s.vm.method? m = some meth) (h3 : meth.code = some c) (h4 : c.code = bytes)
    (h5 : (c.maxLocals == mx && c.exceptionTable.isEmpty && decide (c.maxStack ≤ mostOperands) && decide (meth.sig.returnType = rt) && !meth.locks && decide (parseMethodDescriptor y.desc = some meth.sig)) = true) : (Jvm.Cond.code y bytes mx rt).before a s = true := by
  simp only [Bool.and_eq_true, beq_iff_eq, Bool.not_eq_true', decide_eq_true_eq] at h5
  obtain ⟨⟨⟨⟨⟨g1, g2⟩, g3⟩, g4⟩, g5⟩, g6⟩ := h5
  simp [Cond.before, Cond.holds, Cond.value, h1, h2, h3, h4, g1, g2, g3, g4, g5, g6]
def isCode : Jvm.Cond → Bool
  | .code _ _ _ _ => true
  | _ => false
theorem all_split {L : List Jvm.Cond} {P : Jvm.Cond → Bool} (h1 : L.all (fun c => isCode c || P c) = true) (h2 : ∀ c ∈ L.filter isCode, P c = true) : L.all P = true := by
  refine List.all_eq_true.mpr fun c hc => ?_
  have h := List.all_eq_true.mp h1 c hc
  rcases Bool.eq_false_or_eq_true (isCode c) with hi | hi
  · exact h2 c (List.mem_filter.mpr ⟨hc, hi⟩)
  · simpa [hi] using h
set_option maxRecDepth 65536 in
theorem w_c0 : (Jvm.Cond.code x code maxLocals ret).before args0 about1 = true := code_word (m := ⟨1, 2⟩) (meth := k1m2) (c := k1c2) (by decide +kernel) rfl rfl rfl (by decide +kernel)
set_option maxRecDepth 65536 in
theorem w_c1 : (Jvm.Cond.code ({ cls := "com/example/examwright/examwright/Method$Attempt", name := "<init>", desc := "(Ljava/lang/Object;Ljava/util/List;)V" } : Jvm.MethodName) prog_26_method_1_code (3 : Nat) (Option.none : Option Jvm.ClassFile.FieldType)).before args0 about1 = true := code_word (m := ⟨3, 0⟩) (meth := k3m0) (c := k3c0) (by decide +kernel) rfl rfl rfl (by decide +kernel)
set_option maxRecDepth 65536 in
theorem w_c2 : (Jvm.Cond.code ({ cls := "java/lang/Record", name := "<init>", desc := "()V" } : Jvm.MethodName) jdk_30_method_1_code (1 : Nat) (Option.none : Option Jvm.ClassFile.FieldType)).before args0 about1 = true := code_word (m := ⟨2, 0⟩) (meth := k2m0) (c := k2c0) (by decide +kernel) rfl rfl rfl (by decide +kernel)
set_option maxRecDepth 65536 in
theorem w_c3 : (Jvm.Cond.code ({ cls := "java/lang/Object", name := "<init>", desc := "()V" } : Jvm.MethodName) object_method_1_code (1 : Nat) (Option.none : Option Jvm.ClassFile.FieldType)).before args0 about1 = true := code_word (m := ⟨0, 0⟩) (meth := k0m0) (c := k0c0) (by decide +kernel) rfl rfl rfl (by decide +kernel)
set_option maxRecDepth 65536 in
theorem w_c4 : (Jvm.Cond.code ({ cls := "java/lang/Integer", name := "valueOf", desc := "(I)Ljava/lang/Integer;" } : Jvm.MethodName) jdk_33_method_22_code (1 : Nat) (Option.some (Jvm.ClassFile.FieldType.object "java/lang/Integer"))).before args0 about1 = true := code_word (m := ⟨9, 0⟩) (meth := k9m0) (c := k9c0) (by decide +kernel) rfl rfl rfl (by decide +kernel)
set_option maxRecDepth 65536 in
theorem w_c5 : (Jvm.Cond.code ({ cls := "com/example/examwright/examwright/Tally", name := "<init>", desc := "()V" } : Jvm.MethodName) prog_38_method_1_code (1 : Nat) (Option.none : Option Jvm.ClassFile.FieldType)).before args0 about1 = true := code_word (m := ⟨11, 0⟩) (meth := k11m0) (c := k11c0) (by decide +kernel) rfl rfl rfl (by decide +kernel)
set_option maxRecDepth 65536 in
theorem w_c6 : (Jvm.Cond.code ({ cls := "com/example/examwright/examwright/Tally", name := "reported", desc := "()Lcom/example/examwright/examwright/Method$Attempt;" } : Jvm.MethodName) prog_38_method_10_code (1 : Nat) (Option.some (Jvm.ClassFile.FieldType.object "com/example/examwright/examwright/Method$Attempt"))).before args0 about1 = true := code_word (m := ⟨11, 2⟩) (meth := k11m2) (c := k11c2) (by decide +kernel) rfl rfl rfl (by decide +kernel)
set_option maxRecDepth 65536 in
theorem w_c7 : (Jvm.Cond.code ({ cls := "com/example/examwright/examwright/Method$Attempt", name := "run", desc := "()Ljava/lang/Object;" } : Jvm.MethodName) prog_26_method_5_code (1 : Nat) (Option.some (Jvm.ClassFile.FieldType.object "java/lang/Object"))).before args0 about1 = true := code_word (m := ⟨3, 1⟩) (meth := k3m1) (c := k3c1) (by decide +kernel) rfl rfl rfl (by decide +kernel)
set_option maxRecDepth 65536 in
theorem w_c8 : (Jvm.Cond.code ({ cls := "java/lang/Math", name := "max", desc := "(JJ)J" } : Jvm.MethodName) jdk_29_method_66_code (4 : Nat) (Option.some Jvm.ClassFile.FieldType.long)).before args0 about1 = true := code_word (m := ⟨12, 1⟩) (meth := k12m1) (c := k12c1) (by decide +kernel) rfl rfl rfl (by decide +kernel)
set_option maxRecDepth 65536 in
theorem w_c9 : (Jvm.Cond.code ({ cls := "com/example/examwright/examwright/TallyReportedPinLaw", name := "le", desc := "(JJJJ)Z" } : Jvm.MethodName) method_2_code (8 : Nat) (Option.some Jvm.ClassFile.FieldType.boolean)).before args0 about1 = true := code_word (m := ⟨1, 1⟩) (meth := k1m1) (c := k1c1) (by decide +kernel) rfl rfl rfl (by decide +kernel)
def codes1 : List Jvm.Cond := [Jvm.Cond.code x code maxLocals ret, Jvm.Cond.code ({ cls := "com/example/examwright/examwright/Method$Attempt", name := "<init>", desc := "(Ljava/lang/Object;Ljava/util/List;)V" } : Jvm.MethodName) prog_26_method_1_code (3 : Nat) (Option.none : Option Jvm.ClassFile.FieldType), Jvm.Cond.code ({ cls := "java/lang/Record", name := "<init>", desc := "()V" } : Jvm.MethodName) jdk_30_method_1_code (1 : Nat) (Option.none : Option Jvm.ClassFile.FieldType), Jvm.Cond.code ({ cls := "java/lang/Object", name := "<init>", desc := "()V" } : Jvm.MethodName) object_method_1_code (1 : Nat) (Option.none : Option Jvm.ClassFile.FieldType), Jvm.Cond.code ({ cls := "java/lang/Integer", name := "valueOf", desc := "(I)Ljava/lang/Integer;" } : Jvm.MethodName) jdk_33_method_22_code (1 : Nat) (Option.some (Jvm.ClassFile.FieldType.object "java/lang/Integer")), Jvm.Cond.code ({ cls := "com/example/examwright/examwright/Tally", name := "<init>", desc := "()V" } : Jvm.MethodName) prog_38_method_1_code (1 : Nat) (Option.none : Option Jvm.ClassFile.FieldType), Jvm.Cond.code ({ cls := "com/example/examwright/examwright/Tally", name := "reported", desc := "()Lcom/example/examwright/examwright/Method$Attempt;" } : Jvm.MethodName) prog_38_method_10_code (1 : Nat) (Option.some (Jvm.ClassFile.FieldType.object "com/example/examwright/examwright/Method$Attempt")), Jvm.Cond.code ({ cls := "com/example/examwright/examwright/Method$Attempt", name := "run", desc := "()Ljava/lang/Object;" } : Jvm.MethodName) prog_26_method_5_code (1 : Nat) (Option.some (Jvm.ClassFile.FieldType.object "java/lang/Object")), Jvm.Cond.code ({ cls := "java/lang/Math", name := "max", desc := "(JJ)J" } : Jvm.MethodName) jdk_29_method_66_code (4 : Nat) (Option.some Jvm.ClassFile.FieldType.long), Jvm.Cond.code ({ cls := "com/example/examwright/examwright/TallyReportedPinLaw", name := "le", desc := "(JJJJ)Z" } : Jvm.MethodName) method_2_code (8 : Nat) (Option.some Jvm.ClassFile.FieldType.boolean)]
set_option maxRecDepth 65536 in
theorem codes_eq : words1.filter isCode = codes1 := rfl
theorem w_codes : ∀ c ∈ words1.filter isCode, c.before args0 about1 = true := by
  rw [codes_eq]
  intro c hc
  simp only [codes1, List.mem_cons, List.not_mem_nil, or_false] at hc
  rcases hc with rfl | rfl | rfl | rfl | rfl | rfl | rfl | rfl | rfl | rfl
  · exact w_c0
  · exact w_c1
  · exact w_c2
  · exact w_c3
  · exact w_c4
  · exact w_c5
  · exact w_c6
  · exact w_c7
  · exact w_c8
  · exact w_c9
set_option maxRecDepth 65536 in
theorem w_t1 : (words1.take 24).all (fun c => isCode c || c.before args0 about1) = true := by decide +kernel
set_option maxRecDepth 65536 in
theorem w_t2 : ((words1.drop 24).take 24).all (fun c => isCode c || c.before args0 about1) = true := by decide +kernel
set_option maxRecDepth 65536 in
theorem w_t3 : ((words1.drop 24).drop 24).all (fun c => isCode c || c.before args0 about1) = true := by decide +kernel
theorem w_tables : (allAtoms (Jvm.Cond.code x code maxLocals ret :: tables_1)).before args0 about1 = true := by
  rw [allAtoms_all]
  show words1.all (fun c => c.before args0 about1) = true
  refine all_split ?_ w_codes
  rw [← List.take_append_drop 24 words1, List.all_append, w_t1, ← List.take_append_drop 24 (words1.drop 24), List.all_append, w_t2, w_t3]
  rfl
set_option maxRecDepth 65536 in
theorem w_rest : rest_1_c.before args0 about1 = true := by decide +kernel
set_option maxRecDepth 65536 in
theorem w_case : (Jvm.Cond.and given_1 narrow_1).before args0 about1 = true := by decide +kernel
theorem w_applies : (headSpec (Jvm.Cond.code x code maxLocals ret :: tables_1) room_1).applies x e0.platform about1 = true :=
  (Spec.applies_iff w_frames).mpr ⟨w_running, w_runnable, w_alone, w_named, w_hears, w_ripe, w_room, w_tables⟩
theorem atStart : AtStart classFile x code maxLocals ret World_1 tables_1 room_1 Calls_1 rest_1 Pre_1 launch0 p0 e0 about1 theMethod args0 below0 :=
  ⟨lists_1, trivial, launch0.admits_env _ _ _, launch0.least_env, fairChoices_fair.cas, fairChoices_fair.clock, w_frames, w_args, w_heap, w_applies, trivial, w_rest, w_case⟩
end start1
theorem witness_1 : WitnessClaimed_1 := ⟨start1.p0, start1.e0, start1.about1, start1.theMethod, start1.args0, start1.below0, start1.atStart⟩
end Jvm.Pilot.@@N@@
