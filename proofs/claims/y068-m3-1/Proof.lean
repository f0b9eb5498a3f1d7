import JvmDerived
import JvmDerived.Pilot.@@N@@Statement
import JvmDerived.Pilot.@@N@@Code
set_option linter.unusedVariables false
set_option linter.unusedSimpArgs false
/- laws to paste: Road.backV (cut by pick.py; bodies as the Statement names them) -/
namespace Jvm.Pilot.@@N@@
namespace StrChars
open Jvm Sem ClassFile Op Lib Jvm.Stand Jvm.Free.XT Jvm.Free.ALB Jvm.Free.JM Jvm.Free
open Jvm.Lib.Cold (StaticIs)
/-- a char array whose places are chars -/
def Ch (a : Addr) (A : Cell) (U : State) : Prop := Arr .char a A U ∧ Typed .char A
theorem Ch.mv {a : Addr} {A : Cell} {U U' : State} (h : Ch a A U) (hal : U.vm.Alike U'.vm) (hh : U'.heap = U.heap) : Ch a A U' := ⟨h.1.mv hal hh, h.2⟩
theorem Ch.keep {a : Addr} {A : Cell} {U U' : State} (h : Ch a A U) (hal : U.vm.Alike U'.vm) (hk : U'.heap[a]? = some A) : Ch a A U' := ⟨h.1.keep hal hk, h.2⟩
/-- what place i of a char[]'s cell holds -/
def cv (A : Cell) (i : Nat) : Int32 := match A.slots[i]? with | some (.int x) => x | _ => 0
theorem Ch.get {a : Addr} {A : Cell} {U : State} (h : Ch a A U) {i : Nat} (hi : i < A.slots.size) : A.slots[i]? = some (.int (cv A i)) := by
  have e := Array.getElem?_eq_getElem hi
  have f := h.2 i _ e
  unfold cv; rw [e]
  generalize A.slots[i] = v at f
  cases v <;> simp [fits] at f ⊢
/-- the byte that i2b leaves of a char -/
def lo8 (x : Int32) : Int32 := x.toInt8.toInt32
theorem fits_lo8 (y : Int32) : fits .byte (.int (lo8 y)) = true := by
  have h1 := y.toInt8.le_toInt
  have h2 := y.toInt8.toInt_lt
  simp only [lo8, fits, Bool.and_eq_true, decide_eq_true_eq, Int32.le_iff_toInt_le, Int8.toInt_toInt32, show (-128 : Int32).toInt = -128 from by decide, show (127 : Int32).toInt = 127 from by decide]
  omega
/-- A' is A but that each place j of lo .. hi - 1 holds f j -/
def Laid (A A' : Cell) (lo hi : Nat) (f : Nat → Value) : Prop := A'.cls = A.cls ∧ A'.vm = A.vm ∧ A'.slots.size = A.slots.size ∧ ∀ i, A'.slots[i]? = if lo ≤ i ∧ i < hi then some (f i) else A.slots[i]?
theorem Laid.zero (A : Cell) (lo : Nat) (f : Nat → Value) : Laid A A lo (lo + 0) f := ⟨rfl, rfl, rfl, fun i => by rw [if_neg (by omega)]⟩
theorem Laid.step {A Ak : Cell} {lo k : Nat} {f : Nat → Value} {v : Value} (h : Laid A Ak lo k f) (hlo : lo ≤ k) (hk : k < Ak.slots.size) (hv : v = f k) : Laid A (Ak.setSlot k v) lo (k + 1) f := by
  refine ⟨h.1, h.2.1, by simpa [Cell.setSlot] using h.2.2.1, fun i => ?_⟩
  by_cases e : k = i
  · subst e; rw [Cell.slots_setSlot_self v hk, if_pos (by omega), hv]
  · rw [Cell.slots_setSlot_ne v e, h.2.2.2 i]
    by_cases q : lo ≤ i ∧ i < k
    · rw [if_pos q, if_pos (by omega)]
    · rw [if_neg q, if_neg (by omega)]
def U16 : String := "java/lang/StringUTF16"
namespace Cmp5
def yN : MethodName := ⟨"java/lang/StringUTF16", "compress", "([CI[BII)I"⟩
abbrev yB : ByteArray := jdk_52_method_21_code
theorem d0 : decode yB 0 = .ok (.iconst 0, 1) := by decide +kernel
theorem d1 : decode yB 1 = .ok (.istore 5, 2) := by decide +kernel
theorem d3 : decode yB 3 = .ok (.iload 5, 2) := by decide +kernel
theorem d5 : decode yB 5 = .ok (.iload 4, 2) := by decide +kernel
theorem d7 : decode yB 7 = .ok (.if_icmp (.ge) 37, 3) := by decide +kernel
theorem d10 : decode yB 10 = .ok (.aload_n 0, 1) := by decide +kernel
theorem d11 : decode yB 11 = .ok (.iload_n 1, 1) := by decide +kernel
theorem d12 : decode yB 12 = .ok (.caload, 1) := by decide +kernel
theorem d13 : decode yB 13 = .ok (.istore 6, 2) := by decide +kernel
theorem d15 : decode yB 15 = .ok (.iload 6, 2) := by decide +kernel
theorem d17 : decode yB 17 = .ok (.sipush 255, 3) := by decide +kernel
theorem d20 : decode yB 20 = .ok (.if_icmp (.le) 6, 3) := by decide +kernel
theorem d26 : decode yB 26 = .ok (.aload_n 2, 1) := by decide +kernel
theorem d27 : decode yB 27 = .ok (.iload_n 3, 1) := by decide +kernel
theorem d28 : decode yB 28 = .ok (.iload 6, 2) := by decide +kernel
theorem d30 : decode yB 30 = .ok (.i2b, 1) := by decide +kernel
theorem d31 : decode yB 31 = .ok (.bastore, 1) := by decide +kernel
theorem d32 : decode yB 32 = .ok (.iinc 1 1, 3) := by decide +kernel
theorem d35 : decode yB 35 = .ok (.iinc 3 1, 3) := by decide +kernel
theorem d38 : decode yB 38 = .ok (.iinc 5 1, 3) := by decide +kernel
theorem d41 : decode yB 41 = .ok (.goto (-38), 3) := by decide +kernel
theorem d44 : decode yB 44 = .ok (.iload 4, 2) := by decide +kernel
theorem d46 : decode yB 46 = .ok (.ireturn, 1) := by decide +kernel
def site : List Cond := []
def tab : Cond := tabOf yN yB 7 (some .int) site
def P (b : Addr) (A : Cell) (d : Addr) (B : Cell) (o q len : Nat) (args : Array Value) (s : State) : Prop := args = #[.ref b, .int (Int32.ofNat o), .ref d, .int (Int32.ofNat q), .int (Int32.ofNat len)] ∧ Ch b A s ∧ Arr .byte d B s ∧ b ≠ d ∧ o + len ≤ A.slots.size ∧ q + len ≤ B.slots.size ∧ ∀ i, i < len → ¬ 255 < cv A (o + i)
def E (b : Addr) (A : Cell) (d : Addr) (B : Cell) (o q len : Nat) (r : Option Value) (s u : State) : Prop := r = some (.int (Int32.ofNat len)) ∧ ∃ B', Put d B' s u ∧ Laid B B' q (q + len) (fun j => Value.int (lo8 (cv A (o + (j - q)))))
/-- no char of the range above 255: len; the places written hold each char's low byte -/
theorem law (l : Launch) (b : Addr) (A : Cell) (d : Addr) (B : Cell) (o q len : Nat) : Law l yN 5 5 0 0 yB 7 (some .int) site (P b A d B o q len) (E b A d B o q len) (copyLocs d q len) 0 0 := by
  refine Law.of_walk (plainFor_of_name (by decide +kernel)) (by decide +kernel) (by decide +kernel) (by decide) (fun _ _ h => by rw [h.1]; rfl) (fun _ U U' hal hh h => ⟨h.1, h.2.1.mv hal hh, h.2.2.1.mv hal hh, h.2.2.2⟩) (fun r U U' V V' h1 hal h2 h => ⟨h.1, h.2.elim fun B' q => ⟨B', q.1.mv h1 h2, q.2⟩⟩) ?_
  intro p e s m args below meth c s₁ X0 hexec hbytes hml hret hlk hnm hown hh0 W hP
  obtain ⟨rfl, hA, hB, hne, l1, l2, hp⟩ := hP
  have c1 : Steps p.tables e below (s₁.setTop (entryFrame m #[.ref b, .int (Int32.ofNat o), .ref d, .int (Int32.ofNat q), .int (Int32.ofNat len)] 7)) (s₁.setTop (mkF m 0 #[.val (.ref b), .val (.int (Int32.ofNat o)), .val (.ref d), .val (.int (Int32.ofNat q)), .val (.int (Int32.ofNat len)), .unset, .unset] [])) := entry rfl
  have hA0 := hA.1.mv X0.warmed.alike hh0
  have hB0 := hB.mv X0.warmed.alike hh0
  have a31 := hA.1.2.2.2
  have c2 : Steps p.tables e below (s₁.setTop (entryFrame m #[.ref b, .int (Int32.ofNat o), .ref d, .int (Int32.ofNat q), .int (Int32.ofNat len)] 7)) (s₁.setTop (mkF m 3 #[.val (.ref b), .val (.int (Int32.ofNat o)), .val (.ref d), .val (.int (Int32.ofNat q)), .val (.int (Int32.ofNat len)), .val (.int 0), .unset] [])) := c1.trans (by
    refine iconstV X0.here hexec rfl 0 (hb hbytes d0) (by decide) ?_
    refine XS.istore X0.here hexec rfl (hb hbytes d1) rfl rfl ?_
    exact Steps.refl _)
  have loop : ∀ (r i : Nat), i + r = len → ∀ (z : Slot), (z = .unset ∨ ∃ w, z = .val w ∧ w.category = 1) → ∀ (Tl : State) (Bk : Cell), Stand p l e { frames := 0, locals := 0, cells := 0, slots := 0 } s m #[.ref b, .int (Int32.ofNat o), .ref d, .int (Int32.ofNat q), .int (Int32.ofNat len)] below meth c Tl ([] ++ copyLocs d q i) 0 0 → Put d Bk s₁ Tl → Laid B Bk q (q + i) (fun j => Value.int (lo8 (cv A (o + (j - q))))) →
      Steps p.tables e below (s₁.setTop (entryFrame m #[.ref b, .int (Int32.ofNat o), .ref d, .int (Int32.ofNat q), .int (Int32.ofNat len)] 7)) (Tl.setTop (mkF m 3 #[.val (.ref b), .val (.int (Int32.ofNat (o + i))), .val (.ref d), .val (.int (Int32.ofNat (q + i))), .val (.int (Int32.ofNat len)), .val (.int (Int32.ofNat i)), z] [])) → ∃ (T' : State) (B' : Cell) (z' : Slot), Stand p l e { frames := 0, locals := 0, cells := 0, slots := 0 } s m #[.ref b, .int (Int32.ofNat o), .ref d, .int (Int32.ofNat q), .int (Int32.ofNat len)] below meth c T' ([] ++ copyLocs d q len) 0 0 ∧ Put d B' s₁ T' ∧ Laid B B' q (q + len) (fun j => Value.int (lo8 (cv A (o + (j - q))))) ∧
      Steps p.tables e below (s₁.setTop (entryFrame m #[.ref b, .int (Int32.ofNat o), .ref d, .int (Int32.ofNat q), .int (Int32.ofNat len)] 7)) (T'.setTop (mkF m 3 #[.val (.ref b), .val (.int (Int32.ofNat (o + len))), .val (.ref d), .val (.int (Int32.ofNat (q + len))), .val (.int (Int32.ofNat len)), .val (.int (Int32.ofNat len)), z'] [])) := by
    intro r
    induction r with
    | zero =>
      intro i hi z hz Tl Bk Xl pl fl cl
      have hil : i = len := by omega
      rw [hil] at Xl fl cl
      exact ⟨Tl, Bk, z, Xl, pl, fl, cl⟩
    | succ r ih =>
      intro i hi z hz Tl Bk Xl pl fl cl
      have all := X0.warmed.alike.symm.trans Xl.warmed.alike
      have hAl := hA0.keep all (pl.other hne hA0.1)
      have hBk := hB0.like all pl.1 fl.1 fl.2.1 fl.2.2.1
      have hlt : q + i < Bk.slots.size := by rw [fl.2.2.1]; omega
      have c3 : Steps p.tables e below (s₁.setTop (entryFrame m #[.ref b, .int (Int32.ofNat o), .ref d, .int (Int32.ofNat q), .int (Int32.ofNat len)] 7)) (Tl.setTop (mkF m 12 #[.val (.ref b), .val (.int (Int32.ofNat (o + i))), .val (.ref d), .val (.int (Int32.ofNat (q + i))), .val (.int (Int32.ofNat len)), .val (.int (Int32.ofNat i)), z] [.int (Int32.ofNat (o + i)), .ref b])) := cl.trans (by
        refine XS.iload Xl.here hexec rfl (hb hbytes d3) rfl ?_
        refine XS.iload Xl.here hexec rfl (hb hbytes d5) rfl ?_
        refine XS.icmpNo Xl.here hexec rfl (hb hbytes d7) rfl (ii_ge_f (lt32 (by omega) (by omega))) ?_
        refine XS.aloadN Xl.here hexec rfl (hb hbytes d10) rfl rfl ?_
        refine XS.iloadN Xl.here hexec rfl (hb hbytes d11) rfl ?_
        exact Steps.refl _)
      have c4 : Steps p.tables e below (s₁.setTop (entryFrame m #[.ref b, .int (Int32.ofNat o), .ref d, .int (Int32.ofNat q), .int (Int32.ofNat len)] 7)) (Tl.setTop (mkF m 13 #[.val (.ref b), .val (.int (Int32.ofNat (o + i))), .val (.ref d), .val (.int (Int32.ofNat (q + i))), .val (.int (Int32.ofNat len)), .val (.int (Int32.ofNat i)), z] [.int (cv A (o + i))])) := c3.trans (by
        refine Xl.aget hexec hAl rfl (hA.get (i := o + i) (by omega)) rfl rfl (hb hbytes d12) ?_
        exact Steps.refl _)
      have c5 : Steps p.tables e below (s₁.setTop (entryFrame m #[.ref b, .int (Int32.ofNat o), .ref d, .int (Int32.ofNat q), .int (Int32.ofNat len)] 7)) (Tl.setTop (mkF m 15 #[.val (.ref b), .val (.int (Int32.ofNat (o + i))), .val (.ref d), .val (.int (Int32.ofNat (q + i))), .val (.int (Int32.ofNat len)), .val (.int (Int32.ofNat i)), .val (.int (cv A (o + i)))] [])) := c4.trans (by
        refine XS.istoreS Xl.here hexec rfl (hb hbytes d13) rfl rfl hz ?_
        exact Steps.refl _)
      have c6 : Steps p.tables e below (s₁.setTop (entryFrame m #[.ref b, .int (Int32.ofNat o), .ref d, .int (Int32.ofNat q), .int (Int32.ofNat len)] 7)) (Tl.setTop (mkF m 31 #[.val (.ref b), .val (.int (Int32.ofNat (o + i))), .val (.ref d), .val (.int (Int32.ofNat (q + i))), .val (.int (Int32.ofNat len)), .val (.int (Int32.ofNat i)), .val (.int (cv A (o + i)))] [.int (lo8 (cv A (o + i))), .int (Int32.ofNat (q + i)), .ref d])) := c5.trans (by
        refine XS.iload Xl.here hexec rfl (hb hbytes d15) rfl ?_
        refine sipushV Xl.here hexec rfl 255 (hb hbytes d17) (by decide) ?_
        refine XS.icmpYes Xl.here hexec rfl (pc0 := 20) rfl (hb hbytes d20) rfl (ii_le_t (hp i (by omega))) (by decide) rfl ?_
        refine XS.aloadN Xl.here hexec rfl (hb hbytes d26) rfl rfl ?_
        refine XS.iloadN Xl.here hexec rfl (hb hbytes d27) rfl ?_
        refine XS.iload Xl.here hexec rfl (hb hbytes d28) rfl ?_
        refine i2b Xl.here hexec rfl (hb hbytes d30) rfl ?_
        exact Steps.refl _)
      obtain ⟨T7, X7, p7, st7⟩ := Xl.aput hexec hBk rfl hlt rfl (fits_lo8 (cv A (o + i))) (g := (mkF m 31 #[.val (.ref b), .val (.int (Int32.ofNat (o + i))), .val (.ref d), .val (.int (Int32.ofNat (q + i))), .val (.int (Int32.ofNat len)), .val (.int (Int32.ofNat i)), .val (.int (cv A (o + i)))] [.int (lo8 (cv A (o + i))), .int (Int32.ofNat (q + i)), .ref d])) rfl (rest := []) rfl (hb hbytes d31)
      have c8 : Steps p.tables e below (s₁.setTop (entryFrame m #[.ref b, .int (Int32.ofNat o), .ref d, .int (Int32.ofNat q), .int (Int32.ofNat len)] 7)) (T7.setTop (mkF m 32 #[.val (.ref b), .val (.int (Int32.ofNat (o + i))), .val (.ref d), .val (.int (Int32.ofNat (q + i))), .val (.int (Int32.ofNat len)), .val (.int (Int32.ofNat i)), .val (.int (cv A (o + i)))] [])) := c6.trans (st7 _ (Steps.refl _))
      have c9 : Steps p.tables e below (s₁.setTop (entryFrame m #[.ref b, .int (Int32.ofNat o), .ref d, .int (Int32.ofNat q), .int (Int32.ofNat len)] 7)) (T7.setTop (mkF m 3 #[.val (.ref b), .val (.int (Int32.ofNat (o + i) + 1)), .val (.ref d), .val (.int (Int32.ofNat (q + i) + 1)), .val (.int (Int32.ofNat len)), .val (.int (Int32.ofNat i + 1)), .val (.int (cv A (o + i)))] [])) := c8.trans (by
        refine iincV X7.here hexec rfl 1 (hb hbytes d32) (by decide) rfl rfl ?_
        refine iincV X7.here hexec rfl 1 (hb hbytes d35) (by decide) rfl rfl ?_
        refine iincV X7.here hexec rfl 1 (hb hbytes d38) (by decide) rfl rfl ?_
        refine XS.goto X7.here hexec rfl (pc0 := 41) rfl (hb hbytes d41) (by decide) rfl ?_
        exact Steps.refl _)
      have c10 : Steps p.tables e below (s₁.setTop (entryFrame m #[.ref b, .int (Int32.ofNat o), .ref d, .int (Int32.ofNat q), .int (Int32.ofNat len)] 7)) (T7.setTop (mkF m 3 #[.val (.ref b), .val (.int (Int32.ofNat (o + (i + 1)))), .val (.ref d), .val (.int (Int32.ofNat (q + (i + 1)))), .val (.int (Int32.ofNat len)), .val (.int (Int32.ofNat (i + 1))), .val (.int (cv A (o + i)))] [])) := by
        have := c9
        rw [succ32, succ32, succ32] at this
        exact this
      exact ih (i + 1) (by omega) _ (Or.inr ⟨_, rfl, rfl⟩) T7 _ (by rw [copyLocs_step, ← List.append_assoc]; exact X7) (pl.trans p7) (fl.step (by omega) hlt (by simp)) c10
  obtain ⟨T9, B9, z9, X9, p9, f9, g9⟩ := loop len 0 (by omega) .unset (Or.inl rfl) s₁ B (by simpa [copyLocs] using X0) ⟨hB0.1, fun _ _ => rfl, rfl⟩ (Laid.zero _ _ _) c2
  have c11 : Steps p.tables e below (s₁.setTop (entryFrame m #[.ref b, .int (Int32.ofNat o), .ref d, .int (Int32.ofNat q), .int (Int32.ofNat len)] 7)) (T9.setTop (mkF m 46 #[.val (.ref b), .val (.int (Int32.ofNat (o + len))), .val (.ref d), .val (.int (Int32.ofNat (q + len))), .val (.int (Int32.ofNat len)), .val (.int (Int32.ofNat len)), z9] [.int (Int32.ofNat len)])) := g9.trans (by
    refine XS.iload X9.here hexec rfl (hb hbytes d3) rfl ?_
    refine XS.iload X9.here hexec rfl (hb hbytes d5) rfl ?_
    refine XS.icmpYes X9.here hexec rfl (pc0 := 7) rfl (hb hbytes d7) rfl (ii_ge_t (nlt32 (by omega) (Nat.le_refl _))) (by decide) rfl ?_
    refine XS.iload X9.here hexec rfl (hb hbytes d44) rfl ?_
    exact Steps.refl _)
  exact ⟨T9, some (.int (Int32.ofNat len)), _, _, _, X9, by simp, rfl, rfl, (fun h => by cases h), ⟨rfl, B9, p9.from hh0, f9⟩, fun fs hl => c11.trans (X9.ireturnOut hexec hret rfl (Or.inl rfl) (hb hbytes d46) hl)⟩
end Cmp5
namespace Cmp3
def yN : MethodName := ⟨"java/lang/StringUTF16", "compress", "([CII)[B"⟩
abbrev yB : ByteArray := jdk_52_method_16_code
theorem d0 : decode yB 0 = .ok (.iload_n 2, 1) := by decide +kernel
theorem d1 : decode yB 1 = .ok (.newarray .byte, 2) := by decide +kernel
theorem d3 : decode yB 3 = .ok (.astore_n 3, 1) := by decide +kernel
theorem d4 : decode yB 4 = .ok (.aload_n 0, 1) := by decide +kernel
theorem d5 : decode yB 5 = .ok (.iload_n 1, 1) := by decide +kernel
theorem d6 : decode yB 6 = .ok (.aload_n 3, 1) := by decide +kernel
theorem d7 : decode yB 7 = .ok (.iconst 0, 1) := by decide +kernel
theorem d8 : decode yB 8 = .ok (.iload_n 2, 1) := by decide +kernel
theorem d9 : decode yB 9 = .ok (.invokestatic 115, 3) := by decide +kernel
theorem d12 : decode yB 12 = .ok (.istore 4, 2) := by decide +kernel
theorem d14 : decode yB 14 = .ok (.iload 4, 2) := by decide +kernel
theorem d16 : decode yB 16 = .ok (.iload_n 2, 1) := by decide +kernel
theorem d17 : decode yB 17 = .ok (.if_icmp (.eq) 40, 3) := by decide +kernel
theorem d57 : decode yB 57 = .ok (.aload_n 3, 1) := by decide +kernel
theorem d58 : decode yB 58 = .ok (.areturn, 1) := by decide +kernel
def site : List Cond := [.arrayClass .byte, Cmp5.tab] ++ staticW U16 115 Cmp5.yN
def tab : Cond := tabOf yN yB 6 (some (.array .byte)) site
def P (b : Addr) (A : Cell) (o len : Nat) (args : Array Value) (s : State) : Prop := args = #[.ref b, .int (Int32.ofNat o), .int (Int32.ofNat len)] ∧ Ch b A s ∧ o + len ≤ A.slots.size ∧ len ≤ 536870912 ∧ ∀ i, i < len → ¬ 255 < cv A (o + i)
def E (b : Addr) (A : Cell) (o len : Nat) (r : Option Value) (s u : State) : Prop := NewArr .byte "[B" len (fun j => .int (lo8 (cv A (o + j)))) r s u ∧ u.heap.size = s.heap.size + 1
/-- no char of the range above 255: a new byte[] of their low bytes -/
theorem law (l : Launch) (b : Addr) (A : Cell) (o len : Nat) : Law l yN 3 3 1 18 yB 6 (some (.array .byte)) site (P b A o len) (E b A o len) [] 1 len := by
  refine Law.of_walk (plainFor_of_name (by decide +kernel)) (by decide +kernel) (by decide +kernel) (by decide) (fun _ _ h => by rw [h.1]; rfl) (fun _ U U' hal hh h => ⟨h.1, h.2.1.mv hal hh, h.2.2⟩) (fun r U U' V V' h1 hal h2 h => ⟨NewArr.mv r U U' V V' h1 hal h2 h.1, by rw [h1, h2]; exact h.2⟩) ?_
  intro p e s m args below meth c s₁ X0 hexec hbytes hml hret hlk hnm hown hh0 W hP
  obtain ⟨rfl, hA, l1, l2, hp⟩ := hP
  have a31 := hA.1.2.2.2
  have c1 : Steps p.tables e below (s₁.setTop (entryFrame m #[.ref b, .int (Int32.ofNat o), .int (Int32.ofNat len)] 6)) (s₁.setTop (mkF m 0 #[.val (.ref b), .val (.int (Int32.ofNat o)), .val (.int (Int32.ofNat len)), .unset, .unset, .unset] [])) := entry rfl
  have c2 : Steps p.tables e below (s₁.setTop (entryFrame m #[.ref b, .int (Int32.ofNat o), .int (Int32.ofNat len)] 6)) (s₁.setTop (mkF m 1 #[.val (.ref b), .val (.int (Int32.ofNat o)), .val (.int (Int32.ofNat len)), .unset, .unset, .unset] [.int (Int32.ofNat len)])) := c1.trans (by
    refine XS.iloadN X0.here hexec rfl (hb hbytes d0) rfl ?_
    exact Steps.refl _)
  obtain ⟨T3, B3, X3, ba3, bs3, bv3, bh3, bf3, st3⟩ := X0.anew hexec (atype := .byte) (wk W (.arrayClass .byte)) rfl (by show len * 1 ≤ _; omega) (by omega) (g := (mkF m 1 #[.val (.ref b), .val (.int (Int32.ofNat o)), .val (.int (Int32.ofNat len)), .unset, .unset, .unset] [.int (Int32.ofNat len)])) rfl (hb hbytes d1) (rest := []) rfl (Nat.le_refl _) (by show 0 + len ≤ len; omega)
  rw [hh0] at ba3 st3
  have kp3 : XT.Kept s T3 := (XT.Kept.of_eq hh0).push bh3
  have hA3 := hA.keep X3.warmed.alike (kp3 _ _ hA.1.1)
  have hne : b ≠ s.heap.size := hA.1.ne
  have c4 : Steps p.tables e below (s₁.setTop (entryFrame m #[.ref b, .int (Int32.ofNat o), .int (Int32.ofNat len)] 6)) (T3.setTop (mkF m 3 #[.val (.ref b), .val (.int (Int32.ofNat o)), .val (.int (Int32.ofNat len)), .unset, .unset, .unset] [.ref s.heap.size])) := c2.trans (st3 _ (Steps.refl _))
  have c5 : Steps p.tables e below (s₁.setTop (entryFrame m #[.ref b, .int (Int32.ofNat o), .int (Int32.ofNat len)] 6)) (T3.setTop (mkF m 9 #[.val (.ref b), .val (.int (Int32.ofNat o)), .val (.int (Int32.ofNat len)), .val (.ref s.heap.size), .unset, .unset] [.int (Int32.ofNat len), .int 0, .ref s.heap.size, .int (Int32.ofNat o), .ref b])) := c4.trans (by
    refine XS.astoreN X3.here hexec rfl (hb hbytes d3) rfl rfl rfl ?_
    refine XS.aloadN X3.here hexec rfl (hb hbytes d4) rfl rfl ?_
    refine XS.iloadN X3.here hexec rfl (hb hbytes d5) rfl ?_
    refine XS.aloadN X3.here hexec rfl (hb hbytes d6) rfl rfl ?_
    refine iconstV X3.here hexec rfl 0 (hb hbytes d7) (by decide) ?_
    refine XS.iloadN X3.here hexec rfl (hb hbytes d8) rfl ?_
    exact Steps.refl _)
  obtain ⟨v6, T6, X6, E6, g6⟩ := X3.callS hexec (Cmp5.law l b A s.heap.size B3 o 0 len) hown (wks W (staticW U16 115 Cmp5.yN)) (wk W Cmp5.tab) (W := 0) (Nat.le_of_ble_eq_true rfl) (Nat.le_of_ble_eq_true rfl) (Nat.le_refl _) (by show 0 + len + 0 ≤ len; omega) (g := (mkF m 9 #[.val (.ref b), .val (.int (Int32.ofNat o)), .val (.int (Int32.ofNat len)), .val (.ref s.heap.size), .unset, .unset] [.int (Int32.ofNat len), .int (Int32.ofNat 0), .ref s.heap.size, .int (Int32.ofNat o), .ref b])) rfl (by rw [hml]; rfl) c5 (argsL := [.ref b, .int (Int32.ofNat o), .ref s.heap.size, .int (Int32.ofNat 0), .int (Int32.ofNat len)]) (rest := []) rfl rfl (by show 2 * 0 + 0 ≤ _; decide) (hb hbytes d9) (⟨rfl, hA3, ba3, hne, l1, by rw [bs3]; simp, hp⟩)
  obtain ⟨rfl, B6, p6, f6⟩ := E6
  have c7 : Steps p.tables e below (s₁.setTop (entryFrame m #[.ref b, .int (Int32.ofNat o), .int (Int32.ofNat len)] 6)) (T6.setTop (mkF m 12 #[.val (.ref b), .val (.int (Int32.ofNat o)), .val (.int (Int32.ofNat len)), .val (.ref s.heap.size), .unset, .unset] [.int (Int32.ofNat len)])) := g6
  have c8 : Steps p.tables e below (s₁.setTop (entryFrame m #[.ref b, .int (Int32.ofNat o), .int (Int32.ofNat len)] 6)) (T6.setTop (mkF m 58 #[.val (.ref b), .val (.int (Int32.ofNat o)), .val (.int (Int32.ofNat len)), .val (.ref s.heap.size), .val (.int (Int32.ofNat len)), .unset] [.ref s.heap.size])) := c7.trans (by
    refine XS.istore X6.here hexec rfl (hb hbytes d12) rfl rfl ?_
    refine XS.iload X6.here hexec rfl (hb hbytes d14) rfl ?_
    refine XS.iloadN X6.here hexec rfl (hb hbytes d16) rfl ?_
    refine XS.icmpYes X6.here hexec rfl (pc0 := 17) rfl (hb hbytes d17) rfl (ii_eq_t rfl) (by decide) rfl ?_
    refine XS.aloadN X6.here hexec rfl (hb hbytes d57) rfl rfl ?_
    exact Steps.refl _)
  have X8 := X6.wide (L' := []) (cells' := 1) (slots' := len) (fun x hx hlt => by
    simp only [List.nil_append, copyLocs, List.mem_map, List.mem_range] at hx
    obtain ⟨i, -, rfl⟩ := hx
    exact absurd hlt (Nat.lt_irrefl _)) (Nat.le_refl _) (by omega)
  exact ⟨T6, some (.ref s.heap.size), _, _, _, X8, rfl, rfl, rfl, (fun h => by cases h), ⟨⟨rfl, B6, ba3.like (X3.warmed.alike.symm.trans X6.warmed.alike) p6.1 f6.1 f6.2.1 f6.2.2.1, f6.2.1.trans bv3, by rw [X6.warmed.alike.findClass, f6.1]; exact bf3, by rw [f6.2.2.1, bs3]; simp, fun j hj => by rw [f6.2.2.2 j, if_pos (by omega)]; rfl, kp3.put p6 (Nat.le_refl _)⟩, by rw [p6.2.2, bh3, hh0]; simp⟩, fun fs hl => c8.trans (X8.areturnOut hexec rfl hret rfl (hb hbytes d58) hl)⟩
end Cmp3
namespace CodL
def yN : MethodName := ⟨"java/lang/StringUTF16", "coderFromArrayLen", "([BI)B"⟩
abbrev yB : ByteArray := jdk_52_method_15_code
theorem d0 : decode yB 0 = .ok (.iload_n 1, 1) := by decide +kernel
theorem d1 : decode yB 1 = .ok (.aload_n 0, 1) := by decide +kernel
theorem d2 : decode yB 2 = .ok (.arraylength, 1) := by decide +kernel
theorem d3 : decode yB 3 = .ok (.isub, 1) := by decide +kernel
theorem d4 : decode yB 4 = .ok (.bipush 31, 2) := by decide +kernel
theorem d6 : decode yB 6 = .ok (.iushr, 1) := by decide +kernel
theorem d7 : decode yB 7 = .ok (.i2b, 1) := by decide +kernel
theorem d8 : decode yB 8 = .ok (.ireturn, 1) := by decide +kernel
def site : List Cond := []
def tab : Cond := tabOf yN yB 2 (some .byte) site
def P (d : Addr) (B : Cell) (args : Array Value) (s : State) : Prop := args = #[.ref d, .int (Int32.ofNat B.slots.size)] ∧ Arr .byte d B s
def E (r : Option Value) (s u : State) : Prop := XT.PureE (some (.int 0)) r s u
/-- an array as long as the number of chars: LATIN1 -/
theorem law (l : Launch) (d : Addr) (B : Cell) : Law l yN 2 2 0 0 yB 2 (some .byte) site (P d B) E [] 0 0 := by
  refine Law.of_walk (plainFor_of_name (by decide +kernel)) (by decide +kernel) (by decide +kernel) (by decide) (fun _ _ h => by rw [h.1]; rfl) (fun _ U U' hal hh h => ⟨h.1, h.2.mv hal hh⟩) (fun r U U' V V' h1 hal h2 h => XT.PureE.mv r U U' V V' h1 hal h2 h) ?_
  intro p e s m args below meth c s₁ X0 hexec hbytes hml hret hlk hnm hown hh0 W hP
  obtain ⟨rfl, hB⟩ := hP
  have hB0 := hB.mv X0.warmed.alike hh0
  have c1 : Steps p.tables e below (s₁.setTop (entryFrame m #[.ref d, .int (Int32.ofNat B.slots.size)] 2)) (s₁.setTop (mkF m 0 #[.val (.ref d), .val (.int (Int32.ofNat B.slots.size))] [])) := entry rfl
  have c2 : Steps p.tables e below (s₁.setTop (entryFrame m #[.ref d, .int (Int32.ofNat B.slots.size)] 2)) (s₁.setTop (mkF m 2 #[.val (.ref d), .val (.int (Int32.ofNat B.slots.size))] [.ref d, .int (Int32.ofNat B.slots.size)])) := c1.trans (by
    refine XS.iloadN X0.here hexec rfl (hb hbytes d0) rfl ?_
    refine XS.aloadN X0.here hexec rfl (hb hbytes d1) rfl rfl ?_
    exact Steps.refl _)
  have c3 : Steps p.tables e below (s₁.setTop (entryFrame m #[.ref d, .int (Int32.ofNat B.slots.size)] 2)) (s₁.setTop (mkF m 8 #[.val (.ref d), .val (.int (Int32.ofNat B.slots.size))] [.int (lo8 (ushr (Int32.ofNat B.slots.size - Int32.ofNat B.slots.size) 31))])) := c2.trans (by
    refine X0.alen hexec hB0 rfl rfl (hb hbytes d2) ?_
    refine XS.isub X0.here hexec rfl (hb hbytes d3) rfl ?_
    refine bipushV X0.here hexec rfl 31 (hb hbytes d4) (by decide) ?_
    refine iushr X0.here hexec rfl (hb hbytes d6) rfl ?_
    refine i2b X0.here hexec rfl (hb hbytes d7) rfl ?_
    exact Steps.refl _)
  have e0 : lo8 (ushr (Int32.ofNat B.slots.size - Int32.ofNat B.slots.size) 31) = 0 := by rw [Int32.sub_self]; decide
  rw [e0] at c3
  exact ⟨s₁, some (.int 0), _, _, _, X0, rfl, rfl, rfl, (fun h => by cases h), ⟨rfl, hh0⟩, fun fs hl => c3.trans (X0.ireturnOut hexec hret rfl (Or.inr (Or.inr (Or.inl rfl))) (hb hbytes d8) hl)⟩
end CodL
/-- the String at a is Latin-1 over a new byte[] (the heap's one new cell): the low bytes of the len chars of A from o on; every cell but a is kept -/
def Got (a : Addr) (D : Cell) (fV fC : Field) (A : Cell) (o len : Nat) (r : Option Value) (s u : State) : Prop := r = none ∧ ∃ D' V : Cell, Blank "java/lang/String" a D' u ∧ Same D D' [fV.slot, fC.slot] ∧ D'.slots[fV.slot]? = some (.ref s.heap.size) ∧ D'.slots[fC.slot]? = some (.int 0) ∧ Arr .byte s.heap.size V u ∧ V.vm = .none ∧ u.vm.findClass "[B" = some V.cls ∧ V.slots.size = len ∧ (∀ j, j < len → V.slots[j]? = some (.int (lo8 (cv A (o + j))))) ∧ (∀ (y : Addr) (c : Cell), y ≠ a → s.heap[y]? = some c → u.heap[y]? = some c) ∧ u.heap.size = s.heap.size + 1
theorem Got.mv {a : Addr} {D A : Cell} {fV fC : Field} {o len : Nat} : ∀ r (U U' V V' : State), U'.heap = U.heap → V.vm.Alike V'.vm → V'.heap = V.heap → Got a D fV fC A o len r U V → Got a D fV fC A o len r U' V' :=
  fun r U U' V V' h1 hal h2 ⟨e0, D', X, a1, a2, a3, a4, a5, a6, a7, a8, a9, a10, a11⟩ => ⟨e0, D', X, a1.mv hal h2, a2, by rw [h1]; exact a3, a4, by rw [h1]; exact a5.mv hal h2, a6, by rw [hal.findClass]; exact a7, a8, a9, by rw [h1, h2]; exact a10, by rw [h1, h2]; exact a11⟩
namespace New4
def yN : MethodName := ⟨"java/lang/String", "<init>", "([CIILjava/lang/Void;)V"⟩
abbrev yB : ByteArray := jdk_42_method_149_code
theorem d0 : decode yB 0 = .ok (.aload_n 0, 1) := by decide +kernel
theorem d1 : decode yB 1 = .ok (.invokespecial 1, 3) := by decide +kernel
theorem d4 : decode yB 4 = .ok (.iload_n 3, 1) := by decide +kernel
theorem d5 : decode yB 5 = .ok (.ifCond (.ne) 22, 3) := by decide +kernel
theorem d27 : decode yB 27 = .ok (.getstatic 38, 3) := by decide +kernel
theorem d30 : decode yB 30 = .ok (.ifCond (.eq) 28, 3) := by decide +kernel
theorem d33 : decode yB 33 = .ok (.aload_n 1, 1) := by decide +kernel
theorem d34 : decode yB 34 = .ok (.iload_n 2, 1) := by decide +kernel
theorem d35 : decode yB 35 = .ok (.iload_n 3, 1) := by decide +kernel
theorem d36 : decode yB 36 = .ok (.invokestatic 177, 3) := by decide +kernel
theorem d39 : decode yB 39 = .ok (.astore 5, 2) := by decide +kernel
theorem d41 : decode yB 41 = .ok (.aload_n 0, 1) := by decide +kernel
theorem d42 : decode yB 42 = .ok (.aload 5, 2) := by decide +kernel
theorem d44 : decode yB 44 = .ok (.iload_n 3, 1) := by decide +kernel
theorem d45 : decode yB 45 = .ok (.invokestatic 47, 3) := by decide +kernel
theorem d48 : decode yB 48 = .ok (.putfield 15, 3) := by decide +kernel
theorem d51 : decode yB 51 = .ok (.aload_n 0, 1) := by decide +kernel
theorem d52 : decode yB 52 = .ok (.aload 5, 2) := by decide +kernel
theorem d54 : decode yB 54 = .ok (.putfield 9, 3) := by decide +kernel
theorem d57 : decode yB 57 = .ok (.return_, 1) := by decide +kernel
def site : List Cond := [.fieldLink "java/lang/String" 38 "java/lang/String" "COMPACT_STRINGS" "Z", Cmp3.tab, CodL.tab, .laysFinal "java/lang/String" "java/lang/String" "value" "[B", .fieldLink "java/lang/String" 9 "java/lang/String" "value" "[B", .laysFinal "java/lang/String" "java/lang/String" "coder" "B", .fieldLink "java/lang/String" 15 "java/lang/String" "coder" "B"] ++ objW "java/lang/String" 1 ++ staticW "java/lang/String" 177 Cmp3.yN ++ staticW "java/lang/String" 47 CodL.yN
def tab : Cond := tabOf yN yB 6 none site
def P (a : Addr) (D : Cell) (fV fC : Field) (b : Addr) (A : Cell) (z : Int32) (o len : Nat) (args : Array Value) (s : State) : Prop := args = #[.ref a, .ref b, .int (Int32.ofNat o), .int (Int32.ofNat len), .null] ∧ Blank "java/lang/String" a D s ∧ Found "java/lang/String" "value" "[B" fV s ∧ Found "java/lang/String" "coder" "B" fC s ∧ Ch b A s ∧ StaticIs s "java/lang/String" "COMPACT_STRINGS" "Z" (.int z) ∧ ¬ z = 0 ∧ 0 < len ∧ o + len ≤ A.slots.size ∧ len ≤ 536870912 ∧ ∀ i, i < len → ¬ 255 < cv A (o + i)
def E (a : Addr) (D : Cell) (fV fC : Field) (A : Cell) (o len : Nat) (r : Option Value) (s u : State) : Prop := Got a D fV fC A o len r s u
/-- len > 0, no char of the range above 255: a Latin-1 String of their low bytes -/
theorem law (l : Launch) (a : Addr) (D : Cell) (fV fC : Field) (b : Addr) (A : Cell) (z : Int32) (o len : Nat) : Law l yN 5 4 2 35 yB 6 none site (P a D fV fC b A z o len) (E a D fV fC A o len) [⟨a, fC.slot⟩, ⟨a, fV.slot⟩] 1 len := by
  refine Law.of_walk (plainFor_of_name (by decide +kernel)) (by decide +kernel) (by decide +kernel) (by decide) (fun _ _ h => by rw [h.1]; rfl) (fun _ U U' hal hh h => ⟨h.1, h.2.1.mv hal hh, h.2.2.1.al hal, h.2.2.2.1.al hal, h.2.2.2.2.1.mv hal hh, h.2.2.2.2.2.1.there hal hh, h.2.2.2.2.2.2⟩) (fun r U U' V V' h1 hal h2 h => Got.mv r U U' V V' h1 hal h2 h) ?_
  intro p e s m args below meth c s₁ X0 hexec hbytes hml hret hlk hnm hown hh0 W hP
  obtain ⟨rfl, hB, f1, f2, hA, s1, hz, l0, l1, l2, hp⟩ := hP
  have a31 := hA.1.2.2.2
  have c1 : Steps p.tables e below (s₁.setTop (entryFrame m #[.ref a, .ref b, .int (Int32.ofNat o), .int (Int32.ofNat len), .null] 6)) (s₁.setTop (mkF m 0 #[.val (.ref a), .val (.ref b), .val (.int (Int32.ofNat o)), .val (.int (Int32.ofNat len)), .val .null, .unset] [])) := entry rfl
  have c2 : Steps p.tables e below (s₁.setTop (entryFrame m #[.ref a, .ref b, .int (Int32.ofNat o), .int (Int32.ofNat len), .null] 6)) (s₁.setTop (mkF m 1 #[.val (.ref a), .val (.ref b), .val (.int (Int32.ofNat o)), .val (.int (Int32.ofNat len)), .val .null, .unset] [.ref a])) := c1.trans (by
    refine XS.aloadN X0.here hexec rfl (hb hbytes d0) rfl rfl ?_
    exact Steps.refl _)
  obtain ⟨T3, X3, q3, st3⟩ := X0.oinit hexec hown (wks W (objW "java/lang/String" 1)) (g := (mkF m 1 #[.val (.ref a), .val (.ref b), .val (.int (Int32.ofNat o)), .val (.int (Int32.ofNat len)), .val .null, .unset] [.ref a])) rfl (by rw [hml]; rfl) (rest := []) rfl (hb hbytes d1) (W := 0) (by show 2 * 0 + 0 ≤ _; decide) (Nat.le_of_ble_eq_true rfl) (Nat.le_of_ble_eq_true rfl)
  have hh3 := q3.trans hh0
  have c4 : Steps p.tables e below (s₁.setTop (entryFrame m #[.ref a, .ref b, .int (Int32.ofNat o), .int (Int32.ofNat len), .null] 6)) (T3.setTop (mkF m 27 #[.val (.ref a), .val (.ref b), .val (.int (Int32.ofNat o)), .val (.int (Int32.ofNat len)), .val .null, .unset] [])) := (c2.trans (st3 _ (Steps.refl _))).trans (by
    refine XS.iloadN X3.here hexec rfl (hb hbytes d4) rfl ?_
    refine XS.ifYes X3.here hexec rfl (pc0 := 5) rfl (hb hbytes d5) rfl (i0_ne_t (nz32 (by omega) l0)) (by decide) rfl ?_
    exact Steps.refl _)
  obtain ⟨T5, X5, q5, st5⟩ := X3.sget hexec hown (wk W (.fieldLink "java/lang/String" 38 "java/lang/String" "COMPACT_STRINGS" "Z")) s1 (fun _ _ h => by rw [hh3]; exact h) (g := (mkF m 27 #[.val (.ref a), .val (.ref b), .val (.int (Int32.ofNat o)), .val (.int (Int32.ofNat len)), .val .null, .unset] [])) rfl (hb hbytes d27)
  have hh5 := q5.trans hh3
  have c6 : Steps p.tables e below (s₁.setTop (entryFrame m #[.ref a, .ref b, .int (Int32.ofNat o), .int (Int32.ofNat len), .null] 6)) (T5.setTop (mkF m 30 #[.val (.ref a), .val (.ref b), .val (.int (Int32.ofNat o)), .val (.int (Int32.ofNat len)), .val .null, .unset] [.int z])) := c4.trans (st5 _ (Steps.refl _))
  have c7 : Steps p.tables e below (s₁.setTop (entryFrame m #[.ref a, .ref b, .int (Int32.ofNat o), .int (Int32.ofNat len), .null] 6)) (T5.setTop (mkF m 36 #[.val (.ref a), .val (.ref b), .val (.int (Int32.ofNat o)), .val (.int (Int32.ofNat len)), .val .null, .unset] [.int (Int32.ofNat len), .int (Int32.ofNat o), .ref b])) := c6.trans (by
    refine XS.ifNo X5.here hexec rfl (hb hbytes d30) rfl (i0_eq_f hz) ?_
    refine XS.aloadN X5.here hexec rfl (hb hbytes d33) rfl rfl ?_
    refine XS.iloadN X5.here hexec rfl (hb hbytes d34) rfl ?_
    refine XS.iloadN X5.here hexec rfl (hb hbytes d35) rfl ?_
    exact Steps.refl _)
  obtain ⟨v8, T8, X8, E8, g8⟩ := X5.callS hexec (Cmp3.law l b A o len) hown (wks W (staticW "java/lang/String" 177 Cmp3.yN)) (wk W Cmp3.tab) (W := 0) (Nat.le_of_ble_eq_true rfl) (Nat.le_of_ble_eq_true rfl) (Nat.le_refl _) (by show 0 + len ≤ len; omega) (g := (mkF m 36 #[.val (.ref a), .val (.ref b), .val (.int (Int32.ofNat o)), .val (.int (Int32.ofNat len)), .val .null, .unset] [.int (Int32.ofNat len), .int (Int32.ofNat o), .ref b])) rfl (by rw [hml]; rfl) c7 (argsL := [.ref b, .int (Int32.ofNat o), .int (Int32.ofNat len)]) (rest := []) rfl rfl (by show 2 * 0 + 0 ≤ _; decide) (hb hbytes d36) (⟨rfl, hA.mv X5.warmed.alike hh5, l1, l2, hp⟩)
  obtain ⟨e8, z8⟩ := E8
  obtain ⟨rfl, N, n1, n2, n3, n4, n5, n6⟩ := NewArr.mv _ T5 s _ _ hh5.symm (Vm.Alike.refl _) rfl e8
  rw [hh5] at z8
  have hB1 := hB.keep X8.warmed.alike (n6 _ _ hB.1)
  have hne : s.heap.size ≠ a := (Nat.ne_of_lt (Array.getElem?_eq_some_iff.mp hB.1).1).symm
  have c9 : Steps p.tables e below (s₁.setTop (entryFrame m #[.ref a, .ref b, .int (Int32.ofNat o), .int (Int32.ofNat len), .null] 6)) (T8.setTop (mkF m 39 #[.val (.ref a), .val (.ref b), .val (.int (Int32.ofNat o)), .val (.int (Int32.ofNat len)), .val .null, .unset] [.ref s.heap.size])) := g8
  have c10 : Steps p.tables e below (s₁.setTop (entryFrame m #[.ref a, .ref b, .int (Int32.ofNat o), .int (Int32.ofNat len), .null] 6)) (T8.setTop (mkF m 45 #[.val (.ref a), .val (.ref b), .val (.int (Int32.ofNat o)), .val (.int (Int32.ofNat len)), .val .null, .val (.ref s.heap.size)] [.int (Int32.ofNat N.slots.size), .ref s.heap.size, .ref a])) := by
    have hc : Steps p.tables e below (s₁.setTop (entryFrame m #[.ref a, .ref b, .int (Int32.ofNat o), .int (Int32.ofNat len), .null] 6)) (T8.setTop (mkF m 45 #[.val (.ref a), .val (.ref b), .val (.int (Int32.ofNat o)), .val (.int (Int32.ofNat len)), .val .null, .val (.ref s.heap.size)] [.int (Int32.ofNat len), .ref s.heap.size, .ref a])) := c9.trans (by
      refine XS.astore X8.here hexec rfl (hb hbytes d39) rfl rfl rfl ?_
      refine XS.aloadN X8.here hexec rfl (hb hbytes d41) rfl rfl ?_
      refine XS.aload X8.here hexec rfl (hb hbytes d42) rfl rfl ?_
      refine XS.iloadN X8.here hexec rfl (hb hbytes d44) rfl ?_
      exact Steps.refl _)
    rw [n4]; exact hc
  obtain ⟨v11, T11, X11, E11, g11⟩ := X8.callS hexec (CodL.law l s.heap.size N) hown (wks W (staticW "java/lang/String" 47 CodL.yN)) (wk W CodL.tab) (W := 1) (Nat.le_of_ble_eq_true rfl) (Nat.le_of_ble_eq_true rfl) (Nat.le_refl _) (by show 0 + len + 0 ≤ len; omega) (g := (mkF m 45 #[.val (.ref a), .val (.ref b), .val (.int (Int32.ofNat o)), .val (.int (Int32.ofNat len)), .val .null, .val (.ref s.heap.size)] [.int (Int32.ofNat N.slots.size), .ref s.heap.size, .ref a])) rfl (by rw [hml]; rfl) c10 (argsL := [.ref s.heap.size, .int (Int32.ofNat N.slots.size)]) (rest := [.ref a]) rfl rfl (by show 2 * 0 + (1 + 0) ≤ _; decide) (hb hbytes d45) (⟨rfl, n1⟩)
  obtain ⟨rfl, q11⟩ := E11
  have hB11 := hB1.mv (X8.warmed.alike.symm.trans X11.warmed.alike) q11
  have c12 : Steps p.tables e below (s₁.setTop (entryFrame m #[.ref a, .ref b, .int (Int32.ofNat o), .int (Int32.ofNat len), .null] 6)) (T11.setTop (mkF m 48 #[.val (.ref a), .val (.ref b), .val (.int (Int32.ofNat o)), .val (.int (Int32.ofNat len)), .val .null, .val (.ref s.heap.size)] [.int 0, .ref a])) := g11
  obtain ⟨T13, X13, p13, bl13, sl13, st13⟩ := X11.finit hexec hown (wk W (.fieldLink "java/lang/String" 15 "java/lang/String" "coder" "B")) (Or.inr ⟨_, (wk W (.laysFinal "java/lang/String" "java/lang/String" "coder" "B"))⟩) (Or.inl ⟨rfl, hnm⟩) f2 (Or.inl rfl) hB11 (t := .byte) (by decide +kernel) rfl (g := (mkF m 48 #[.val (.ref a), .val (.ref b), .val (.int (Int32.ofNat o)), .val (.int (Int32.ofNat len)), .val .null, .val (.ref s.heap.size)] [.int 0, .ref a])) rfl (rest := []) rfl (hb hbytes d48)
  have c14 : Steps p.tables e below (s₁.setTop (entryFrame m #[.ref a, .ref b, .int (Int32.ofNat o), .int (Int32.ofNat len), .null] 6)) (T13.setTop (mkF m 54 #[.val (.ref a), .val (.ref b), .val (.int (Int32.ofNat o)), .val (.int (Int32.ofNat len)), .val .null, .val (.ref s.heap.size)] [.ref s.heap.size, .ref a])) := (c12.trans (st13 _ (Steps.refl _))).trans (by
    refine XS.aloadN X13.here hexec rfl (hb hbytes d51) rfl rfl ?_
    refine XS.aload X13.here hexec rfl (hb hbytes d52) rfl rfl ?_
    exact Steps.refl _)
  obtain ⟨T15, X15, p15, bl15, sl15, st15⟩ := X13.finit hexec hown (wk W (.fieldLink "java/lang/String" 9 "java/lang/String" "value" "[B")) (Or.inr ⟨_, (wk W (.laysFinal "java/lang/String" "java/lang/String" "value" "[B"))⟩) (Or.inl ⟨rfl, hnm⟩) f1 (Or.inl rfl) bl13 (t := (.array .byte)) (by decide +kernel) rfl (g := (mkF m 54 #[.val (.ref a), .val (.ref b), .val (.int (Int32.ofNat o)), .val (.int (Int32.ofNat len)), .val .null, .val (.ref s.heap.size)] [.ref s.heap.size, .ref a])) rfl (rest := []) rfl (hb hbytes d54)
  have c16 : Steps p.tables e below (s₁.setTop (entryFrame m #[.ref a, .ref b, .int (Int32.ofNat o), .int (Int32.ofNat len), .null] 6)) (T15.setTop (mkF m 57 #[.val (.ref a), .val (.ref b), .val (.int (Int32.ofNat o)), .val (.int (Int32.ofNat len)), .val .null, .val (.ref s.heap.size)] [])) := c14.trans (st15 _ (Steps.refl _))
  have ap := apart (Or.inr ⟨_, (wk W (.laysFinal "java/lang/String" "java/lang/String" "value" "[B"))⟩) (Or.inr ⟨_, (wk W (.laysFinal "java/lang/String" "java/lang/String" "coder" "B"))⟩) f1 f2 (t₁ := .array .byte) (t₂ := .byte) (by decide +kernel) (by decide +kernel) (by decide)
  have al := X8.warmed.alike.symm.trans X15.warmed.alike
  have n7 : T11.heap[s.heap.size]? = some N := by rw [q11]; exact n1.1
  exact ⟨T15, none, _, _, _, X15, by simp, rfl, by omega, (fun _ => rfl), ⟨rfl, _, N, bl15, ((Same.refl D _).set _ (by simp)).set _ (by simp), sl15, (Cell.slots_setSlot_ne _ ap).trans sl13, n1.keep al (p15.other hne (p13.other hne n7)), n2, by rw [al.findClass]; exact n3, n4, n5, fun y c h1 h2 => p15.other h1 (p13.other h1 (by rw [q11]; exact n6 y c h2)), by rw [p15.2.2, p13.2.2, q11]; exact z8⟩, fun fs hl => c16.trans (X15.returnOut hexec hret (hb hbytes d57) hl)⟩
end New4
namespace New1
def yN : MethodName := ⟨"java/lang/String", "<init>", "([C)V"⟩
abbrev yB : ByteArray := jdk_42_method_3_code
theorem d0 : decode yB 0 = .ok (.aload_n 0, 1) := by decide +kernel
theorem d1 : decode yB 1 = .ok (.aload_n 1, 1) := by decide +kernel
theorem d2 : decode yB 2 = .ok (.iconst 0, 1) := by decide +kernel
theorem d3 : decode yB 3 = .ok (.aload_n 1, 1) := by decide +kernel
theorem d4 : decode yB 4 = .ok (.arraylength, 1) := by decide +kernel
theorem d5 : decode yB 5 = .ok (.aconst_null, 1) := by decide +kernel
theorem d6 : decode yB 6 = .ok (.invokespecial 27, 3) := by decide +kernel
theorem d9 : decode yB 9 = .ok (.return_, 1) := by decide +kernel
def site : List Cond := [New4.tab] ++ initW "java/lang/String" 27 New4.yN
def tab : Cond := tabOf yN yB 2 none site
def P (a : Addr) (D : Cell) (fV fC : Field) (b : Addr) (A : Cell) (z : Int32) (args : Array Value) (s : State) : Prop := args = #[.ref a, .ref b] ∧ Blank "java/lang/String" a D s ∧ Found "java/lang/String" "value" "[B" fV s ∧ Found "java/lang/String" "coder" "B" fC s ∧ Ch b A s ∧ StaticIs s "java/lang/String" "COMPACT_STRINGS" "Z" (.int z) ∧ ¬ z = 0 ∧ 0 < A.slots.size ∧ A.slots.size ≤ 536870912 ∧ ∀ i, i < A.slots.size → ¬ 255 < cv A i
def E (a : Addr) (D : Cell) (fV fC : Field) (A : Cell) (r : Option Value) (s u : State) : Prop := Got a D fV fC A 0 A.slots.size r s u
/-- new String(chars), not empty, no char above 255: a Latin-1 String of their low bytes -/
theorem law (l : Launch) (a : Addr) (D : Cell) (fV fC : Field) (b : Addr) (A : Cell) (z : Int32) : Law l yN 2 1 3 52 yB 2 none site (P a D fV fC b A z) (E a D fV fC A) [⟨a, fC.slot⟩, ⟨a, fV.slot⟩] 1 A.slots.size := by
  refine Law.of_walk (plainFor_of_name (by decide +kernel)) (by decide +kernel) (by decide +kernel) (by decide) (fun _ _ h => by rw [h.1]; rfl) (fun _ U U' hal hh h => ⟨h.1, h.2.1.mv hal hh, h.2.2.1.al hal, h.2.2.2.1.al hal, h.2.2.2.2.1.mv hal hh, h.2.2.2.2.2.1.there hal hh, h.2.2.2.2.2.2⟩) (fun r U U' V V' h1 hal h2 h => Got.mv r U U' V V' h1 hal h2 h) ?_
  intro p e s m args below meth c s₁ X0 hexec hbytes hml hret hlk hnm hown hh0 W hP
  obtain ⟨rfl, hB, f1, f2, hA, s1, hz, l0, l2, hp⟩ := hP
  have c1 : Steps p.tables e below (s₁.setTop (entryFrame m #[.ref a, .ref b] 2)) (s₁.setTop (mkF m 0 #[.val (.ref a), .val (.ref b)] [])) := entry rfl
  have c2 : Steps p.tables e below (s₁.setTop (entryFrame m #[.ref a, .ref b] 2)) (s₁.setTop (mkF m 6 #[.val (.ref a), .val (.ref b)] [.null, .int (Int32.ofNat A.slots.size), .int 0, .ref b, .ref a])) := c1.trans (by
    refine XS.aloadN X0.here hexec rfl (hb hbytes d0) rfl rfl ?_
    refine XS.aloadN X0.here hexec rfl (hb hbytes d1) rfl rfl ?_
    refine iconstV X0.here hexec rfl 0 (hb hbytes d2) (by decide) ?_
    refine XS.aloadN X0.here hexec rfl (hb hbytes d3) rfl rfl ?_
    refine X0.alen hexec (hA.1.mv X0.warmed.alike hh0) rfl rfl (hb hbytes d4) ?_
    refine XS.aconstNull X0.here hexec rfl (hb hbytes d5) ?_
    exact Steps.refl _)
  obtain ⟨v3, T3, X3, E3, g3⟩ := X0.callN hexec (New4.law l a D fV fC b A z 0 A.slots.size) rfl hown (wks W (initW "java/lang/String" 27 New4.yN)) (W New4.tab (by simp only [site, List.mem_cons, List.mem_append, true_or, or_true])) (W := 0) (Nat.le_of_ble_eq_true rfl) (Nat.le_of_ble_eq_true rfl) (Nat.le_refl _) (by show 0 + A.slots.size ≤ A.slots.size; omega) (g := (mkF m 6 #[.val (.ref a), .val (.ref b)] [.null, .int (Int32.ofNat A.slots.size), .int (Int32.ofNat 0), .ref b, .ref a])) rfl (by rw [hml]; rfl) c2 (argsL := [.ref b, .int (Int32.ofNat 0), .int (Int32.ofNat A.slots.size), .null]) (rest := []) rfl rfl (by show 2 * 0 + 0 ≤ _; decide) (hb hbytes d6) (⟨rfl, hB.mv X0.warmed.alike hh0, f1.al X0.warmed.alike, f2.al X0.warmed.alike, hA.mv X0.warmed.alike hh0, s1.there X0.warmed.alike hh0, hz, l0, by omega, l2, fun i hi => by rw [Nat.zero_add]; exact hp i hi⟩)
  have e0 := Got.mv _ s₁ s _ _ hh0.symm (Vm.Alike.refl _) rfl E3
  obtain rfl := e0.1
  have c4 : Steps p.tables e below (s₁.setTop (entryFrame m #[.ref a, .ref b] 2)) (T3.setTop (mkF m 9 #[.val (.ref a), .val (.ref b)] [])) := g3
  exact ⟨T3, none, _, _, _, X3, by simp, rfl, by omega, (fun _ => rfl), e0, fun fs hl => c4.trans (X3.returnOut hexec hret (hb hbytes d9) hl)⟩
theorem pays {l : Launch} {R : Room} {p : Program} {e : Env} {below : List Frame} {s : State} {sargs : Array Value} {len W : Nat} (a : Addr) (D : Cell) (fV fC : Field) (b : Addr) (A : Cell) (z : Int32) (htab : tab.before sargs s = true) (hfr : 4 ≤ R.frames) (hlo : W + 65 ≤ R.locals) :
    Back l R p e below s sargs yN len W (fun A₁ a₁ => A₁.cells + 1 ≤ R.cells ∧ A₁.slots + A.slots.size ≤ R.slots ∧ P a D fV fC b A z a₁ A₁.U) (fun A₁ _ v₁ B₁ => E a D fV fC A v₁ A₁.U B₁.U ∧ B₁.locs = A₁.locs ++ [⟨a, fC.slot⟩, ⟨a, fV.slot⟩] ∧ B₁.cells = A₁.cells + 1 ∧ B₁.slots = A₁.slots + A.slots.size) :=
  (law l a D fV fC b A z).pays htab hfr (by omega)
end New1
end StrChars
namespace StrChars.Road
open Jvm Sem ClassFile Op Lib Jvm.Stand Jvm.Free Jvm.Free.XT
open Jvm.Lib.Cold (StaticIs)
abbrev ST : String := "java/lang/String"
/-- every table word that New1's law asks, flat -/
abbrev words : List Jvm.Cond := [.code New1.yN New1.yB 2 none, .initialized ST, .methodLink ST 27 New4.yN, .instanceMethod New4.yN,
  .code New4.yN New4.yB 6 none, .fieldLink ST 38 ST "COMPACT_STRINGS" "Z", .laysFinal ST ST "value" "[B", .fieldLink ST 9 ST "value" "[B", .laysFinal ST ST "coder" "B", .fieldLink ST 15 ST "coder" "B",
  .methodLink ST 1 Lib.objectInit, .instanceMethod Lib.objectInit, .code Lib.objectInit ⟨#[0xb1]⟩ 1 none, .methodLink ST 177 Cmp3.yN, .static Cmp3.yN, .methodLink ST 47 CodL.yN, .static CodL.yN,
  .code Cmp3.yN Cmp3.yB 6 (some (.array .byte)), .initialized U16, .arrayClass .byte, .methodLink U16 115 Cmp5.yN, .static Cmp5.yN, .code Cmp5.yN Cmp5.yB 7 (some .int), .code CodL.yN CodL.yB 2 (some .byte)]
theorem tab_of {a : Array Value} {s : State} (h : ∀ w ∈ words, w.before a s = true) : New1.tab.before a s = true := by
  have h5 : Cmp5.tab.before a s = true := unparts (wk h (.code Cmp5.yN Cmp5.yB 7 (some .int))) (wks h (.initialized Cmp5.yN.cls :: Cmp5.site))
  have hc : CodL.tab.before a s = true := unparts (wk h (.code CodL.yN CodL.yB 2 (some .byte))) (wks h (.initialized CodL.yN.cls :: CodL.site))
  have q5 : ∀ w ∈ Cmp5.tab :: words, w.before a s = true := fun w hw => (List.mem_cons.mp hw).elim (fun e => e ▸ h5) (h w)
  have h3 : Cmp3.tab.before a s = true := unparts (wk q5 (.code Cmp3.yN Cmp3.yB 6 (some (.array .byte)))) (wks q5 (.initialized Cmp3.yN.cls :: Cmp3.site))
  have q3 : ∀ w ∈ Cmp3.tab :: CodL.tab :: words, w.before a s = true := fun w hw => (List.mem_cons.mp hw).elim (fun e => e ▸ h3) fun hw => (List.mem_cons.mp hw).elim (fun e => e ▸ hc) (h w)
  have h4 : New4.tab.before a s = true := unparts (wk q3 (.code New4.yN New4.yB 6 none)) (wks q3 (.initialized New4.yN.cls :: New4.site))
  have q4 : ∀ w ∈ New4.tab :: words, w.before a s = true := fun w hw => (List.mem_cons.mp hw).elim (fun e => e ▸ h4) (h w)
  exact unparts (wk q4 (.code New1.yN New1.yB 2 none)) (wks q4 (.initialized New1.yN.cls :: New1.site))
/-- the words ride from the start Z to the walk's own state -/
theorem moved {Z s : State} {a0 args : Array Value} (hZ : Z.Warmed39 s.vm) (hw : ∀ d ∈ words, d.before a0 Z = true) : ∀ d ∈ words, d.before args s = true := fun d hd => by
  have q := hw d hd
  have t : ∀ d ∈ words, d = .arrayClass .byte ∨ (d.onTables && d.keepsFace) = true := by decide +kernel
  rcases t d hd with rfl | t
  · exact RoadKit.mvA hZ q
  · exact RoadKit.mv hZ q t
/-- WHAT COMES BACK, over the tables of the start Z: h the heap at the call, h' behind it -/
def Q (Z : State) (x : Addr) (A : Cell) (h : Heap) (v : Option Value) (h' : Heap) (L : List Loc) : Prop := v = none ∧ (∀ y ∈ L, y.base = x) ∧ RoadKit.Keep h h' [x] ∧ h'.size = h.size + 1 ∧ RoadKit.Exa Z h' x ST ∧ RoadKit.Fld Z h' x ST "value" "[B" (.ref h.size) ∧ RoadKit.Fld Z h' x ST "coder" "B" (.int 0) ∧
  (∃ V : Cell, RoadKit.Arr Z h' h.size V .byte ∧ V.vm = .none ∧ Z.vm.findClass "[B" = some V.cls ∧ V.slots.size = A.slots.size ∧ ∀ j, j < A.slots.size → V.slots[j]? = some (.int (lo8 (cv A j)))) ∧
  ∀ (O n d : String) (w : Value), RoadKit.Fld Z h x O n d w → RoadKit.slotOf Z O n d ≠ RoadKit.slotOf Z ST "value" "[B" → RoadKit.slotOf Z O n d ≠ RoadKit.slotOf Z ST "coder" "B" → RoadKit.Fld Z h' x O n d w
/-- **new String(chars) AT A CALL, IN THE ROAD'S FORM**: for specialBack behind newO: x the fresh String, b the char[] with the cell A -/
theorem back {p : Program} {l : Launch} {e : Env} {R : Room} {s : State} {args : Array Value} {below : List Frame} {len W : Nat} {Z : State} {a0 : Array Value} {h : Heap} (hZ : Z.Warmed39 s.vm) (hw : ∀ d ∈ words, d.before a0 Z = true) {kI : Nat} (wi : (Jvm.Cond.instantiable ST kI).before a0 Z = true)
    {x b : Addr} {A : Cell} {z : Int32} {v0 c0 : Value} (E : RoadKit.Exa Z h x ST) (V : RoadKit.Fld Z h x ST "value" "[B" v0) (C : RoadKit.Fld Z h x ST "coder" "B" c0) (K : RoadKit.Arr Z h b A .char) (hty : Typed .char A) (S : RoadKit.Sta Z h ST "COMPACT_STRINGS" "Z" (.int z)) (hz : ¬ z = 0)
    (l0 : 0 < A.slots.size) (l2 : A.slots.size ≤ 536870912) (hp : ∀ i, i < A.slots.size → ¬ 255 < cv A i) (hfr : 4 ≤ R.frames) (hlo : W + 65 ≤ R.locals) :
    Back l R p e below s args New1.yN len W (fun P a => a = #[.ref x, .ref b] ∧ P.U.heap = h ∧ P.cells + 1 ≤ R.cells ∧ P.slots + A.slots.size ≤ R.slots)
      (fun P _ v B => ∃ L, Q Z x A h v B.U.heap L ∧ B.locs = P.locs ++ L ∧ B.cells = P.cells + 1 ∧ B.slots = P.slots + A.slots.size) := by
  intro m meth c P g ig mk a X hg hsize hdg hW hn hp'
  obtain ⟨rfl, rfl, r1, r2⟩ := hp'
  have al : Z.vm.Alike P.U.vm := hZ.alike.trans X.warmed.alike
  obtain ⟨D, cfV, kV, iV, fV, hD, gV, stV, knV, obV, asV, slV⟩ := id V
  obtain ⟨D', cfC, kC, iC, fC, hD', gC, stC, -, -, asC, slC⟩ := id C
  cases hD.symm.trans hD'
  obtain ⟨D2, kD, e1, e2, e3, e4, e5⟩ := id E
  cases hD.symm.trans e1
  obtain ⟨c2, k2, i1, i2, i3, -⟩ := Cond.instantiable_spec wi
  cases e2.symm.trans i1
  cases e3.symm.trans i2
  obtain ⟨kU, u1, u2⟩ := al.2.2 _ _ e3
  have hB : Blank ST x D P.U := ⟨hD, ⟨knV, fun q hq => by rw [hq] at obV; cases obV⟩, by rw [al.findClass]; exact e2, kU, u1, by rw [u2]; exact i3, by rw [u2]; exact e5 i3⟩
  have F1 : Found ST "value" "[B" fV P.U := ⟨SBG.found_only al ⟨cfV, kV, iV, gV⟩, stV⟩
  have F2 : Found ST "coder" "B" fC P.U := ⟨SBG.found_only al ⟨cfC, kC, iC, gC⟩, stC⟩
  have hA : Ch b A P.U := ⟨⟨K.1, State.isArrayOf_alike al K.2.1, K.2.2, by omega⟩, hty⟩
  have hS : StaticIs P.U ST "COMPACT_STRINGS" "Z" (.int z) := by
    obtain ⟨cfS, iS, kS, fS, st, cS, t1, t2, t3, t4, t5, t6, t7⟩ := S
    exact StaticIs.there (s := { Z with heap := P.U.heap }) ⟨cfS, iS, kS, fS, st, cS, t1, t2, t3, t4, t5, (fun q => by rw [q] at t6; cases t6), t7⟩ al rfl
  obtain ⟨v, B, X', ⟨⟨hv, E', V', q1, q2, q3, q4, q5, q6, q7, q8, q9, q10, q11⟩, hl, hc, hs⟩, st⟩ := New1.pays x D fV fC b A z (tab_of (moved hZ hw)) hfr hlo m meth c P g ig mk _ X hg hsize hdg hW hn ⟨r1, r2, rfl, hB, F1, F2, hA, hS, hz, l0, l2, hp⟩
  have al' : Z.vm.Alike B.U.vm := hZ.alike.trans X'.warmed.alike
  have hsz : E'.slots.size = D.slots.size := by
    obtain ⟨-, -, -, kB, w1, w2, w3⟩ := q1
    obtain ⟨kB', y1, y2⟩ := al'.2.2 _ _ e3
    rw [q2.2.1] at w1
    cases w1.symm.trans y1
    rw [w3, e5 i3, y2]
  refine ⟨v, B, X', ⟨_, ⟨hv, ?_, ⟨by omega, fun y cy hy hn' => q10 y cy (by simpa using hn') hy, fun y cy hy => ?_⟩, q11, ⟨E', _, q1.1, by rw [q2.2.1]; exact e2, by rw [q2.2.1]; exact e3, by rw [q2.1]; exact obV, fun _ => by rw [hsz]; exact e5 i3⟩,
    ⟨E', cfV, kV, iV, fV, q1.1, gV, stV, by rw [q2.1]; exact knV, by rw [q2.1]; exact obV, by rw [q2.2.1]; exact asV, q3⟩, ⟨E', cfC, kC, iC, fC, q1.1, gC, stC, by rw [q2.1]; exact knV, by rw [q2.1]; exact obV, by rw [q2.2.1]; exact asC, q4⟩,
    ⟨V', ⟨q5.1, State.isArrayOf_alike al'.symm q5.2.1, q5.2.2.1⟩, q6, by rw [← al'.findClass]; exact q7, q8, fun j hj => by have := q9 j hj; rwa [Nat.zero_add] at this⟩, fun O n d w F n1 n2 => ?_⟩, hl, hc, hs⟩, st⟩
  · intro y hy
    simp only [List.mem_cons, List.not_mem_nil, or_false] at hy
    rcases hy with rfl | rfl <;> rfl
  · by_cases q : y = x
    · subst q
      cases hD.symm.trans hy
      exact ⟨E', q1.1, q2.2.1, q2.1, hsz⟩
    · exact ⟨cy, q10 y cy q hy, rfl, rfl, rfl⟩
  · obtain ⟨D3, cf, k, i, f, g1, g2, g3, g4, g5, g6, g7⟩ := F
    cases hD.symm.trans g1
    simp only [RoadKit.slotOf, g2, gV, gC, Option.map_some, Option.getD_some] at n1 n2
    exact ⟨E', cf, k, i, f, q1.1, g2, g3, by rw [q2.1]; exact g4, by rw [q2.1]; exact g5, by rw [q2.2.1]; exact g6, by rw [q2.2.2 f.slot (by simp [n1, n2])]; exact g7⟩
end StrChars.Road
namespace StrChars.Road
open Jvm Sem ClassFile Op Lib Jvm.Stand Jvm.Free Jvm.Free.XT
/-- WHAT COMES BACK, the byte[] as a list of values -/
def QA (Z : State) (x : Addr) (zn : Int32) (cs : List Int32) (h : Heap) (v : Option Value) (h' : Heap) (L : List Loc) : Prop := v = none ∧ (∀ y ∈ L, y.base = x) ∧ RoadKit.Keep h h' [x] ∧ h'.size = h.size + 1 ∧ RoadKit.Exa Z h' x ST ∧ RoadKit.Fld Z h' x ST "value" "[B" (.ref h.size) ∧ RoadKit.Fld Z h' x ST "coder" "B" (.int 0) ∧
  (∃ kb, Z.vm.findClass "[B" = some kb ∧ RoadKit.Arv Z h' h.size kb .byte zn (cs.map fun c => .int (lo8 c)) (.int 0)) ∧
  ∀ (O n d : String) (w : Value), RoadKit.Fld Z h x O n d w → RoadKit.slotOf Z O n d ≠ RoadKit.slotOf Z ST "value" "[B" → RoadKit.slotOf Z O n d ≠ RoadKit.slotOf Z ST "coder" "B" → RoadKit.Fld Z h' x O n d w
/-- **new String(chars) AT A CALL, THE ARRAYS AS LISTS**: the char[] at b holds cs, not empty, no char above 255 -/
theorem backArv {p : Program} {l : Launch} {e : Env} {R : Room} {s : State} {args : Array Value} {below : List Frame} {len W : Nat} {Z : State} {a0 : Array Value} {h : Heap} (hZ : Z.Warmed39 s.vm) (hw : ∀ d ∈ words, d.before a0 Z = true) {kI : Nat} (wi : (Jvm.Cond.instantiable ST kI).before a0 Z = true)
    {x b : Addr} {k : ClassId} {zn z : Int32} {cs : List Int32} {dv v0 c0 : Value} (E : RoadKit.Exa Z h x ST) (V : RoadKit.Fld Z h x ST "value" "[B" v0) (C : RoadKit.Fld Z h x ST "coder" "B" c0) (K : RoadKit.Arv Z h b k .char zn (cs.map Value.int) dv) (S : RoadKit.Sta Z h ST "COMPACT_STRINGS" "Z" (.int z)) (hz : ¬ z = 0)
    (hlen : zn.toNatClampNeg = cs.length) (h0 : 0 < cs.length) (hbig : cs.length ≤ 536870912) (hall : ∀ c ∈ cs, ¬ 255 < c) (hfr : 4 ≤ R.frames) (hlo : W + 65 ≤ R.locals) :
    Back l R p e below s args New1.yN len W (fun P a => a = #[.ref x, .ref b] ∧ P.U.heap = h ∧ P.cells + 1 ≤ R.cells ∧ P.slots + cs.length ≤ R.slots)
      (fun P _ v B => ∃ L, QA Z x zn cs h v B.U.heap L ∧ B.locs = P.locs ++ L ∧ B.cells = P.cells + 1 ∧ B.slots = P.slots + cs.length) := by
  obtain ⟨A, K1, K2, K3, K4, K5, K6⟩ := K
  have e : A.slots.size = cs.length := K3.trans hlen
  have hat : ∀ (i : Nat) (hi : i < cs.length), A.slots[i]? = some (.int cs[i]) := fun i hi => by rw [K5 i (by omega)]; simp [List.getD_eq_getElem?_getD, hi]
  have hcv : ∀ (i : Nat) (hi : i < cs.length), cv A i = cs[i] := fun i hi => by unfold cv; rw [hat i hi]
  have hty : Typed .char A := fun i v hv => by
    have hi : i < A.slots.size := (Array.getElem?_eq_some_iff.mp hv).1
    have q := K5 i hi
    rw [hv] at q
    rw [Option.some.inj q]
    exact K6 i hi
  refine Back.mono (back hZ hw wi E V C K1 hty S hz (by omega) (by omega) (fun i hi => by rw [hcv i (by omega)]; exact hall _ (List.getElem_mem _)) hfr hlo) (fun P a hp => ⟨hp.1, hp.2.1, hp.2.2.1, by rw [e]; exact hp.2.2.2⟩) (fun P a v B hp hq => ?_)
  obtain ⟨L, ⟨q1, q2, q3, q4, q5, q6, q7, ⟨V', v1, v2, v3, v4, v5⟩, q9⟩, hl, hc, hs⟩ := hq
  refine ⟨L, ⟨q1, q2, q3, q4, q5, q6, q7, ⟨V'.cls, v3, V', v1, rfl, by rw [v4, e, hlen], K4, fun i hi => ?_, fun i hi => ?_⟩, q9⟩, hl, hc, by rw [hs, e]⟩
  · have hi' : i < cs.length := by omega
    rw [v5 i (by omega), hcv i hi']; simp [List.getD_eq_getElem?_getD, hi']
  · have hi' : i < cs.length := by omega
    simp only [List.getD_eq_getElem?_getD, List.getElem?_map, List.getElem?_eq_getElem hi', Option.map_some, Option.getD_some]
    exact fits_lo8 _
end StrChars.Road
namespace StrChars.Road
open Jvm Sem ClassFile Op Lib Jvm.Stand Jvm.Free Jvm.Free.XT
/-- WHAT COMES BACK, in the writer's own shape -/
def QV (Z : State) (x : Addr) (N : Int32) (bs : List Int32) (h : Heap) (n0 : Nat) (v : Option Value) (h' : Heap) (L : List Loc) : Prop := v = none ∧ RoadKit.Fr n0 L ∧ RoadKit.Keep h h' [x] ∧ RoadKit.Exa Z h' x ST ∧ RoadKit.Fld Z h' x ST "coder" "B" (.int 0) ∧
  ∃ (t : Addr) (kb : ClassId), n0 ≤ t ∧ h.size ≤ t ∧ ¬ t = x ∧ RoadKit.Fld Z h' x ST "value" "[B" (.ref t) ∧ RoadKit.Arv Z h' t kb .byte N (bs.map Value.int) (.int 0)
/-- **new String(chars) AT A CALL, FOR THE WRITER**: a char[] of n known ints, each 0 to 255 -/
theorem backV {p : Program} {l : Launch} {e : Env} {R : Room} {s : State} {args : Array Value} {below : List Frame} {len W : Nat} {Z : State} {a0 : Array Value} {h : Heap} (hZ : Z.Warmed39 s.vm) (hw : ∀ d ∈ words, d.before a0 Z = true) {kI : Nat} (wi : (Jvm.Cond.instantiable ST kI).before a0 Z = true)
    {x b : Addr} {kC : ClassId} {cs bs : List Int32} {d v0 c0 : Value} {z N : Int32} {n n0 : Nat} (hx0 : n0 ≤ x) (hh0 : n0 ≤ h.size) (E : RoadKit.Exa Z h x ST) (V : RoadKit.Fld Z h x ST "value" "[B" v0) (C : RoadKit.Fld Z h x ST "coder" "B" c0) (K : RoadKit.Arv Z h b kC .char N (cs.map Value.int) d) (S : RoadKit.Sta Z h ST "COMPACT_STRINGS" "Z" (.int z)) (hz : ¬ z = 0)
    (hn : cs.length = n) (hN : N = Int32.ofNat n) (l0 : 0 < n) (l2 : n ≤ 4000) (hp : ∀ c ∈ cs, ¬ c < 0 ∧ ¬ (255 : Int32) < c) (hb : bs = cs.map (fun c => c.toInt8.toInt32)) (hfr : 4 ≤ R.frames) (hlo : W + 65 ≤ R.locals) :
    Back l R p e below s args (⟨"java/lang/String", "<init>", "([C)V"⟩ : MethodName) len W (fun P a => a = #[.ref x, .ref b] ∧ P.U.heap = h ∧ P.cells + 1 ≤ R.cells ∧ P.slots + n ≤ R.slots)
      (fun P _ v B => ∃ L, QV Z x N bs h n0 v B.U.heap L ∧ B.locs = P.locs ++ L ∧ B.cells = P.cells + 1 ∧ B.slots = P.slots + n) := by
  subst hn hN hb
  refine Back.mono (backArv hZ hw wi E V C K S hz (n32 (by omega)) l0 (by omega) (fun c hc => (hp c hc).2) hfr hlo) (fun P a hp => hp) (fun P a v B hp hq => ?_)
  obtain ⟨L, ⟨q1, q2, q3, q4, q5, q6, q7, ⟨kb, v1, v2⟩, q9⟩, hl, hc, hs⟩ := hq
  exact ⟨L, ⟨q1, fun y hy => by rw [q2 y hy]; exact hx0, q3, q5, q7, h.size, kb, hh0, Nat.le_refl _, Nat.ne_of_gt E.lt, q6, by rw [List.map_map]; exact v2⟩, hl, hc, hs⟩
end StrChars.Road
end Jvm.Pilot.@@N@@
namespace Jvm.Pilot.@@N@@
open Jvm Jvm.ClassFile Sem Op Lib Jvm.Free Jvm.Stand Jvm.LawKit Jvm.RoadKit Bundle Jvm.Pilot.@@N@@.Jvm.D
/-! the run comes to an end that answers Q -/
def Go (p : Program) (e : Env) (below : List Frame) (Q : Outcome → State → Prop) (T : State) (g : JFrame) : Prop :=
  ∃ s₂ o, Steps p.tables e below (T.setTop g) s₂ ∧ s₂.status = .running ∧ Ended s₂ below o ∧ Q o s₂
section Own
variable {p : Program} {l : Launch} {e : Env} {R : Room} {s : State} {m : MethodId} {args : Array Value} {below : List Frame} {meth : Method} {c : Code} {T T' : State} {locs : List Loc} {cells slots : Nat} {Q : Outcome → State → Prop} {g g' : JFrame}
theorem Go.of (k : ∀ t, Steps p.tables e below (T'.setTop g') t → Steps p.tables e below (T.setTop g) t) (h : Go p e below Q T' g') : Go p e below Q T g := by
  obtain ⟨u, o, h1, h2⟩ := h
  exact ⟨u, o, k _ h1, h2⟩
theorem Go.via (k : Steps p.tables e below (T.setTop g) (T'.setTop g')) (h : Go p e below Q T' g') : Go p e below Q T g := by
  obtain ⟨u, o, h1, h2⟩ := h
  exact ⟨u, o, k.trans h1, h2⟩
theorem Go.cast (q : g = g') (h : Go p e below Q T g') : Go p e below Q T g := q ▸ h
theorem own_out (X : Stand p l e R s m args below meth c T locs cells slots) {v : Option Value} (hv : meth.sig.returnType = none → v = none) (hlocks : meth.locks = false)
    (k : ∀ fs : List Frame, (∀ (f : JFrame) (acts : List Action), f.method = m → f.locked = none → f.entered = [] → (doReturn e (T.setTop f) acts v).1 = T.setFrames fs) → Steps p.tables e below (T.setTop g) (T.setFrames fs))
    (hQ : ∀ u : State, u.heap = T.heap → FrameEnd s (.returned v) u locs cells slots → Q (.returned v) u) : Go p e below Q T g := by
  obtain ⟨fs, hr, hrun, hended, hW, hsame⟩ := X.leave hv hlocks
  exact ⟨_, _, k fs hr, hrun, hended, hQ _ rfl ⟨⟨_, rfl⟩, hW, hsame⟩⟩
theorem own_retN (X : Stand p l e R s m args below meth c T locs cells slots) (hx : p.tables.exec = Jvm.exec) (hlocks : meth.locks = false) {pc : Nat} {Ls : Array Slot} {z : Int32} {t : FieldType} {rest : List Value} (hret : meth.sig.returnType = some t) (ht : t = .boolean ∨ t = .byte ∨ t = .char ∨ t = .short)
    (hd : decode c.code pc = .ok (.ireturn, 1)) (hQ : ∀ u : State, u.heap = T.heap → FrameEnd s (.returned (some (.int (nar t z)))) u locs cells slots → Q (.returned (some (.int (nar t z)))) u) : Go p e below Q T (mkF m pc Ls (.int z :: rest)) :=
  own_out X (fun h => by rw [hret] at h; cases h) hlocks (fun fs hr => retN X hx hret ht hd hr) hQ
theorem own_retW (X : Stand p l e R s m args below meth c T locs cells slots) (hx : p.tables.exec = Jvm.exec) (hlocks : meth.locks = false) {pc : Nat} {Ls : Array Slot} {w : Value} {t : FieldType} {i : Instr} {rest : List Value} (hret : meth.sig.returnType = some t) (hn : narrow t w = w)
    (hi : (i = .ireturn ∧ (t = .int ∨ t = .boolean ∨ t = .byte ∨ t = .char ∨ t = .short) ∧ ∃ z, w = .int z) ∨ (i = .lreturn ∧ t = .long ∧ ∃ z, w = .long z) ∨ (i = .dreturn ∧ t = .double ∧ ∃ z, w = .double z) ∨ (i = .freturn ∧ t = .float ∧ ∃ z, w = .float z) ∨ (i = .areturn ∧ t.isReference = true ∧ w.isRef = true))
    (hd : decode c.code pc = .ok (i, 1)) (hQ : ∀ u : State, u.heap = T.heap → FrameEnd s (.returned (some w)) u locs cells slots → Q (.returned (some w)) u) : Go p e below Q T (mkF m pc Ls (w :: rest)) :=
  own_out X (fun h => by rw [hret] at h; cases h) hlocks (fun fs hr => retOut X hx hret hn hi hd hr) hQ
theorem own_ret0 (X : Stand p l e R s m args below meth c T locs cells slots) (hx : p.tables.exec = Jvm.exec) (hlocks : meth.locks = false) {pc : Nat} {Ls : Array Slot} (hret : meth.sig.returnType = none)
    (hd : decode c.code pc = .ok (.return_, 1)) (hQ : ∀ u : State, u.heap = T.heap → FrameEnd s (.returned none) u locs cells slots → Q (.returned none) u) : Go p e below Q T (mkF m pc Ls []) :=
  own_out X (fun _ => rfl) hlocks (fun fs hr => X.returnOut hx hret hd hr) hQ
theorem own_mono {o : Outcome} {u : State} {k n k' n' : Nat} (h : FrameEnd s o u locs k n) (hk : k ≤ k') (hn : n ≤ n') : FrameEnd s o u locs k' n' := ⟨h.1, h.2.1, h.2.2.mono hk hn⟩
end Own
theorem own_eqI {args : Array Value} {s : State} {t : Term} {k : Int32} (h : (Cond.eq t (.int k)).value args s none s [] = some true) : t.eval args s none [] s = some (.int k) := by
  simp only [Cond.value, Term.eval] at h
  cases ht : t.eval args s none [] s with
  | none => simp [ht] at h
  | some x => cases x <;> simp [ht] at h ⊢; exact h
theorem own_staKeep {Z : State} {h h' : Heap} {C n d : String} {v : Value} {ws : List Addr} (F : Sta Z h C n d v) (K : Keep h h' ws) (q : ∀ x ∈ ws, ∀ cell : Cell, h[x]? = some cell → cell.vm.isStatics = false) : Sta Z h' C n d v := by
  obtain ⟨cf, i, k, f, st, cell, h1, h2, h3, h4, h5, h6, h7⟩ := F
  have hn : st ∉ ws := fun y => by have := q st y cell h5; rw [this] at h6; cases h6
  exact ⟨cf, i, k, f, st, cell, h1, h2, h3, h4, K.2.1 st cell h5 hn, h6, h7⟩
theorem own_plainE {Z : State} {h : Heap} {a : Addr} {C : String} (F : Exa Z h a C) : ∀ cell : Cell, h[a]? = some cell → cell.vm.isStatics = false := fun cell hc => by
  obtain ⟨c, _, h1, -, -, h4, -⟩ := F
  cases h1.symm.trans hc; exact h4
theorem own_plainV {Z : State} {h : Heap} {a : Addr} {k : ClassId} {ty : FieldType} {n : Int32} {vs : List Value} {d : Value} (F : Arv Z h a k ty n vs d) : ∀ cell : Cell, h[a]? = some cell → cell.vm.isStatics = false := fun cell hc => by
  obtain ⟨c, A, -⟩ := F
  cases A.1.symm.trans hc; exact A.plain
theorem d7_0 : decode method_2_code 0 = .ok (.iload_n 0, 1) := by decide +kernel
theorem d7_1 : decode method_2_code 1 = .ok (.iconst 3, 1) := by decide +kernel
theorem d7_2 : decode method_2_code 2 = .ok (.iand, 1) := by decide +kernel
theorem d7_3 : decode method_2_code 3 = .ok (.istore_n 1, 1) := by decide +kernel
theorem d7_4 : decode method_2_code 4 = .ok (.iload_n 1, 1) := by decide +kernel
theorem d7_5 : decode method_2_code 5 = .ok (.ifCond .ne 10, 3) := by decide +kernel
theorem d7_8 : decode method_2_code 8 = .ok (.getstatic 7, 3) := by decide +kernel
theorem d7_11 : decode method_2_code 11 = .ok (.astore_n 2, 1) := by decide +kernel
theorem d7_12 : decode method_2_code 12 = .ok (.goto 31, 3) := by decide +kernel
theorem d7_15 : decode method_2_code 15 = .ok (.iload_n 1, 1) := by decide +kernel
theorem d7_16 : decode method_2_code 16 = .ok (.iconst 1, 1) := by decide +kernel
theorem d7_17 : decode method_2_code 17 = .ok (.if_icmp .ne 10, 3) := by decide +kernel
theorem d7_20 : decode method_2_code 20 = .ok (.getstatic 13, 3) := by decide +kernel
theorem d7_23 : decode method_2_code 23 = .ok (.astore_n 2, 1) := by decide +kernel
theorem d7_24 : decode method_2_code 24 = .ok (.goto 19, 3) := by decide +kernel
theorem d7_27 : decode method_2_code 27 = .ok (.iload_n 1, 1) := by decide +kernel
theorem d7_28 : decode method_2_code 28 = .ok (.iconst 2, 1) := by decide +kernel
theorem d7_29 : decode method_2_code 29 = .ok (.if_icmp .ne 10, 3) := by decide +kernel
theorem d7_32 : decode method_2_code 32 = .ok (.getstatic 16, 3) := by decide +kernel
theorem d7_35 : decode method_2_code 35 = .ok (.astore_n 2, 1) := by decide +kernel
theorem d7_36 : decode method_2_code 36 = .ok (.goto 7, 3) := by decide +kernel
theorem d7_39 : decode method_2_code 39 = .ok (.getstatic 19, 3) := by decide +kernel
theorem d7_42 : decode method_2_code 42 = .ok (.astore_n 2, 1) := by decide +kernel
theorem d7_43 : decode method_2_code 43 = .ok (.aload_n 2, 1) := by decide +kernel
theorem d7_44 : decode method_2_code 44 = .ok (.areturn, 1) := by decide +kernel
theorem pn_0 : plainName "com/example/mimosa/mimosa/bson/BsonElementStandsInPinLaw" = true := by first | (simp [plainName, overriddenIn]; done) | decide +kernel
theorem ef_7 (m : MethodId) (i1 : Int32)  : entryFrame m #[(.int i1)] 3 = mkF m 0 #[.val (.int i1), .unset, .unset] [] := by
  first | (simp [entryFrame, mkF, argsToLocals, Value.category]; done) | rfl
def F7 (i1 : Int32) (z_NULL : Addr) (z_STRING : Addr) (z_DOCUMENT : Addr) (z_INT32 : Addr) : Addr := (if (i1 &&& (3 : Int32)) = (0 : Int32) then z_INT32 else (if (i1 &&& (3 : Int32)) = (1 : Int32) then z_DOCUMENT else (if (i1 &&& (3 : Int32)) = (2 : Int32) then z_STRING else z_NULL)))
def Q7 (Z : State) (i1 : Int32) (z_NULL : Addr) (z_STRING : Addr) (z_DOCUMENT : Addr) (z_INT32 : Addr) (h0 : Heap) (n0 : Nat) (v : Option Value) (h : Heap) (L : List Loc) : Prop := v = some (.ref (F7 i1 z_NULL z_STRING z_DOCUMENT z_INT32)) ∧ Fr n0 L ∧ h = h0
set_option maxRecDepth 65536 in
set_option maxHeartbeats 40000000 in
theorem rm7 (l : Launch) (Z : State) (a0 : Array Value) (hw : ∀ d ∈ tables_1, d.before a0 Z = true) (ws : List Jvm.Cond) (i1 : Int32) (z_NULL : Addr) (z_STRING : Addr) (z_DOCUMENT : Addr) (z_INT32 : Addr) (h0 : Heap) (n0 : Nat) (Z0 : n0 ≤ h0.size) (f0 : Sta Z h0 "com/example/mimosa/mimosa/bson/BsonType" "NULL" "Lcom/example/mimosa/mimosa/bson/BsonType;" (.ref z_NULL)) (f1 : Sta Z h0 "com/example/mimosa/mimosa/bson/BsonType" "STRING" "Lcom/example/mimosa/mimosa/bson/BsonType;" (.ref z_STRING)) (f2 : Sta Z h0 "com/example/mimosa/mimosa/bson/BsonType" "DOCUMENT" "Lcom/example/mimosa/mimosa/bson/BsonType;" (.ref z_DOCUMENT)) (f3 : Sta Z h0 "com/example/mimosa/mimosa/bson/BsonType" "INT32" "Lcom/example/mimosa/mimosa/bson/BsonType;" (.ref z_INT32)) :
    MetFree l (⟨"com/example/mimosa/mimosa/bson/BsonElementStandsInPinLaw", "pickType", "(I)Lcom/example/mimosa/mimosa/bson/BsonType;"⟩ : MethodName) (head1 (Jvm.Cond.code (⟨"com/example/mimosa/mimosa/bson/BsonElementStandsInPinLaw", "pickType", "(I)Lcom/example/mimosa/mimosa/bson/BsonType;"⟩ : MethodName) method_2_code 3 (some (.object "com/example/mimosa/mimosa/bson/BsonType")) :: ws) ({ frames := 0, cells := 0, slots := 0, locals := 0 } : Room)) (fun a U => a = #[(.int i1)] ∧ Z.Warmed39 U.vm ∧ U.heap = h0) (fun _ _ _ _ _ => True) (fun _ U o U' => ∃ v L, o = .returned v ∧ Q7 Z i1 z_NULL z_STRING z_DOCUMENT z_INT32 h0 n0 v U'.heap L ∧ FrameEnd U o U' L ({ frames := 0, cells := 0, slots := 0, locals := 0 } : Room).cells ({ frames := 0, cells := 0, slots := 0, locals := 0 } : Room).slots) := by
  refine MetFree.of_bodySF (plainFor_of_name pn_0) hisR ?_
  intro p e s m args below meth c s₁ Bd hml0 hP hK
  obtain ⟨rfl, hZ, hh⟩ := hP
  have hx := Bd.exec
  have hby := Bd.bytes
  have hml : c.maxLocals = 3 := hml0
  have hown : s.vm.findClass "com/example/mimosa/mimosa/bson/BsonElementStandsInPinLaw" = some m.cls := findClass_of_methodNamed Bd.named
  have hnm := (name_of_methodNamed Bd.named Bd.method).1
  have X0 : Stand p l e ({ frames := 0, cells := 0, slots := 0, locals := 0 } : Room) s m #[(.int i1)] below meth c s₁ [] 0 0 := Stand.of_body Bd
  have e0 : s₁.heap = h0 := by rw [← hh, Bd.state]; rfl
  have N0 := Fr.nil n0
  suffices H : ∀ Qo : Outcome → State → Prop, (∀ (v : Option Value) (u : State) (L : List Loc), Q7 Z i1 z_NULL z_STRING z_DOCUMENT z_INT32 h0 n0 v u.heap L → FrameEnd s (.returned v) u L ({ frames := 0, cells := 0, slots := 0, locals := 0 } : Room).cells ({ frames := 0, cells := 0, slots := 0, locals := 0 } : Room).slots → Qo (.returned v) u) → Go p e below Qo s₁ (mkF m 0 #[.val (.int i1), .unset, .unset] []) from
    Go.cast (ef_7 m i1) (H _ fun v u L h1 h2 => ⟨v, L, rfl, h1, h2⟩)
  intro Qo hQo
  show Go p e below Qo s₁ (mkF m 0 #[.val (.int i1), .unset, .unset] [])
  refine Go.of (fun t k => XS.iloadN X0.here hx rfl (hb hby d7_0) rfl  k) ?_
  show Go p e below Qo s₁ (mkF m 1 #[.val (.int i1), .unset, .unset] [(.int i1)])
  refine Go.of (fun t k => XS.iconst X0.here hx rfl (hb hby d7_1) k) ?_
  show Go p e below Qo s₁ (mkF m 2 #[.val (.int i1), .unset, .unset] [(.int (3 : Int32)), (.int i1)])
  refine Go.of (fun t k => XS.iand X0.here hx rfl (hb hby d7_2) rfl k) ?_
  show Go p e below Qo s₁ (mkF m 3 #[.val (.int i1), .unset, .unset] [(.int (i1 &&& (3 : Int32)))])
  refine Go.of (fun t k => XS.istoreN X0.here hx rfl (hb hby d7_3) rfl (l' := #[.val (.int i1), .val (.int (i1 &&& (3 : Int32))), .unset]) rfl k) ?_
  show Go p e below Qo s₁ (mkF m 4 #[.val (.int i1), .val (.int (i1 &&& (3 : Int32))), .unset] [])
  refine Go.of (fun t k => XS.iloadN X0.here hx rfl (hb hby d7_4) rfl  k) ?_
  show Go p e below Qo s₁ (mkF m 5 #[.val (.int i1), .val (.int (i1 &&& (3 : Int32))), .unset] [(.int (i1 &&& (3 : Int32)))])
  by_cases hc5_1 : (i1 &&& (3 : Int32)) = (0 : Int32)
  · refine Go.of (fun t k => XS.ifNo X0.here hx rfl (hb hby d7_5) rfl ((if0 _ _).trans (teq hc5_1).2) k) ?_
    show Go p e below Qo s₁ (mkF m 8 #[.val (.int i1), .val (.int (i1 &&& (3 : Int32))), .unset] [])
    obtain ⟨T2, X2, e2, st2⟩ := getS X0 hx hZ (host := "") hown (hw _ (List.mem_of_getElem? (i := 63) rfl)) Via.refl e0 f3 (g := (mkF m 8 #[.val (.int i1), .val (.int (i1 &&& (3 : Int32))), .unset] [])) rfl (hb hby d7_8)
    refine Go.of st2 ?_
    show Go p e below Qo T2 (mkF m 11 #[.val (.int i1), .val (.int (i1 &&& (3 : Int32))), .unset] [(.ref z_INT32)])
    refine Go.of (fun t k => XS.astoreN X2.here hx rfl (hb hby d7_11) rfl rfl (l' := #[.val (.int i1), .val (.int (i1 &&& (3 : Int32))), .val (.ref z_INT32)]) rfl k) ?_
    show Go p e below Qo T2 (mkF m 12 #[.val (.int i1), .val (.int (i1 &&& (3 : Int32))), .val (.ref z_INT32)] [])
    refine Go.of (fun t k => XS.goto X2.here hx rfl (pc0 := 12) (pc' := 43) rfl (hb hby d7_12) (by decide) (by decide) k) ?_
    show Go p e below Qo T2 (mkF m 43 #[.val (.int i1), .val (.int (i1 &&& (3 : Int32))), .val (.ref z_INT32)] [])
    refine Go.of (fun t k => XS.aloadN X2.here hx rfl (hb hby d7_43) rfl rfl k) ?_
    show Go p e below Qo T2 (mkF m 44 #[.val (.int i1), .val (.int (i1 &&& (3 : Int32))), .val (.ref z_INT32)] [(.ref z_INT32)])
    exact own_retW X2 hx Bd.notSynchronized Bd.returns rfl (Or.inr (Or.inr (Or.inr (Or.inr ⟨rfl, rfl, rfl⟩)))) (hb hby d7_44) (fun u hu hF => hQo _ _ _ ⟨by rw [show (F7 i1 z_NULL z_STRING z_DOCUMENT z_INT32) = z_INT32 from by rw [F7, if_pos hc5_1]], N0, by rw [hu, e2]⟩ (own_mono hF (by decide) (by decide)))
  · refine Go.of (fun t k => XS.ifYes X0.here hx rfl (pc0 := 5) (pc' := 15) rfl (hb hby d7_5) rfl ((if0 _ _).trans (feq hc5_1).2) (by decide) (by decide) k) ?_
    show Go p e below Qo s₁ (mkF m 15 #[.val (.int i1), .val (.int (i1 &&& (3 : Int32))), .unset] [])
    refine Go.of (fun t k => XS.iloadN X0.here hx rfl (hb hby d7_15) rfl  k) ?_
    show Go p e below Qo s₁ (mkF m 16 #[.val (.int i1), .val (.int (i1 &&& (3 : Int32))), .unset] [(.int (i1 &&& (3 : Int32)))])
    refine Go.of (fun t k => XS.iconst X0.here hx rfl (hb hby d7_16) k) ?_
    show Go p e below Qo s₁ (mkF m 17 #[.val (.int i1), .val (.int (i1 &&& (3 : Int32))), .unset] [(.int (1 : Int32)), (.int (i1 &&& (3 : Int32)))])
    by_cases hc17_3 : (i1 &&& (3 : Int32)) = (1 : Int32)
    · refine Go.of (fun t k => XS.icmpNo X0.here hx rfl (hb hby d7_17) rfl (teq hc17_3).2 k) ?_
      show Go p e below Qo s₁ (mkF m 20 #[.val (.int i1), .val (.int (i1 &&& (3 : Int32))), .unset] [])
      obtain ⟨T4, X4, e4, st4⟩ := getS X0 hx hZ (host := "") hown (hw _ (List.mem_of_getElem? (i := 61) rfl)) Via.refl e0 f2 (g := (mkF m 20 #[.val (.int i1), .val (.int (i1 &&& (3 : Int32))), .unset] [])) rfl (hb hby d7_20)
      refine Go.of st4 ?_
      show Go p e below Qo T4 (mkF m 23 #[.val (.int i1), .val (.int (i1 &&& (3 : Int32))), .unset] [(.ref z_DOCUMENT)])
      refine Go.of (fun t k => XS.astoreN X4.here hx rfl (hb hby d7_23) rfl rfl (l' := #[.val (.int i1), .val (.int (i1 &&& (3 : Int32))), .val (.ref z_DOCUMENT)]) rfl k) ?_
      show Go p e below Qo T4 (mkF m 24 #[.val (.int i1), .val (.int (i1 &&& (3 : Int32))), .val (.ref z_DOCUMENT)] [])
      refine Go.of (fun t k => XS.goto X4.here hx rfl (pc0 := 24) (pc' := 43) rfl (hb hby d7_24) (by decide) (by decide) k) ?_
      show Go p e below Qo T4 (mkF m 43 #[.val (.int i1), .val (.int (i1 &&& (3 : Int32))), .val (.ref z_DOCUMENT)] [])
      refine Go.of (fun t k => XS.aloadN X4.here hx rfl (hb hby d7_43) rfl rfl k) ?_
      show Go p e below Qo T4 (mkF m 44 #[.val (.int i1), .val (.int (i1 &&& (3 : Int32))), .val (.ref z_DOCUMENT)] [(.ref z_DOCUMENT)])
      exact own_retW X4 hx Bd.notSynchronized Bd.returns rfl (Or.inr (Or.inr (Or.inr (Or.inr ⟨rfl, rfl, rfl⟩)))) (hb hby d7_44) (fun u hu hF => hQo _ _ _ ⟨by rw [show (F7 i1 z_NULL z_STRING z_DOCUMENT z_INT32) = z_DOCUMENT from by rw [F7, if_neg hc5_1, if_pos hc17_3]], N0, by rw [hu, e4]⟩ (own_mono hF (by decide) (by decide)))
    · refine Go.of (fun t k => XS.icmpYes X0.here hx rfl (pc0 := 17) (pc' := 27) rfl (hb hby d7_17) rfl (feq hc17_3).2 (by decide) (by decide) k) ?_
      show Go p e below Qo s₁ (mkF m 27 #[.val (.int i1), .val (.int (i1 &&& (3 : Int32))), .unset] [])
      refine Go.of (fun t k => XS.iloadN X0.here hx rfl (hb hby d7_27) rfl  k) ?_
      show Go p e below Qo s₁ (mkF m 28 #[.val (.int i1), .val (.int (i1 &&& (3 : Int32))), .unset] [(.int (i1 &&& (3 : Int32)))])
      refine Go.of (fun t k => XS.iconst X0.here hx rfl (hb hby d7_28) k) ?_
      show Go p e below Qo s₁ (mkF m 29 #[.val (.int i1), .val (.int (i1 &&& (3 : Int32))), .unset] [(.int (2 : Int32)), (.int (i1 &&& (3 : Int32)))])
      by_cases hc29_5 : (i1 &&& (3 : Int32)) = (2 : Int32)
      · refine Go.of (fun t k => XS.icmpNo X0.here hx rfl (hb hby d7_29) rfl (teq hc29_5).2 k) ?_
        show Go p e below Qo s₁ (mkF m 32 #[.val (.int i1), .val (.int (i1 &&& (3 : Int32))), .unset] [])
        obtain ⟨T6, X6, e6, st6⟩ := getS X0 hx hZ (host := "") hown (hw _ (List.mem_of_getElem? (i := 59) rfl)) Via.refl e0 f1 (g := (mkF m 32 #[.val (.int i1), .val (.int (i1 &&& (3 : Int32))), .unset] [])) rfl (hb hby d7_32)
        refine Go.of st6 ?_
        show Go p e below Qo T6 (mkF m 35 #[.val (.int i1), .val (.int (i1 &&& (3 : Int32))), .unset] [(.ref z_STRING)])
        refine Go.of (fun t k => XS.astoreN X6.here hx rfl (hb hby d7_35) rfl rfl (l' := #[.val (.int i1), .val (.int (i1 &&& (3 : Int32))), .val (.ref z_STRING)]) rfl k) ?_
        show Go p e below Qo T6 (mkF m 36 #[.val (.int i1), .val (.int (i1 &&& (3 : Int32))), .val (.ref z_STRING)] [])
        refine Go.of (fun t k => XS.goto X6.here hx rfl (pc0 := 36) (pc' := 43) rfl (hb hby d7_36) (by decide) (by decide) k) ?_
        show Go p e below Qo T6 (mkF m 43 #[.val (.int i1), .val (.int (i1 &&& (3 : Int32))), .val (.ref z_STRING)] [])
        refine Go.of (fun t k => XS.aloadN X6.here hx rfl (hb hby d7_43) rfl rfl k) ?_
        show Go p e below Qo T6 (mkF m 44 #[.val (.int i1), .val (.int (i1 &&& (3 : Int32))), .val (.ref z_STRING)] [(.ref z_STRING)])
        exact own_retW X6 hx Bd.notSynchronized Bd.returns rfl (Or.inr (Or.inr (Or.inr (Or.inr ⟨rfl, rfl, rfl⟩)))) (hb hby d7_44) (fun u hu hF => hQo _ _ _ ⟨by rw [show (F7 i1 z_NULL z_STRING z_DOCUMENT z_INT32) = z_STRING from by rw [F7, if_neg hc5_1, if_neg hc17_3, if_pos hc29_5]], N0, by rw [hu, e6]⟩ (own_mono hF (by decide) (by decide)))
      · refine Go.of (fun t k => XS.icmpYes X0.here hx rfl (pc0 := 29) (pc' := 39) rfl (hb hby d7_29) rfl (feq hc29_5).2 (by decide) (by decide) k) ?_
        show Go p e below Qo s₁ (mkF m 39 #[.val (.int i1), .val (.int (i1 &&& (3 : Int32))), .unset] [])
        obtain ⟨T7, X7, e7, st7⟩ := getS X0 hx hZ (host := "") hown (hw _ (List.mem_of_getElem? (i := 34) rfl)) Via.refl e0 f0 (g := (mkF m 39 #[.val (.int i1), .val (.int (i1 &&& (3 : Int32))), .unset] [])) rfl (hb hby d7_39)
        refine Go.of st7 ?_
        show Go p e below Qo T7 (mkF m 42 #[.val (.int i1), .val (.int (i1 &&& (3 : Int32))), .unset] [(.ref z_NULL)])
        refine Go.of (fun t k => XS.astoreN X7.here hx rfl (hb hby d7_42) rfl rfl (l' := #[.val (.int i1), .val (.int (i1 &&& (3 : Int32))), .val (.ref z_NULL)]) rfl k) ?_
        show Go p e below Qo T7 (mkF m 43 #[.val (.int i1), .val (.int (i1 &&& (3 : Int32))), .val (.ref z_NULL)] [])
        refine Go.of (fun t k => XS.aloadN X7.here hx rfl (hb hby d7_43) rfl rfl k) ?_
        show Go p e below Qo T7 (mkF m 44 #[.val (.int i1), .val (.int (i1 &&& (3 : Int32))), .val (.ref z_NULL)] [(.ref z_NULL)])
        exact own_retW X7 hx Bd.notSynchronized Bd.returns rfl (Or.inr (Or.inr (Or.inr (Or.inr ⟨rfl, rfl, rfl⟩)))) (hb hby d7_44) (fun u hu hF => hQo _ _ _ ⟨by rw [show (F7 i1 z_NULL z_STRING z_DOCUMENT z_INT32) = z_NULL from by rw [F7, if_neg hc5_1, if_neg hc17_3, if_neg hc29_5]], N0, by rw [hu, e7]⟩ (own_mono hF (by decide) (by decide)))
theorem d8_0 : decode prog_15_method_1_code 0 = .ok (.aload_n 0, 1) := by decide +kernel
theorem d8_1 : decode prog_15_method_1_code 1 = .ok (.invokespecial 1, 3) := by decide +kernel
theorem d8_4 : decode prog_15_method_1_code 4 = .ok (.aload_n 0, 1) := by decide +kernel
theorem d8_5 : decode prog_15_method_1_code 5 = .ok (.aload_n 1, 1) := by decide +kernel
theorem d8_6 : decode prog_15_method_1_code 6 = .ok (.putfield 7, 3) := by decide +kernel
theorem d8_9 : decode prog_15_method_1_code 9 = .ok (.aload_n 0, 1) := by decide +kernel
theorem d8_10 : decode prog_15_method_1_code 10 = .ok (.aload_n 2, 1) := by decide +kernel
theorem d8_11 : decode prog_15_method_1_code 11 = .ok (.putfield 13, 3) := by decide +kernel
theorem d8_14 : decode prog_15_method_1_code 14 = .ok (.aload_n 0, 1) := by decide +kernel
theorem d8_15 : decode prog_15_method_1_code 15 = .ok (.aload_n 3, 1) := by decide +kernel
theorem d8_16 : decode prog_15_method_1_code 16 = .ok (.putfield 17, 3) := by decide +kernel
theorem d8_19 : decode prog_15_method_1_code 19 = .ok (.aload_n 0, 1) := by decide +kernel
theorem d8_20 : decode prog_15_method_1_code 20 = .ok (.iload 4, 2) := by decide +kernel
theorem d8_22 : decode prog_15_method_1_code 22 = .ok (.putfield 21, 3) := by decide +kernel
theorem d8_25 : decode prog_15_method_1_code 25 = .ok (.aload_n 0, 1) := by decide +kernel
theorem d8_26 : decode prog_15_method_1_code 26 = .ok (.iload 5, 2) := by decide +kernel
theorem d8_28 : decode prog_15_method_1_code 28 = .ok (.putfield 25, 3) := by decide +kernel
theorem d8_31 : decode prog_15_method_1_code 31 = .ok (.return_, 1) := by decide +kernel
theorem pn_1 : plainName "com/example/mimosa/mimosa/bson/BsonElement" = true := by first | (simp [plainName, overriddenIn]; done) | decide +kernel
theorem ef_8 (m : MethodId) (r1 : Addr) (r2 : Addr) (r3 : Addr) (r4 : Addr) (i1 : Int32) (i2 : Int32)  : entryFrame m #[(.ref r1), (.ref r2), (.ref r3), (.ref r4), (.int i1), (.int i2)] 6 = mkF m 0 #[.val (.ref r1), .val (.ref r2), .val (.ref r3), .val (.ref r4), .val (.int i1), .val (.int i2)] [] := by
  first | (simp [entryFrame, mkF, argsToLocals, Value.category]; done) | rfl
def Q8 (Z : State) (r1 : Addr) (r2 : Addr) (r3 : Addr) (r4 : Addr) (i1 : Int32) (i2 : Int32) (u_0 : Value) (u_1 : Value) (u_2 : Value) (u_3 : Value) (u_4 : Value) (h0 : Heap) (n0 : Nat) (v : Option Value) (h : Heap) (L : List Loc) : Prop := v = none ∧ Fr n0 L ∧ Keep h0 h [r1] ∧ Exa Z h r1 "com/example/mimosa/mimosa/bson/BsonElement" ∧ Fld Z h r1 "com/example/mimosa/mimosa/bson/BsonElement" "source" "[B" (.ref r2) ∧ Fld Z h r1 "com/example/mimosa/mimosa/bson/BsonElement" "name" "Ljava/lang/String;" (.ref r3) ∧ Fld Z h r1 "com/example/mimosa/mimosa/bson/BsonElement" "type" "Lcom/example/mimosa/mimosa/bson/BsonType;" (.ref r4) ∧ Fld Z h r1 "com/example/mimosa/mimosa/bson/BsonElement" "valueOffset" "I" (.int i1) ∧ Fld Z h r1 "com/example/mimosa/mimosa/bson/BsonElement" "valueLength" "I" (.int i2)
set_option maxRecDepth 65536 in
set_option maxHeartbeats 40000000 in
theorem rm8 (l : Launch) (Z : State) (a0 : Array Value) (hw : ∀ d ∈ tables_1, d.before a0 Z = true) (ws : List Jvm.Cond) (r1 : Addr) (r2 : Addr) (r3 : Addr) (r4 : Addr) (i1 : Int32) (i2 : Int32) (u_0 : Value) (u_1 : Value) (u_2 : Value) (u_3 : Value) (u_4 : Value) (h0 : Heap) (n0 : Nat) (Z0 : n0 ≤ h0.size) (f0 : Exa Z h0 r1 "com/example/mimosa/mimosa/bson/BsonElement") (f1 : Fld Z h0 r1 "com/example/mimosa/mimosa/bson/BsonElement" "source" "[B" u_0) (f2 : Fld Z h0 r1 "com/example/mimosa/mimosa/bson/BsonElement" "name" "Ljava/lang/String;" u_1) (f3 : Fld Z h0 r1 "com/example/mimosa/mimosa/bson/BsonElement" "type" "Lcom/example/mimosa/mimosa/bson/BsonType;" u_2) (f4 : Fld Z h0 r1 "com/example/mimosa/mimosa/bson/BsonElement" "valueOffset" "I" u_3) (f5 : Fld Z h0 r1 "com/example/mimosa/mimosa/bson/BsonElement" "valueLength" "I" u_4) (g_r1 : n0 ≤ r1) :
    MetFree l (⟨"com/example/mimosa/mimosa/bson/BsonElement", "<init>", "([BLjava/lang/String;Lcom/example/mimosa/mimosa/bson/BsonType;II)V"⟩ : MethodName) (head1 (Jvm.Cond.code (⟨"com/example/mimosa/mimosa/bson/BsonElement", "<init>", "([BLjava/lang/String;Lcom/example/mimosa/mimosa/bson/BsonType;II)V"⟩ : MethodName) prog_15_method_1_code 6 none :: ws) ({ frames := 1, cells := 0, slots := 0, locals := 12 } : Room)) (fun a U => a = #[(.ref r1), (.ref r2), (.ref r3), (.ref r4), (.int i1), (.int i2)] ∧ Z.Warmed39 U.vm ∧ U.heap = h0) (fun _ _ _ _ _ => True) (fun _ U o U' => ∃ v L, o = .returned v ∧ Q8 Z r1 r2 r3 r4 i1 i2 u_0 u_1 u_2 u_3 u_4 h0 n0 v U'.heap L ∧ FrameEnd U o U' L ({ frames := 1, cells := 0, slots := 0, locals := 12 } : Room).cells ({ frames := 1, cells := 0, slots := 0, locals := 12 } : Room).slots) := by
  refine MetFree.of_bodySF (plainFor_of_name pn_1) hisR ?_
  intro p e s m args below meth c s₁ Bd hml0 hP hK
  obtain ⟨rfl, hZ, hh⟩ := hP
  have hx := Bd.exec
  have hby := Bd.bytes
  have hml : c.maxLocals = 6 := hml0
  have hown : s.vm.findClass "com/example/mimosa/mimosa/bson/BsonElement" = some m.cls := findClass_of_methodNamed Bd.named
  have hnm := (name_of_methodNamed Bd.named Bd.method).1
  have X0 : Stand p l e ({ frames := 1, cells := 0, slots := 0, locals := 12 } : Room) s m #[(.ref r1), (.ref r2), (.ref r3), (.ref r4), (.int i1), (.int i2)] below meth c s₁ [] 0 0 := Stand.of_body Bd
  have e0 : s₁.heap = h0 := by rw [← hh, Bd.state]; rfl
  have N0 := Fr.nil n0
  suffices H : ∀ Qo : Outcome → State → Prop, (∀ (v : Option Value) (u : State) (L : List Loc), Q8 Z r1 r2 r3 r4 i1 i2 u_0 u_1 u_2 u_3 u_4 h0 n0 v u.heap L → FrameEnd s (.returned v) u L ({ frames := 1, cells := 0, slots := 0, locals := 12 } : Room).cells ({ frames := 1, cells := 0, slots := 0, locals := 12 } : Room).slots → Qo (.returned v) u) → Go p e below Qo s₁ (mkF m 0 #[.val (.ref r1), .val (.ref r2), .val (.ref r3), .val (.ref r4), .val (.int i1), .val (.int i2)] []) from
    Go.cast (ef_8 m r1 r2 r3 r4 i1 i2) (H _ fun v u L h1 h2 => ⟨v, L, rfl, h1, h2⟩)
  intro Qo hQo
  show Go p e below Qo s₁ (mkF m 0 #[.val (.ref r1), .val (.ref r2), .val (.ref r3), .val (.ref r4), .val (.int i1), .val (.int i2)] [])
  refine Go.of (fun t k => XS.aloadN X0.here hx rfl (hb hby d8_0) rfl rfl k) ?_
  show Go p e below Qo s₁ (mkF m 1 #[.val (.ref r1), .val (.ref r2), .val (.ref r3), .val (.ref r4), .val (.int i1), .val (.int i2)] [(.ref r1)])
  obtain ⟨T1, X1, e1, st1⟩ := initO X0 hx hZ hown (hw _ (List.mem_of_getElem? (i := 43) rfl)) (hw _ (List.mem_of_getElem? (i := 13) rfl)) (hw _ (List.mem_of_getElem? (i := 14) rfl)) e0 (g := (mkF m 1 #[.val (.ref r1), .val (.ref r2), .val (.ref r3), .val (.ref r4), .val (.int i1), .val (.int i2)] [(.ref r1)])) rfl (by rw [hml]; rfl) rfl (hb hby d8_1) (by decide) (W := 0) (by show 2 * 0 + _ ≤ _; exact Nat.le_of_eq rfl) (by decide)
  refine Go.of st1 ?_
  show Go p e below Qo T1 (mkF m 4 #[.val (.ref r1), .val (.ref r2), .val (.ref r3), .val (.ref r4), .val (.int i1), .val (.int i2)] [])
  refine Go.of (fun t k => XS.aloadN X1.here hx rfl (hb hby d8_4) rfl rfl k) ?_
  show Go p e below Qo T1 (mkF m 5 #[.val (.ref r1), .val (.ref r2), .val (.ref r3), .val (.ref r4), .val (.int i1), .val (.int i2)] [(.ref r1)])
  refine Go.of (fun t k => XS.aloadN X1.here hx rfl (hb hby d8_5) rfl rfl k) ?_
  show Go p e below Qo T1 (mkF m 6 #[.val (.ref r1), .val (.ref r2), .val (.ref r3), .val (.ref r4), .val (.int i1), .val (.int i2)] [(.ref r2), (.ref r1)])
  obtain ⟨T2, h2, X2, e2, W2, st2⟩ := putF X1 hx hZ hown (host := "") (Or.inl (hw _ (List.mem_of_getElem? (i := 44) rfl))) Via.refl e1 f1 f0 (Or.inr ⟨(hw _ (List.mem_of_getElem? (i := 45) rfl)), rfl, hnm⟩) (hw _ (List.mem_of_getElem? (i := 38) rfl)) (ty := (.array .byte)) (by decide) rfl rfl (g := (mkF m 6 #[.val (.ref r1), .val (.ref r2), .val (.ref r3), .val (.ref r4), .val (.int i1), .val (.int i2)] [(.ref r2), (.ref r1)])) rfl rfl (hb hby d8_6)
  have q3 : Exa Z h2 r1 "com/example/mimosa/mimosa/bson/BsonElement" := f0.wr W2
  have q4 : Fld Z h2 r1 "com/example/mimosa/mimosa/bson/BsonElement" "source" "[B" (.ref r2) := f1.same W2
  have q5 : Fld Z h2 r1 "com/example/mimosa/mimosa/bson/BsonElement" "name" "Ljava/lang/String;" u_1 := f2.other W2 (Or.inr (slot_ne (Or.inr (hw _ (List.mem_of_getElem? (i := 47) rfl))) (Or.inr (hw _ (List.mem_of_getElem? (i := 45) rfl))) (by decide) (t := (.object "java/lang/String")) (t' := (.array .byte)) (by decide) (by decide)))
  have q6 : Fld Z h2 r1 "com/example/mimosa/mimosa/bson/BsonElement" "type" "Lcom/example/mimosa/mimosa/bson/BsonType;" u_2 := f3.other W2 (Or.inr (slot_ne (Or.inr (hw _ (List.mem_of_getElem? (i := 49) rfl))) (Or.inr (hw _ (List.mem_of_getElem? (i := 45) rfl))) (by decide) (t := (.object "com/example/mimosa/mimosa/bson/BsonType")) (t' := (.array .byte)) (by decide) (by decide)))
  have q7 : Fld Z h2 r1 "com/example/mimosa/mimosa/bson/BsonElement" "valueOffset" "I" u_3 := f4.other W2 (Or.inr (slot_ne (Or.inr (hw _ (List.mem_of_getElem? (i := 51) rfl))) (Or.inr (hw _ (List.mem_of_getElem? (i := 45) rfl))) (by decide) (t := .int) (t' := (.array .byte)) (by decide) (by decide)))
  have q8 : Fld Z h2 r1 "com/example/mimosa/mimosa/bson/BsonElement" "valueLength" "I" u_4 := f5.other W2 (Or.inr (slot_ne (Or.inr (hw _ (List.mem_of_getElem? (i := 53) rfl))) (Or.inr (hw _ (List.mem_of_getElem? (i := 45) rfl))) (by decide) (t := .int) (t' := (.array .byte)) (by decide) (by decide)))
  have Z9 : n0 ≤ h2.size := Nat.le_trans Z0 (Keep.of_wr W2).1
  have K10 : Keep h0 h2 [r1] := (Keep.refl h0 [r1]).wr W2 (Or.inl (List.mem_of_getElem? (i := 0) rfl))
  have N11 := Fr.snoc X2 N0 g_r1
  refine Go.of st2 ?_
  show Go p e below Qo T2 (mkF m 9 #[.val (.ref r1), .val (.ref r2), .val (.ref r3), .val (.ref r4), .val (.int i1), .val (.int i2)] [])
  refine Go.of (fun t k => XS.aloadN X2.here hx rfl (hb hby d8_9) rfl rfl k) ?_
  show Go p e below Qo T2 (mkF m 10 #[.val (.ref r1), .val (.ref r2), .val (.ref r3), .val (.ref r4), .val (.int i1), .val (.int i2)] [(.ref r1)])
  refine Go.of (fun t k => XS.aloadN X2.here hx rfl (hb hby d8_10) rfl rfl k) ?_
  show Go p e below Qo T2 (mkF m 11 #[.val (.ref r1), .val (.ref r2), .val (.ref r3), .val (.ref r4), .val (.int i1), .val (.int i2)] [(.ref r3), (.ref r1)])
  obtain ⟨T12, h12, X12, e12, W12, st12⟩ := putF X2 hx hZ hown (host := "") (Or.inl (hw _ (List.mem_of_getElem? (i := 46) rfl))) Via.refl e2 q5 q3 (Or.inr ⟨(hw _ (List.mem_of_getElem? (i := 47) rfl)), rfl, hnm⟩) (hw _ (List.mem_of_getElem? (i := 38) rfl)) (ty := (.object "java/lang/String")) (by decide) rfl rfl (g := (mkF m 11 #[.val (.ref r1), .val (.ref r2), .val (.ref r3), .val (.ref r4), .val (.int i1), .val (.int i2)] [(.ref r3), (.ref r1)])) rfl rfl (hb hby d8_11)
  have q13 : Exa Z h12 r1 "com/example/mimosa/mimosa/bson/BsonElement" := q3.wr W12
  have q14 : Fld Z h12 r1 "com/example/mimosa/mimosa/bson/BsonElement" "source" "[B" (.ref r2) := q4.other W12 (Or.inr (slot_ne (Or.inr (hw _ (List.mem_of_getElem? (i := 45) rfl))) (Or.inr (hw _ (List.mem_of_getElem? (i := 47) rfl))) (by decide) (t := (.array .byte)) (t' := (.object "java/lang/String")) (by decide) (by decide)))
  have q15 : Fld Z h12 r1 "com/example/mimosa/mimosa/bson/BsonElement" "name" "Ljava/lang/String;" (.ref r3) := q5.same W12
  have q16 : Fld Z h12 r1 "com/example/mimosa/mimosa/bson/BsonElement" "type" "Lcom/example/mimosa/mimosa/bson/BsonType;" u_2 := q6.other W12 (Or.inr (slot_ne (Or.inr (hw _ (List.mem_of_getElem? (i := 49) rfl))) (Or.inr (hw _ (List.mem_of_getElem? (i := 47) rfl))) (by decide) (t := (.object "com/example/mimosa/mimosa/bson/BsonType")) (t' := (.object "java/lang/String")) (by decide) (by decide)))
  have q17 : Fld Z h12 r1 "com/example/mimosa/mimosa/bson/BsonElement" "valueOffset" "I" u_3 := q7.other W12 (Or.inr (slot_ne (Or.inr (hw _ (List.mem_of_getElem? (i := 51) rfl))) (Or.inr (hw _ (List.mem_of_getElem? (i := 47) rfl))) (by decide) (t := .int) (t' := (.object "java/lang/String")) (by decide) (by decide)))
  have q18 : Fld Z h12 r1 "com/example/mimosa/mimosa/bson/BsonElement" "valueLength" "I" u_4 := q8.other W12 (Or.inr (slot_ne (Or.inr (hw _ (List.mem_of_getElem? (i := 53) rfl))) (Or.inr (hw _ (List.mem_of_getElem? (i := 47) rfl))) (by decide) (t := .int) (t' := (.object "java/lang/String")) (by decide) (by decide)))
  have Z19 : n0 ≤ h12.size := Nat.le_trans Z9 (Keep.of_wr W12).1
  have K20 : Keep h0 h12 [r1] := K10.wr W12 (Or.inl (List.mem_of_getElem? (i := 0) rfl))
  have N21 := Fr.snoc X12 N11 g_r1
  refine Go.of st12 ?_
  show Go p e below Qo T12 (mkF m 14 #[.val (.ref r1), .val (.ref r2), .val (.ref r3), .val (.ref r4), .val (.int i1), .val (.int i2)] [])
  refine Go.of (fun t k => XS.aloadN X12.here hx rfl (hb hby d8_14) rfl rfl k) ?_
  show Go p e below Qo T12 (mkF m 15 #[.val (.ref r1), .val (.ref r2), .val (.ref r3), .val (.ref r4), .val (.int i1), .val (.int i2)] [(.ref r1)])
  refine Go.of (fun t k => XS.aloadN X12.here hx rfl (hb hby d8_15) rfl rfl k) ?_
  show Go p e below Qo T12 (mkF m 16 #[.val (.ref r1), .val (.ref r2), .val (.ref r3), .val (.ref r4), .val (.int i1), .val (.int i2)] [(.ref r4), (.ref r1)])
  obtain ⟨T22, h22, X22, e22, W22, st22⟩ := putF X12 hx hZ hown (host := "") (Or.inl (hw _ (List.mem_of_getElem? (i := 48) rfl))) Via.refl e12 q16 q13 (Or.inr ⟨(hw _ (List.mem_of_getElem? (i := 49) rfl)), rfl, hnm⟩) (hw _ (List.mem_of_getElem? (i := 38) rfl)) (ty := (.object "com/example/mimosa/mimosa/bson/BsonType")) (by decide) rfl rfl (g := (mkF m 16 #[.val (.ref r1), .val (.ref r2), .val (.ref r3), .val (.ref r4), .val (.int i1), .val (.int i2)] [(.ref r4), (.ref r1)])) rfl rfl (hb hby d8_16)
  have q23 : Exa Z h22 r1 "com/example/mimosa/mimosa/bson/BsonElement" := q13.wr W22
  have q24 : Fld Z h22 r1 "com/example/mimosa/mimosa/bson/BsonElement" "source" "[B" (.ref r2) := q14.other W22 (Or.inr (slot_ne (Or.inr (hw _ (List.mem_of_getElem? (i := 45) rfl))) (Or.inr (hw _ (List.mem_of_getElem? (i := 49) rfl))) (by decide) (t := (.array .byte)) (t' := (.object "com/example/mimosa/mimosa/bson/BsonType")) (by decide) (by decide)))
  have q25 : Fld Z h22 r1 "com/example/mimosa/mimosa/bson/BsonElement" "name" "Ljava/lang/String;" (.ref r3) := q15.other W22 (Or.inr (slot_ne (Or.inr (hw _ (List.mem_of_getElem? (i := 47) rfl))) (Or.inr (hw _ (List.mem_of_getElem? (i := 49) rfl))) (by decide) (t := (.object "java/lang/String")) (t' := (.object "com/example/mimosa/mimosa/bson/BsonType")) (by decide) (by decide)))
  have q26 : Fld Z h22 r1 "com/example/mimosa/mimosa/bson/BsonElement" "type" "Lcom/example/mimosa/mimosa/bson/BsonType;" (.ref r4) := q16.same W22
  have q27 : Fld Z h22 r1 "com/example/mimosa/mimosa/bson/BsonElement" "valueOffset" "I" u_3 := q17.other W22 (Or.inr (slot_ne (Or.inr (hw _ (List.mem_of_getElem? (i := 51) rfl))) (Or.inr (hw _ (List.mem_of_getElem? (i := 49) rfl))) (by decide) (t := .int) (t' := (.object "com/example/mimosa/mimosa/bson/BsonType")) (by decide) (by decide)))
  have q28 : Fld Z h22 r1 "com/example/mimosa/mimosa/bson/BsonElement" "valueLength" "I" u_4 := q18.other W22 (Or.inr (slot_ne (Or.inr (hw _ (List.mem_of_getElem? (i := 53) rfl))) (Or.inr (hw _ (List.mem_of_getElem? (i := 49) rfl))) (by decide) (t := .int) (t' := (.object "com/example/mimosa/mimosa/bson/BsonType")) (by decide) (by decide)))
  have Z29 : n0 ≤ h22.size := Nat.le_trans Z19 (Keep.of_wr W22).1
  have K30 : Keep h0 h22 [r1] := K20.wr W22 (Or.inl (List.mem_of_getElem? (i := 0) rfl))
  have N31 := Fr.snoc X22 N21 g_r1
  refine Go.of st22 ?_
  show Go p e below Qo T22 (mkF m 19 #[.val (.ref r1), .val (.ref r2), .val (.ref r3), .val (.ref r4), .val (.int i1), .val (.int i2)] [])
  refine Go.of (fun t k => XS.aloadN X22.here hx rfl (hb hby d8_19) rfl rfl k) ?_
  show Go p e below Qo T22 (mkF m 20 #[.val (.ref r1), .val (.ref r2), .val (.ref r3), .val (.ref r4), .val (.int i1), .val (.int i2)] [(.ref r1)])
  refine Go.of (fun t k => XS.iload X22.here hx rfl (hb hby d8_20) rfl  k) ?_
  show Go p e below Qo T22 (mkF m 22 #[.val (.ref r1), .val (.ref r2), .val (.ref r3), .val (.ref r4), .val (.int i1), .val (.int i2)] [(.int i1), (.ref r1)])
  obtain ⟨T32, h32, X32, e32, W32, st32⟩ := putF X22 hx hZ hown (host := "") (Or.inl (hw _ (List.mem_of_getElem? (i := 50) rfl))) Via.refl e22 q27 q23 (Or.inr ⟨(hw _ (List.mem_of_getElem? (i := 51) rfl)), rfl, hnm⟩) (hw _ (List.mem_of_getElem? (i := 38) rfl)) (ty := .int) (by decide) rfl rfl (g := (mkF m 22 #[.val (.ref r1), .val (.ref r2), .val (.ref r3), .val (.ref r4), .val (.int i1), .val (.int i2)] [(.int i1), (.ref r1)])) rfl rfl (hb hby d8_22)
  have q33 : Exa Z h32 r1 "com/example/mimosa/mimosa/bson/BsonElement" := q23.wr W32
  have q34 : Fld Z h32 r1 "com/example/mimosa/mimosa/bson/BsonElement" "source" "[B" (.ref r2) := q24.other W32 (Or.inr (slot_ne (Or.inr (hw _ (List.mem_of_getElem? (i := 45) rfl))) (Or.inr (hw _ (List.mem_of_getElem? (i := 51) rfl))) (by decide) (t := (.array .byte)) (t' := .int) (by decide) (by decide)))
  have q35 : Fld Z h32 r1 "com/example/mimosa/mimosa/bson/BsonElement" "name" "Ljava/lang/String;" (.ref r3) := q25.other W32 (Or.inr (slot_ne (Or.inr (hw _ (List.mem_of_getElem? (i := 47) rfl))) (Or.inr (hw _ (List.mem_of_getElem? (i := 51) rfl))) (by decide) (t := (.object "java/lang/String")) (t' := .int) (by decide) (by decide)))
  have q36 : Fld Z h32 r1 "com/example/mimosa/mimosa/bson/BsonElement" "type" "Lcom/example/mimosa/mimosa/bson/BsonType;" (.ref r4) := q26.other W32 (Or.inr (slot_ne (Or.inr (hw _ (List.mem_of_getElem? (i := 49) rfl))) (Or.inr (hw _ (List.mem_of_getElem? (i := 51) rfl))) (by decide) (t := (.object "com/example/mimosa/mimosa/bson/BsonType")) (t' := .int) (by decide) (by decide)))
  have q37 : Fld Z h32 r1 "com/example/mimosa/mimosa/bson/BsonElement" "valueOffset" "I" (.int i1) := q27.same W32
  have q38 : Fld Z h32 r1 "com/example/mimosa/mimosa/bson/BsonElement" "valueLength" "I" u_4 := q28.other W32 (Or.inr (slot_ne (Or.inr (hw _ (List.mem_of_getElem? (i := 53) rfl))) (Or.inr (hw _ (List.mem_of_getElem? (i := 51) rfl))) (by decide) (t := .int) (t' := .int) (by decide) (by decide)))
  have Z39 : n0 ≤ h32.size := Nat.le_trans Z29 (Keep.of_wr W32).1
  have K40 : Keep h0 h32 [r1] := K30.wr W32 (Or.inl (List.mem_of_getElem? (i := 0) rfl))
  have N41 := Fr.snoc X32 N31 g_r1
  refine Go.of st32 ?_
  show Go p e below Qo T32 (mkF m 25 #[.val (.ref r1), .val (.ref r2), .val (.ref r3), .val (.ref r4), .val (.int i1), .val (.int i2)] [])
  refine Go.of (fun t k => XS.aloadN X32.here hx rfl (hb hby d8_25) rfl rfl k) ?_
  show Go p e below Qo T32 (mkF m 26 #[.val (.ref r1), .val (.ref r2), .val (.ref r3), .val (.ref r4), .val (.int i1), .val (.int i2)] [(.ref r1)])
  refine Go.of (fun t k => XS.iload X32.here hx rfl (hb hby d8_26) rfl  k) ?_
  show Go p e below Qo T32 (mkF m 28 #[.val (.ref r1), .val (.ref r2), .val (.ref r3), .val (.ref r4), .val (.int i1), .val (.int i2)] [(.int i2), (.ref r1)])
  obtain ⟨T42, h42, X42, e42, W42, st42⟩ := putF X32 hx hZ hown (host := "") (Or.inl (hw _ (List.mem_of_getElem? (i := 52) rfl))) Via.refl e32 q38 q33 (Or.inr ⟨(hw _ (List.mem_of_getElem? (i := 53) rfl)), rfl, hnm⟩) (hw _ (List.mem_of_getElem? (i := 38) rfl)) (ty := .int) (by decide) rfl rfl (g := (mkF m 28 #[.val (.ref r1), .val (.ref r2), .val (.ref r3), .val (.ref r4), .val (.int i1), .val (.int i2)] [(.int i2), (.ref r1)])) rfl rfl (hb hby d8_28)
  have q43 : Exa Z h42 r1 "com/example/mimosa/mimosa/bson/BsonElement" := q33.wr W42
  have q44 : Fld Z h42 r1 "com/example/mimosa/mimosa/bson/BsonElement" "source" "[B" (.ref r2) := q34.other W42 (Or.inr (slot_ne (Or.inr (hw _ (List.mem_of_getElem? (i := 45) rfl))) (Or.inr (hw _ (List.mem_of_getElem? (i := 53) rfl))) (by decide) (t := (.array .byte)) (t' := .int) (by decide) (by decide)))
  have q45 : Fld Z h42 r1 "com/example/mimosa/mimosa/bson/BsonElement" "name" "Ljava/lang/String;" (.ref r3) := q35.other W42 (Or.inr (slot_ne (Or.inr (hw _ (List.mem_of_getElem? (i := 47) rfl))) (Or.inr (hw _ (List.mem_of_getElem? (i := 53) rfl))) (by decide) (t := (.object "java/lang/String")) (t' := .int) (by decide) (by decide)))
  have q46 : Fld Z h42 r1 "com/example/mimosa/mimosa/bson/BsonElement" "type" "Lcom/example/mimosa/mimosa/bson/BsonType;" (.ref r4) := q36.other W42 (Or.inr (slot_ne (Or.inr (hw _ (List.mem_of_getElem? (i := 49) rfl))) (Or.inr (hw _ (List.mem_of_getElem? (i := 53) rfl))) (by decide) (t := (.object "com/example/mimosa/mimosa/bson/BsonType")) (t' := .int) (by decide) (by decide)))
  have q47 : Fld Z h42 r1 "com/example/mimosa/mimosa/bson/BsonElement" "valueOffset" "I" (.int i1) := q37.other W42 (Or.inr (slot_ne (Or.inr (hw _ (List.mem_of_getElem? (i := 51) rfl))) (Or.inr (hw _ (List.mem_of_getElem? (i := 53) rfl))) (by decide) (t := .int) (t' := .int) (by decide) (by decide)))
  have q48 : Fld Z h42 r1 "com/example/mimosa/mimosa/bson/BsonElement" "valueLength" "I" (.int i2) := q38.same W42
  have Z49 : n0 ≤ h42.size := Nat.le_trans Z39 (Keep.of_wr W42).1
  have K50 : Keep h0 h42 [r1] := K40.wr W42 (Or.inl (List.mem_of_getElem? (i := 0) rfl))
  have N51 := Fr.snoc X42 N41 g_r1
  refine Go.of st42 ?_
  show Go p e below Qo T42 (mkF m 31 #[.val (.ref r1), .val (.ref r2), .val (.ref r3), .val (.ref r4), .val (.int i1), .val (.int i2)] [])
  exact own_ret0 X42 hx Bd.notSynchronized Bd.returns (hb hby d8_31) (fun u hu hF => hQo _ _ _ ⟨rfl, N51, by rw [hu, e42]; exact K50, by rw [hu, e42]; exact q43, by rw [hu, e42]; exact q44, by rw [hu, e42]; exact q45, by rw [hu, e42]; exact q46, by rw [hu, e42]; exact q47, by rw [hu, e42]; exact q48⟩ (own_mono hF (by decide) (by decide)))
theorem d91_0 : decode prog_15_method_23_code 0 = .ok (.aload_n 0, 1) := by decide +kernel
theorem d91_1 : decode prog_15_method_23_code 1 = .ok (.getfield 7, 3) := by decide +kernel
theorem d91_4 : decode prog_15_method_23_code 4 = .ok (.aload_n 1, 1) := by decide +kernel
theorem d91_5 : decode prog_15_method_23_code 5 = .ok (.if_acmp .ne 7, 3) := by decide +kernel
theorem d91_8 : decode prog_15_method_23_code 8 = .ok (.iconst 1, 1) := by decide +kernel
theorem d91_9 : decode prog_15_method_23_code 9 = .ok (.goto 4, 3) := by decide +kernel
theorem d91_13 : decode prog_15_method_23_code 13 = .ok (.ireturn, 1) := by decide +kernel
theorem ef_91 (m : MethodId) (r1 : Addr) (r2 : Addr)  : entryFrame m #[(.ref r1), (.ref r2)] 2 = mkF m 0 #[.val (.ref r1), .val (.ref r2)] [] := by
  first | (simp [entryFrame, mkF, argsToLocals, Value.category]; done) | rfl
def Q91 (Z : State) (r1 : Addr) (r2 : Addr) (h0 : Heap) (n0 : Nat) (v : Option Value) (h : Heap) (L : List Loc) : Prop := v = some (.int (1 : Int32)) ∧ Fr n0 L ∧ h = h0
set_option maxRecDepth 65536 in
set_option maxHeartbeats 40000000 in
theorem rm91 (l : Launch) (Z : State) (a0 : Array Value) (hw : ∀ d ∈ tables_1, d.before a0 Z = true) (ws : List Jvm.Cond) (r1 : Addr) (r2 : Addr) (h0 : Heap) (n0 : Nat) (Z0 : n0 ≤ h0.size) (f0 : Fld Z h0 r1 "com/example/mimosa/mimosa/bson/BsonElement" "source" "[B" (.ref r2)) :
    MetFree l (⟨"com/example/mimosa/mimosa/bson/BsonElement", "standsIn", "([B)Z"⟩ : MethodName) (head1 (Jvm.Cond.code (⟨"com/example/mimosa/mimosa/bson/BsonElement", "standsIn", "([B)Z"⟩ : MethodName) prog_15_method_23_code 2 (some .boolean) :: ws) ({ frames := 0, cells := 0, slots := 0, locals := 0 } : Room)) (fun a U => a = #[(.ref r1), (.ref r2)] ∧ Z.Warmed39 U.vm ∧ U.heap = h0) (fun _ _ _ _ _ => True) (fun _ U o U' => ∃ v L, o = .returned v ∧ Q91 Z r1 r2 h0 n0 v U'.heap L ∧ FrameEnd U o U' L ({ frames := 0, cells := 0, slots := 0, locals := 0 } : Room).cells ({ frames := 0, cells := 0, slots := 0, locals := 0 } : Room).slots) := by
  refine MetFree.of_bodySF (plainFor_of_name pn_1) hisR ?_
  intro p e s m args below meth c s₁ Bd hml0 hP hK
  obtain ⟨rfl, hZ, hh⟩ := hP
  have hx := Bd.exec
  have hby := Bd.bytes
  have hml : c.maxLocals = 2 := hml0
  have hown : s.vm.findClass "com/example/mimosa/mimosa/bson/BsonElement" = some m.cls := findClass_of_methodNamed Bd.named
  have hnm := (name_of_methodNamed Bd.named Bd.method).1
  have X0 : Stand p l e ({ frames := 0, cells := 0, slots := 0, locals := 0 } : Room) s m #[(.ref r1), (.ref r2)] below meth c s₁ [] 0 0 := Stand.of_body Bd
  have e0 : s₁.heap = h0 := by rw [← hh, Bd.state]; rfl
  have N0 := Fr.nil n0
  suffices H : ∀ Qo : Outcome → State → Prop, (∀ (v : Option Value) (u : State) (L : List Loc), Q91 Z r1 r2 h0 n0 v u.heap L → FrameEnd s (.returned v) u L ({ frames := 0, cells := 0, slots := 0, locals := 0 } : Room).cells ({ frames := 0, cells := 0, slots := 0, locals := 0 } : Room).slots → Qo (.returned v) u) → Go p e below Qo s₁ (mkF m 0 #[.val (.ref r1), .val (.ref r2)] []) from
    Go.cast (ef_91 m r1 r2) (H _ fun v u L h1 h2 => ⟨v, L, rfl, h1, h2⟩)
  intro Qo hQo
  show Go p e below Qo s₁ (mkF m 0 #[.val (.ref r1), .val (.ref r2)] [])
  refine Go.of (fun t k => XS.aloadN X0.here hx rfl (hb hby d91_0) rfl rfl k) ?_
  show Go p e below Qo s₁ (mkF m 1 #[.val (.ref r1), .val (.ref r2)] [(.ref r1)])
  obtain ⟨T1, X1, e1, st1⟩ := getF X0 hx hZ hown (host := "") (Or.inl (hw _ (List.mem_of_getElem? (i := 44) rfl))) Via.refl e0 f0 (g := (mkF m 1 #[.val (.ref r1), .val (.ref r2)] [(.ref r1)])) rfl rfl (hb hby d91_1)
  refine Go.of st1 ?_
  show Go p e below Qo T1 (mkF m 4 #[.val (.ref r1), .val (.ref r2)] [(.ref r2)])
  refine Go.of (fun t k => XS.aloadN X1.here hx rfl (hb hby d91_4) rfl rfl k) ?_
  show Go p e below Qo T1 (mkF m 5 #[.val (.ref r1), .val (.ref r2)] [(.ref r2), (.ref r2)])
  refine Go.of (fun t k => Jvm.RoadKit.acmp (g := (mkF m 5 #[.val (.ref r1), .val (.ref r2)] [(.ref r2), (.ref r2)])) X1 hx rfl rfl rfl (pc0 := 5) (pc' := 8) (same := true) rfl (hb hby d91_5) rfl (decide_eq_true rfl) (by decide) (by decide) k) ?_
  show Go p e below Qo T1 (mkF m 8 #[.val (.ref r1), .val (.ref r2)] [])
  refine Go.of (fun t k => XS.iconst X1.here hx rfl (hb hby d91_8) k) ?_
  show Go p e below Qo T1 (mkF m 9 #[.val (.ref r1), .val (.ref r2)] [(.int (1 : Int32))])
  refine Go.of (fun t k => XS.goto X1.here hx rfl (pc0 := 9) (pc' := 13) rfl (hb hby d91_9) (by decide) (by decide) k) ?_
  show Go p e below Qo T1 (mkF m 13 #[.val (.ref r1), .val (.ref r2)] [(.int (1 : Int32))])
  exact own_retN X1 hx Bd.notSynchronized (t := .boolean) Bd.returns (by simp) (hb hby d91_13) (fun u hu hF => hQo _ _ _ ⟨rfl, N0, by rw [hu, e1]⟩ (own_mono hF (by decide) (by decide)))
theorem d92_0 : decode prog_15_method_23_code 0 = .ok (.aload_n 0, 1) := by decide +kernel
theorem d92_1 : decode prog_15_method_23_code 1 = .ok (.getfield 7, 3) := by decide +kernel
theorem d92_4 : decode prog_15_method_23_code 4 = .ok (.aload_n 1, 1) := by decide +kernel
theorem d92_5 : decode prog_15_method_23_code 5 = .ok (.if_acmp .ne 7, 3) := by decide +kernel
theorem d92_12 : decode prog_15_method_23_code 12 = .ok (.iconst 0, 1) := by decide +kernel
theorem d92_13 : decode prog_15_method_23_code 13 = .ok (.ireturn, 1) := by decide +kernel
theorem ef_92 (m : MethodId) (r1 : Addr) (r2 : Addr)  : entryFrame m #[(.ref r1), (.ref r2)] 2 = mkF m 0 #[.val (.ref r1), .val (.ref r2)] [] := by
  first | (simp [entryFrame, mkF, argsToLocals, Value.category]; done) | rfl
def Q92 (Z : State) (r1 : Addr) (r2 : Addr) (r3 : Addr) (h0 : Heap) (n0 : Nat) (v : Option Value) (h : Heap) (L : List Loc) : Prop := v = some (.int (0 : Int32)) ∧ Fr n0 L ∧ h = h0
set_option maxRecDepth 65536 in
set_option maxHeartbeats 40000000 in
theorem rm92 (l : Launch) (Z : State) (a0 : Array Value) (hw : ∀ d ∈ tables_1, d.before a0 Z = true) (ws : List Jvm.Cond) (r1 : Addr) (r2 : Addr) (r3 : Addr) (h0 : Heap) (n0 : Nat) (Z0 : n0 ≤ h0.size) (f0 : Fld Z h0 r1 "com/example/mimosa/mimosa/bson/BsonElement" "source" "[B" (.ref r3)) (ne_r3_r2 : r3 ≠ r2) :
    MetFree l (⟨"com/example/mimosa/mimosa/bson/BsonElement", "standsIn", "([B)Z"⟩ : MethodName) (head1 (Jvm.Cond.code (⟨"com/example/mimosa/mimosa/bson/BsonElement", "standsIn", "([B)Z"⟩ : MethodName) prog_15_method_23_code 2 (some .boolean) :: ws) ({ frames := 0, cells := 0, slots := 0, locals := 0 } : Room)) (fun a U => a = #[(.ref r1), (.ref r2)] ∧ Z.Warmed39 U.vm ∧ U.heap = h0) (fun _ _ _ _ _ => True) (fun _ U o U' => ∃ v L, o = .returned v ∧ Q92 Z r1 r2 r3 h0 n0 v U'.heap L ∧ FrameEnd U o U' L ({ frames := 0, cells := 0, slots := 0, locals := 0 } : Room).cells ({ frames := 0, cells := 0, slots := 0, locals := 0 } : Room).slots) := by
  refine MetFree.of_bodySF (plainFor_of_name pn_1) hisR ?_
  intro p e s m args below meth c s₁ Bd hml0 hP hK
  obtain ⟨rfl, hZ, hh⟩ := hP
  have hx := Bd.exec
  have hby := Bd.bytes
  have hml : c.maxLocals = 2 := hml0
  have hown : s.vm.findClass "com/example/mimosa/mimosa/bson/BsonElement" = some m.cls := findClass_of_methodNamed Bd.named
  have hnm := (name_of_methodNamed Bd.named Bd.method).1
  have X0 : Stand p l e ({ frames := 0, cells := 0, slots := 0, locals := 0 } : Room) s m #[(.ref r1), (.ref r2)] below meth c s₁ [] 0 0 := Stand.of_body Bd
  have e0 : s₁.heap = h0 := by rw [← hh, Bd.state]; rfl
  have N0 := Fr.nil n0
  suffices H : ∀ Qo : Outcome → State → Prop, (∀ (v : Option Value) (u : State) (L : List Loc), Q92 Z r1 r2 r3 h0 n0 v u.heap L → FrameEnd s (.returned v) u L ({ frames := 0, cells := 0, slots := 0, locals := 0 } : Room).cells ({ frames := 0, cells := 0, slots := 0, locals := 0 } : Room).slots → Qo (.returned v) u) → Go p e below Qo s₁ (mkF m 0 #[.val (.ref r1), .val (.ref r2)] []) from
    Go.cast (ef_92 m r1 r2) (H _ fun v u L h1 h2 => ⟨v, L, rfl, h1, h2⟩)
  intro Qo hQo
  show Go p e below Qo s₁ (mkF m 0 #[.val (.ref r1), .val (.ref r2)] [])
  refine Go.of (fun t k => XS.aloadN X0.here hx rfl (hb hby d92_0) rfl rfl k) ?_
  show Go p e below Qo s₁ (mkF m 1 #[.val (.ref r1), .val (.ref r2)] [(.ref r1)])
  obtain ⟨T1, X1, e1, st1⟩ := getF X0 hx hZ hown (host := "") (Or.inl (hw _ (List.mem_of_getElem? (i := 44) rfl))) Via.refl e0 f0 (g := (mkF m 1 #[.val (.ref r1), .val (.ref r2)] [(.ref r1)])) rfl rfl (hb hby d92_1)
  refine Go.of st1 ?_
  show Go p e below Qo T1 (mkF m 4 #[.val (.ref r1), .val (.ref r2)] [(.ref r3)])
  refine Go.of (fun t k => XS.aloadN X1.here hx rfl (hb hby d92_4) rfl rfl k) ?_
  show Go p e below Qo T1 (mkF m 5 #[.val (.ref r1), .val (.ref r2)] [(.ref r2), (.ref r3)])
  refine Go.of (fun t k => Jvm.RoadKit.acmp (g := (mkF m 5 #[.val (.ref r1), .val (.ref r2)] [(.ref r2), (.ref r3)])) X1 hx rfl rfl rfl (pc0 := 5) (pc' := 12) (same := false) rfl (hb hby d92_5) rfl (decide_eq_false fun q => ne_r3_r2 (Value.ref.inj q)) (by decide) (by decide) k) ?_
  show Go p e below Qo T1 (mkF m 12 #[.val (.ref r1), .val (.ref r2)] [])
  refine Go.of (fun t k => XS.iconst X1.here hx rfl (hb hby d92_12) k) ?_
  show Go p e below Qo T1 (mkF m 13 #[.val (.ref r1), .val (.ref r2)] [(.int (0 : Int32))])
  exact own_retN X1 hx Bd.notSynchronized (t := .boolean) Bd.returns (by simp) (hb hby d92_13) (fun u hu hF => hQo _ _ _ ⟨rfl, N0, by rw [hu, e1]⟩ (own_mono hF (by decide) (by decide)))
theorem d93_0 : decode prog_15_method_23_code 0 = .ok (.aload_n 0, 1) := by decide +kernel
theorem d93_1 : decode prog_15_method_23_code 1 = .ok (.getfield 7, 3) := by decide +kernel
theorem d93_4 : decode prog_15_method_23_code 4 = .ok (.aload_n 1, 1) := by decide +kernel
theorem d93_5 : decode prog_15_method_23_code 5 = .ok (.if_acmp .ne 7, 3) := by decide +kernel
theorem d93_12 : decode prog_15_method_23_code 12 = .ok (.iconst 0, 1) := by decide +kernel
theorem d93_13 : decode prog_15_method_23_code 13 = .ok (.ireturn, 1) := by decide +kernel
theorem ef_93 (m : MethodId) (r1 : Addr)  : entryFrame m #[(.ref r1), .null] 2 = mkF m 0 #[.val (.ref r1), .val .null] [] := by
  first | (simp [entryFrame, mkF, argsToLocals, Value.category]; done) | rfl
def Q93 (Z : State) (r1 : Addr) (r3 : Addr) (h0 : Heap) (n0 : Nat) (v : Option Value) (h : Heap) (L : List Loc) : Prop := v = some (.int (0 : Int32)) ∧ Fr n0 L ∧ h = h0
set_option maxRecDepth 65536 in
set_option maxHeartbeats 40000000 in
theorem rm93 (l : Launch) (Z : State) (a0 : Array Value) (hw : ∀ d ∈ tables_1, d.before a0 Z = true) (ws : List Jvm.Cond) (r1 : Addr) (r3 : Addr) (h0 : Heap) (n0 : Nat) (Z0 : n0 ≤ h0.size) (f0 : Fld Z h0 r1 "com/example/mimosa/mimosa/bson/BsonElement" "source" "[B" (.ref r3)) :
    MetFree l (⟨"com/example/mimosa/mimosa/bson/BsonElement", "standsIn", "([B)Z"⟩ : MethodName) (head1 (Jvm.Cond.code (⟨"com/example/mimosa/mimosa/bson/BsonElement", "standsIn", "([B)Z"⟩ : MethodName) prog_15_method_23_code 2 (some .boolean) :: ws) ({ frames := 0, cells := 0, slots := 0, locals := 0 } : Room)) (fun a U => a = #[(.ref r1), .null] ∧ Z.Warmed39 U.vm ∧ U.heap = h0) (fun _ _ _ _ _ => True) (fun _ U o U' => ∃ v L, o = .returned v ∧ Q93 Z r1 r3 h0 n0 v U'.heap L ∧ FrameEnd U o U' L ({ frames := 0, cells := 0, slots := 0, locals := 0 } : Room).cells ({ frames := 0, cells := 0, slots := 0, locals := 0 } : Room).slots) := by
  refine MetFree.of_bodySF (plainFor_of_name pn_1) hisR ?_
  intro p e s m args below meth c s₁ Bd hml0 hP hK
  obtain ⟨rfl, hZ, hh⟩ := hP
  have hx := Bd.exec
  have hby := Bd.bytes
  have hml : c.maxLocals = 2 := hml0
  have hown : s.vm.findClass "com/example/mimosa/mimosa/bson/BsonElement" = some m.cls := findClass_of_methodNamed Bd.named
  have hnm := (name_of_methodNamed Bd.named Bd.method).1
  have X0 : Stand p l e ({ frames := 0, cells := 0, slots := 0, locals := 0 } : Room) s m #[(.ref r1), .null] below meth c s₁ [] 0 0 := Stand.of_body Bd
  have e0 : s₁.heap = h0 := by rw [← hh, Bd.state]; rfl
  have N0 := Fr.nil n0
  suffices H : ∀ Qo : Outcome → State → Prop, (∀ (v : Option Value) (u : State) (L : List Loc), Q93 Z r1 r3 h0 n0 v u.heap L → FrameEnd s (.returned v) u L ({ frames := 0, cells := 0, slots := 0, locals := 0 } : Room).cells ({ frames := 0, cells := 0, slots := 0, locals := 0 } : Room).slots → Qo (.returned v) u) → Go p e below Qo s₁ (mkF m 0 #[.val (.ref r1), .val .null] []) from
    Go.cast (ef_93 m r1) (H _ fun v u L h1 h2 => ⟨v, L, rfl, h1, h2⟩)
  intro Qo hQo
  show Go p e below Qo s₁ (mkF m 0 #[.val (.ref r1), .val .null] [])
  refine Go.of (fun t k => XS.aloadN X0.here hx rfl (hb hby d93_0) rfl rfl k) ?_
  show Go p e below Qo s₁ (mkF m 1 #[.val (.ref r1), .val .null] [(.ref r1)])
  obtain ⟨T1, X1, e1, st1⟩ := getF X0 hx hZ hown (host := "") (Or.inl (hw _ (List.mem_of_getElem? (i := 44) rfl))) Via.refl e0 f0 (g := (mkF m 1 #[.val (.ref r1), .val .null] [(.ref r1)])) rfl rfl (hb hby d93_1)
  refine Go.of st1 ?_
  show Go p e below Qo T1 (mkF m 4 #[.val (.ref r1), .val .null] [(.ref r3)])
  refine Go.of (fun t k => XS.aloadN X1.here hx rfl (hb hby d93_4) rfl rfl k) ?_
  show Go p e below Qo T1 (mkF m 5 #[.val (.ref r1), .val .null] [.null, (.ref r3)])
  refine Go.of (fun t k => Jvm.RoadKit.acmp (g := (mkF m 5 #[.val (.ref r1), .val .null] [.null, (.ref r3)])) X1 hx rfl rfl rfl (pc0 := 5) (pc' := 12) (same := false) rfl (hb hby d93_5) rfl (decide_eq_false nofun) (by decide) (by decide) k) ?_
  show Go p e below Qo T1 (mkF m 12 #[.val (.ref r1), .val .null] [])
  refine Go.of (fun t k => XS.iconst X1.here hx rfl (hb hby d93_12) k) ?_
  show Go p e below Qo T1 (mkF m 13 #[.val (.ref r1), .val .null] [(.int (0 : Int32))])
  exact own_retN X1 hx Bd.notSynchronized (t := .boolean) Bd.returns (by simp) (hb hby d93_13) (fun u hu hF => hQo _ _ _ ⟨rfl, N0, by rw [hu, e1]⟩ (own_mono hF (by decide) (by decide)))
theorem own_lat (x : Int32) : ∀ d ∈ [nar .char ((x &&& (255 : Int32)).toUInt32.toUInt16.toUInt32.toInt32)], ¬ d < 0 ∧ ¬ (255 : Int32) < d := by
  intro d hd
  simp only [List.mem_cons, List.not_mem_nil, or_false] at hd
  subst hd
  rw [show nar .char ((x &&& (255 : Int32)).toUInt32.toUInt16.toUInt32.toInt32) = x &&& 255 from by simp only [nar, i2c_mask]]
  have h := c_and x 255 (by decide)
  have e : (255 : Int32).toInt = 255 := by decide
  have e0 : (0 : Int32).toInt = 0 := by decide
  rw [Int32.lt_iff_toInt_lt, Int32.lt_iff_toInt_lt]; omega
theorem own_neI {args : Array Value} {s : State} {t : Term} {z k : Int32} (ev : t.eval args s none [] s = some (.int z)) (h : (Cond.not (.eq t (.int k))).before args s = true) : ¬ z = k := by
  have h1 := not_v (Cond.before_iff.mp h)
  intro e
  subst e
  rw [eq_i ev (Term.int_eval _) rfl] at h1
  cases h1
theorem pd_0 : parseMethodDescriptor "([C)V" = some ⟨[(.array .char)], none⟩ := by decide +kernel
theorem pd_1 : parseMethodDescriptor "(I)Lcom/example/mimosa/mimosa/bson/BsonType;" = some ⟨[.int], some (.object "com/example/mimosa/mimosa/bson/BsonType")⟩ := by decide +kernel
theorem pd_2 : parseMethodDescriptor "([BLjava/lang/String;Lcom/example/mimosa/mimosa/bson/BsonType;II)V" = some ⟨[(.array .byte), (.object "java/lang/String"), (.object "com/example/mimosa/mimosa/bson/BsonType"), .int, .int], none⟩ := by decide +kernel
theorem pd_3 : parseMethodDescriptor "([B)Z" = some ⟨[(.array .byte)], some .boolean⟩ := by decide +kernel
theorem ef_0 (m : MethodId) (i1 : Int32) (i2 : Int32) (i3 : Int32) (i4 : Int32) (i5 : Int32) (i6 : Int32)  : entryFrame m #[(.int i1), (.int i2), (.int i3), (.int i4), (.int i5), (.int i6)] maxLocals = mkF m 0 #[.val (.int i1), .val (.int i2), .val (.int i3), .val (.int i4), .val (.int i5), .val (.int i6), .unset, .unset, .unset, .unset, .unset, .unset, .unset, .unset, .unset, .unset, .unset, .unset] [] := by
  first | (simp [entryFrame, mkF, argsToLocals, Value.category, maxLocals]; done) | rfl
def Q0 (Z : State) (i1 : Int32) (i2 : Int32) (i3 : Int32) (i4 : Int32) (i5 : Int32) (i6 : Int32) (z_NULL : Addr) (z_STRING : Addr) (z_DOCUMENT : Addr) (z_INT32 : Addr) (zc : Int32) (h0 : Heap) (n0 : Nat) (v : Option Value) (h : Heap) (L : List Loc) : Prop := v = some (.int 1) ∧ Fr n0 L
set_option maxRecDepth 65536 in
set_option maxHeartbeats 40000000 in
theorem rm0 (l : Launch) (Z : State) (a0 : Array Value) (hw : ∀ d ∈ tables_1, d.before a0 Z = true) (ws : List Jvm.Cond) (i1 : Int32) (i2 : Int32) (i3 : Int32) (i4 : Int32) (i5 : Int32) (i6 : Int32) (z_NULL : Addr) (z_STRING : Addr) (z_DOCUMENT : Addr) (z_INT32 : Addr) (zc : Int32) (h0 : Heap) (n0 : Nat) (Z0 : n0 ≤ h0.size) (f0 : Sta Z h0 "com/example/mimosa/mimosa/bson/BsonType" "NULL" "Lcom/example/mimosa/mimosa/bson/BsonType;" (.ref z_NULL)) (f1 : Exa Z h0 z_NULL "com/example/mimosa/mimosa/bson/BsonType") (f2 : Sta Z h0 "com/example/mimosa/mimosa/bson/BsonType" "STRING" "Lcom/example/mimosa/mimosa/bson/BsonType;" (.ref z_STRING)) (f3 : Exa Z h0 z_STRING "com/example/mimosa/mimosa/bson/BsonType") (f4 : Sta Z h0 "com/example/mimosa/mimosa/bson/BsonType" "DOCUMENT" "Lcom/example/mimosa/mimosa/bson/BsonType;" (.ref z_DOCUMENT)) (f5 : Exa Z h0 z_DOCUMENT "com/example/mimosa/mimosa/bson/BsonType") (f6 : Sta Z h0 "com/example/mimosa/mimosa/bson/BsonType" "INT32" "Lcom/example/mimosa/mimosa/bson/BsonType;" (.ref z_INT32)) (f7 : Exa Z h0 z_INT32 "com/example/mimosa/mimosa/bson/BsonType") (f8 : Sta Z h0 "java/lang/String" "COMPACT_STRINGS" "Z" (.int zc)) (hz : ¬ (zc = (0 : Int32))) :
    MetFree l x (head1 (Jvm.Cond.code x code maxLocals ret :: ws) room_1) (fun a U => a = #[(.int i1), (.int i2), (.int i3), (.int i4), (.int i5), (.int i6)] ∧ Z.Warmed39 U.vm ∧ U.heap = h0) (fun _ _ _ _ _ => True) (fun _ U o U' => ∃ v L, o = .returned v ∧ Q0 Z i1 i2 i3 i4 i5 i6 z_NULL z_STRING z_DOCUMENT z_INT32 zc h0 n0 v U'.heap L ∧ FrameEnd U o U' L 7 21) := by
  refine MetFree.of_bodySF (plainFor_of_name pn_0) hisR ?_
  intro p e s m args below meth c s₁ Bd hml0 hP hK
  obtain ⟨rfl, hZ, hh⟩ := hP
  have hx := Bd.exec
  have hby := Bd.bytes
  have hml : c.maxLocals = 18 := hml0
  have hown : s.vm.findClass "com/example/mimosa/mimosa/bson/BsonElementStandsInPinLaw" = some m.cls := findClass_of_methodNamed Bd.named
  have hnm := (name_of_methodNamed Bd.named Bd.method).1
  have X0 : Stand p l e room_1 s m #[(.int i1), (.int i2), (.int i3), (.int i4), (.int i5), (.int i6)] below meth c s₁ [] 0 0 := Stand.of_body Bd
  have e0 : s₁.heap = h0 := by rw [← hh, Bd.state]; rfl
  have N0 := Fr.nil n0
  suffices H : ∀ Qo : Outcome → State → Prop, (∀ (v : Option Value) (u : State) (L : List Loc), Q0 Z i1 i2 i3 i4 i5 i6 z_NULL z_STRING z_DOCUMENT z_INT32 zc h0 n0 v u.heap L → FrameEnd s (.returned v) u L 7 21 → Qo (.returned v) u) → Go p e below Qo s₁ (mkF m 0 #[.val (.int i1), .val (.int i2), .val (.int i3), .val (.int i4), .val (.int i5), .val (.int i6), .unset, .unset, .unset, .unset, .unset, .unset, .unset, .unset, .unset, .unset, .unset, .unset] []) from
    Go.cast (ef_0 m i1 i2 i3 i4 i5 i6) (H _ fun v u L h1 h2 => ⟨v, L, rfl, h1, h2⟩)
  intro Qo hQo
  show Go p e below Qo s₁ (mkF m 0 #[.val (.int i1), .val (.int i2), .val (.int i3), .val (.int i4), .val (.int i5), .val (.int i6), .unset, .unset, .unset, .unset, .unset, .unset, .unset, .unset, .unset, .unset, .unset, .unset] [])
  refine Go.of (fun t k => XS.iload X0.here hx rfl (hb hby at_0) rfl  k) ?_
  show Go p e below Qo s₁ (mkF m 2 #[.val (.int i1), .val (.int i2), .val (.int i3), .val (.int i4), .val (.int i5), .val (.int i6), .unset, .unset, .unset, .unset, .unset, .unset, .unset, .unset, .unset, .unset, .unset, .unset] [(.int i6)])
  refine Go.of (fun t k => XS.bipush X0.here hx rfl (hb hby at_2) k) ?_
  show Go p e below Qo s₁ (mkF m 4 #[.val (.int i1), .val (.int i2), .val (.int i3), .val (.int i4), .val (.int i5), .val (.int i6), .unset, .unset, .unset, .unset, .unset, .unset, .unset, .unset, .unset, .unset, .unset, .unset] [(.int (10 : Int32)), (.int i6)])
  refine Go.of (fun t k => XS.ishr X0.here hx rfl (hb hby at_4) rfl k) ?_
  show Go p e below Qo s₁ (mkF m 5 #[.val (.int i1), .val (.int i2), .val (.int i3), .val (.int i4), .val (.int i5), .val (.int i6), .unset, .unset, .unset, .unset, .unset, .unset, .unset, .unset, .unset, .unset, .unset, .unset] [(.int (i6 >>> ((10 : Int32) &&& 31)))])
  refine Go.of (fun t k => XS.iconst X0.here hx rfl (hb hby at_5) k) ?_
  show Go p e below Qo s₁ (mkF m 6 #[.val (.int i1), .val (.int i2), .val (.int i3), .val (.int i4), .val (.int i5), .val (.int i6), .unset, .unset, .unset, .unset, .unset, .unset, .unset, .unset, .unset, .unset, .unset, .unset] [(.int (1 : Int32)), (.int (i6 >>> ((10 : Int32) &&& 31)))])
  refine Go.of (fun t k => XS.iand X0.here hx rfl (hb hby at_6) rfl k) ?_
  show Go p e below Qo s₁ (mkF m 7 #[.val (.int i1), .val (.int i2), .val (.int i3), .val (.int i4), .val (.int i5), .val (.int i6), .unset, .unset, .unset, .unset, .unset, .unset, .unset, .unset, .unset, .unset, .unset, .unset] [(.int ((i6 >>> ((10 : Int32) &&& 31)) &&& (1 : Int32)))])
  have J7_3 : ∀ (v7_2 : Int32), v7_2 = (if ((i6 >>> ((10 : Int32) &&& 31)) &&& (1 : Int32)) = (0 : Int32) then (0 : Int32) else (1 : Int32)) → Go p e below Qo s₁ (mkF m 15 #[.val (.int i1), .val (.int i2), .val (.int i3), .val (.int i4), .val (.int i5), .val (.int i6), .unset, .unset, .unset, .unset, .unset, .unset, .unset, .unset, .unset, .unset, .unset, .unset] [(.int v7_2)]) := by
    intro v7_2 hv7_2
    show Go p e below Qo s₁ (mkF m 15 #[.val (.int i1), .val (.int i2), .val (.int i3), .val (.int i4), .val (.int i5), .val (.int i6), .unset, .unset, .unset, .unset, .unset, .unset, .unset, .unset, .unset, .unset, .unset, .unset] [(.int v7_2)])
    refine Go.of (fun t k => XS.istore X0.here hx rfl (hb hby at_15) rfl (l' := #[.val (.int i1), .val (.int i2), .val (.int i3), .val (.int i4), .val (.int i5), .val (.int i6), .val (.int v7_2), .unset, .unset, .unset, .unset, .unset, .unset, .unset, .unset, .unset, .unset, .unset]) rfl k) ?_
    show Go p e below Qo s₁ (mkF m 17 #[.val (.int i1), .val (.int i2), .val (.int i3), .val (.int i4), .val (.int i5), .val (.int i6), .val (.int v7_2), .unset, .unset, .unset, .unset, .unset, .unset, .unset, .unset, .unset, .unset, .unset] [])
    refine Go.of (fun t k => XS.iload X0.here hx rfl (hb hby at_17) rfl  k) ?_
    show Go p e below Qo s₁ (mkF m 19 #[.val (.int i1), .val (.int i2), .val (.int i3), .val (.int i4), .val (.int i5), .val (.int i6), .val (.int v7_2), .unset, .unset, .unset, .unset, .unset, .unset, .unset, .unset, .unset, .unset, .unset] [(.int v7_2)])
    by_cases hc19_4 : v7_2 = (0 : Int32)
    · refine Go.of (fun t k => XS.ifYes X0.here hx rfl (pc0 := 19) (pc' := 35) rfl (hb hby at_19) rfl ((if0 _ _).trans (teq hc19_4).1) (by decide) (by decide) k) ?_
      show Go p e below Qo s₁ (mkF m 35 #[.val (.int i1), .val (.int i2), .val (.int i3), .val (.int i4), .val (.int i5), .val (.int i6), .val (.int v7_2), .unset, .unset, .unset, .unset, .unset, .unset, .unset, .unset, .unset, .unset, .unset] [])
      refine Go.of (fun t k => XS.iconst X0.here hx rfl (hb hby at_35) k) ?_
      show Go p e below Qo s₁ (mkF m 36 #[.val (.int i1), .val (.int i2), .val (.int i3), .val (.int i4), .val (.int i5), .val (.int i6), .val (.int v7_2), .unset, .unset, .unset, .unset, .unset, .unset, .unset, .unset, .unset, .unset, .unset] [(.int (4 : Int32))])
      obtain ⟨T5, h5, k5, X5, e5, E5, A5, st5⟩ := newP X0 hx hZ (hw _ (List.mem_of_getElem? (i := 0) rfl)) e0 (g := (mkF m 36 #[.val (.int i1), .val (.int i2), .val (.int i3), .val (.int i4), .val (.int i5), .val (.int i6), .val (.int v7_2), .unset, .unset, .unset, .unset, .unset, .unset, .unset, .unset, .unset, .unset, .unset] [(.int (4 : Int32))])) rfl (hb hby at_36) rfl (by decide) (cap := 4) (by decide) (by decide) (by decide) (by decide)
      obtain ⟨b5, g5⟩ : ∃ z, z = h0.size := ⟨_, rfl⟩
      rw [← g5] at A5 st5
      have ne6 : z_NULL ≠ b5 := Nat.ne_of_lt (Nat.lt_of_lt_of_le f1.lt (Nat.le_of_eq g5.symm))
      have ne7 : z_STRING ≠ b5 := Nat.ne_of_lt (Nat.lt_of_lt_of_le f3.lt (Nat.le_of_eq g5.symm))
      have ne8 : z_DOCUMENT ≠ b5 := Nat.ne_of_lt (Nat.lt_of_lt_of_le f5.lt (Nat.le_of_eq g5.symm))
      have ne9 : z_INT32 ≠ b5 := Nat.ne_of_lt (Nat.lt_of_lt_of_le f7.lt (Nat.le_of_eq g5.symm))
      have g10 : n0 ≤ b5 := Nat.le_trans Z0 (Nat.le_of_eq g5.symm)
      have q11 : Sta Z h5 "com/example/mimosa/mimosa/bson/BsonType" "NULL" "Lcom/example/mimosa/mimosa/bson/BsonType;" (.ref z_NULL) := f0.ext E5
      have q12 : Exa Z h5 z_NULL "com/example/mimosa/mimosa/bson/BsonType" := f1.ext E5
      have q13 : Sta Z h5 "com/example/mimosa/mimosa/bson/BsonType" "STRING" "Lcom/example/mimosa/mimosa/bson/BsonType;" (.ref z_STRING) := f2.ext E5
      have q14 : Exa Z h5 z_STRING "com/example/mimosa/mimosa/bson/BsonType" := f3.ext E5
      have q15 : Sta Z h5 "com/example/mimosa/mimosa/bson/BsonType" "DOCUMENT" "Lcom/example/mimosa/mimosa/bson/BsonType;" (.ref z_DOCUMENT) := f4.ext E5
      have q16 : Exa Z h5 z_DOCUMENT "com/example/mimosa/mimosa/bson/BsonType" := f5.ext E5
      have q17 : Sta Z h5 "com/example/mimosa/mimosa/bson/BsonType" "INT32" "Lcom/example/mimosa/mimosa/bson/BsonType;" (.ref z_INT32) := f6.ext E5
      have q18 : Exa Z h5 z_INT32 "com/example/mimosa/mimosa/bson/BsonType" := f7.ext E5
      have q19 : Sta Z h5 "java/lang/String" "COMPACT_STRINGS" "Z" (.int zc) := f8.ext E5
      have Z20 : n0 ≤ h5.size := Nat.le_trans Z0 E5.1
      have q21 : Arv Z h5 b5 k5 .byte (4 : Int32) [(.int (0 : Int32)), (.int (0 : Int32)), (.int (0 : Int32)), (.int (0 : Int32))] (.int (0 : Int32)) := (Arv.new A5 (by decide)).pad (pad_rep [] (.int (0 : Int32)) 4)
      refine Go.of st5 ?_
      show Go p e below Qo T5 (mkF m 38 #[.val (.int i1), .val (.int i2), .val (.int i3), .val (.int i4), .val (.int i5), .val (.int i6), .val (.int v7_2), .unset, .unset, .unset, .unset, .unset, .unset, .unset, .unset, .unset, .unset, .unset] [(.ref b5)])
      refine Go.of (fun t k => XS.dup X5.here hx rfl (hb hby at_38) rfl rfl k) ?_
      show Go p e below Qo T5 (mkF m 39 #[.val (.int i1), .val (.int i2), .val (.int i3), .val (.int i4), .val (.int i5), .val (.int i6), .val (.int v7_2), .unset, .unset, .unset, .unset, .unset, .unset, .unset, .unset, .unset, .unset, .unset] [(.ref b5), (.ref b5)])
      refine Go.of (fun t k => XS.iconst X5.here hx rfl (hb hby at_39) k) ?_
      show Go p e below Qo T5 (mkF m 40 #[.val (.int i1), .val (.int i2), .val (.int i3), .val (.int i4), .val (.int i5), .val (.int i6), .val (.int v7_2), .unset, .unset, .unset, .unset, .unset, .unset, .unset, .unset, .unset, .unset, .unset] [(.int (0 : Int32)), (.ref b5), (.ref b5)])
      refine Go.of (fun t k => XS.iloadN X5.here hx rfl (hb hby at_40) rfl  k) ?_
      show Go p e below Qo T5 (mkF m 41 #[.val (.int i1), .val (.int i2), .val (.int i3), .val (.int i4), .val (.int i5), .val (.int i6), .val (.int v7_2), .unset, .unset, .unset, .unset, .unset, .unset, .unset, .unset, .unset, .unset, .unset] [(.int i1), (.int (0 : Int32)), (.ref b5), (.ref b5)])
      refine Go.of (fun t k => XS.i2b X5.here hx rfl (hb hby at_41) rfl k) ?_
      show Go p e below Qo T5 (mkF m 42 #[.val (.int i1), .val (.int i2), .val (.int i3), .val (.int i4), .val (.int i5), .val (.int i6), .val (.int v7_2), .unset, .unset, .unset, .unset, .unset, .unset, .unset, .unset, .unset, .unset, .unset] [(.int (i1.toInt8.toInt32)), (.int (0 : Int32)), (.ref b5), (.ref b5)])
      have cpo22 := q21
      obtain ⟨clo22, Aro22, qco22, So22, Mo22, Ho22, Go22⟩ := cpo22
      have hin23 : ¬ ((0 : Int32) < 0 ∨ clo22.slots.size ≤ (0 : Int32).toNatClampNeg) := (inb_of So22 ⟨by decide, by decide⟩)
      obtain ⟨T24, h24, X24, e24, W24, st24⟩ := stB X5 hx hZ e5 Aro22 (j := (0 : Int32)) hin23 (g := (mkF m 42 #[.val (.int i1), .val (.int i2), .val (.int i3), .val (.int i4), .val (.int i5), .val (.int i6), .val (.int v7_2), .unset, .unset, .unset, .unset, .unset, .unset, .unset, .unset, .unset, .unset, .unset] [(.int (i1.toInt8.toInt32)), (.int (0 : Int32)), (.ref b5), (.ref b5)])) rfl rfl (hb hby at_42)
      have q25 : Sta Z h24 "com/example/mimosa/mimosa/bson/BsonType" "NULL" "Lcom/example/mimosa/mimosa/bson/BsonType;" (.ref z_NULL) := q11.wr W24
      have q26 : Exa Z h24 z_NULL "com/example/mimosa/mimosa/bson/BsonType" := q12.wr W24
      have q27 : Sta Z h24 "com/example/mimosa/mimosa/bson/BsonType" "STRING" "Lcom/example/mimosa/mimosa/bson/BsonType;" (.ref z_STRING) := q13.wr W24
      have q28 : Exa Z h24 z_STRING "com/example/mimosa/mimosa/bson/BsonType" := q14.wr W24
      have q29 : Sta Z h24 "com/example/mimosa/mimosa/bson/BsonType" "DOCUMENT" "Lcom/example/mimosa/mimosa/bson/BsonType;" (.ref z_DOCUMENT) := q15.wr W24
      have q30 : Exa Z h24 z_DOCUMENT "com/example/mimosa/mimosa/bson/BsonType" := q16.wr W24
      have q31 : Sta Z h24 "com/example/mimosa/mimosa/bson/BsonType" "INT32" "Lcom/example/mimosa/mimosa/bson/BsonType;" (.ref z_INT32) := q17.wr W24
      have q32 : Exa Z h24 z_INT32 "com/example/mimosa/mimosa/bson/BsonType" := q18.wr W24
      have q33 : Sta Z h24 "java/lang/String" "COMPACT_STRINGS" "Z" (.int zc) := q19.wr W24
      have q34 : Arv Z h24 b5 k5 .byte (4 : Int32) [(.int (nar .byte (i1.toInt8.toInt32))), (.int (0 : Int32)), (.int (0 : Int32)), (.int (0 : Int32))] (.int (0 : Int32)) := Arv.set Aro22 qco22 So22 Mo22 Ho22 Go22 (fits_nar_byte _) W24 0 rfl (Nat.le_of_ble_eq_true rfl)
      have Z35 : n0 ≤ h24.size := Nat.le_trans Z20 (Keep.of_wr W24).1
      have N36 := Fr.snoc X24 N0 g10
      refine Go.of st24 ?_
      show Go p e below Qo T24 (mkF m 43 #[.val (.int i1), .val (.int i2), .val (.int i3), .val (.int i4), .val (.int i5), .val (.int i6), .val (.int v7_2), .unset, .unset, .unset, .unset, .unset, .unset, .unset, .unset, .unset, .unset, .unset] [(.ref b5)])
      refine Go.of (fun t k => XS.dup X24.here hx rfl (hb hby at_43) rfl rfl k) ?_
      show Go p e below Qo T24 (mkF m 44 #[.val (.int i1), .val (.int i2), .val (.int i3), .val (.int i4), .val (.int i5), .val (.int i6), .val (.int v7_2), .unset, .unset, .unset, .unset, .unset, .unset, .unset, .unset, .unset, .unset, .unset] [(.ref b5), (.ref b5)])
      refine Go.of (fun t k => XS.iconst X24.here hx rfl (hb hby at_44) k) ?_
      show Go p e below Qo T24 (mkF m 45 #[.val (.int i1), .val (.int i2), .val (.int i3), .val (.int i4), .val (.int i5), .val (.int i6), .val (.int v7_2), .unset, .unset, .unset, .unset, .unset, .unset, .unset, .unset, .unset, .unset, .unset] [(.int (1 : Int32)), (.ref b5), (.ref b5)])
      refine Go.of (fun t k => XS.iloadN X24.here hx rfl (hb hby at_45) rfl  k) ?_
      show Go p e below Qo T24 (mkF m 46 #[.val (.int i1), .val (.int i2), .val (.int i3), .val (.int i4), .val (.int i5), .val (.int i6), .val (.int v7_2), .unset, .unset, .unset, .unset, .unset, .unset, .unset, .unset, .unset, .unset, .unset] [(.int i2), (.int (1 : Int32)), (.ref b5), (.ref b5)])
      refine Go.of (fun t k => XS.i2b X24.here hx rfl (hb hby at_46) rfl k) ?_
      show Go p e below Qo T24 (mkF m 47 #[.val (.int i1), .val (.int i2), .val (.int i3), .val (.int i4), .val (.int i5), .val (.int i6), .val (.int v7_2), .unset, .unset, .unset, .unset, .unset, .unset, .unset, .unset, .unset, .unset, .unset] [(.int (i2.toInt8.toInt32)), (.int (1 : Int32)), (.ref b5), (.ref b5)])
      have cpo37 := q34
      obtain ⟨clo37, Aro37, qco37, So37, Mo37, Ho37, Go37⟩ := cpo37
      have hin38 : ¬ ((1 : Int32) < 0 ∨ clo37.slots.size ≤ (1 : Int32).toNatClampNeg) := (inb_of So37 ⟨by decide, by decide⟩)
      obtain ⟨T39, h39, X39, e39, W39, st39⟩ := stB X24 hx hZ e24 Aro37 (j := (1 : Int32)) hin38 (g := (mkF m 47 #[.val (.int i1), .val (.int i2), .val (.int i3), .val (.int i4), .val (.int i5), .val (.int i6), .val (.int v7_2), .unset, .unset, .unset, .unset, .unset, .unset, .unset, .unset, .unset, .unset, .unset] [(.int (i2.toInt8.toInt32)), (.int (1 : Int32)), (.ref b5), (.ref b5)])) rfl rfl (hb hby at_47)
      have q40 : Sta Z h39 "com/example/mimosa/mimosa/bson/BsonType" "NULL" "Lcom/example/mimosa/mimosa/bson/BsonType;" (.ref z_NULL) := q25.wr W39
      have q41 : Exa Z h39 z_NULL "com/example/mimosa/mimosa/bson/BsonType" := q26.wr W39
      have q42 : Sta Z h39 "com/example/mimosa/mimosa/bson/BsonType" "STRING" "Lcom/example/mimosa/mimosa/bson/BsonType;" (.ref z_STRING) := q27.wr W39
      have q43 : Exa Z h39 z_STRING "com/example/mimosa/mimosa/bson/BsonType" := q28.wr W39
      have q44 : Sta Z h39 "com/example/mimosa/mimosa/bson/BsonType" "DOCUMENT" "Lcom/example/mimosa/mimosa/bson/BsonType;" (.ref z_DOCUMENT) := q29.wr W39
      have q45 : Exa Z h39 z_DOCUMENT "com/example/mimosa/mimosa/bson/BsonType" := q30.wr W39
      have q46 : Sta Z h39 "com/example/mimosa/mimosa/bson/BsonType" "INT32" "Lcom/example/mimosa/mimosa/bson/BsonType;" (.ref z_INT32) := q31.wr W39
      have q47 : Exa Z h39 z_INT32 "com/example/mimosa/mimosa/bson/BsonType" := q32.wr W39
      have q48 : Sta Z h39 "java/lang/String" "COMPACT_STRINGS" "Z" (.int zc) := q33.wr W39
      have q49 : Arv Z h39 b5 k5 .byte (4 : Int32) [(.int (nar .byte (i1.toInt8.toInt32))), (.int (nar .byte (i2.toInt8.toInt32))), (.int (0 : Int32)), (.int (0 : Int32))] (.int (0 : Int32)) := Arv.set Aro37 qco37 So37 Mo37 Ho37 Go37 (fits_nar_byte _) W39 1 rfl (Nat.le_of_ble_eq_true rfl)
      have Z50 : n0 ≤ h39.size := Nat.le_trans Z35 (Keep.of_wr W39).1
      have N51 := Fr.snoc X39 N36 g10
      refine Go.of st39 ?_
      show Go p e below Qo T39 (mkF m 48 #[.val (.int i1), .val (.int i2), .val (.int i3), .val (.int i4), .val (.int i5), .val (.int i6), .val (.int v7_2), .unset, .unset, .unset, .unset, .unset, .unset, .unset, .unset, .unset, .unset, .unset] [(.ref b5)])
      refine Go.of (fun t k => XS.dup X39.here hx rfl (hb hby at_48) rfl rfl k) ?_
      show Go p e below Qo T39 (mkF m 49 #[.val (.int i1), .val (.int i2), .val (.int i3), .val (.int i4), .val (.int i5), .val (.int i6), .val (.int v7_2), .unset, .unset, .unset, .unset, .unset, .unset, .unset, .unset, .unset, .unset, .unset] [(.ref b5), (.ref b5)])
      refine Go.of (fun t k => XS.iconst X39.here hx rfl (hb hby at_49) k) ?_
      show Go p e below Qo T39 (mkF m 50 #[.val (.int i1), .val (.int i2), .val (.int i3), .val (.int i4), .val (.int i5), .val (.int i6), .val (.int v7_2), .unset, .unset, .unset, .unset, .unset, .unset, .unset, .unset, .unset, .unset, .unset] [(.int (2 : Int32)), (.ref b5), (.ref b5)])
      refine Go.of (fun t k => XS.iloadN X39.here hx rfl (hb hby at_50) rfl  k) ?_
      show Go p e below Qo T39 (mkF m 51 #[.val (.int i1), .val (.int i2), .val (.int i3), .val (.int i4), .val (.int i5), .val (.int i6), .val (.int v7_2), .unset, .unset, .unset, .unset, .unset, .unset, .unset, .unset, .unset, .unset, .unset] [(.int i3), (.int (2 : Int32)), (.ref b5), (.ref b5)])
      refine Go.of (fun t k => XS.i2b X39.here hx rfl (hb hby at_51) rfl k) ?_
      show Go p e below Qo T39 (mkF m 52 #[.val (.int i1), .val (.int i2), .val (.int i3), .val (.int i4), .val (.int i5), .val (.int i6), .val (.int v7_2), .unset, .unset, .unset, .unset, .unset, .unset, .unset, .unset, .unset, .unset, .unset] [(.int (i3.toInt8.toInt32)), (.int (2 : Int32)), (.ref b5), (.ref b5)])
      have cpo52 := q49
      obtain ⟨clo52, Aro52, qco52, So52, Mo52, Ho52, Go52⟩ := cpo52
      have hin53 : ¬ ((2 : Int32) < 0 ∨ clo52.slots.size ≤ (2 : Int32).toNatClampNeg) := (inb_of So52 ⟨by decide, by decide⟩)
      obtain ⟨T54, h54, X54, e54, W54, st54⟩ := stB X39 hx hZ e39 Aro52 (j := (2 : Int32)) hin53 (g := (mkF m 52 #[.val (.int i1), .val (.int i2), .val (.int i3), .val (.int i4), .val (.int i5), .val (.int i6), .val (.int v7_2), .unset, .unset, .unset, .unset, .unset, .unset, .unset, .unset, .unset, .unset, .unset] [(.int (i3.toInt8.toInt32)), (.int (2 : Int32)), (.ref b5), (.ref b5)])) rfl rfl (hb hby at_52)
      have q55 : Sta Z h54 "com/example/mimosa/mimosa/bson/BsonType" "NULL" "Lcom/example/mimosa/mimosa/bson/BsonType;" (.ref z_NULL) := q40.wr W54
      have q56 : Exa Z h54 z_NULL "com/example/mimosa/mimosa/bson/BsonType" := q41.wr W54
      have q57 : Sta Z h54 "com/example/mimosa/mimosa/bson/BsonType" "STRING" "Lcom/example/mimosa/mimosa/bson/BsonType;" (.ref z_STRING) := q42.wr W54
      have q58 : Exa Z h54 z_STRING "com/example/mimosa/mimosa/bson/BsonType" := q43.wr W54
      have q59 : Sta Z h54 "com/example/mimosa/mimosa/bson/BsonType" "DOCUMENT" "Lcom/example/mimosa/mimosa/bson/BsonType;" (.ref z_DOCUMENT) := q44.wr W54
      have q60 : Exa Z h54 z_DOCUMENT "com/example/mimosa/mimosa/bson/BsonType" := q45.wr W54
      have q61 : Sta Z h54 "com/example/mimosa/mimosa/bson/BsonType" "INT32" "Lcom/example/mimosa/mimosa/bson/BsonType;" (.ref z_INT32) := q46.wr W54
      have q62 : Exa Z h54 z_INT32 "com/example/mimosa/mimosa/bson/BsonType" := q47.wr W54
      have q63 : Sta Z h54 "java/lang/String" "COMPACT_STRINGS" "Z" (.int zc) := q48.wr W54
      have q64 : Arv Z h54 b5 k5 .byte (4 : Int32) [(.int (nar .byte (i1.toInt8.toInt32))), (.int (nar .byte (i2.toInt8.toInt32))), (.int (nar .byte (i3.toInt8.toInt32))), (.int (0 : Int32))] (.int (0 : Int32)) := Arv.set Aro52 qco52 So52 Mo52 Ho52 Go52 (fits_nar_byte _) W54 2 rfl (Nat.le_of_ble_eq_true rfl)
      have Z65 : n0 ≤ h54.size := Nat.le_trans Z50 (Keep.of_wr W54).1
      have N66 := Fr.snoc X54 N51 g10
      refine Go.of st54 ?_
      show Go p e below Qo T54 (mkF m 53 #[.val (.int i1), .val (.int i2), .val (.int i3), .val (.int i4), .val (.int i5), .val (.int i6), .val (.int v7_2), .unset, .unset, .unset, .unset, .unset, .unset, .unset, .unset, .unset, .unset, .unset] [(.ref b5)])
      refine Go.of (fun t k => XS.dup X54.here hx rfl (hb hby at_53) rfl rfl k) ?_
      show Go p e below Qo T54 (mkF m 54 #[.val (.int i1), .val (.int i2), .val (.int i3), .val (.int i4), .val (.int i5), .val (.int i6), .val (.int v7_2), .unset, .unset, .unset, .unset, .unset, .unset, .unset, .unset, .unset, .unset, .unset] [(.ref b5), (.ref b5)])
      refine Go.of (fun t k => XS.iconst X54.here hx rfl (hb hby at_54) k) ?_
      show Go p e below Qo T54 (mkF m 55 #[.val (.int i1), .val (.int i2), .val (.int i3), .val (.int i4), .val (.int i5), .val (.int i6), .val (.int v7_2), .unset, .unset, .unset, .unset, .unset, .unset, .unset, .unset, .unset, .unset, .unset] [(.int (3 : Int32)), (.ref b5), (.ref b5)])
      refine Go.of (fun t k => XS.iloadN X54.here hx rfl (hb hby at_55) rfl  k) ?_
      show Go p e below Qo T54 (mkF m 56 #[.val (.int i1), .val (.int i2), .val (.int i3), .val (.int i4), .val (.int i5), .val (.int i6), .val (.int v7_2), .unset, .unset, .unset, .unset, .unset, .unset, .unset, .unset, .unset, .unset, .unset] [(.int i1), (.int (3 : Int32)), (.ref b5), (.ref b5)])
      refine Go.of (fun t k => XS.bipush X54.here hx rfl (hb hby at_56) k) ?_
      show Go p e below Qo T54 (mkF m 58 #[.val (.int i1), .val (.int i2), .val (.int i3), .val (.int i4), .val (.int i5), .val (.int i6), .val (.int v7_2), .unset, .unset, .unset, .unset, .unset, .unset, .unset, .unset, .unset, .unset, .unset] [(.int (8 : Int32)), (.int i1), (.int (3 : Int32)), (.ref b5), (.ref b5)])
      refine Go.of (fun t k => XS.ishr X54.here hx rfl (hb hby at_58) rfl k) ?_
      show Go p e below Qo T54 (mkF m 59 #[.val (.int i1), .val (.int i2), .val (.int i3), .val (.int i4), .val (.int i5), .val (.int i6), .val (.int v7_2), .unset, .unset, .unset, .unset, .unset, .unset, .unset, .unset, .unset, .unset, .unset] [(.int (i1 >>> ((8 : Int32) &&& 31))), (.int (3 : Int32)), (.ref b5), (.ref b5)])
      refine Go.of (fun t k => XS.i2b X54.here hx rfl (hb hby at_59) rfl k) ?_
      show Go p e below Qo T54 (mkF m 60 #[.val (.int i1), .val (.int i2), .val (.int i3), .val (.int i4), .val (.int i5), .val (.int i6), .val (.int v7_2), .unset, .unset, .unset, .unset, .unset, .unset, .unset, .unset, .unset, .unset, .unset] [(.int ((i1 >>> ((8 : Int32) &&& 31)).toInt8.toInt32)), (.int (3 : Int32)), (.ref b5), (.ref b5)])
      have cpo67 := q64
      obtain ⟨clo67, Aro67, qco67, So67, Mo67, Ho67, Go67⟩ := cpo67
      have hin68 : ¬ ((3 : Int32) < 0 ∨ clo67.slots.size ≤ (3 : Int32).toNatClampNeg) := (inb_of So67 ⟨by decide, by decide⟩)
      obtain ⟨T69, h69, X69, e69, W69, st69⟩ := stB X54 hx hZ e54 Aro67 (j := (3 : Int32)) hin68 (g := (mkF m 60 #[.val (.int i1), .val (.int i2), .val (.int i3), .val (.int i4), .val (.int i5), .val (.int i6), .val (.int v7_2), .unset, .unset, .unset, .unset, .unset, .unset, .unset, .unset, .unset, .unset, .unset] [(.int ((i1 >>> ((8 : Int32) &&& 31)).toInt8.toInt32)), (.int (3 : Int32)), (.ref b5), (.ref b5)])) rfl rfl (hb hby at_60)
      have q70 : Sta Z h69 "com/example/mimosa/mimosa/bson/BsonType" "NULL" "Lcom/example/mimosa/mimosa/bson/BsonType;" (.ref z_NULL) := q55.wr W69
      have q71 : Exa Z h69 z_NULL "com/example/mimosa/mimosa/bson/BsonType" := q56.wr W69
      have q72 : Sta Z h69 "com/example/mimosa/mimosa/bson/BsonType" "STRING" "Lcom/example/mimosa/mimosa/bson/BsonType;" (.ref z_STRING) := q57.wr W69
      have q73 : Exa Z h69 z_STRING "com/example/mimosa/mimosa/bson/BsonType" := q58.wr W69
      have q74 : Sta Z h69 "com/example/mimosa/mimosa/bson/BsonType" "DOCUMENT" "Lcom/example/mimosa/mimosa/bson/BsonType;" (.ref z_DOCUMENT) := q59.wr W69
      have q75 : Exa Z h69 z_DOCUMENT "com/example/mimosa/mimosa/bson/BsonType" := q60.wr W69
      have q76 : Sta Z h69 "com/example/mimosa/mimosa/bson/BsonType" "INT32" "Lcom/example/mimosa/mimosa/bson/BsonType;" (.ref z_INT32) := q61.wr W69
      have q77 : Exa Z h69 z_INT32 "com/example/mimosa/mimosa/bson/BsonType" := q62.wr W69
      have q78 : Sta Z h69 "java/lang/String" "COMPACT_STRINGS" "Z" (.int zc) := q63.wr W69
      have q79 : Arv Z h69 b5 k5 .byte (4 : Int32) [(.int (nar .byte (i1.toInt8.toInt32))), (.int (nar .byte (i2.toInt8.toInt32))), (.int (nar .byte (i3.toInt8.toInt32))), (.int (nar .byte ((i1 >>> ((8 : Int32) &&& 31)).toInt8.toInt32)))] (.int (0 : Int32)) := Arv.set Aro67 qco67 So67 Mo67 Ho67 Go67 (fits_nar_byte _) W69 3 rfl (Nat.le_of_ble_eq_true rfl)
      have Z80 : n0 ≤ h69.size := Nat.le_trans Z65 (Keep.of_wr W69).1
      have N81 := Fr.snoc X69 N66 g10
      refine Go.of st69 ?_
      show Go p e below Qo T69 (mkF m 61 #[.val (.int i1), .val (.int i2), .val (.int i3), .val (.int i4), .val (.int i5), .val (.int i6), .val (.int v7_2), .unset, .unset, .unset, .unset, .unset, .unset, .unset, .unset, .unset, .unset, .unset] [(.ref b5)])
      refine Go.of (fun t k => XS.astore X69.here hx rfl (hb hby at_61) rfl rfl (l' := #[.val (.int i1), .val (.int i2), .val (.int i3), .val (.int i4), .val (.int i5), .val (.int i6), .val (.int v7_2), .val (.ref b5), .unset, .unset, .unset, .unset, .unset, .unset, .unset, .unset, .unset, .unset]) rfl k) ?_
      show Go p e below Qo T69 (mkF m 63 #[.val (.int i1), .val (.int i2), .val (.int i3), .val (.int i4), .val (.int i5), .val (.int i6), .val (.int v7_2), .val (.ref b5), .unset, .unset, .unset, .unset, .unset, .unset, .unset, .unset, .unset, .unset] [])
      refine Go.of (fun t k => XS.iconst X69.here hx rfl (hb hby at_63) k) ?_
      show Go p e below Qo T69 (mkF m 64 #[.val (.int i1), .val (.int i2), .val (.int i3), .val (.int i4), .val (.int i5), .val (.int i6), .val (.int v7_2), .val (.ref b5), .unset, .unset, .unset, .unset, .unset, .unset, .unset, .unset, .unset, .unset] [(.int (4 : Int32))])
      obtain ⟨T82, h82, k82, X82, e82, E82, A82, st82⟩ := newP X69 hx hZ (hw _ (List.mem_of_getElem? (i := 0) rfl)) e69 (g := (mkF m 64 #[.val (.int i1), .val (.int i2), .val (.int i3), .val (.int i4), .val (.int i5), .val (.int i6), .val (.int v7_2), .val (.ref b5), .unset, .unset, .unset, .unset, .unset, .unset, .unset, .unset, .unset, .unset] [(.int (4 : Int32))])) rfl (hb hby at_64) rfl (by decide) (cap := 4) (by decide) (by decide) (by decide) (by decide)
      obtain ⟨b82, g82⟩ : ∃ z, z = h69.size := ⟨_, rfl⟩
      rw [← g82] at A82 st82
      have ne83 : z_NULL ≠ b82 := Nat.ne_of_lt (Nat.lt_of_lt_of_le q71.lt (Nat.le_of_eq g82.symm))
      have ne84 : z_STRING ≠ b82 := Nat.ne_of_lt (Nat.lt_of_lt_of_le q73.lt (Nat.le_of_eq g82.symm))
      have ne85 : z_DOCUMENT ≠ b82 := Nat.ne_of_lt (Nat.lt_of_lt_of_le q75.lt (Nat.le_of_eq g82.symm))
      have ne86 : z_INT32 ≠ b82 := Nat.ne_of_lt (Nat.lt_of_lt_of_le q77.lt (Nat.le_of_eq g82.symm))
      have ne87 : b5 ≠ b82 := Nat.ne_of_lt (Nat.lt_of_lt_of_le q79.lt (Nat.le_of_eq g82.symm))
      have g88 : n0 ≤ b82 := Nat.le_trans Z80 (Nat.le_of_eq g82.symm)
      have q89 : Sta Z h82 "com/example/mimosa/mimosa/bson/BsonType" "NULL" "Lcom/example/mimosa/mimosa/bson/BsonType;" (.ref z_NULL) := q70.ext E82
      have q90 : Exa Z h82 z_NULL "com/example/mimosa/mimosa/bson/BsonType" := q71.ext E82
      have q91 : Sta Z h82 "com/example/mimosa/mimosa/bson/BsonType" "STRING" "Lcom/example/mimosa/mimosa/bson/BsonType;" (.ref z_STRING) := q72.ext E82
      have q92 : Exa Z h82 z_STRING "com/example/mimosa/mimosa/bson/BsonType" := q73.ext E82
      have q93 : Sta Z h82 "com/example/mimosa/mimosa/bson/BsonType" "DOCUMENT" "Lcom/example/mimosa/mimosa/bson/BsonType;" (.ref z_DOCUMENT) := q74.ext E82
      have q94 : Exa Z h82 z_DOCUMENT "com/example/mimosa/mimosa/bson/BsonType" := q75.ext E82
      have q95 : Sta Z h82 "com/example/mimosa/mimosa/bson/BsonType" "INT32" "Lcom/example/mimosa/mimosa/bson/BsonType;" (.ref z_INT32) := q76.ext E82
      have q96 : Exa Z h82 z_INT32 "com/example/mimosa/mimosa/bson/BsonType" := q77.ext E82
      have q97 : Sta Z h82 "java/lang/String" "COMPACT_STRINGS" "Z" (.int zc) := q78.ext E82
      have q98 : Arv Z h82 b5 k5 .byte (4 : Int32) [(.int (nar .byte (i1.toInt8.toInt32))), (.int (nar .byte (i2.toInt8.toInt32))), (.int (nar .byte (i3.toInt8.toInt32))), (.int (nar .byte ((i1 >>> ((8 : Int32) &&& 31)).toInt8.toInt32)))] (.int (0 : Int32)) := q79.ext E82
      have Z99 : n0 ≤ h82.size := Nat.le_trans Z80 E82.1
      have q100 : Arv Z h82 b82 k82 .byte (4 : Int32) [(.int (0 : Int32)), (.int (0 : Int32)), (.int (0 : Int32)), (.int (0 : Int32))] (.int (0 : Int32)) := (Arv.new A82 (by decide)).pad (pad_rep [] (.int (0 : Int32)) 4)
      refine Go.of st82 ?_
      show Go p e below Qo T82 (mkF m 66 #[.val (.int i1), .val (.int i2), .val (.int i3), .val (.int i4), .val (.int i5), .val (.int i6), .val (.int v7_2), .val (.ref b5), .unset, .unset, .unset, .unset, .unset, .unset, .unset, .unset, .unset, .unset] [(.ref b82)])
      refine Go.of (fun t k => XS.dup X82.here hx rfl (hb hby at_66) rfl rfl k) ?_
      show Go p e below Qo T82 (mkF m 67 #[.val (.int i1), .val (.int i2), .val (.int i3), .val (.int i4), .val (.int i5), .val (.int i6), .val (.int v7_2), .val (.ref b5), .unset, .unset, .unset, .unset, .unset, .unset, .unset, .unset, .unset, .unset] [(.ref b82), (.ref b82)])
      refine Go.of (fun t k => XS.iconst X82.here hx rfl (hb hby at_67) k) ?_
      show Go p e below Qo T82 (mkF m 68 #[.val (.int i1), .val (.int i2), .val (.int i3), .val (.int i4), .val (.int i5), .val (.int i6), .val (.int v7_2), .val (.ref b5), .unset, .unset, .unset, .unset, .unset, .unset, .unset, .unset, .unset, .unset] [(.int (0 : Int32)), (.ref b82), (.ref b82)])
      refine Go.of (fun t k => XS.iloadN X82.here hx rfl (hb hby at_68) rfl  k) ?_
      show Go p e below Qo T82 (mkF m 69 #[.val (.int i1), .val (.int i2), .val (.int i3), .val (.int i4), .val (.int i5), .val (.int i6), .val (.int v7_2), .val (.ref b5), .unset, .unset, .unset, .unset, .unset, .unset, .unset, .unset, .unset, .unset] [(.int i1), (.int (0 : Int32)), (.ref b82), (.ref b82)])
      refine Go.of (fun t k => XS.i2b X82.here hx rfl (hb hby at_69) rfl k) ?_
      show Go p e below Qo T82 (mkF m 70 #[.val (.int i1), .val (.int i2), .val (.int i3), .val (.int i4), .val (.int i5), .val (.int i6), .val (.int v7_2), .val (.ref b5), .unset, .unset, .unset, .unset, .unset, .unset, .unset, .unset, .unset, .unset] [(.int (i1.toInt8.toInt32)), (.int (0 : Int32)), (.ref b82), (.ref b82)])
      have cpo101 := q100
      obtain ⟨clo101, Aro101, qco101, So101, Mo101, Ho101, Go101⟩ := cpo101
      have hin102 : ¬ ((0 : Int32) < 0 ∨ clo101.slots.size ≤ (0 : Int32).toNatClampNeg) := (inb_of So101 ⟨by decide, by decide⟩)
      obtain ⟨T103, h103, X103, e103, W103, st103⟩ := stB X82 hx hZ e82 Aro101 (j := (0 : Int32)) hin102 (g := (mkF m 70 #[.val (.int i1), .val (.int i2), .val (.int i3), .val (.int i4), .val (.int i5), .val (.int i6), .val (.int v7_2), .val (.ref b5), .unset, .unset, .unset, .unset, .unset, .unset, .unset, .unset, .unset, .unset] [(.int (i1.toInt8.toInt32)), (.int (0 : Int32)), (.ref b82), (.ref b82)])) rfl rfl (hb hby at_70)
      have q104 : Sta Z h103 "com/example/mimosa/mimosa/bson/BsonType" "NULL" "Lcom/example/mimosa/mimosa/bson/BsonType;" (.ref z_NULL) := q89.wr W103
      have q105 : Exa Z h103 z_NULL "com/example/mimosa/mimosa/bson/BsonType" := q90.wr W103
      have q106 : Sta Z h103 "com/example/mimosa/mimosa/bson/BsonType" "STRING" "Lcom/example/mimosa/mimosa/bson/BsonType;" (.ref z_STRING) := q91.wr W103
      have q107 : Exa Z h103 z_STRING "com/example/mimosa/mimosa/bson/BsonType" := q92.wr W103
      have q108 : Sta Z h103 "com/example/mimosa/mimosa/bson/BsonType" "DOCUMENT" "Lcom/example/mimosa/mimosa/bson/BsonType;" (.ref z_DOCUMENT) := q93.wr W103
      have q109 : Exa Z h103 z_DOCUMENT "com/example/mimosa/mimosa/bson/BsonType" := q94.wr W103
      have q110 : Sta Z h103 "com/example/mimosa/mimosa/bson/BsonType" "INT32" "Lcom/example/mimosa/mimosa/bson/BsonType;" (.ref z_INT32) := q95.wr W103
      have q111 : Exa Z h103 z_INT32 "com/example/mimosa/mimosa/bson/BsonType" := q96.wr W103
      have q112 : Sta Z h103 "java/lang/String" "COMPACT_STRINGS" "Z" (.int zc) := q97.wr W103
      have q113 : Arv Z h103 b5 k5 .byte (4 : Int32) [(.int (nar .byte (i1.toInt8.toInt32))), (.int (nar .byte (i2.toInt8.toInt32))), (.int (nar .byte (i3.toInt8.toInt32))), (.int (nar .byte ((i1 >>> ((8 : Int32) &&& 31)).toInt8.toInt32)))] (.int (0 : Int32)) := q98.other W103 ne87
      have q114 : Arv Z h103 b82 k82 .byte (4 : Int32) [(.int (nar .byte (i1.toInt8.toInt32))), (.int (0 : Int32)), (.int (0 : Int32)), (.int (0 : Int32))] (.int (0 : Int32)) := Arv.set Aro101 qco101 So101 Mo101 Ho101 Go101 (fits_nar_byte _) W103 0 rfl (Nat.le_of_ble_eq_true rfl)
      have Z115 : n0 ≤ h103.size := Nat.le_trans Z99 (Keep.of_wr W103).1
      have N116 := Fr.snoc X103 N81 g88
      refine Go.of st103 ?_
      show Go p e below Qo T103 (mkF m 71 #[.val (.int i1), .val (.int i2), .val (.int i3), .val (.int i4), .val (.int i5), .val (.int i6), .val (.int v7_2), .val (.ref b5), .unset, .unset, .unset, .unset, .unset, .unset, .unset, .unset, .unset, .unset] [(.ref b82)])
      refine Go.of (fun t k => XS.dup X103.here hx rfl (hb hby at_71) rfl rfl k) ?_
      show Go p e below Qo T103 (mkF m 72 #[.val (.int i1), .val (.int i2), .val (.int i3), .val (.int i4), .val (.int i5), .val (.int i6), .val (.int v7_2), .val (.ref b5), .unset, .unset, .unset, .unset, .unset, .unset, .unset, .unset, .unset, .unset] [(.ref b82), (.ref b82)])
      refine Go.of (fun t k => XS.iconst X103.here hx rfl (hb hby at_72) k) ?_
      show Go p e below Qo T103 (mkF m 73 #[.val (.int i1), .val (.int i2), .val (.int i3), .val (.int i4), .val (.int i5), .val (.int i6), .val (.int v7_2), .val (.ref b5), .unset, .unset, .unset, .unset, .unset, .unset, .unset, .unset, .unset, .unset] [(.int (1 : Int32)), (.ref b82), (.ref b82)])
      refine Go.of (fun t k => XS.iloadN X103.here hx rfl (hb hby at_73) rfl  k) ?_
      show Go p e below Qo T103 (mkF m 74 #[.val (.int i1), .val (.int i2), .val (.int i3), .val (.int i4), .val (.int i5), .val (.int i6), .val (.int v7_2), .val (.ref b5), .unset, .unset, .unset, .unset, .unset, .unset, .unset, .unset, .unset, .unset] [(.int i2), (.int (1 : Int32)), (.ref b82), (.ref b82)])
      refine Go.of (fun t k => XS.i2b X103.here hx rfl (hb hby at_74) rfl k) ?_
      show Go p e below Qo T103 (mkF m 75 #[.val (.int i1), .val (.int i2), .val (.int i3), .val (.int i4), .val (.int i5), .val (.int i6), .val (.int v7_2), .val (.ref b5), .unset, .unset, .unset, .unset, .unset, .unset, .unset, .unset, .unset, .unset] [(.int (i2.toInt8.toInt32)), (.int (1 : Int32)), (.ref b82), (.ref b82)])
      have cpo117 := q114
      obtain ⟨clo117, Aro117, qco117, So117, Mo117, Ho117, Go117⟩ := cpo117
      have hin118 : ¬ ((1 : Int32) < 0 ∨ clo117.slots.size ≤ (1 : Int32).toNatClampNeg) := (inb_of So117 ⟨by decide, by decide⟩)
      obtain ⟨T119, h119, X119, e119, W119, st119⟩ := stB X103 hx hZ e103 Aro117 (j := (1 : Int32)) hin118 (g := (mkF m 75 #[.val (.int i1), .val (.int i2), .val (.int i3), .val (.int i4), .val (.int i5), .val (.int i6), .val (.int v7_2), .val (.ref b5), .unset, .unset, .unset, .unset, .unset, .unset, .unset, .unset, .unset, .unset] [(.int (i2.toInt8.toInt32)), (.int (1 : Int32)), (.ref b82), (.ref b82)])) rfl rfl (hb hby at_75)
      have q120 : Sta Z h119 "com/example/mimosa/mimosa/bson/BsonType" "NULL" "Lcom/example/mimosa/mimosa/bson/BsonType;" (.ref z_NULL) := q104.wr W119
      have q121 : Exa Z h119 z_NULL "com/example/mimosa/mimosa/bson/BsonType" := q105.wr W119
      have q122 : Sta Z h119 "com/example/mimosa/mimosa/bson/BsonType" "STRING" "Lcom/example/mimosa/mimosa/bson/BsonType;" (.ref z_STRING) := q106.wr W119
      have q123 : Exa Z h119 z_STRING "com/example/mimosa/mimosa/bson/BsonType" := q107.wr W119
      have q124 : Sta Z h119 "com/example/mimosa/mimosa/bson/BsonType" "DOCUMENT" "Lcom/example/mimosa/mimosa/bson/BsonType;" (.ref z_DOCUMENT) := q108.wr W119
      have q125 : Exa Z h119 z_DOCUMENT "com/example/mimosa/mimosa/bson/BsonType" := q109.wr W119
      have q126 : Sta Z h119 "com/example/mimosa/mimosa/bson/BsonType" "INT32" "Lcom/example/mimosa/mimosa/bson/BsonType;" (.ref z_INT32) := q110.wr W119
      have q127 : Exa Z h119 z_INT32 "com/example/mimosa/mimosa/bson/BsonType" := q111.wr W119
      have q128 : Sta Z h119 "java/lang/String" "COMPACT_STRINGS" "Z" (.int zc) := q112.wr W119
      have q129 : Arv Z h119 b5 k5 .byte (4 : Int32) [(.int (nar .byte (i1.toInt8.toInt32))), (.int (nar .byte (i2.toInt8.toInt32))), (.int (nar .byte (i3.toInt8.toInt32))), (.int (nar .byte ((i1 >>> ((8 : Int32) &&& 31)).toInt8.toInt32)))] (.int (0 : Int32)) := q113.other W119 ne87
      have q130 : Arv Z h119 b82 k82 .byte (4 : Int32) [(.int (nar .byte (i1.toInt8.toInt32))), (.int (nar .byte (i2.toInt8.toInt32))), (.int (0 : Int32)), (.int (0 : Int32))] (.int (0 : Int32)) := Arv.set Aro117 qco117 So117 Mo117 Ho117 Go117 (fits_nar_byte _) W119 1 rfl (Nat.le_of_ble_eq_true rfl)
      have Z131 : n0 ≤ h119.size := Nat.le_trans Z115 (Keep.of_wr W119).1
      have N132 := Fr.snoc X119 N116 g88
      refine Go.of st119 ?_
      show Go p e below Qo T119 (mkF m 76 #[.val (.int i1), .val (.int i2), .val (.int i3), .val (.int i4), .val (.int i5), .val (.int i6), .val (.int v7_2), .val (.ref b5), .unset, .unset, .unset, .unset, .unset, .unset, .unset, .unset, .unset, .unset] [(.ref b82)])
      refine Go.of (fun t k => XS.dup X119.here hx rfl (hb hby at_76) rfl rfl k) ?_
      show Go p e below Qo T119 (mkF m 77 #[.val (.int i1), .val (.int i2), .val (.int i3), .val (.int i4), .val (.int i5), .val (.int i6), .val (.int v7_2), .val (.ref b5), .unset, .unset, .unset, .unset, .unset, .unset, .unset, .unset, .unset, .unset] [(.ref b82), (.ref b82)])
      refine Go.of (fun t k => XS.iconst X119.here hx rfl (hb hby at_77) k) ?_
      show Go p e below Qo T119 (mkF m 78 #[.val (.int i1), .val (.int i2), .val (.int i3), .val (.int i4), .val (.int i5), .val (.int i6), .val (.int v7_2), .val (.ref b5), .unset, .unset, .unset, .unset, .unset, .unset, .unset, .unset, .unset, .unset] [(.int (2 : Int32)), (.ref b82), (.ref b82)])
      refine Go.of (fun t k => XS.iloadN X119.here hx rfl (hb hby at_78) rfl  k) ?_
      show Go p e below Qo T119 (mkF m 79 #[.val (.int i1), .val (.int i2), .val (.int i3), .val (.int i4), .val (.int i5), .val (.int i6), .val (.int v7_2), .val (.ref b5), .unset, .unset, .unset, .unset, .unset, .unset, .unset, .unset, .unset, .unset] [(.int i3), (.int (2 : Int32)), (.ref b82), (.ref b82)])
      refine Go.of (fun t k => XS.i2b X119.here hx rfl (hb hby at_79) rfl k) ?_
      show Go p e below Qo T119 (mkF m 80 #[.val (.int i1), .val (.int i2), .val (.int i3), .val (.int i4), .val (.int i5), .val (.int i6), .val (.int v7_2), .val (.ref b5), .unset, .unset, .unset, .unset, .unset, .unset, .unset, .unset, .unset, .unset] [(.int (i3.toInt8.toInt32)), (.int (2 : Int32)), (.ref b82), (.ref b82)])
      have cpo133 := q130
      obtain ⟨clo133, Aro133, qco133, So133, Mo133, Ho133, Go133⟩ := cpo133
      have hin134 : ¬ ((2 : Int32) < 0 ∨ clo133.slots.size ≤ (2 : Int32).toNatClampNeg) := (inb_of So133 ⟨by decide, by decide⟩)
      obtain ⟨T135, h135, X135, e135, W135, st135⟩ := stB X119 hx hZ e119 Aro133 (j := (2 : Int32)) hin134 (g := (mkF m 80 #[.val (.int i1), .val (.int i2), .val (.int i3), .val (.int i4), .val (.int i5), .val (.int i6), .val (.int v7_2), .val (.ref b5), .unset, .unset, .unset, .unset, .unset, .unset, .unset, .unset, .unset, .unset] [(.int (i3.toInt8.toInt32)), (.int (2 : Int32)), (.ref b82), (.ref b82)])) rfl rfl (hb hby at_80)
      have q136 : Sta Z h135 "com/example/mimosa/mimosa/bson/BsonType" "NULL" "Lcom/example/mimosa/mimosa/bson/BsonType;" (.ref z_NULL) := q120.wr W135
      have q137 : Exa Z h135 z_NULL "com/example/mimosa/mimosa/bson/BsonType" := q121.wr W135
      have q138 : Sta Z h135 "com/example/mimosa/mimosa/bson/BsonType" "STRING" "Lcom/example/mimosa/mimosa/bson/BsonType;" (.ref z_STRING) := q122.wr W135
      have q139 : Exa Z h135 z_STRING "com/example/mimosa/mimosa/bson/BsonType" := q123.wr W135
      have q140 : Sta Z h135 "com/example/mimosa/mimosa/bson/BsonType" "DOCUMENT" "Lcom/example/mimosa/mimosa/bson/BsonType;" (.ref z_DOCUMENT) := q124.wr W135
      have q141 : Exa Z h135 z_DOCUMENT "com/example/mimosa/mimosa/bson/BsonType" := q125.wr W135
      have q142 : Sta Z h135 "com/example/mimosa/mimosa/bson/BsonType" "INT32" "Lcom/example/mimosa/mimosa/bson/BsonType;" (.ref z_INT32) := q126.wr W135
      have q143 : Exa Z h135 z_INT32 "com/example/mimosa/mimosa/bson/BsonType" := q127.wr W135
      have q144 : Sta Z h135 "java/lang/String" "COMPACT_STRINGS" "Z" (.int zc) := q128.wr W135
      have q145 : Arv Z h135 b5 k5 .byte (4 : Int32) [(.int (nar .byte (i1.toInt8.toInt32))), (.int (nar .byte (i2.toInt8.toInt32))), (.int (nar .byte (i3.toInt8.toInt32))), (.int (nar .byte ((i1 >>> ((8 : Int32) &&& 31)).toInt8.toInt32)))] (.int (0 : Int32)) := q129.other W135 ne87
      have q146 : Arv Z h135 b82 k82 .byte (4 : Int32) [(.int (nar .byte (i1.toInt8.toInt32))), (.int (nar .byte (i2.toInt8.toInt32))), (.int (nar .byte (i3.toInt8.toInt32))), (.int (0 : Int32))] (.int (0 : Int32)) := Arv.set Aro133 qco133 So133 Mo133 Ho133 Go133 (fits_nar_byte _) W135 2 rfl (Nat.le_of_ble_eq_true rfl)
      have Z147 : n0 ≤ h135.size := Nat.le_trans Z131 (Keep.of_wr W135).1
      have N148 := Fr.snoc X135 N132 g88
      refine Go.of st135 ?_
      show Go p e below Qo T135 (mkF m 81 #[.val (.int i1), .val (.int i2), .val (.int i3), .val (.int i4), .val (.int i5), .val (.int i6), .val (.int v7_2), .val (.ref b5), .unset, .unset, .unset, .unset, .unset, .unset, .unset, .unset, .unset, .unset] [(.ref b82)])
      refine Go.of (fun t k => XS.dup X135.here hx rfl (hb hby at_81) rfl rfl k) ?_
      show Go p e below Qo T135 (mkF m 82 #[.val (.int i1), .val (.int i2), .val (.int i3), .val (.int i4), .val (.int i5), .val (.int i6), .val (.int v7_2), .val (.ref b5), .unset, .unset, .unset, .unset, .unset, .unset, .unset, .unset, .unset, .unset] [(.ref b82), (.ref b82)])
      refine Go.of (fun t k => XS.iconst X135.here hx rfl (hb hby at_82) k) ?_
      show Go p e below Qo T135 (mkF m 83 #[.val (.int i1), .val (.int i2), .val (.int i3), .val (.int i4), .val (.int i5), .val (.int i6), .val (.int v7_2), .val (.ref b5), .unset, .unset, .unset, .unset, .unset, .unset, .unset, .unset, .unset, .unset] [(.int (3 : Int32)), (.ref b82), (.ref b82)])
      refine Go.of (fun t k => XS.iloadN X135.here hx rfl (hb hby at_83) rfl  k) ?_
      show Go p e below Qo T135 (mkF m 84 #[.val (.int i1), .val (.int i2), .val (.int i3), .val (.int i4), .val (.int i5), .val (.int i6), .val (.int v7_2), .val (.ref b5), .unset, .unset, .unset, .unset, .unset, .unset, .unset, .unset, .unset, .unset] [(.int i1), (.int (3 : Int32)), (.ref b82), (.ref b82)])
      refine Go.of (fun t k => XS.bipush X135.here hx rfl (hb hby at_84) k) ?_
      show Go p e below Qo T135 (mkF m 86 #[.val (.int i1), .val (.int i2), .val (.int i3), .val (.int i4), .val (.int i5), .val (.int i6), .val (.int v7_2), .val (.ref b5), .unset, .unset, .unset, .unset, .unset, .unset, .unset, .unset, .unset, .unset] [(.int (8 : Int32)), (.int i1), (.int (3 : Int32)), (.ref b82), (.ref b82)])
      refine Go.of (fun t k => XS.ishr X135.here hx rfl (hb hby at_86) rfl k) ?_
      show Go p e below Qo T135 (mkF m 87 #[.val (.int i1), .val (.int i2), .val (.int i3), .val (.int i4), .val (.int i5), .val (.int i6), .val (.int v7_2), .val (.ref b5), .unset, .unset, .unset, .unset, .unset, .unset, .unset, .unset, .unset, .unset] [(.int (i1 >>> ((8 : Int32) &&& 31))), (.int (3 : Int32)), (.ref b82), (.ref b82)])
      refine Go.of (fun t k => XS.i2b X135.here hx rfl (hb hby at_87) rfl k) ?_
      show Go p e below Qo T135 (mkF m 88 #[.val (.int i1), .val (.int i2), .val (.int i3), .val (.int i4), .val (.int i5), .val (.int i6), .val (.int v7_2), .val (.ref b5), .unset, .unset, .unset, .unset, .unset, .unset, .unset, .unset, .unset, .unset] [(.int ((i1 >>> ((8 : Int32) &&& 31)).toInt8.toInt32)), (.int (3 : Int32)), (.ref b82), (.ref b82)])
      have cpo149 := q146
      obtain ⟨clo149, Aro149, qco149, So149, Mo149, Ho149, Go149⟩ := cpo149
      have hin150 : ¬ ((3 : Int32) < 0 ∨ clo149.slots.size ≤ (3 : Int32).toNatClampNeg) := (inb_of So149 ⟨by decide, by decide⟩)
      obtain ⟨T151, h151, X151, e151, W151, st151⟩ := stB X135 hx hZ e135 Aro149 (j := (3 : Int32)) hin150 (g := (mkF m 88 #[.val (.int i1), .val (.int i2), .val (.int i3), .val (.int i4), .val (.int i5), .val (.int i6), .val (.int v7_2), .val (.ref b5), .unset, .unset, .unset, .unset, .unset, .unset, .unset, .unset, .unset, .unset] [(.int ((i1 >>> ((8 : Int32) &&& 31)).toInt8.toInt32)), (.int (3 : Int32)), (.ref b82), (.ref b82)])) rfl rfl (hb hby at_88)
      have q152 : Sta Z h151 "com/example/mimosa/mimosa/bson/BsonType" "NULL" "Lcom/example/mimosa/mimosa/bson/BsonType;" (.ref z_NULL) := q136.wr W151
      have q153 : Exa Z h151 z_NULL "com/example/mimosa/mimosa/bson/BsonType" := q137.wr W151
      have q154 : Sta Z h151 "com/example/mimosa/mimosa/bson/BsonType" "STRING" "Lcom/example/mimosa/mimosa/bson/BsonType;" (.ref z_STRING) := q138.wr W151
      have q155 : Exa Z h151 z_STRING "com/example/mimosa/mimosa/bson/BsonType" := q139.wr W151
      have q156 : Sta Z h151 "com/example/mimosa/mimosa/bson/BsonType" "DOCUMENT" "Lcom/example/mimosa/mimosa/bson/BsonType;" (.ref z_DOCUMENT) := q140.wr W151
      have q157 : Exa Z h151 z_DOCUMENT "com/example/mimosa/mimosa/bson/BsonType" := q141.wr W151
      have q158 : Sta Z h151 "com/example/mimosa/mimosa/bson/BsonType" "INT32" "Lcom/example/mimosa/mimosa/bson/BsonType;" (.ref z_INT32) := q142.wr W151
      have q159 : Exa Z h151 z_INT32 "com/example/mimosa/mimosa/bson/BsonType" := q143.wr W151
      have q160 : Sta Z h151 "java/lang/String" "COMPACT_STRINGS" "Z" (.int zc) := q144.wr W151
      have q161 : Arv Z h151 b5 k5 .byte (4 : Int32) [(.int (nar .byte (i1.toInt8.toInt32))), (.int (nar .byte (i2.toInt8.toInt32))), (.int (nar .byte (i3.toInt8.toInt32))), (.int (nar .byte ((i1 >>> ((8 : Int32) &&& 31)).toInt8.toInt32)))] (.int (0 : Int32)) := q145.other W151 ne87
      have q162 : Arv Z h151 b82 k82 .byte (4 : Int32) [(.int (nar .byte (i1.toInt8.toInt32))), (.int (nar .byte (i2.toInt8.toInt32))), (.int (nar .byte (i3.toInt8.toInt32))), (.int (nar .byte ((i1 >>> ((8 : Int32) &&& 31)).toInt8.toInt32)))] (.int (0 : Int32)) := Arv.set Aro149 qco149 So149 Mo149 Ho149 Go149 (fits_nar_byte _) W151 3 rfl (Nat.le_of_ble_eq_true rfl)
      have Z163 : n0 ≤ h151.size := Nat.le_trans Z147 (Keep.of_wr W151).1
      have N164 := Fr.snoc X151 N148 g88
      refine Go.of st151 ?_
      show Go p e below Qo T151 (mkF m 89 #[.val (.int i1), .val (.int i2), .val (.int i3), .val (.int i4), .val (.int i5), .val (.int i6), .val (.int v7_2), .val (.ref b5), .unset, .unset, .unset, .unset, .unset, .unset, .unset, .unset, .unset, .unset] [(.ref b82)])
      refine Go.of (fun t k => XS.astore X151.here hx rfl (hb hby at_89) rfl rfl (l' := #[.val (.int i1), .val (.int i2), .val (.int i3), .val (.int i4), .val (.int i5), .val (.int i6), .val (.int v7_2), .val (.ref b5), .val (.ref b82), .unset, .unset, .unset, .unset, .unset, .unset, .unset, .unset, .unset]) rfl k) ?_
      show Go p e below Qo T151 (mkF m 91 #[.val (.int i1), .val (.int i2), .val (.int i3), .val (.int i4), .val (.int i5), .val (.int i6), .val (.int v7_2), .val (.ref b5), .val (.ref b82), .unset, .unset, .unset, .unset, .unset, .unset, .unset, .unset, .unset] [])
      refine Go.of (fun t k => XS.iconst X151.here hx rfl (hb hby at_91) k) ?_
      show Go p e below Qo T151 (mkF m 92 #[.val (.int i1), .val (.int i2), .val (.int i3), .val (.int i4), .val (.int i5), .val (.int i6), .val (.int v7_2), .val (.ref b5), .val (.ref b82), .unset, .unset, .unset, .unset, .unset, .unset, .unset, .unset, .unset] [(.int (2 : Int32))])
      obtain ⟨T165, h165, k165, X165, e165, E165, A165, st165⟩ := newP X151 hx hZ (hw _ (List.mem_of_getElem? (i := 0) rfl)) e151 (g := (mkF m 92 #[.val (.int i1), .val (.int i2), .val (.int i3), .val (.int i4), .val (.int i5), .val (.int i6), .val (.int v7_2), .val (.ref b5), .val (.ref b82), .unset, .unset, .unset, .unset, .unset, .unset, .unset, .unset, .unset] [(.int (2 : Int32))])) rfl (hb hby at_92) rfl (by decide) (cap := 2) (by decide) (by decide) (by decide) (by decide)
      obtain ⟨b165, g165⟩ : ∃ z, z = h151.size := ⟨_, rfl⟩
      rw [← g165] at A165 st165
      have ne166 : z_NULL ≠ b165 := Nat.ne_of_lt (Nat.lt_of_lt_of_le q153.lt (Nat.le_of_eq g165.symm))
      have ne167 : z_STRING ≠ b165 := Nat.ne_of_lt (Nat.lt_of_lt_of_le q155.lt (Nat.le_of_eq g165.symm))
      have ne168 : z_DOCUMENT ≠ b165 := Nat.ne_of_lt (Nat.lt_of_lt_of_le q157.lt (Nat.le_of_eq g165.symm))
      have ne169 : z_INT32 ≠ b165 := Nat.ne_of_lt (Nat.lt_of_lt_of_le q159.lt (Nat.le_of_eq g165.symm))
      have ne170 : b5 ≠ b165 := Nat.ne_of_lt (Nat.lt_of_lt_of_le q161.lt (Nat.le_of_eq g165.symm))
      have ne171 : b82 ≠ b165 := Nat.ne_of_lt (Nat.lt_of_lt_of_le q162.lt (Nat.le_of_eq g165.symm))
      have g172 : n0 ≤ b165 := Nat.le_trans Z163 (Nat.le_of_eq g165.symm)
      have q173 : Sta Z h165 "com/example/mimosa/mimosa/bson/BsonType" "NULL" "Lcom/example/mimosa/mimosa/bson/BsonType;" (.ref z_NULL) := q152.ext E165
      have q174 : Exa Z h165 z_NULL "com/example/mimosa/mimosa/bson/BsonType" := q153.ext E165
      have q175 : Sta Z h165 "com/example/mimosa/mimosa/bson/BsonType" "STRING" "Lcom/example/mimosa/mimosa/bson/BsonType;" (.ref z_STRING) := q154.ext E165
      have q176 : Exa Z h165 z_STRING "com/example/mimosa/mimosa/bson/BsonType" := q155.ext E165
      have q177 : Sta Z h165 "com/example/mimosa/mimosa/bson/BsonType" "DOCUMENT" "Lcom/example/mimosa/mimosa/bson/BsonType;" (.ref z_DOCUMENT) := q156.ext E165
      have q178 : Exa Z h165 z_DOCUMENT "com/example/mimosa/mimosa/bson/BsonType" := q157.ext E165
      have q179 : Sta Z h165 "com/example/mimosa/mimosa/bson/BsonType" "INT32" "Lcom/example/mimosa/mimosa/bson/BsonType;" (.ref z_INT32) := q158.ext E165
      have q180 : Exa Z h165 z_INT32 "com/example/mimosa/mimosa/bson/BsonType" := q159.ext E165
      have q181 : Sta Z h165 "java/lang/String" "COMPACT_STRINGS" "Z" (.int zc) := q160.ext E165
      have q182 : Arv Z h165 b5 k5 .byte (4 : Int32) [(.int (nar .byte (i1.toInt8.toInt32))), (.int (nar .byte (i2.toInt8.toInt32))), (.int (nar .byte (i3.toInt8.toInt32))), (.int (nar .byte ((i1 >>> ((8 : Int32) &&& 31)).toInt8.toInt32)))] (.int (0 : Int32)) := q161.ext E165
      have q183 : Arv Z h165 b82 k82 .byte (4 : Int32) [(.int (nar .byte (i1.toInt8.toInt32))), (.int (nar .byte (i2.toInt8.toInt32))), (.int (nar .byte (i3.toInt8.toInt32))), (.int (nar .byte ((i1 >>> ((8 : Int32) &&& 31)).toInt8.toInt32)))] (.int (0 : Int32)) := q162.ext E165
      have Z184 : n0 ≤ h165.size := Nat.le_trans Z163 E165.1
      have q185 : Arv Z h165 b165 k165 .byte (2 : Int32) [(.int (0 : Int32)), (.int (0 : Int32))] (.int (0 : Int32)) := (Arv.new A165 (by decide)).pad (pad_rep [] (.int (0 : Int32)) 2)
      refine Go.of st165 ?_
      show Go p e below Qo T165 (mkF m 94 #[.val (.int i1), .val (.int i2), .val (.int i3), .val (.int i4), .val (.int i5), .val (.int i6), .val (.int v7_2), .val (.ref b5), .val (.ref b82), .unset, .unset, .unset, .unset, .unset, .unset, .unset, .unset, .unset] [(.ref b165)])
      refine Go.of (fun t k => XS.dup X165.here hx rfl (hb hby at_94) rfl rfl k) ?_
      show Go p e below Qo T165 (mkF m 95 #[.val (.int i1), .val (.int i2), .val (.int i3), .val (.int i4), .val (.int i5), .val (.int i6), .val (.int v7_2), .val (.ref b5), .val (.ref b82), .unset, .unset, .unset, .unset, .unset, .unset, .unset, .unset, .unset] [(.ref b165), (.ref b165)])
      refine Go.of (fun t k => XS.iconst X165.here hx rfl (hb hby at_95) k) ?_
      show Go p e below Qo T165 (mkF m 96 #[.val (.int i1), .val (.int i2), .val (.int i3), .val (.int i4), .val (.int i5), .val (.int i6), .val (.int v7_2), .val (.ref b5), .val (.ref b82), .unset, .unset, .unset, .unset, .unset, .unset, .unset, .unset, .unset] [(.int (0 : Int32)), (.ref b165), (.ref b165)])
      refine Go.of (fun t k => XS.iloadN X165.here hx rfl (hb hby at_96) rfl  k) ?_
      show Go p e below Qo T165 (mkF m 97 #[.val (.int i1), .val (.int i2), .val (.int i3), .val (.int i4), .val (.int i5), .val (.int i6), .val (.int v7_2), .val (.ref b5), .val (.ref b82), .unset, .unset, .unset, .unset, .unset, .unset, .unset, .unset, .unset] [(.int i2), (.int (0 : Int32)), (.ref b165), (.ref b165)])
      refine Go.of (fun t k => XS.iconst X165.here hx rfl (hb hby at_97) k) ?_
      show Go p e below Qo T165 (mkF m 98 #[.val (.int i1), .val (.int i2), .val (.int i3), .val (.int i4), .val (.int i5), .val (.int i6), .val (.int v7_2), .val (.ref b5), .val (.ref b82), .unset, .unset, .unset, .unset, .unset, .unset, .unset, .unset, .unset] [(.int (1 : Int32)), (.int i2), (.int (0 : Int32)), (.ref b165), (.ref b165)])
      refine Go.of (fun t k => XS.ixor X165.here hx rfl (hb hby at_98) rfl k) ?_
      show Go p e below Qo T165 (mkF m 99 #[.val (.int i1), .val (.int i2), .val (.int i3), .val (.int i4), .val (.int i5), .val (.int i6), .val (.int v7_2), .val (.ref b5), .val (.ref b82), .unset, .unset, .unset, .unset, .unset, .unset, .unset, .unset, .unset] [(.int (i2 ^^^ (1 : Int32))), (.int (0 : Int32)), (.ref b165), (.ref b165)])
      refine Go.of (fun t k => XS.i2b X165.here hx rfl (hb hby at_99) rfl k) ?_
      show Go p e below Qo T165 (mkF m 100 #[.val (.int i1), .val (.int i2), .val (.int i3), .val (.int i4), .val (.int i5), .val (.int i6), .val (.int v7_2), .val (.ref b5), .val (.ref b82), .unset, .unset, .unset, .unset, .unset, .unset, .unset, .unset, .unset] [(.int ((i2 ^^^ (1 : Int32)).toInt8.toInt32)), (.int (0 : Int32)), (.ref b165), (.ref b165)])
      have cpo186 := q185
      obtain ⟨clo186, Aro186, qco186, So186, Mo186, Ho186, Go186⟩ := cpo186
      have hin187 : ¬ ((0 : Int32) < 0 ∨ clo186.slots.size ≤ (0 : Int32).toNatClampNeg) := (inb_of So186 ⟨by decide, by decide⟩)
      obtain ⟨T188, h188, X188, e188, W188, st188⟩ := stB X165 hx hZ e165 Aro186 (j := (0 : Int32)) hin187 (g := (mkF m 100 #[.val (.int i1), .val (.int i2), .val (.int i3), .val (.int i4), .val (.int i5), .val (.int i6), .val (.int v7_2), .val (.ref b5), .val (.ref b82), .unset, .unset, .unset, .unset, .unset, .unset, .unset, .unset, .unset] [(.int ((i2 ^^^ (1 : Int32)).toInt8.toInt32)), (.int (0 : Int32)), (.ref b165), (.ref b165)])) rfl rfl (hb hby at_100)
      have q189 : Sta Z h188 "com/example/mimosa/mimosa/bson/BsonType" "NULL" "Lcom/example/mimosa/mimosa/bson/BsonType;" (.ref z_NULL) := q173.wr W188
      have q190 : Exa Z h188 z_NULL "com/example/mimosa/mimosa/bson/BsonType" := q174.wr W188
      have q191 : Sta Z h188 "com/example/mimosa/mimosa/bson/BsonType" "STRING" "Lcom/example/mimosa/mimosa/bson/BsonType;" (.ref z_STRING) := q175.wr W188
      have q192 : Exa Z h188 z_STRING "com/example/mimosa/mimosa/bson/BsonType" := q176.wr W188
      have q193 : Sta Z h188 "com/example/mimosa/mimosa/bson/BsonType" "DOCUMENT" "Lcom/example/mimosa/mimosa/bson/BsonType;" (.ref z_DOCUMENT) := q177.wr W188
      have q194 : Exa Z h188 z_DOCUMENT "com/example/mimosa/mimosa/bson/BsonType" := q178.wr W188
      have q195 : Sta Z h188 "com/example/mimosa/mimosa/bson/BsonType" "INT32" "Lcom/example/mimosa/mimosa/bson/BsonType;" (.ref z_INT32) := q179.wr W188
      have q196 : Exa Z h188 z_INT32 "com/example/mimosa/mimosa/bson/BsonType" := q180.wr W188
      have q197 : Sta Z h188 "java/lang/String" "COMPACT_STRINGS" "Z" (.int zc) := q181.wr W188
      have q198 : Arv Z h188 b5 k5 .byte (4 : Int32) [(.int (nar .byte (i1.toInt8.toInt32))), (.int (nar .byte (i2.toInt8.toInt32))), (.int (nar .byte (i3.toInt8.toInt32))), (.int (nar .byte ((i1 >>> ((8 : Int32) &&& 31)).toInt8.toInt32)))] (.int (0 : Int32)) := q182.other W188 ne170
      have q199 : Arv Z h188 b82 k82 .byte (4 : Int32) [(.int (nar .byte (i1.toInt8.toInt32))), (.int (nar .byte (i2.toInt8.toInt32))), (.int (nar .byte (i3.toInt8.toInt32))), (.int (nar .byte ((i1 >>> ((8 : Int32) &&& 31)).toInt8.toInt32)))] (.int (0 : Int32)) := q183.other W188 ne171
      have q200 : Arv Z h188 b165 k165 .byte (2 : Int32) [(.int (nar .byte ((i2 ^^^ (1 : Int32)).toInt8.toInt32))), (.int (0 : Int32))] (.int (0 : Int32)) := Arv.set Aro186 qco186 So186 Mo186 Ho186 Go186 (fits_nar_byte _) W188 0 rfl (Nat.le_of_ble_eq_true rfl)
      have Z201 : n0 ≤ h188.size := Nat.le_trans Z184 (Keep.of_wr W188).1
      have N202 := Fr.snoc X188 N164 g172
      refine Go.of st188 ?_
      show Go p e below Qo T188 (mkF m 101 #[.val (.int i1), .val (.int i2), .val (.int i3), .val (.int i4), .val (.int i5), .val (.int i6), .val (.int v7_2), .val (.ref b5), .val (.ref b82), .unset, .unset, .unset, .unset, .unset, .unset, .unset, .unset, .unset] [(.ref b165)])
      refine Go.of (fun t k => XS.dup X188.here hx rfl (hb hby at_101) rfl rfl k) ?_
      show Go p e below Qo T188 (mkF m 102 #[.val (.int i1), .val (.int i2), .val (.int i3), .val (.int i4), .val (.int i5), .val (.int i6), .val (.int v7_2), .val (.ref b5), .val (.ref b82), .unset, .unset, .unset, .unset, .unset, .unset, .unset, .unset, .unset] [(.ref b165), (.ref b165)])
      refine Go.of (fun t k => XS.iconst X188.here hx rfl (hb hby at_102) k) ?_
      show Go p e below Qo T188 (mkF m 103 #[.val (.int i1), .val (.int i2), .val (.int i3), .val (.int i4), .val (.int i5), .val (.int i6), .val (.int v7_2), .val (.ref b5), .val (.ref b82), .unset, .unset, .unset, .unset, .unset, .unset, .unset, .unset, .unset] [(.int (1 : Int32)), (.ref b165), (.ref b165)])
      refine Go.of (fun t k => XS.iloadN X188.here hx rfl (hb hby at_103) rfl  k) ?_
      show Go p e below Qo T188 (mkF m 104 #[.val (.int i1), .val (.int i2), .val (.int i3), .val (.int i4), .val (.int i5), .val (.int i6), .val (.int v7_2), .val (.ref b5), .val (.ref b82), .unset, .unset, .unset, .unset, .unset, .unset, .unset, .unset, .unset] [(.int i3), (.int (1 : Int32)), (.ref b165), (.ref b165)])
      refine Go.of (fun t k => XS.i2b X188.here hx rfl (hb hby at_104) rfl k) ?_
      show Go p e below Qo T188 (mkF m 105 #[.val (.int i1), .val (.int i2), .val (.int i3), .val (.int i4), .val (.int i5), .val (.int i6), .val (.int v7_2), .val (.ref b5), .val (.ref b82), .unset, .unset, .unset, .unset, .unset, .unset, .unset, .unset, .unset] [(.int (i3.toInt8.toInt32)), (.int (1 : Int32)), (.ref b165), (.ref b165)])
      have cpo203 := q200
      obtain ⟨clo203, Aro203, qco203, So203, Mo203, Ho203, Go203⟩ := cpo203
      have hin204 : ¬ ((1 : Int32) < 0 ∨ clo203.slots.size ≤ (1 : Int32).toNatClampNeg) := (inb_of So203 ⟨by decide, by decide⟩)
      obtain ⟨T205, h205, X205, e205, W205, st205⟩ := stB X188 hx hZ e188 Aro203 (j := (1 : Int32)) hin204 (g := (mkF m 105 #[.val (.int i1), .val (.int i2), .val (.int i3), .val (.int i4), .val (.int i5), .val (.int i6), .val (.int v7_2), .val (.ref b5), .val (.ref b82), .unset, .unset, .unset, .unset, .unset, .unset, .unset, .unset, .unset] [(.int (i3.toInt8.toInt32)), (.int (1 : Int32)), (.ref b165), (.ref b165)])) rfl rfl (hb hby at_105)
      have q206 : Sta Z h205 "com/example/mimosa/mimosa/bson/BsonType" "NULL" "Lcom/example/mimosa/mimosa/bson/BsonType;" (.ref z_NULL) := q189.wr W205
      have q207 : Exa Z h205 z_NULL "com/example/mimosa/mimosa/bson/BsonType" := q190.wr W205
      have q208 : Sta Z h205 "com/example/mimosa/mimosa/bson/BsonType" "STRING" "Lcom/example/mimosa/mimosa/bson/BsonType;" (.ref z_STRING) := q191.wr W205
      have q209 : Exa Z h205 z_STRING "com/example/mimosa/mimosa/bson/BsonType" := q192.wr W205
      have q210 : Sta Z h205 "com/example/mimosa/mimosa/bson/BsonType" "DOCUMENT" "Lcom/example/mimosa/mimosa/bson/BsonType;" (.ref z_DOCUMENT) := q193.wr W205
      have q211 : Exa Z h205 z_DOCUMENT "com/example/mimosa/mimosa/bson/BsonType" := q194.wr W205
      have q212 : Sta Z h205 "com/example/mimosa/mimosa/bson/BsonType" "INT32" "Lcom/example/mimosa/mimosa/bson/BsonType;" (.ref z_INT32) := q195.wr W205
      have q213 : Exa Z h205 z_INT32 "com/example/mimosa/mimosa/bson/BsonType" := q196.wr W205
      have q214 : Sta Z h205 "java/lang/String" "COMPACT_STRINGS" "Z" (.int zc) := q197.wr W205
      have q215 : Arv Z h205 b5 k5 .byte (4 : Int32) [(.int (nar .byte (i1.toInt8.toInt32))), (.int (nar .byte (i2.toInt8.toInt32))), (.int (nar .byte (i3.toInt8.toInt32))), (.int (nar .byte ((i1 >>> ((8 : Int32) &&& 31)).toInt8.toInt32)))] (.int (0 : Int32)) := q198.other W205 ne170
      have q216 : Arv Z h205 b82 k82 .byte (4 : Int32) [(.int (nar .byte (i1.toInt8.toInt32))), (.int (nar .byte (i2.toInt8.toInt32))), (.int (nar .byte (i3.toInt8.toInt32))), (.int (nar .byte ((i1 >>> ((8 : Int32) &&& 31)).toInt8.toInt32)))] (.int (0 : Int32)) := q199.other W205 ne171
      have q217 : Arv Z h205 b165 k165 .byte (2 : Int32) [(.int (nar .byte ((i2 ^^^ (1 : Int32)).toInt8.toInt32))), (.int (nar .byte (i3.toInt8.toInt32)))] (.int (0 : Int32)) := Arv.set Aro203 qco203 So203 Mo203 Ho203 Go203 (fits_nar_byte _) W205 1 rfl (Nat.le_of_ble_eq_true rfl)
      have Z218 : n0 ≤ h205.size := Nat.le_trans Z201 (Keep.of_wr W205).1
      have N219 := Fr.snoc X205 N202 g172
      refine Go.of st205 ?_
      show Go p e below Qo T205 (mkF m 106 #[.val (.int i1), .val (.int i2), .val (.int i3), .val (.int i4), .val (.int i5), .val (.int i6), .val (.int v7_2), .val (.ref b5), .val (.ref b82), .unset, .unset, .unset, .unset, .unset, .unset, .unset, .unset, .unset] [(.ref b165)])
      refine Go.of (fun t k => XS.astore X205.here hx rfl (hb hby at_106) rfl rfl (l' := #[.val (.int i1), .val (.int i2), .val (.int i3), .val (.int i4), .val (.int i5), .val (.int i6), .val (.int v7_2), .val (.ref b5), .val (.ref b82), .val (.ref b165), .unset, .unset, .unset, .unset, .unset, .unset, .unset, .unset]) rfl k) ?_
      show Go p e below Qo T205 (mkF m 108 #[.val (.int i1), .val (.int i2), .val (.int i3), .val (.int i4), .val (.int i5), .val (.int i6), .val (.int v7_2), .val (.ref b5), .val (.ref b82), .val (.ref b165), .unset, .unset, .unset, .unset, .unset, .unset, .unset, .unset] [])
      refine Go.of (fun t k => XS.iconst X205.here hx rfl (hb hby at_108) k) ?_
      show Go p e below Qo T205 (mkF m 109 #[.val (.int i1), .val (.int i2), .val (.int i3), .val (.int i4), .val (.int i5), .val (.int i6), .val (.int v7_2), .val (.ref b5), .val (.ref b82), .val (.ref b165), .unset, .unset, .unset, .unset, .unset, .unset, .unset, .unset] [(.int (1 : Int32))])
      obtain ⟨T220, h220, k220, X220, e220, E220, A220, st220⟩ := newP X205 hx hZ (hw _ (List.mem_of_getElem? (i := 1) rfl)) e205 (g := (mkF m 109 #[.val (.int i1), .val (.int i2), .val (.int i3), .val (.int i4), .val (.int i5), .val (.int i6), .val (.int v7_2), .val (.ref b5), .val (.ref b82), .val (.ref b165), .unset, .unset, .unset, .unset, .unset, .unset, .unset, .unset] [(.int (1 : Int32))])) rfl (hb hby at_109) rfl (by decide) (cap := 1) (by decide) (by decide) (by decide) (by decide)
      obtain ⟨b220, g220⟩ : ∃ z, z = h205.size := ⟨_, rfl⟩
      rw [← g220] at A220 st220
      have ne221 : z_NULL ≠ b220 := Nat.ne_of_lt (Nat.lt_of_lt_of_le q207.lt (Nat.le_of_eq g220.symm))
      have ne222 : z_STRING ≠ b220 := Nat.ne_of_lt (Nat.lt_of_lt_of_le q209.lt (Nat.le_of_eq g220.symm))
      have ne223 : z_DOCUMENT ≠ b220 := Nat.ne_of_lt (Nat.lt_of_lt_of_le q211.lt (Nat.le_of_eq g220.symm))
      have ne224 : z_INT32 ≠ b220 := Nat.ne_of_lt (Nat.lt_of_lt_of_le q213.lt (Nat.le_of_eq g220.symm))
      have ne225 : b5 ≠ b220 := Nat.ne_of_lt (Nat.lt_of_lt_of_le q215.lt (Nat.le_of_eq g220.symm))
      have ne226 : b82 ≠ b220 := Nat.ne_of_lt (Nat.lt_of_lt_of_le q216.lt (Nat.le_of_eq g220.symm))
      have ne227 : b165 ≠ b220 := Nat.ne_of_lt (Nat.lt_of_lt_of_le q217.lt (Nat.le_of_eq g220.symm))
      have g228 : n0 ≤ b220 := Nat.le_trans Z218 (Nat.le_of_eq g220.symm)
      have q229 : Sta Z h220 "com/example/mimosa/mimosa/bson/BsonType" "NULL" "Lcom/example/mimosa/mimosa/bson/BsonType;" (.ref z_NULL) := q206.ext E220
      have q230 : Exa Z h220 z_NULL "com/example/mimosa/mimosa/bson/BsonType" := q207.ext E220
      have q231 : Sta Z h220 "com/example/mimosa/mimosa/bson/BsonType" "STRING" "Lcom/example/mimosa/mimosa/bson/BsonType;" (.ref z_STRING) := q208.ext E220
      have q232 : Exa Z h220 z_STRING "com/example/mimosa/mimosa/bson/BsonType" := q209.ext E220
      have q233 : Sta Z h220 "com/example/mimosa/mimosa/bson/BsonType" "DOCUMENT" "Lcom/example/mimosa/mimosa/bson/BsonType;" (.ref z_DOCUMENT) := q210.ext E220
      have q234 : Exa Z h220 z_DOCUMENT "com/example/mimosa/mimosa/bson/BsonType" := q211.ext E220
      have q235 : Sta Z h220 "com/example/mimosa/mimosa/bson/BsonType" "INT32" "Lcom/example/mimosa/mimosa/bson/BsonType;" (.ref z_INT32) := q212.ext E220
      have q236 : Exa Z h220 z_INT32 "com/example/mimosa/mimosa/bson/BsonType" := q213.ext E220
      have q237 : Sta Z h220 "java/lang/String" "COMPACT_STRINGS" "Z" (.int zc) := q214.ext E220
      have q238 : Arv Z h220 b5 k5 .byte (4 : Int32) [(.int (nar .byte (i1.toInt8.toInt32))), (.int (nar .byte (i2.toInt8.toInt32))), (.int (nar .byte (i3.toInt8.toInt32))), (.int (nar .byte ((i1 >>> ((8 : Int32) &&& 31)).toInt8.toInt32)))] (.int (0 : Int32)) := q215.ext E220
      have q239 : Arv Z h220 b82 k82 .byte (4 : Int32) [(.int (nar .byte (i1.toInt8.toInt32))), (.int (nar .byte (i2.toInt8.toInt32))), (.int (nar .byte (i3.toInt8.toInt32))), (.int (nar .byte ((i1 >>> ((8 : Int32) &&& 31)).toInt8.toInt32)))] (.int (0 : Int32)) := q216.ext E220
      have q240 : Arv Z h220 b165 k165 .byte (2 : Int32) [(.int (nar .byte ((i2 ^^^ (1 : Int32)).toInt8.toInt32))), (.int (nar .byte (i3.toInt8.toInt32)))] (.int (0 : Int32)) := q217.ext E220
      have Z241 : n0 ≤ h220.size := Nat.le_trans Z218 E220.1
      have q242 : Arv Z h220 b220 k220 .char (1 : Int32) [(.int (0 : Int32))] (.int (0 : Int32)) := (Arv.new A220 (by decide)).pad (pad_rep [] (.int (0 : Int32)) 1)
      refine Go.of st220 ?_
      show Go p e below Qo T220 (mkF m 111 #[.val (.int i1), .val (.int i2), .val (.int i3), .val (.int i4), .val (.int i5), .val (.int i6), .val (.int v7_2), .val (.ref b5), .val (.ref b82), .val (.ref b165), .unset, .unset, .unset, .unset, .unset, .unset, .unset, .unset] [(.ref b220)])
      refine Go.of (fun t k => XS.dup X220.here hx rfl (hb hby at_111) rfl rfl k) ?_
      show Go p e below Qo T220 (mkF m 112 #[.val (.int i1), .val (.int i2), .val (.int i3), .val (.int i4), .val (.int i5), .val (.int i6), .val (.int v7_2), .val (.ref b5), .val (.ref b82), .val (.ref b165), .unset, .unset, .unset, .unset, .unset, .unset, .unset, .unset] [(.ref b220), (.ref b220)])
      refine Go.of (fun t k => XS.iconst X220.here hx rfl (hb hby at_112) k) ?_
      show Go p e below Qo T220 (mkF m 113 #[.val (.int i1), .val (.int i2), .val (.int i3), .val (.int i4), .val (.int i5), .val (.int i6), .val (.int v7_2), .val (.ref b5), .val (.ref b82), .val (.ref b165), .unset, .unset, .unset, .unset, .unset, .unset, .unset, .unset] [(.int (0 : Int32)), (.ref b220), (.ref b220)])
      refine Go.of (fun t k => XS.iload X220.here hx rfl (hb hby at_113) rfl  k) ?_
      show Go p e below Qo T220 (mkF m 115 #[.val (.int i1), .val (.int i2), .val (.int i3), .val (.int i4), .val (.int i5), .val (.int i6), .val (.int v7_2), .val (.ref b5), .val (.ref b82), .val (.ref b165), .unset, .unset, .unset, .unset, .unset, .unset, .unset, .unset] [(.int i6), (.int (0 : Int32)), (.ref b220), (.ref b220)])
      refine Go.of (fun t k => XS.iconst X220.here hx rfl (hb hby at_115) k) ?_
      show Go p e below Qo T220 (mkF m 116 #[.val (.int i1), .val (.int i2), .val (.int i3), .val (.int i4), .val (.int i5), .val (.int i6), .val (.int v7_2), .val (.ref b5), .val (.ref b82), .val (.ref b165), .unset, .unset, .unset, .unset, .unset, .unset, .unset, .unset] [(.int (2 : Int32)), (.int i6), (.int (0 : Int32)), (.ref b220), (.ref b220)])
      refine Go.of (fun t k => XS.ishr X220.here hx rfl (hb hby at_116) rfl k) ?_
      show Go p e below Qo T220 (mkF m 117 #[.val (.int i1), .val (.int i2), .val (.int i3), .val (.int i4), .val (.int i5), .val (.int i6), .val (.int v7_2), .val (.ref b5), .val (.ref b82), .val (.ref b165), .unset, .unset, .unset, .unset, .unset, .unset, .unset, .unset] [(.int (i6 >>> ((2 : Int32) &&& 31))), (.int (0 : Int32)), (.ref b220), (.ref b220)])
      refine Go.of (fun t k => XS.sipush X220.here hx rfl (hb hby at_117) k) ?_
      show Go p e below Qo T220 (mkF m 120 #[.val (.int i1), .val (.int i2), .val (.int i3), .val (.int i4), .val (.int i5), .val (.int i6), .val (.int v7_2), .val (.ref b5), .val (.ref b82), .val (.ref b165), .unset, .unset, .unset, .unset, .unset, .unset, .unset, .unset] [(.int (255 : Int32)), (.int (i6 >>> ((2 : Int32) &&& 31))), (.int (0 : Int32)), (.ref b220), (.ref b220)])
      refine Go.of (fun t k => XS.iand X220.here hx rfl (hb hby at_120) rfl k) ?_
      show Go p e below Qo T220 (mkF m 121 #[.val (.int i1), .val (.int i2), .val (.int i3), .val (.int i4), .val (.int i5), .val (.int i6), .val (.int v7_2), .val (.ref b5), .val (.ref b82), .val (.ref b165), .unset, .unset, .unset, .unset, .unset, .unset, .unset, .unset] [(.int ((i6 >>> ((2 : Int32) &&& 31)) &&& (255 : Int32))), (.int (0 : Int32)), (.ref b220), (.ref b220)])
      refine Go.of (fun t k => XS.i2c X220.here hx rfl (hb hby at_121) rfl k) ?_
      show Go p e below Qo T220 (mkF m 122 #[.val (.int i1), .val (.int i2), .val (.int i3), .val (.int i4), .val (.int i5), .val (.int i6), .val (.int v7_2), .val (.ref b5), .val (.ref b82), .val (.ref b165), .unset, .unset, .unset, .unset, .unset, .unset, .unset, .unset] [(.int (((i6 >>> ((2 : Int32) &&& 31)) &&& (255 : Int32)).toUInt32.toUInt16.toUInt32.toInt32)), (.int (0 : Int32)), (.ref b220), (.ref b220)])
      have cpo243 := q242
      obtain ⟨clo243, Aro243, qco243, So243, Mo243, Ho243, Go243⟩ := cpo243
      have hin244 : ¬ ((0 : Int32) < 0 ∨ clo243.slots.size ≤ (0 : Int32).toNatClampNeg) := (inb_of So243 ⟨by decide, by decide⟩)
      obtain ⟨T245, h245, X245, e245, W245, st245⟩ := stC X220 hx hZ e220 Aro243 (j := (0 : Int32)) hin244 (g := (mkF m 122 #[.val (.int i1), .val (.int i2), .val (.int i3), .val (.int i4), .val (.int i5), .val (.int i6), .val (.int v7_2), .val (.ref b5), .val (.ref b82), .val (.ref b165), .unset, .unset, .unset, .unset, .unset, .unset, .unset, .unset] [(.int (((i6 >>> ((2 : Int32) &&& 31)) &&& (255 : Int32)).toUInt32.toUInt16.toUInt32.toInt32)), (.int (0 : Int32)), (.ref b220), (.ref b220)])) rfl rfl (hb hby at_122)
      have q246 : Sta Z h245 "com/example/mimosa/mimosa/bson/BsonType" "NULL" "Lcom/example/mimosa/mimosa/bson/BsonType;" (.ref z_NULL) := q229.wr W245
      have q247 : Exa Z h245 z_NULL "com/example/mimosa/mimosa/bson/BsonType" := q230.wr W245
      have q248 : Sta Z h245 "com/example/mimosa/mimosa/bson/BsonType" "STRING" "Lcom/example/mimosa/mimosa/bson/BsonType;" (.ref z_STRING) := q231.wr W245
      have q249 : Exa Z h245 z_STRING "com/example/mimosa/mimosa/bson/BsonType" := q232.wr W245
      have q250 : Sta Z h245 "com/example/mimosa/mimosa/bson/BsonType" "DOCUMENT" "Lcom/example/mimosa/mimosa/bson/BsonType;" (.ref z_DOCUMENT) := q233.wr W245
      have q251 : Exa Z h245 z_DOCUMENT "com/example/mimosa/mimosa/bson/BsonType" := q234.wr W245
      have q252 : Sta Z h245 "com/example/mimosa/mimosa/bson/BsonType" "INT32" "Lcom/example/mimosa/mimosa/bson/BsonType;" (.ref z_INT32) := q235.wr W245
      have q253 : Exa Z h245 z_INT32 "com/example/mimosa/mimosa/bson/BsonType" := q236.wr W245
      have q254 : Sta Z h245 "java/lang/String" "COMPACT_STRINGS" "Z" (.int zc) := q237.wr W245
      have q255 : Arv Z h245 b5 k5 .byte (4 : Int32) [(.int (nar .byte (i1.toInt8.toInt32))), (.int (nar .byte (i2.toInt8.toInt32))), (.int (nar .byte (i3.toInt8.toInt32))), (.int (nar .byte ((i1 >>> ((8 : Int32) &&& 31)).toInt8.toInt32)))] (.int (0 : Int32)) := q238.other W245 ne225
      have q256 : Arv Z h245 b82 k82 .byte (4 : Int32) [(.int (nar .byte (i1.toInt8.toInt32))), (.int (nar .byte (i2.toInt8.toInt32))), (.int (nar .byte (i3.toInt8.toInt32))), (.int (nar .byte ((i1 >>> ((8 : Int32) &&& 31)).toInt8.toInt32)))] (.int (0 : Int32)) := q239.other W245 ne226
      have q257 : Arv Z h245 b165 k165 .byte (2 : Int32) [(.int (nar .byte ((i2 ^^^ (1 : Int32)).toInt8.toInt32))), (.int (nar .byte (i3.toInt8.toInt32)))] (.int (0 : Int32)) := q240.other W245 ne227
      have q258 : Arv Z h245 b220 k220 .char (1 : Int32) [(.int (nar .char (((i6 >>> ((2 : Int32) &&& 31)) &&& (255 : Int32)).toUInt32.toUInt16.toUInt32.toInt32)))] (.int (0 : Int32)) := Arv.set Aro243 qco243 So243 Mo243 Ho243 Go243 (fits_nar_char _) W245 0 rfl (Nat.le_of_ble_eq_true rfl)
      have Z259 : n0 ≤ h245.size := Nat.le_trans Z241 (Keep.of_wr W245).1
      have N260 := Fr.snoc X245 N219 g228
      refine Go.of st245 ?_
      show Go p e below Qo T245 (mkF m 123 #[.val (.int i1), .val (.int i2), .val (.int i3), .val (.int i4), .val (.int i5), .val (.int i6), .val (.int v7_2), .val (.ref b5), .val (.ref b82), .val (.ref b165), .unset, .unset, .unset, .unset, .unset, .unset, .unset, .unset] [(.ref b220)])
      refine Go.of (fun t k => XS.astore X245.here hx rfl (hb hby at_123) rfl rfl (l' := #[.val (.int i1), .val (.int i2), .val (.int i3), .val (.int i4), .val (.int i5), .val (.int i6), .val (.int v7_2), .val (.ref b5), .val (.ref b82), .val (.ref b165), .val (.ref b220), .unset, .unset, .unset, .unset, .unset, .unset, .unset]) rfl k) ?_
      show Go p e below Qo T245 (mkF m 125 #[.val (.int i1), .val (.int i2), .val (.int i3), .val (.int i4), .val (.int i5), .val (.int i6), .val (.int v7_2), .val (.ref b5), .val (.ref b82), .val (.ref b165), .val (.ref b220), .unset, .unset, .unset, .unset, .unset, .unset, .unset] [])
      obtain ⟨T261, h261, X261, e261, E261, A261, D261, -, st261⟩ := newO X245 hx hZ hown (hw _ (List.mem_of_getElem? (i := 2) rfl)) (hw _ (List.mem_of_getElem? (i := 3) rfl)) (hw _ (List.mem_of_getElem? (i := 4) rfl)) e245 (g := (mkF m 125 #[.val (.int i1), .val (.int i2), .val (.int i3), .val (.int i4), .val (.int i5), .val (.int i6), .val (.int v7_2), .val (.ref b5), .val (.ref b82), .val (.ref b165), .val (.ref b220), .unset, .unset, .unset, .unset, .unset, .unset, .unset] [])) rfl (hb hby at_125) (by decide) (by decide)
      obtain ⟨b261, g261⟩ : ∃ z, z = h245.size := ⟨_, rfl⟩
      rw [← g261] at A261 D261 st261
      have ne262 : z_NULL ≠ b261 := Nat.ne_of_lt (Nat.lt_of_lt_of_le q247.lt (Nat.le_of_eq g261.symm))
      have ne263 : z_STRING ≠ b261 := Nat.ne_of_lt (Nat.lt_of_lt_of_le q249.lt (Nat.le_of_eq g261.symm))
      have ne264 : z_DOCUMENT ≠ b261 := Nat.ne_of_lt (Nat.lt_of_lt_of_le q251.lt (Nat.le_of_eq g261.symm))
      have ne265 : z_INT32 ≠ b261 := Nat.ne_of_lt (Nat.lt_of_lt_of_le q253.lt (Nat.le_of_eq g261.symm))
      have ne266 : b5 ≠ b261 := Nat.ne_of_lt (Nat.lt_of_lt_of_le q255.lt (Nat.le_of_eq g261.symm))
      have ne267 : b82 ≠ b261 := Nat.ne_of_lt (Nat.lt_of_lt_of_le q256.lt (Nat.le_of_eq g261.symm))
      have ne268 : b165 ≠ b261 := Nat.ne_of_lt (Nat.lt_of_lt_of_le q257.lt (Nat.le_of_eq g261.symm))
      have ne269 : b220 ≠ b261 := Nat.ne_of_lt (Nat.lt_of_lt_of_le q258.lt (Nat.le_of_eq g261.symm))
      have g270 : n0 ≤ b261 := Nat.le_trans Z259 (Nat.le_of_eq g261.symm)
      have q271 : Sta Z h261 "com/example/mimosa/mimosa/bson/BsonType" "NULL" "Lcom/example/mimosa/mimosa/bson/BsonType;" (.ref z_NULL) := q246.ext E261
      have q272 : Exa Z h261 z_NULL "com/example/mimosa/mimosa/bson/BsonType" := q247.ext E261
      have q273 : Sta Z h261 "com/example/mimosa/mimosa/bson/BsonType" "STRING" "Lcom/example/mimosa/mimosa/bson/BsonType;" (.ref z_STRING) := q248.ext E261
      have q274 : Exa Z h261 z_STRING "com/example/mimosa/mimosa/bson/BsonType" := q249.ext E261
      have q275 : Sta Z h261 "com/example/mimosa/mimosa/bson/BsonType" "DOCUMENT" "Lcom/example/mimosa/mimosa/bson/BsonType;" (.ref z_DOCUMENT) := q250.ext E261
      have q276 : Exa Z h261 z_DOCUMENT "com/example/mimosa/mimosa/bson/BsonType" := q251.ext E261
      have q277 : Sta Z h261 "com/example/mimosa/mimosa/bson/BsonType" "INT32" "Lcom/example/mimosa/mimosa/bson/BsonType;" (.ref z_INT32) := q252.ext E261
      have q278 : Exa Z h261 z_INT32 "com/example/mimosa/mimosa/bson/BsonType" := q253.ext E261
      have q279 : Sta Z h261 "java/lang/String" "COMPACT_STRINGS" "Z" (.int zc) := q254.ext E261
      have q280 : Arv Z h261 b5 k5 .byte (4 : Int32) [(.int (nar .byte (i1.toInt8.toInt32))), (.int (nar .byte (i2.toInt8.toInt32))), (.int (nar .byte (i3.toInt8.toInt32))), (.int (nar .byte ((i1 >>> ((8 : Int32) &&& 31)).toInt8.toInt32)))] (.int (0 : Int32)) := q255.ext E261
      have q281 : Arv Z h261 b82 k82 .byte (4 : Int32) [(.int (nar .byte (i1.toInt8.toInt32))), (.int (nar .byte (i2.toInt8.toInt32))), (.int (nar .byte (i3.toInt8.toInt32))), (.int (nar .byte ((i1 >>> ((8 : Int32) &&& 31)).toInt8.toInt32)))] (.int (0 : Int32)) := q256.ext E261
      have q282 : Arv Z h261 b165 k165 .byte (2 : Int32) [(.int (nar .byte ((i2 ^^^ (1 : Int32)).toInt8.toInt32))), (.int (nar .byte (i3.toInt8.toInt32)))] (.int (0 : Int32)) := q257.ext E261
      have q283 : Arv Z h261 b220 k220 .char (1 : Int32) [(.int (nar .char (((i6 >>> ((2 : Int32) &&& 31)) &&& (255 : Int32)).toUInt32.toUInt16.toUInt32.toInt32)))] (.int (0 : Int32)) := q258.ext E261
      have Z284 : n0 ≤ h261.size := Nat.le_trans Z259 E261.1
      have q285 : Fld Z h261 b261 "java/lang/String" "coder" "B" (.int (0 : Int32)) := D261 (Or.inr (hw _ (List.mem_of_getElem? (i := 27) rfl))) (ty := .byte) (by decide)
      have q286 : Fld Z h261 b261 "java/lang/String" "value" "[B" .null := D261 (Or.inr (hw _ (List.mem_of_getElem? (i := 29) rfl))) (ty := (.array .byte)) (by decide)
      refine Go.of st261 ?_
      show Go p e below Qo T261 (mkF m 128 #[.val (.int i1), .val (.int i2), .val (.int i3), .val (.int i4), .val (.int i5), .val (.int i6), .val (.int v7_2), .val (.ref b5), .val (.ref b82), .val (.ref b165), .val (.ref b220), .unset, .unset, .unset, .unset, .unset, .unset, .unset] [(.ref b261)])
      refine Go.of (fun t k => XS.dup X261.here hx rfl (hb hby at_128) rfl rfl k) ?_
      show Go p e below Qo T261 (mkF m 129 #[.val (.int i1), .val (.int i2), .val (.int i3), .val (.int i4), .val (.int i5), .val (.int i6), .val (.int v7_2), .val (.ref b5), .val (.ref b82), .val (.ref b165), .val (.ref b220), .unset, .unset, .unset, .unset, .unset, .unset, .unset] [(.ref b261), (.ref b261)])
      refine Go.of (fun t k => XS.aload X261.here hx rfl (hb hby at_129) rfl rfl k) ?_
      show Go p e below Qo T261 (mkF m 131 #[.val (.int i1), .val (.int i2), .val (.int i3), .val (.int i4), .val (.int i5), .val (.int i6), .val (.int v7_2), .val (.ref b5), .val (.ref b82), .val (.ref b165), .val (.ref b220), .unset, .unset, .unset, .unset, .unset, .unset, .unset] [(.ref b220), (.ref b261), (.ref b261)])
      have hws287 : ∀ d ∈ StrChars.Road.words, d.before a0 Z = true := fun d hd => hw d ((by decide +kernel : ∀ d ∈ StrChars.Road.words, d ∈ tables_1) d hd)
      obtain ⟨_, _, ⟨T287, L287, k287, n287⟩, -, X287, ⟨Lc287, hQ287, l287, y287, z287⟩, st287⟩ := X261.specialBack hx (y := (⟨"java/lang/String", "<init>", "([C)V"⟩ : MethodName)) rfl hown (mvT hZ (hw _ (List.mem_of_getElem? (i := 5) rfl))) (mvT hZ (hw _ (List.mem_of_getElem? (i := 6) rfl))) (mvT hZ (hw _ (List.mem_of_getElem? (i := 7) rfl))) (by decide) (StrChars.Road.backV (W := 1) hZ hws287 (kI := 4) (hw _ (List.mem_of_getElem? (i := 3) rfl)) (cs := [(nar .char (((i6 >>> ((2 : Int32) &&& 31)) &&& (255 : Int32)).toUInt32.toUInt16.toUInt32.toInt32))]) (bs := [((nar .char (((i6 >>> ((2 : Int32) &&& 31)) &&& (255 : Int32)).toUInt32.toUInt16.toUInt32.toInt32))).toInt8.toInt32]) (n := 1) g270 Z284 A261 q286 q285 q283 q279 hz rfl rfl (by decide) (by decide) (own_lat _) rfl (by decide) (by decide)) (g := (mkF m 131 #[.val (.int i1), .val (.int i2), .val (.int i3), .val (.int i4), .val (.int i5), .val (.int i6), .val (.int v7_2), .val (.ref b5), .val (.ref b82), .val (.ref b165), .val (.ref b220), .unset, .unset, .unset, .unset, .unset, .unset, .unset] [(.ref b220), (.ref b261), (.ref b261)])) rfl (by rw [hml]; rfl) (Steps.refl _) (a := b261) (argsL := [(.ref b220)]) (rest := [(.ref b261)]) (lenOf pd_0 rfl) rfl (by show 2 * 0 + _ ≤ _; exact Nat.le_of_eq rfl) (hb hby at_131) (fun _ _ => ⟨rfl, e261, (by decide : 5 + 1 ≤ _), (by decide : 15 + 1 ≤ _)⟩)
      dsimp only [Pt.U, Pt.locs, Pt.cells, Pt.slots] at X287 l287 y287 z287 st287 hQ287
      subst l287 y287 z287
      obtain ⟨rfl, N288, Kc289, q290, q291, x292, x293, g294, g295, ne296, q297, q298⟩ := hQ287
      have N299 := Fr.app N260 N288
      have ne300 : z_NULL ≠ x292 := Nat.ne_of_lt (Nat.lt_of_lt_of_le q272.lt g295)
      have ne301 : z_STRING ≠ x292 := Nat.ne_of_lt (Nat.lt_of_lt_of_le q274.lt g295)
      have ne302 : z_DOCUMENT ≠ x292 := Nat.ne_of_lt (Nat.lt_of_lt_of_le q276.lt g295)
      have ne303 : z_INT32 ≠ x292 := Nat.ne_of_lt (Nat.lt_of_lt_of_le q278.lt g295)
      have ne304 : b5 ≠ x292 := Nat.ne_of_lt (Nat.lt_of_lt_of_le q280.lt g295)
      have ne305 : b82 ≠ x292 := Nat.ne_of_lt (Nat.lt_of_lt_of_le q281.lt g295)
      have ne306 : b165 ≠ x292 := Nat.ne_of_lt (Nat.lt_of_lt_of_le q282.lt g295)
      have ne307 : b220 ≠ x292 := Nat.ne_of_lt (Nat.lt_of_lt_of_le q283.lt g295)
      have ne308 : b261 ≠ x292 := Nat.ne_of_lt (Nat.lt_of_lt_of_le A261.lt g295)
      have q309 : Sta Z T287.heap "com/example/mimosa/mimosa/bson/BsonType" "NULL" "Lcom/example/mimosa/mimosa/bson/BsonType;" (.ref z_NULL) := own_staKeep q271 Kc289 (allS (own_plainE A261) all0)
      have q310 : Exa Z T287.heap z_NULL "com/example/mimosa/mimosa/bson/BsonType" := q272.keep Kc289
      have q311 : Sta Z T287.heap "com/example/mimosa/mimosa/bson/BsonType" "STRING" "Lcom/example/mimosa/mimosa/bson/BsonType;" (.ref z_STRING) := own_staKeep q273 Kc289 (allS (own_plainE A261) all0)
      have q312 : Exa Z T287.heap z_STRING "com/example/mimosa/mimosa/bson/BsonType" := q274.keep Kc289
      have q313 : Sta Z T287.heap "com/example/mimosa/mimosa/bson/BsonType" "DOCUMENT" "Lcom/example/mimosa/mimosa/bson/BsonType;" (.ref z_DOCUMENT) := own_staKeep q275 Kc289 (allS (own_plainE A261) all0)
      have q314 : Exa Z T287.heap z_DOCUMENT "com/example/mimosa/mimosa/bson/BsonType" := q276.keep Kc289
      have q315 : Sta Z T287.heap "com/example/mimosa/mimosa/bson/BsonType" "INT32" "Lcom/example/mimosa/mimosa/bson/BsonType;" (.ref z_INT32) := own_staKeep q277 Kc289 (allS (own_plainE A261) all0)
      have q316 : Exa Z T287.heap z_INT32 "com/example/mimosa/mimosa/bson/BsonType" := q278.keep Kc289
      have q317 : Sta Z T287.heap "java/lang/String" "COMPACT_STRINGS" "Z" (.int zc) := own_staKeep q279 Kc289 (allS (own_plainE A261) all0)
      have q318 : Arv Z T287.heap b5 k5 .byte (4 : Int32) [(.int (nar .byte (i1.toInt8.toInt32))), (.int (nar .byte (i2.toInt8.toInt32))), (.int (nar .byte (i3.toInt8.toInt32))), (.int (nar .byte ((i1 >>> ((8 : Int32) &&& 31)).toInt8.toInt32)))] (.int (0 : Int32)) := q280.keep Kc289 (ninS ne266 nin0)
      have q319 : Arv Z T287.heap b82 k82 .byte (4 : Int32) [(.int (nar .byte (i1.toInt8.toInt32))), (.int (nar .byte (i2.toInt8.toInt32))), (.int (nar .byte (i3.toInt8.toInt32))), (.int (nar .byte ((i1 >>> ((8 : Int32) &&& 31)).toInt8.toInt32)))] (.int (0 : Int32)) := q281.keep Kc289 (ninS ne267 nin0)
      have q320 : Arv Z T287.heap b165 k165 .byte (2 : Int32) [(.int (nar .byte ((i2 ^^^ (1 : Int32)).toInt8.toInt32))), (.int (nar .byte (i3.toInt8.toInt32)))] (.int (0 : Int32)) := q282.keep Kc289 (ninS ne268 nin0)
      have q321 : Arv Z T287.heap b220 k220 .char (1 : Int32) [(.int (nar .char (((i6 >>> ((2 : Int32) &&& 31)) &&& (255 : Int32)).toUInt32.toUInt16.toUInt32.toInt32)))] (.int (0 : Int32)) := q283.keep Kc289 (ninS ne269 nin0)
      have Z322 : n0 ≤ T287.heap.size := Nat.le_trans Z284 Kc289.1
      refine Go.via st287 ?_
      show Go p e below Qo T287 (mkF m 134 #[.val (.int i1), .val (.int i2), .val (.int i3), .val (.int i4), .val (.int i5), .val (.int i6), .val (.int v7_2), .val (.ref b5), .val (.ref b82), .val (.ref b165), .val (.ref b220), .unset, .unset, .unset, .unset, .unset, .unset, .unset] [(.ref b261)])
      refine Go.of (fun t k => XS.astore X287.here hx rfl (hb hby at_134) rfl rfl (l' := #[.val (.int i1), .val (.int i2), .val (.int i3), .val (.int i4), .val (.int i5), .val (.int i6), .val (.int v7_2), .val (.ref b5), .val (.ref b82), .val (.ref b165), .val (.ref b220), .val (.ref b261), .unset, .unset, .unset, .unset, .unset, .unset]) rfl k) ?_
      show Go p e below Qo T287 (mkF m 136 #[.val (.int i1), .val (.int i2), .val (.int i3), .val (.int i4), .val (.int i5), .val (.int i6), .val (.int v7_2), .val (.ref b5), .val (.ref b82), .val (.ref b165), .val (.ref b220), .val (.ref b261), .unset, .unset, .unset, .unset, .unset, .unset] [])
      refine Go.of (fun t k => XS.iload X287.here hx rfl (hb hby at_136) rfl  k) ?_
      show Go p e below Qo T287 (mkF m 138 #[.val (.int i1), .val (.int i2), .val (.int i3), .val (.int i4), .val (.int i5), .val (.int i6), .val (.int v7_2), .val (.ref b5), .val (.ref b82), .val (.ref b165), .val (.ref b220), .val (.ref b261), .unset, .unset, .unset, .unset, .unset, .unset] [(.int i6)])
      obtain ⟨_, _, ⟨T323, L323, k323, n323⟩, -, X323, ⟨Lc323, hQ323, l323, y323, z323⟩, st323⟩ := Jvm.LawKit.callS X287 hx (y := (⟨"com/example/mimosa/mimosa/bson/BsonElementStandsInPinLaw", "pickType", "(I)Lcom/example/mimosa/mimosa/bson/BsonType;"⟩ : MethodName)) hown (mvT hZ (hw _ (List.mem_of_getElem? (i := 30) rfl))) (mvT hZ (hw _ (List.mem_of_getElem? (i := 31) rfl))) (mvT hZ (hw _ (List.mem_of_getElem? (i := 32) rfl))) (mvT hZ (hw _ (List.mem_of_getElem? (i := 33) rfl))) (by decide) (backOf (W := 0) (rm7 l Z a0 hw [] i6 z_NULL z_STRING z_DOCUMENT z_INT32 T287.heap n0 Z322 q309 q311 q313 q315) hZ (hw _ (List.mem_of_getElem? (i := 33) rfl)) (hw _ (List.mem_of_getElem? (i := 32) rfl)) (by decide) (by decide)) (g := (mkF m 138 #[.val (.int i1), .val (.int i2), .val (.int i3), .val (.int i4), .val (.int i5), .val (.int i6), .val (.int v7_2), .val (.ref b5), .val (.ref b82), .val (.ref b165), .val (.ref b220), .val (.ref b261), .unset, .unset, .unset, .unset, .unset, .unset] [(.int i6)])) rfl (by rw [hml]; rfl) (argsL := [(.int i6)]) (rest := []) (lenOf pd_1 rfl) rfl (by show 2 * 0 + _ ≤ _; exact Nat.le_of_eq rfl) (hb hby at_138) (fun _ _ => ⟨rfl, rfl, (by decide : 6 + 0 ≤ _), (by decide : 16 + 0 ≤ _)⟩)
      dsimp only [Pt.U, Pt.locs, Pt.cells, Pt.slots] at X323 l323 y323 z323 st323 hQ323
      subst l323 y323 z323
      obtain ⟨rfl, N324, eh325⟩ := hQ323
      have N326 := Fr.app N299 N324
      refine Go.of st323 ?_
      show Go p e below Qo T323 (mkF m 141 #[.val (.int i1), .val (.int i2), .val (.int i3), .val (.int i4), .val (.int i5), .val (.int i6), .val (.int v7_2), .val (.ref b5), .val (.ref b82), .val (.ref b165), .val (.ref b220), .val (.ref b261), .unset, .unset, .unset, .unset, .unset, .unset] [(.ref (F7 i6 z_NULL z_STRING z_DOCUMENT z_INT32))])
      refine Go.of (fun t k => XS.astore X323.here hx rfl (hb hby at_141) rfl rfl (l' := #[.val (.int i1), .val (.int i2), .val (.int i3), .val (.int i4), .val (.int i5), .val (.int i6), .val (.int v7_2), .val (.ref b5), .val (.ref b82), .val (.ref b165), .val (.ref b220), .val (.ref b261), .val (.ref (F7 i6 z_NULL z_STRING z_DOCUMENT z_INT32)), .unset, .unset, .unset, .unset, .unset]) rfl k) ?_
      show Go p e below Qo T323 (mkF m 143 #[.val (.int i1), .val (.int i2), .val (.int i3), .val (.int i4), .val (.int i5), .val (.int i6), .val (.int v7_2), .val (.ref b5), .val (.ref b82), .val (.ref b165), .val (.ref b220), .val (.ref b261), .val (.ref (F7 i6 z_NULL z_STRING z_DOCUMENT z_INT32)), .unset, .unset, .unset, .unset, .unset] [])
      obtain ⟨T327, h327, X327, e327, E327, A327, D327, -, st327⟩ := newO X323 hx hZ hown (hw _ (List.mem_of_getElem? (i := 37) rfl)) (hw _ (List.mem_of_getElem? (i := 38) rfl)) (hw _ (List.mem_of_getElem? (i := 39) rfl)) eh325 (g := (mkF m 143 #[.val (.int i1), .val (.int i2), .val (.int i3), .val (.int i4), .val (.int i5), .val (.int i6), .val (.int v7_2), .val (.ref b5), .val (.ref b82), .val (.ref b165), .val (.ref b220), .val (.ref b261), .val (.ref (F7 i6 z_NULL z_STRING z_DOCUMENT z_INT32)), .unset, .unset, .unset, .unset, .unset] [])) rfl (hb hby at_143) (by decide) (by decide)
      obtain ⟨b327, g327⟩ : ∃ z, z = T287.heap.size := ⟨_, rfl⟩
      rw [← g327] at A327 D327 st327
      have ne328 : z_NULL ≠ b327 := Nat.ne_of_lt (Nat.lt_of_lt_of_le q310.lt (Nat.le_of_eq g327.symm))
      have ne329 : z_STRING ≠ b327 := Nat.ne_of_lt (Nat.lt_of_lt_of_le q312.lt (Nat.le_of_eq g327.symm))
      have ne330 : z_DOCUMENT ≠ b327 := Nat.ne_of_lt (Nat.lt_of_lt_of_le q314.lt (Nat.le_of_eq g327.symm))
      have ne331 : z_INT32 ≠ b327 := Nat.ne_of_lt (Nat.lt_of_lt_of_le q316.lt (Nat.le_of_eq g327.symm))
      have ne332 : b5 ≠ b327 := Nat.ne_of_lt (Nat.lt_of_lt_of_le q318.lt (Nat.le_of_eq g327.symm))
      have ne333 : b82 ≠ b327 := Nat.ne_of_lt (Nat.lt_of_lt_of_le q319.lt (Nat.le_of_eq g327.symm))
      have ne334 : b165 ≠ b327 := Nat.ne_of_lt (Nat.lt_of_lt_of_le q320.lt (Nat.le_of_eq g327.symm))
      have ne335 : b220 ≠ b327 := Nat.ne_of_lt (Nat.lt_of_lt_of_le q321.lt (Nat.le_of_eq g327.symm))
      have ne336 : b261 ≠ b327 := Nat.ne_of_lt (Nat.lt_of_lt_of_le q290.lt (Nat.le_of_eq g327.symm))
      have g337 : n0 ≤ b327 := Nat.le_trans Z322 (Nat.le_of_eq g327.symm)
      have q338 : Sta Z h327 "com/example/mimosa/mimosa/bson/BsonType" "NULL" "Lcom/example/mimosa/mimosa/bson/BsonType;" (.ref z_NULL) := q309.ext E327
      have q339 : Exa Z h327 z_NULL "com/example/mimosa/mimosa/bson/BsonType" := q310.ext E327
      have q340 : Sta Z h327 "com/example/mimosa/mimosa/bson/BsonType" "STRING" "Lcom/example/mimosa/mimosa/bson/BsonType;" (.ref z_STRING) := q311.ext E327
      have q341 : Exa Z h327 z_STRING "com/example/mimosa/mimosa/bson/BsonType" := q312.ext E327
      have q342 : Sta Z h327 "com/example/mimosa/mimosa/bson/BsonType" "DOCUMENT" "Lcom/example/mimosa/mimosa/bson/BsonType;" (.ref z_DOCUMENT) := q313.ext E327
      have q343 : Exa Z h327 z_DOCUMENT "com/example/mimosa/mimosa/bson/BsonType" := q314.ext E327
      have q344 : Sta Z h327 "com/example/mimosa/mimosa/bson/BsonType" "INT32" "Lcom/example/mimosa/mimosa/bson/BsonType;" (.ref z_INT32) := q315.ext E327
      have q345 : Exa Z h327 z_INT32 "com/example/mimosa/mimosa/bson/BsonType" := q316.ext E327
      have q346 : Sta Z h327 "java/lang/String" "COMPACT_STRINGS" "Z" (.int zc) := q317.ext E327
      have q347 : Arv Z h327 b5 k5 .byte (4 : Int32) [(.int (nar .byte (i1.toInt8.toInt32))), (.int (nar .byte (i2.toInt8.toInt32))), (.int (nar .byte (i3.toInt8.toInt32))), (.int (nar .byte ((i1 >>> ((8 : Int32) &&& 31)).toInt8.toInt32)))] (.int (0 : Int32)) := q318.ext E327
      have q348 : Arv Z h327 b82 k82 .byte (4 : Int32) [(.int (nar .byte (i1.toInt8.toInt32))), (.int (nar .byte (i2.toInt8.toInt32))), (.int (nar .byte (i3.toInt8.toInt32))), (.int (nar .byte ((i1 >>> ((8 : Int32) &&& 31)).toInt8.toInt32)))] (.int (0 : Int32)) := q319.ext E327
      have q349 : Arv Z h327 b165 k165 .byte (2 : Int32) [(.int (nar .byte ((i2 ^^^ (1 : Int32)).toInt8.toInt32))), (.int (nar .byte (i3.toInt8.toInt32)))] (.int (0 : Int32)) := q320.ext E327
      have q350 : Arv Z h327 b220 k220 .char (1 : Int32) [(.int (nar .char (((i6 >>> ((2 : Int32) &&& 31)) &&& (255 : Int32)).toUInt32.toUInt16.toUInt32.toInt32)))] (.int (0 : Int32)) := q321.ext E327
      have q351 : Exa Z h327 b261 "java/lang/String" := q290.ext E327
      have Z352 : n0 ≤ h327.size := Nat.le_trans Z322 E327.1
      have q353 : Fld Z h327 b327 "com/example/mimosa/mimosa/bson/BsonElement" "source" "[B" .null := D327 (Or.inr (hw _ (List.mem_of_getElem? (i := 45) rfl))) (ty := (.array .byte)) (by decide)
      have q354 : Fld Z h327 b327 "com/example/mimosa/mimosa/bson/BsonElement" "name" "Ljava/lang/String;" .null := D327 (Or.inr (hw _ (List.mem_of_getElem? (i := 47) rfl))) (ty := (.object "java/lang/String")) (by decide)
      have q355 : Fld Z h327 b327 "com/example/mimosa/mimosa/bson/BsonElement" "type" "Lcom/example/mimosa/mimosa/bson/BsonType;" .null := D327 (Or.inr (hw _ (List.mem_of_getElem? (i := 49) rfl))) (ty := (.object "com/example/mimosa/mimosa/bson/BsonType")) (by decide)
      have q356 : Fld Z h327 b327 "com/example/mimosa/mimosa/bson/BsonElement" "valueOffset" "I" (.int (0 : Int32)) := D327 (Or.inr (hw _ (List.mem_of_getElem? (i := 51) rfl))) (ty := .int) (by decide)
      have q357 : Fld Z h327 b327 "com/example/mimosa/mimosa/bson/BsonElement" "valueLength" "I" (.int (0 : Int32)) := D327 (Or.inr (hw _ (List.mem_of_getElem? (i := 53) rfl))) (ty := .int) (by decide)
      refine Go.of st327 ?_
      show Go p e below Qo T327 (mkF m 146 #[.val (.int i1), .val (.int i2), .val (.int i3), .val (.int i4), .val (.int i5), .val (.int i6), .val (.int v7_2), .val (.ref b5), .val (.ref b82), .val (.ref b165), .val (.ref b220), .val (.ref b261), .val (.ref (F7 i6 z_NULL z_STRING z_DOCUMENT z_INT32)), .unset, .unset, .unset, .unset, .unset] [(.ref b327)])
      refine Go.of (fun t k => XS.dup X327.here hx rfl (hb hby at_146) rfl rfl k) ?_
      show Go p e below Qo T327 (mkF m 147 #[.val (.int i1), .val (.int i2), .val (.int i3), .val (.int i4), .val (.int i5), .val (.int i6), .val (.int v7_2), .val (.ref b5), .val (.ref b82), .val (.ref b165), .val (.ref b220), .val (.ref b261), .val (.ref (F7 i6 z_NULL z_STRING z_DOCUMENT z_INT32)), .unset, .unset, .unset, .unset, .unset] [(.ref b327), (.ref b327)])
      refine Go.of (fun t k => XS.aload X327.here hx rfl (hb hby at_147) rfl rfl k) ?_
      show Go p e below Qo T327 (mkF m 149 #[.val (.int i1), .val (.int i2), .val (.int i3), .val (.int i4), .val (.int i5), .val (.int i6), .val (.int v7_2), .val (.ref b5), .val (.ref b82), .val (.ref b165), .val (.ref b220), .val (.ref b261), .val (.ref (F7 i6 z_NULL z_STRING z_DOCUMENT z_INT32)), .unset, .unset, .unset, .unset, .unset] [(.ref b5), (.ref b327), (.ref b327)])
      refine Go.of (fun t k => XS.aload X327.here hx rfl (hb hby at_149) rfl rfl k) ?_
      show Go p e below Qo T327 (mkF m 151 #[.val (.int i1), .val (.int i2), .val (.int i3), .val (.int i4), .val (.int i5), .val (.int i6), .val (.int v7_2), .val (.ref b5), .val (.ref b82), .val (.ref b165), .val (.ref b220), .val (.ref b261), .val (.ref (F7 i6 z_NULL z_STRING z_DOCUMENT z_INT32)), .unset, .unset, .unset, .unset, .unset] [(.ref b261), (.ref b5), (.ref b327), (.ref b327)])
      refine Go.of (fun t k => XS.aload X327.here hx rfl (hb hby at_151) rfl rfl k) ?_
      show Go p e below Qo T327 (mkF m 153 #[.val (.int i1), .val (.int i2), .val (.int i3), .val (.int i4), .val (.int i5), .val (.int i6), .val (.int v7_2), .val (.ref b5), .val (.ref b82), .val (.ref b165), .val (.ref b220), .val (.ref b261), .val (.ref (F7 i6 z_NULL z_STRING z_DOCUMENT z_INT32)), .unset, .unset, .unset, .unset, .unset] [(.ref (F7 i6 z_NULL z_STRING z_DOCUMENT z_INT32)), (.ref b261), (.ref b5), (.ref b327), (.ref b327)])
      refine Go.of (fun t k => XS.iloadN X327.here hx rfl (hb hby at_153) rfl  k) ?_
      show Go p e below Qo T327 (mkF m 154 #[.val (.int i1), .val (.int i2), .val (.int i3), .val (.int i4), .val (.int i5), .val (.int i6), .val (.int v7_2), .val (.ref b5), .val (.ref b82), .val (.ref b165), .val (.ref b220), .val (.ref b261), .val (.ref (F7 i6 z_NULL z_STRING z_DOCUMENT z_INT32)), .unset, .unset, .unset, .unset, .unset] [(.int i4), (.ref (F7 i6 z_NULL z_STRING z_DOCUMENT z_INT32)), (.ref b261), (.ref b5), (.ref b327), (.ref b327)])
      refine Go.of (fun t k => XS.iload X327.here hx rfl (hb hby at_154) rfl  k) ?_
      show Go p e below Qo T327 (mkF m 156 #[.val (.int i1), .val (.int i2), .val (.int i3), .val (.int i4), .val (.int i5), .val (.int i6), .val (.int v7_2), .val (.ref b5), .val (.ref b82), .val (.ref b165), .val (.ref b220), .val (.ref b261), .val (.ref (F7 i6 z_NULL z_STRING z_DOCUMENT z_INT32)), .unset, .unset, .unset, .unset, .unset] [(.int i5), (.int i4), (.ref (F7 i6 z_NULL z_STRING z_DOCUMENT z_INT32)), (.ref b261), (.ref b5), (.ref b327), (.ref b327)])
      obtain ⟨_, _, ⟨T358, L358, k358, n358⟩, -, X358, ⟨Lc358, hQ358, l358, y358, z358⟩, st358⟩ := X327.specialBack hx (y := (⟨"com/example/mimosa/mimosa/bson/BsonElement", "<init>", "([BLjava/lang/String;Lcom/example/mimosa/mimosa/bson/BsonType;II)V"⟩ : MethodName)) rfl hown (mvT hZ (hw _ (List.mem_of_getElem? (i := 40) rfl))) (mvT hZ (hw _ (List.mem_of_getElem? (i := 41) rfl))) (mvT hZ (hw _ (List.mem_of_getElem? (i := 42) rfl))) (by decide) (backOf (W := 1) (rm8 l Z a0 hw [] b327 b5 b261 (F7 i6 z_NULL z_STRING z_DOCUMENT z_INT32) i4 i5 .null .null .null (.int (0 : Int32)) (.int (0 : Int32)) h327 n0 Z352 A327 q353 q354 q355 q356 q357 g337) hZ (hw _ (List.mem_of_getElem? (i := 42) rfl)) (hw _ (List.mem_of_getElem? (i := 39) rfl)) (by decide) (by decide)) (g := (mkF m 156 #[.val (.int i1), .val (.int i2), .val (.int i3), .val (.int i4), .val (.int i5), .val (.int i6), .val (.int v7_2), .val (.ref b5), .val (.ref b82), .val (.ref b165), .val (.ref b220), .val (.ref b261), .val (.ref (F7 i6 z_NULL z_STRING z_DOCUMENT z_INT32)), .unset, .unset, .unset, .unset, .unset] [(.int i5), (.int i4), (.ref (F7 i6 z_NULL z_STRING z_DOCUMENT z_INT32)), (.ref b261), (.ref b5), (.ref b327), (.ref b327)])) rfl (by rw [hml]; rfl) (Steps.refl _) (a := b327) (argsL := [(.ref b5), (.ref b261), (.ref (F7 i6 z_NULL z_STRING z_DOCUMENT z_INT32)), (.int i4), (.int i5)]) (rest := [(.ref b327)]) (lenOf pd_2 rfl) rfl (by show 2 * 0 + _ ≤ _; exact Nat.le_of_eq rfl) (hb hby at_156) (fun _ _ => ⟨rfl, e327, (by decide : 7 + 0 ≤ _), (by decide : 21 + 0 ≤ _)⟩)
      dsimp only [Pt.U, Pt.locs, Pt.cells, Pt.slots] at X358 l358 y358 z358 st358 hQ358
      subst l358 y358 z358
      obtain ⟨rfl, N359, Kc360, q361, q362, q363, q364, q365, q366⟩ := hQ358
      have N367 := Fr.app N326 N359
      have q368 : Sta Z T358.heap "com/example/mimosa/mimosa/bson/BsonType" "NULL" "Lcom/example/mimosa/mimosa/bson/BsonType;" (.ref z_NULL) := own_staKeep q338 Kc360 (allS (own_plainE A327) all0)
      have q369 : Exa Z T358.heap z_NULL "com/example/mimosa/mimosa/bson/BsonType" := q339.keep Kc360
      have q370 : Sta Z T358.heap "com/example/mimosa/mimosa/bson/BsonType" "STRING" "Lcom/example/mimosa/mimosa/bson/BsonType;" (.ref z_STRING) := own_staKeep q340 Kc360 (allS (own_plainE A327) all0)
      have q371 : Exa Z T358.heap z_STRING "com/example/mimosa/mimosa/bson/BsonType" := q341.keep Kc360
      have q372 : Sta Z T358.heap "com/example/mimosa/mimosa/bson/BsonType" "DOCUMENT" "Lcom/example/mimosa/mimosa/bson/BsonType;" (.ref z_DOCUMENT) := own_staKeep q342 Kc360 (allS (own_plainE A327) all0)
      have q373 : Exa Z T358.heap z_DOCUMENT "com/example/mimosa/mimosa/bson/BsonType" := q343.keep Kc360
      have q374 : Sta Z T358.heap "com/example/mimosa/mimosa/bson/BsonType" "INT32" "Lcom/example/mimosa/mimosa/bson/BsonType;" (.ref z_INT32) := own_staKeep q344 Kc360 (allS (own_plainE A327) all0)
      have q375 : Exa Z T358.heap z_INT32 "com/example/mimosa/mimosa/bson/BsonType" := q345.keep Kc360
      have q376 : Sta Z T358.heap "java/lang/String" "COMPACT_STRINGS" "Z" (.int zc) := own_staKeep q346 Kc360 (allS (own_plainE A327) all0)
      have q377 : Arv Z T358.heap b5 k5 .byte (4 : Int32) [(.int (nar .byte (i1.toInt8.toInt32))), (.int (nar .byte (i2.toInt8.toInt32))), (.int (nar .byte (i3.toInt8.toInt32))), (.int (nar .byte ((i1 >>> ((8 : Int32) &&& 31)).toInt8.toInt32)))] (.int (0 : Int32)) := q347.keep Kc360 (ninS ne332 nin0)
      have q378 : Arv Z T358.heap b82 k82 .byte (4 : Int32) [(.int (nar .byte (i1.toInt8.toInt32))), (.int (nar .byte (i2.toInt8.toInt32))), (.int (nar .byte (i3.toInt8.toInt32))), (.int (nar .byte ((i1 >>> ((8 : Int32) &&& 31)).toInt8.toInt32)))] (.int (0 : Int32)) := q348.keep Kc360 (ninS ne333 nin0)
      have q379 : Arv Z T358.heap b165 k165 .byte (2 : Int32) [(.int (nar .byte ((i2 ^^^ (1 : Int32)).toInt8.toInt32))), (.int (nar .byte (i3.toInt8.toInt32)))] (.int (0 : Int32)) := q349.keep Kc360 (ninS ne334 nin0)
      have q380 : Arv Z T358.heap b220 k220 .char (1 : Int32) [(.int (nar .char (((i6 >>> ((2 : Int32) &&& 31)) &&& (255 : Int32)).toUInt32.toUInt16.toUInt32.toInt32)))] (.int (0 : Int32)) := q350.keep Kc360 (ninS ne335 nin0)
      have q381 : Exa Z T358.heap b261 "java/lang/String" := q351.keep Kc360
      have Z382 : n0 ≤ T358.heap.size := Nat.le_trans Z352 Kc360.1
      refine Go.via st358 ?_
      show Go p e below Qo T358 (mkF m 159 #[.val (.int i1), .val (.int i2), .val (.int i3), .val (.int i4), .val (.int i5), .val (.int i6), .val (.int v7_2), .val (.ref b5), .val (.ref b82), .val (.ref b165), .val (.ref b220), .val (.ref b261), .val (.ref (F7 i6 z_NULL z_STRING z_DOCUMENT z_INT32)), .unset, .unset, .unset, .unset, .unset] [(.ref b327)])
      refine Go.of (fun t k => XS.astore X358.here hx rfl (hb hby at_159) rfl rfl (l' := #[.val (.int i1), .val (.int i2), .val (.int i3), .val (.int i4), .val (.int i5), .val (.int i6), .val (.int v7_2), .val (.ref b5), .val (.ref b82), .val (.ref b165), .val (.ref b220), .val (.ref b261), .val (.ref (F7 i6 z_NULL z_STRING z_DOCUMENT z_INT32)), .val (.ref b327), .unset, .unset, .unset, .unset]) rfl k) ?_
      show Go p e below Qo T358 (mkF m 161 #[.val (.int i1), .val (.int i2), .val (.int i3), .val (.int i4), .val (.int i5), .val (.int i6), .val (.int v7_2), .val (.ref b5), .val (.ref b82), .val (.ref b165), .val (.ref b220), .val (.ref b261), .val (.ref (F7 i6 z_NULL z_STRING z_DOCUMENT z_INT32)), .val (.ref b327), .unset, .unset, .unset, .unset] [])
      refine Go.of (fun t k => XS.aload X358.here hx rfl (hb hby at_161) rfl rfl k) ?_
      show Go p e below Qo T358 (mkF m 163 #[.val (.int i1), .val (.int i2), .val (.int i3), .val (.int i4), .val (.int i5), .val (.int i6), .val (.int v7_2), .val (.ref b5), .val (.ref b82), .val (.ref b165), .val (.ref b220), .val (.ref b261), .val (.ref (F7 i6 z_NULL z_STRING z_DOCUMENT z_INT32)), .val (.ref b327), .unset, .unset, .unset, .unset] [(.ref b327)])
      refine Go.of (fun t k => XS.aload X358.here hx rfl (hb hby at_163) rfl rfl k) ?_
      show Go p e below Qo T358 (mkF m 165 #[.val (.int i1), .val (.int i2), .val (.int i3), .val (.int i4), .val (.int i5), .val (.int i6), .val (.int v7_2), .val (.ref b5), .val (.ref b82), .val (.ref b165), .val (.ref b220), .val (.ref b261), .val (.ref (F7 i6 z_NULL z_STRING z_DOCUMENT z_INT32)), .val (.ref b327), .unset, .unset, .unset, .unset] [(.ref b5), (.ref b327)])
      obtain ⟨ciq384, kiq384, iq384a, iq384b, iq384c⟩ := isOf hZ rfl q361
      obtain ⟨_, _, ⟨T383, L383, k383, n383⟩, -, X383, ⟨Lc383, hQ383, l383, y383, z383⟩, st383⟩ := X358.virtualBack hx (y := (⟨"com/example/mimosa/mimosa/bson/BsonElement", "standsIn", "([B)Z"⟩ : MethodName)) (z := (⟨"com/example/mimosa/mimosa/bson/BsonElement", "standsIn", "([B)Z"⟩ : MethodName)) hown (mvT hZ (hw _ (List.mem_of_getElem? (i := 54) rfl))) (mvT hZ (hw _ (List.mem_of_getElem? (i := 55) rfl))) (notFace_of_selects (args := #[]) (mvT hZ (hw _ (List.mem_of_getElem? (i := 57) rfl)))) (mvT hZ (hw _ (List.mem_of_getElem? (i := 57) rfl))) (mvT hZ (hw _ (List.mem_of_getElem? (i := 56) rfl))) (by decide) (backOf (W := 0) (rm91 l Z a0 hw [] b327 b5 T358.heap n0 Z382 q362) hZ (hw _ (List.mem_of_getElem? (i := 58) rfl)) (hw _ (List.mem_of_getElem? (i := 39) rfl)) (by decide) (by decide)) iq384a iq384c (g := (mkF m 165 #[.val (.int i1), .val (.int i2), .val (.int i3), .val (.int i4), .val (.int i5), .val (.int i6), .val (.int v7_2), .val (.ref b5), .val (.ref b82), .val (.ref b165), .val (.ref b220), .val (.ref b261), .val (.ref (F7 i6 z_NULL z_STRING z_DOCUMENT z_INT32)), .val (.ref b327), .unset, .unset, .unset, .unset] [(.ref b5), (.ref b327)])) rfl (by rw [hml]; rfl) (Steps.refl _) (argsL := [(.ref b5)]) (rest := []) (lenOf pd_3 rfl) rfl (by show 2 * 0 + _ ≤ _; exact Nat.le_of_eq rfl) (hb hby at_165) (fun _ _ => ⟨rfl, rfl, (by decide : 7 + 0 ≤ _), (by decide : 21 + 0 ≤ _)⟩)
      dsimp only [Pt.U, Pt.locs, Pt.cells, Pt.slots] at X383 l383 y383 z383 st383 hQ383
      subst l383 y383 z383
      obtain ⟨rfl, N385, eh386⟩ := hQ383
      have N387 := Fr.app N367 N385
      refine Go.via st383 ?_
      show Go p e below Qo T383 (mkF m 168 #[.val (.int i1), .val (.int i2), .val (.int i3), .val (.int i4), .val (.int i5), .val (.int i6), .val (.int v7_2), .val (.ref b5), .val (.ref b82), .val (.ref b165), .val (.ref b220), .val (.ref b261), .val (.ref (F7 i6 z_NULL z_STRING z_DOCUMENT z_INT32)), .val (.ref b327), .unset, .unset, .unset, .unset] [(.int (1 : Int32))])
      refine Go.of (fun t k => XS.istore X383.here hx rfl (hb hby at_168) rfl (l' := #[.val (.int i1), .val (.int i2), .val (.int i3), .val (.int i4), .val (.int i5), .val (.int i6), .val (.int v7_2), .val (.ref b5), .val (.ref b82), .val (.ref b165), .val (.ref b220), .val (.ref b261), .val (.ref (F7 i6 z_NULL z_STRING z_DOCUMENT z_INT32)), .val (.ref b327), .val (.int (1 : Int32)), .unset, .unset, .unset]) rfl k) ?_
      show Go p e below Qo T383 (mkF m 170 #[.val (.int i1), .val (.int i2), .val (.int i3), .val (.int i4), .val (.int i5), .val (.int i6), .val (.int v7_2), .val (.ref b5), .val (.ref b82), .val (.ref b165), .val (.ref b220), .val (.ref b261), .val (.ref (F7 i6 z_NULL z_STRING z_DOCUMENT z_INT32)), .val (.ref b327), .val (.int (1 : Int32)), .unset, .unset, .unset] [])
      refine Go.of (fun t k => XS.aload X383.here hx rfl (hb hby at_170) rfl rfl k) ?_
      show Go p e below Qo T383 (mkF m 172 #[.val (.int i1), .val (.int i2), .val (.int i3), .val (.int i4), .val (.int i5), .val (.int i6), .val (.int v7_2), .val (.ref b5), .val (.ref b82), .val (.ref b165), .val (.ref b220), .val (.ref b261), .val (.ref (F7 i6 z_NULL z_STRING z_DOCUMENT z_INT32)), .val (.ref b327), .val (.int (1 : Int32)), .unset, .unset, .unset] [(.ref b327)])
      refine Go.of (fun t k => XS.aload X383.here hx rfl (hb hby at_172) rfl rfl k) ?_
      show Go p e below Qo T383 (mkF m 174 #[.val (.int i1), .val (.int i2), .val (.int i3), .val (.int i4), .val (.int i5), .val (.int i6), .val (.int v7_2), .val (.ref b5), .val (.ref b82), .val (.ref b165), .val (.ref b220), .val (.ref b261), .val (.ref (F7 i6 z_NULL z_STRING z_DOCUMENT z_INT32)), .val (.ref b327), .val (.int (1 : Int32)), .unset, .unset, .unset] [(.ref b82), (.ref b327)])
      obtain ⟨ciq389, kiq389, iq389a, iq389b, iq389c⟩ := isOf hZ eh386 q361
      obtain ⟨_, _, ⟨T388, L388, k388, n388⟩, -, X388, ⟨Lc388, hQ388, l388, y388, z388⟩, st388⟩ := X383.virtualBack hx (y := (⟨"com/example/mimosa/mimosa/bson/BsonElement", "standsIn", "([B)Z"⟩ : MethodName)) (z := (⟨"com/example/mimosa/mimosa/bson/BsonElement", "standsIn", "([B)Z"⟩ : MethodName)) hown (mvT hZ (hw _ (List.mem_of_getElem? (i := 54) rfl))) (mvT hZ (hw _ (List.mem_of_getElem? (i := 55) rfl))) (notFace_of_selects (args := #[]) (mvT hZ (hw _ (List.mem_of_getElem? (i := 57) rfl)))) (mvT hZ (hw _ (List.mem_of_getElem? (i := 57) rfl))) (mvT hZ (hw _ (List.mem_of_getElem? (i := 56) rfl))) (by decide) (backOf (W := 0) (rm92 l Z a0 hw [] b327 b82 b5 T358.heap n0 Z382 q362 ne87) hZ (hw _ (List.mem_of_getElem? (i := 58) rfl)) (hw _ (List.mem_of_getElem? (i := 39) rfl)) (by decide) (by decide)) iq389a iq389c (g := (mkF m 174 #[.val (.int i1), .val (.int i2), .val (.int i3), .val (.int i4), .val (.int i5), .val (.int i6), .val (.int v7_2), .val (.ref b5), .val (.ref b82), .val (.ref b165), .val (.ref b220), .val (.ref b261), .val (.ref (F7 i6 z_NULL z_STRING z_DOCUMENT z_INT32)), .val (.ref b327), .val (.int (1 : Int32)), .unset, .unset, .unset] [(.ref b82), (.ref b327)])) rfl (by rw [hml]; rfl) (Steps.refl _) (argsL := [(.ref b82)]) (rest := []) (lenOf pd_3 rfl) rfl (by show 2 * 0 + _ ≤ _; exact Nat.le_of_eq rfl) (hb hby at_174) (fun _ _ => ⟨rfl, eh386, (by decide : 7 + 0 ≤ _), (by decide : 21 + 0 ≤ _)⟩)
      dsimp only [Pt.U, Pt.locs, Pt.cells, Pt.slots] at X388 l388 y388 z388 st388 hQ388
      subst l388 y388 z388
      obtain ⟨rfl, N390, eh391⟩ := hQ388
      have N392 := Fr.app N387 N390
      refine Go.via st388 ?_
      show Go p e below Qo T388 (mkF m 177 #[.val (.int i1), .val (.int i2), .val (.int i3), .val (.int i4), .val (.int i5), .val (.int i6), .val (.int v7_2), .val (.ref b5), .val (.ref b82), .val (.ref b165), .val (.ref b220), .val (.ref b261), .val (.ref (F7 i6 z_NULL z_STRING z_DOCUMENT z_INT32)), .val (.ref b327), .val (.int (1 : Int32)), .unset, .unset, .unset] [(.int (0 : Int32))])
      refine Go.of (fun t k => XS.istore X388.here hx rfl (hb hby at_177) rfl (l' := #[.val (.int i1), .val (.int i2), .val (.int i3), .val (.int i4), .val (.int i5), .val (.int i6), .val (.int v7_2), .val (.ref b5), .val (.ref b82), .val (.ref b165), .val (.ref b220), .val (.ref b261), .val (.ref (F7 i6 z_NULL z_STRING z_DOCUMENT z_INT32)), .val (.ref b327), .val (.int (1 : Int32)), .val (.int (0 : Int32)), .unset, .unset]) rfl k) ?_
      show Go p e below Qo T388 (mkF m 179 #[.val (.int i1), .val (.int i2), .val (.int i3), .val (.int i4), .val (.int i5), .val (.int i6), .val (.int v7_2), .val (.ref b5), .val (.ref b82), .val (.ref b165), .val (.ref b220), .val (.ref b261), .val (.ref (F7 i6 z_NULL z_STRING z_DOCUMENT z_INT32)), .val (.ref b327), .val (.int (1 : Int32)), .val (.int (0 : Int32)), .unset, .unset] [])
      refine Go.of (fun t k => XS.aload X388.here hx rfl (hb hby at_179) rfl rfl k) ?_
      show Go p e below Qo T388 (mkF m 181 #[.val (.int i1), .val (.int i2), .val (.int i3), .val (.int i4), .val (.int i5), .val (.int i6), .val (.int v7_2), .val (.ref b5), .val (.ref b82), .val (.ref b165), .val (.ref b220), .val (.ref b261), .val (.ref (F7 i6 z_NULL z_STRING z_DOCUMENT z_INT32)), .val (.ref b327), .val (.int (1 : Int32)), .val (.int (0 : Int32)), .unset, .unset] [(.ref b327)])
      refine Go.of (fun t k => XS.aload X388.here hx rfl (hb hby at_181) rfl rfl k) ?_
      show Go p e below Qo T388 (mkF m 183 #[.val (.int i1), .val (.int i2), .val (.int i3), .val (.int i4), .val (.int i5), .val (.int i6), .val (.int v7_2), .val (.ref b5), .val (.ref b82), .val (.ref b165), .val (.ref b220), .val (.ref b261), .val (.ref (F7 i6 z_NULL z_STRING z_DOCUMENT z_INT32)), .val (.ref b327), .val (.int (1 : Int32)), .val (.int (0 : Int32)), .unset, .unset] [(.ref b165), (.ref b327)])
      obtain ⟨ciq394, kiq394, iq394a, iq394b, iq394c⟩ := isOf hZ eh391 q361
      obtain ⟨_, _, ⟨T393, L393, k393, n393⟩, -, X393, ⟨Lc393, hQ393, l393, y393, z393⟩, st393⟩ := X388.virtualBack hx (y := (⟨"com/example/mimosa/mimosa/bson/BsonElement", "standsIn", "([B)Z"⟩ : MethodName)) (z := (⟨"com/example/mimosa/mimosa/bson/BsonElement", "standsIn", "([B)Z"⟩ : MethodName)) hown (mvT hZ (hw _ (List.mem_of_getElem? (i := 54) rfl))) (mvT hZ (hw _ (List.mem_of_getElem? (i := 55) rfl))) (notFace_of_selects (args := #[]) (mvT hZ (hw _ (List.mem_of_getElem? (i := 57) rfl)))) (mvT hZ (hw _ (List.mem_of_getElem? (i := 57) rfl))) (mvT hZ (hw _ (List.mem_of_getElem? (i := 56) rfl))) (by decide) (backOf (W := 0) (rm92 l Z a0 hw [] b327 b165 b5 T358.heap n0 Z382 q362 ne170) hZ (hw _ (List.mem_of_getElem? (i := 58) rfl)) (hw _ (List.mem_of_getElem? (i := 39) rfl)) (by decide) (by decide)) iq394a iq394c (g := (mkF m 183 #[.val (.int i1), .val (.int i2), .val (.int i3), .val (.int i4), .val (.int i5), .val (.int i6), .val (.int v7_2), .val (.ref b5), .val (.ref b82), .val (.ref b165), .val (.ref b220), .val (.ref b261), .val (.ref (F7 i6 z_NULL z_STRING z_DOCUMENT z_INT32)), .val (.ref b327), .val (.int (1 : Int32)), .val (.int (0 : Int32)), .unset, .unset] [(.ref b165), (.ref b327)])) rfl (by rw [hml]; rfl) (Steps.refl _) (argsL := [(.ref b165)]) (rest := []) (lenOf pd_3 rfl) rfl (by show 2 * 0 + _ ≤ _; exact Nat.le_of_eq rfl) (hb hby at_183) (fun _ _ => ⟨rfl, eh391, (by decide : 7 + 0 ≤ _), (by decide : 21 + 0 ≤ _)⟩)
      dsimp only [Pt.U, Pt.locs, Pt.cells, Pt.slots] at X393 l393 y393 z393 st393 hQ393
      subst l393 y393 z393
      obtain ⟨rfl, N395, eh396⟩ := hQ393
      have N397 := Fr.app N392 N395
      refine Go.via st393 ?_
      show Go p e below Qo T393 (mkF m 186 #[.val (.int i1), .val (.int i2), .val (.int i3), .val (.int i4), .val (.int i5), .val (.int i6), .val (.int v7_2), .val (.ref b5), .val (.ref b82), .val (.ref b165), .val (.ref b220), .val (.ref b261), .val (.ref (F7 i6 z_NULL z_STRING z_DOCUMENT z_INT32)), .val (.ref b327), .val (.int (1 : Int32)), .val (.int (0 : Int32)), .unset, .unset] [(.int (0 : Int32))])
      refine Go.of (fun t k => XS.istore X393.here hx rfl (hb hby at_186) rfl (l' := #[.val (.int i1), .val (.int i2), .val (.int i3), .val (.int i4), .val (.int i5), .val (.int i6), .val (.int v7_2), .val (.ref b5), .val (.ref b82), .val (.ref b165), .val (.ref b220), .val (.ref b261), .val (.ref (F7 i6 z_NULL z_STRING z_DOCUMENT z_INT32)), .val (.ref b327), .val (.int (1 : Int32)), .val (.int (0 : Int32)), .val (.int (0 : Int32)), .unset]) rfl k) ?_
      show Go p e below Qo T393 (mkF m 188 #[.val (.int i1), .val (.int i2), .val (.int i3), .val (.int i4), .val (.int i5), .val (.int i6), .val (.int v7_2), .val (.ref b5), .val (.ref b82), .val (.ref b165), .val (.ref b220), .val (.ref b261), .val (.ref (F7 i6 z_NULL z_STRING z_DOCUMENT z_INT32)), .val (.ref b327), .val (.int (1 : Int32)), .val (.int (0 : Int32)), .val (.int (0 : Int32)), .unset] [])
      refine Go.of (fun t k => XS.aload X393.here hx rfl (hb hby at_188) rfl rfl k) ?_
      show Go p e below Qo T393 (mkF m 190 #[.val (.int i1), .val (.int i2), .val (.int i3), .val (.int i4), .val (.int i5), .val (.int i6), .val (.int v7_2), .val (.ref b5), .val (.ref b82), .val (.ref b165), .val (.ref b220), .val (.ref b261), .val (.ref (F7 i6 z_NULL z_STRING z_DOCUMENT z_INT32)), .val (.ref b327), .val (.int (1 : Int32)), .val (.int (0 : Int32)), .val (.int (0 : Int32)), .unset] [(.ref b327)])
      refine Go.of (fun t k => XS.aconstNull X393.here hx rfl (hb hby at_190) k) ?_
      show Go p e below Qo T393 (mkF m 191 #[.val (.int i1), .val (.int i2), .val (.int i3), .val (.int i4), .val (.int i5), .val (.int i6), .val (.int v7_2), .val (.ref b5), .val (.ref b82), .val (.ref b165), .val (.ref b220), .val (.ref b261), .val (.ref (F7 i6 z_NULL z_STRING z_DOCUMENT z_INT32)), .val (.ref b327), .val (.int (1 : Int32)), .val (.int (0 : Int32)), .val (.int (0 : Int32)), .unset] [.null, (.ref b327)])
      obtain ⟨ciq399, kiq399, iq399a, iq399b, iq399c⟩ := isOf hZ eh396 q361
      obtain ⟨_, _, ⟨T398, L398, k398, n398⟩, -, X398, ⟨Lc398, hQ398, l398, y398, z398⟩, st398⟩ := X393.virtualBack hx (y := (⟨"com/example/mimosa/mimosa/bson/BsonElement", "standsIn", "([B)Z"⟩ : MethodName)) (z := (⟨"com/example/mimosa/mimosa/bson/BsonElement", "standsIn", "([B)Z"⟩ : MethodName)) hown (mvT hZ (hw _ (List.mem_of_getElem? (i := 54) rfl))) (mvT hZ (hw _ (List.mem_of_getElem? (i := 55) rfl))) (notFace_of_selects (args := #[]) (mvT hZ (hw _ (List.mem_of_getElem? (i := 57) rfl)))) (mvT hZ (hw _ (List.mem_of_getElem? (i := 57) rfl))) (mvT hZ (hw _ (List.mem_of_getElem? (i := 56) rfl))) (by decide) (backOf (W := 0) (rm93 l Z a0 hw [] b327 b5 T358.heap n0 Z382 q362) hZ (hw _ (List.mem_of_getElem? (i := 58) rfl)) (hw _ (List.mem_of_getElem? (i := 39) rfl)) (by decide) (by decide)) iq399a iq399c (g := (mkF m 191 #[.val (.int i1), .val (.int i2), .val (.int i3), .val (.int i4), .val (.int i5), .val (.int i6), .val (.int v7_2), .val (.ref b5), .val (.ref b82), .val (.ref b165), .val (.ref b220), .val (.ref b261), .val (.ref (F7 i6 z_NULL z_STRING z_DOCUMENT z_INT32)), .val (.ref b327), .val (.int (1 : Int32)), .val (.int (0 : Int32)), .val (.int (0 : Int32)), .unset] [.null, (.ref b327)])) rfl (by rw [hml]; rfl) (Steps.refl _) (argsL := [.null]) (rest := []) (lenOf pd_3 rfl) rfl (by show 2 * 0 + _ ≤ _; exact Nat.le_of_eq rfl) (hb hby at_191) (fun _ _ => ⟨rfl, eh396, (by decide : 7 + 0 ≤ _), (by decide : 21 + 0 ≤ _)⟩)
      dsimp only [Pt.U, Pt.locs, Pt.cells, Pt.slots] at X398 l398 y398 z398 st398 hQ398
      subst l398 y398 z398
      obtain ⟨rfl, N400, eh401⟩ := hQ398
      have N402 := Fr.app N397 N400
      refine Go.via st398 ?_
      show Go p e below Qo T398 (mkF m 194 #[.val (.int i1), .val (.int i2), .val (.int i3), .val (.int i4), .val (.int i5), .val (.int i6), .val (.int v7_2), .val (.ref b5), .val (.ref b82), .val (.ref b165), .val (.ref b220), .val (.ref b261), .val (.ref (F7 i6 z_NULL z_STRING z_DOCUMENT z_INT32)), .val (.ref b327), .val (.int (1 : Int32)), .val (.int (0 : Int32)), .val (.int (0 : Int32)), .unset] [(.int (0 : Int32))])
      refine Go.of (fun t k => XS.istore X398.here hx rfl (hb hby at_194) rfl (l' := #[.val (.int i1), .val (.int i2), .val (.int i3), .val (.int i4), .val (.int i5), .val (.int i6), .val (.int v7_2), .val (.ref b5), .val (.ref b82), .val (.ref b165), .val (.ref b220), .val (.ref b261), .val (.ref (F7 i6 z_NULL z_STRING z_DOCUMENT z_INT32)), .val (.ref b327), .val (.int (1 : Int32)), .val (.int (0 : Int32)), .val (.int (0 : Int32)), .val (.int (0 : Int32))]) rfl k) ?_
      show Go p e below Qo T398 (mkF m 196 #[.val (.int i1), .val (.int i2), .val (.int i3), .val (.int i4), .val (.int i5), .val (.int i6), .val (.int v7_2), .val (.ref b5), .val (.ref b82), .val (.ref b165), .val (.ref b220), .val (.ref b261), .val (.ref (F7 i6 z_NULL z_STRING z_DOCUMENT z_INT32)), .val (.ref b327), .val (.int (1 : Int32)), .val (.int (0 : Int32)), .val (.int (0 : Int32)), .val (.int (0 : Int32))] [])
      refine Go.of (fun t k => XS.iload X398.here hx rfl (hb hby at_196) rfl  k) ?_
      show Go p e below Qo T398 (mkF m 198 #[.val (.int i1), .val (.int i2), .val (.int i3), .val (.int i4), .val (.int i5), .val (.int i6), .val (.int v7_2), .val (.ref b5), .val (.ref b82), .val (.ref b165), .val (.ref b220), .val (.ref b261), .val (.ref (F7 i6 z_NULL z_STRING z_DOCUMENT z_INT32)), .val (.ref b327), .val (.int (1 : Int32)), .val (.int (0 : Int32)), .val (.int (0 : Int32)), .val (.int (0 : Int32))] [(.int (1 : Int32))])
      refine Go.of (fun t k => XS.ifNo X398.here hx rfl (hb hby at_198) rfl ((if0 _ _).trans (feq (by decide : ¬ ((1 : Int32) = (0 : Int32)))).1) k) ?_
      show Go p e below Qo T398 (mkF m 201 #[.val (.int i1), .val (.int i2), .val (.int i3), .val (.int i4), .val (.int i5), .val (.int i6), .val (.int v7_2), .val (.ref b5), .val (.ref b82), .val (.ref b165), .val (.ref b220), .val (.ref b261), .val (.ref (F7 i6 z_NULL z_STRING z_DOCUMENT z_INT32)), .val (.ref b327), .val (.int (1 : Int32)), .val (.int (0 : Int32)), .val (.int (0 : Int32)), .val (.int (0 : Int32))] [])
      refine Go.of (fun t k => XS.iload X398.here hx rfl (hb hby at_201) rfl  k) ?_
      show Go p e below Qo T398 (mkF m 203 #[.val (.int i1), .val (.int i2), .val (.int i3), .val (.int i4), .val (.int i5), .val (.int i6), .val (.int v7_2), .val (.ref b5), .val (.ref b82), .val (.ref b165), .val (.ref b220), .val (.ref b261), .val (.ref (F7 i6 z_NULL z_STRING z_DOCUMENT z_INT32)), .val (.ref b327), .val (.int (1 : Int32)), .val (.int (0 : Int32)), .val (.int (0 : Int32)), .val (.int (0 : Int32))] [(.int (0 : Int32))])
      refine Go.of (fun t k => XS.ifNo X398.here hx rfl (hb hby at_203) rfl ((if0 _ _).trans (teq (by decide : (0 : Int32) = (0 : Int32))).2) k) ?_
      show Go p e below Qo T398 (mkF m 206 #[.val (.int i1), .val (.int i2), .val (.int i3), .val (.int i4), .val (.int i5), .val (.int i6), .val (.int v7_2), .val (.ref b5), .val (.ref b82), .val (.ref b165), .val (.ref b220), .val (.ref b261), .val (.ref (F7 i6 z_NULL z_STRING z_DOCUMENT z_INT32)), .val (.ref b327), .val (.int (1 : Int32)), .val (.int (0 : Int32)), .val (.int (0 : Int32)), .val (.int (0 : Int32))] [])
      refine Go.of (fun t k => XS.iload X398.here hx rfl (hb hby at_206) rfl  k) ?_
      show Go p e below Qo T398 (mkF m 208 #[.val (.int i1), .val (.int i2), .val (.int i3), .val (.int i4), .val (.int i5), .val (.int i6), .val (.int v7_2), .val (.ref b5), .val (.ref b82), .val (.ref b165), .val (.ref b220), .val (.ref b261), .val (.ref (F7 i6 z_NULL z_STRING z_DOCUMENT z_INT32)), .val (.ref b327), .val (.int (1 : Int32)), .val (.int (0 : Int32)), .val (.int (0 : Int32)), .val (.int (0 : Int32))] [(.int (0 : Int32))])
      refine Go.of (fun t k => XS.ifNo X398.here hx rfl (hb hby at_208) rfl ((if0 _ _).trans (teq (by decide : (0 : Int32) = (0 : Int32))).2) k) ?_
      show Go p e below Qo T398 (mkF m 211 #[.val (.int i1), .val (.int i2), .val (.int i3), .val (.int i4), .val (.int i5), .val (.int i6), .val (.int v7_2), .val (.ref b5), .val (.ref b82), .val (.ref b165), .val (.ref b220), .val (.ref b261), .val (.ref (F7 i6 z_NULL z_STRING z_DOCUMENT z_INT32)), .val (.ref b327), .val (.int (1 : Int32)), .val (.int (0 : Int32)), .val (.int (0 : Int32)), .val (.int (0 : Int32))] [])
      refine Go.of (fun t k => XS.iload X398.here hx rfl (hb hby at_211) rfl  k) ?_
      show Go p e below Qo T398 (mkF m 213 #[.val (.int i1), .val (.int i2), .val (.int i3), .val (.int i4), .val (.int i5), .val (.int i6), .val (.int v7_2), .val (.ref b5), .val (.ref b82), .val (.ref b165), .val (.ref b220), .val (.ref b261), .val (.ref (F7 i6 z_NULL z_STRING z_DOCUMENT z_INT32)), .val (.ref b327), .val (.int (1 : Int32)), .val (.int (0 : Int32)), .val (.int (0 : Int32)), .val (.int (0 : Int32))] [(.int (0 : Int32))])
      refine Go.of (fun t k => XS.ifNo X398.here hx rfl (hb hby at_213) rfl ((if0 _ _).trans (teq (by decide : (0 : Int32) = (0 : Int32))).2) k) ?_
      show Go p e below Qo T398 (mkF m 216 #[.val (.int i1), .val (.int i2), .val (.int i3), .val (.int i4), .val (.int i5), .val (.int i6), .val (.int v7_2), .val (.ref b5), .val (.ref b82), .val (.ref b165), .val (.ref b220), .val (.ref b261), .val (.ref (F7 i6 z_NULL z_STRING z_DOCUMENT z_INT32)), .val (.ref b327), .val (.int (1 : Int32)), .val (.int (0 : Int32)), .val (.int (0 : Int32)), .val (.int (0 : Int32))] [])
      refine Go.of (fun t k => XS.iconst X398.here hx rfl (hb hby at_216) k) ?_
      show Go p e below Qo T398 (mkF m 217 #[.val (.int i1), .val (.int i2), .val (.int i3), .val (.int i4), .val (.int i5), .val (.int i6), .val (.int v7_2), .val (.ref b5), .val (.ref b82), .val (.ref b165), .val (.ref b220), .val (.ref b261), .val (.ref (F7 i6 z_NULL z_STRING z_DOCUMENT z_INT32)), .val (.ref b327), .val (.int (1 : Int32)), .val (.int (0 : Int32)), .val (.int (0 : Int32)), .val (.int (0 : Int32))] [(.int (1 : Int32))])
      refine Go.of (fun t k => XS.goto X398.here hx rfl (pc0 := 217) (pc' := 221) rfl (hb hby at_217) (by decide) (by decide) k) ?_
      show Go p e below Qo T398 (mkF m 221 #[.val (.int i1), .val (.int i2), .val (.int i3), .val (.int i4), .val (.int i5), .val (.int i6), .val (.int v7_2), .val (.ref b5), .val (.ref b82), .val (.ref b165), .val (.ref b220), .val (.ref b261), .val (.ref (F7 i6 z_NULL z_STRING z_DOCUMENT z_INT32)), .val (.ref b327), .val (.int (1 : Int32)), .val (.int (0 : Int32)), .val (.int (0 : Int32)), .val (.int (0 : Int32))] [(.int (1 : Int32))])
      exact own_retN X398 hx Bd.notSynchronized (t := .boolean) Bd.returns (by simp) (hb hby at_221) (fun u hu hF => hQo _ _ _ ⟨rfl, N402⟩ (own_mono hF (by decide) (by decide)))
    · refine Go.of (fun t k => XS.ifNo X0.here hx rfl (hb hby at_19) rfl ((if0 _ _).trans (feq hc19_4).1) k) ?_
      show Go p e below Qo s₁ (mkF m 22 #[.val (.int i1), .val (.int i2), .val (.int i3), .val (.int i4), .val (.int i5), .val (.int i6), .val (.int v7_2), .unset, .unset, .unset, .unset, .unset, .unset, .unset, .unset, .unset, .unset, .unset] [])
      refine Go.of (fun t k => XS.iconst X0.here hx rfl (hb hby at_22) k) ?_
      show Go p e below Qo s₁ (mkF m 23 #[.val (.int i1), .val (.int i2), .val (.int i3), .val (.int i4), .val (.int i5), .val (.int i6), .val (.int v7_2), .unset, .unset, .unset, .unset, .unset, .unset, .unset, .unset, .unset, .unset, .unset] [(.int (0 : Int32))])
      obtain ⟨T403, h403, k403, X403, e403, E403, A403, st403⟩ := newP X0 hx hZ (hw _ (List.mem_of_getElem? (i := 0) rfl)) e0 (g := (mkF m 23 #[.val (.int i1), .val (.int i2), .val (.int i3), .val (.int i4), .val (.int i5), .val (.int i6), .val (.int v7_2), .unset, .unset, .unset, .unset, .unset, .unset, .unset, .unset, .unset, .unset, .unset] [(.int (0 : Int32))])) rfl (hb hby at_23) rfl (by decide) (cap := 0) (by decide) (by decide) (by decide) (by decide)
      obtain ⟨b403, g403⟩ : ∃ z, z = h0.size := ⟨_, rfl⟩
      rw [← g403] at A403 st403
      have ne404 : z_NULL ≠ b403 := Nat.ne_of_lt (Nat.lt_of_lt_of_le f1.lt (Nat.le_of_eq g403.symm))
      have ne405 : z_STRING ≠ b403 := Nat.ne_of_lt (Nat.lt_of_lt_of_le f3.lt (Nat.le_of_eq g403.symm))
      have ne406 : z_DOCUMENT ≠ b403 := Nat.ne_of_lt (Nat.lt_of_lt_of_le f5.lt (Nat.le_of_eq g403.symm))
      have ne407 : z_INT32 ≠ b403 := Nat.ne_of_lt (Nat.lt_of_lt_of_le f7.lt (Nat.le_of_eq g403.symm))
      have g408 : n0 ≤ b403 := Nat.le_trans Z0 (Nat.le_of_eq g403.symm)
      have q409 : Sta Z h403 "com/example/mimosa/mimosa/bson/BsonType" "NULL" "Lcom/example/mimosa/mimosa/bson/BsonType;" (.ref z_NULL) := f0.ext E403
      have q410 : Exa Z h403 z_NULL "com/example/mimosa/mimosa/bson/BsonType" := f1.ext E403
      have q411 : Sta Z h403 "com/example/mimosa/mimosa/bson/BsonType" "STRING" "Lcom/example/mimosa/mimosa/bson/BsonType;" (.ref z_STRING) := f2.ext E403
      have q412 : Exa Z h403 z_STRING "com/example/mimosa/mimosa/bson/BsonType" := f3.ext E403
      have q413 : Sta Z h403 "com/example/mimosa/mimosa/bson/BsonType" "DOCUMENT" "Lcom/example/mimosa/mimosa/bson/BsonType;" (.ref z_DOCUMENT) := f4.ext E403
      have q414 : Exa Z h403 z_DOCUMENT "com/example/mimosa/mimosa/bson/BsonType" := f5.ext E403
      have q415 : Sta Z h403 "com/example/mimosa/mimosa/bson/BsonType" "INT32" "Lcom/example/mimosa/mimosa/bson/BsonType;" (.ref z_INT32) := f6.ext E403
      have q416 : Exa Z h403 z_INT32 "com/example/mimosa/mimosa/bson/BsonType" := f7.ext E403
      have q417 : Sta Z h403 "java/lang/String" "COMPACT_STRINGS" "Z" (.int zc) := f8.ext E403
      have Z418 : n0 ≤ h403.size := Nat.le_trans Z0 E403.1
      have q419 : Arv Z h403 b403 k403 .byte (0 : Int32) [] (.int (0 : Int32)) := (Arv.new A403 (by decide)).pad (pad_rep [] (.int (0 : Int32)) 0)
      refine Go.of st403 ?_
      show Go p e below Qo T403 (mkF m 25 #[.val (.int i1), .val (.int i2), .val (.int i3), .val (.int i4), .val (.int i5), .val (.int i6), .val (.int v7_2), .unset, .unset, .unset, .unset, .unset, .unset, .unset, .unset, .unset, .unset, .unset] [(.ref b403)])
      refine Go.of (fun t k => XS.astore X403.here hx rfl (hb hby at_25) rfl rfl (l' := #[.val (.int i1), .val (.int i2), .val (.int i3), .val (.int i4), .val (.int i5), .val (.int i6), .val (.int v7_2), .val (.ref b403), .unset, .unset, .unset, .unset, .unset, .unset, .unset, .unset, .unset, .unset]) rfl k) ?_
      show Go p e below Qo T403 (mkF m 27 #[.val (.int i1), .val (.int i2), .val (.int i3), .val (.int i4), .val (.int i5), .val (.int i6), .val (.int v7_2), .val (.ref b403), .unset, .unset, .unset, .unset, .unset, .unset, .unset, .unset, .unset, .unset] [])
      refine Go.of (fun t k => XS.iconst X403.here hx rfl (hb hby at_27) k) ?_
      show Go p e below Qo T403 (mkF m 28 #[.val (.int i1), .val (.int i2), .val (.int i3), .val (.int i4), .val (.int i5), .val (.int i6), .val (.int v7_2), .val (.ref b403), .unset, .unset, .unset, .unset, .unset, .unset, .unset, .unset, .unset, .unset] [(.int (0 : Int32))])
      obtain ⟨T420, h420, k420, X420, e420, E420, A420, st420⟩ := newP X403 hx hZ (hw _ (List.mem_of_getElem? (i := 0) rfl)) e403 (g := (mkF m 28 #[.val (.int i1), .val (.int i2), .val (.int i3), .val (.int i4), .val (.int i5), .val (.int i6), .val (.int v7_2), .val (.ref b403), .unset, .unset, .unset, .unset, .unset, .unset, .unset, .unset, .unset, .unset] [(.int (0 : Int32))])) rfl (hb hby at_28) rfl (by decide) (cap := 0) (by decide) (by decide) (by decide) (by decide)
      obtain ⟨b420, g420⟩ : ∃ z, z = h403.size := ⟨_, rfl⟩
      rw [← g420] at A420 st420
      have ne421 : z_NULL ≠ b420 := Nat.ne_of_lt (Nat.lt_of_lt_of_le q410.lt (Nat.le_of_eq g420.symm))
      have ne422 : z_STRING ≠ b420 := Nat.ne_of_lt (Nat.lt_of_lt_of_le q412.lt (Nat.le_of_eq g420.symm))
      have ne423 : z_DOCUMENT ≠ b420 := Nat.ne_of_lt (Nat.lt_of_lt_of_le q414.lt (Nat.le_of_eq g420.symm))
      have ne424 : z_INT32 ≠ b420 := Nat.ne_of_lt (Nat.lt_of_lt_of_le q416.lt (Nat.le_of_eq g420.symm))
      have ne425 : b403 ≠ b420 := Nat.ne_of_lt (Nat.lt_of_lt_of_le q419.lt (Nat.le_of_eq g420.symm))
      have g426 : n0 ≤ b420 := Nat.le_trans Z418 (Nat.le_of_eq g420.symm)
      have q427 : Sta Z h420 "com/example/mimosa/mimosa/bson/BsonType" "NULL" "Lcom/example/mimosa/mimosa/bson/BsonType;" (.ref z_NULL) := q409.ext E420
      have q428 : Exa Z h420 z_NULL "com/example/mimosa/mimosa/bson/BsonType" := q410.ext E420
      have q429 : Sta Z h420 "com/example/mimosa/mimosa/bson/BsonType" "STRING" "Lcom/example/mimosa/mimosa/bson/BsonType;" (.ref z_STRING) := q411.ext E420
      have q430 : Exa Z h420 z_STRING "com/example/mimosa/mimosa/bson/BsonType" := q412.ext E420
      have q431 : Sta Z h420 "com/example/mimosa/mimosa/bson/BsonType" "DOCUMENT" "Lcom/example/mimosa/mimosa/bson/BsonType;" (.ref z_DOCUMENT) := q413.ext E420
      have q432 : Exa Z h420 z_DOCUMENT "com/example/mimosa/mimosa/bson/BsonType" := q414.ext E420
      have q433 : Sta Z h420 "com/example/mimosa/mimosa/bson/BsonType" "INT32" "Lcom/example/mimosa/mimosa/bson/BsonType;" (.ref z_INT32) := q415.ext E420
      have q434 : Exa Z h420 z_INT32 "com/example/mimosa/mimosa/bson/BsonType" := q416.ext E420
      have q435 : Sta Z h420 "java/lang/String" "COMPACT_STRINGS" "Z" (.int zc) := q417.ext E420
      have q436 : Arv Z h420 b403 k403 .byte (0 : Int32) [] (.int (0 : Int32)) := q419.ext E420
      have Z437 : n0 ≤ h420.size := Nat.le_trans Z418 E420.1
      have q438 : Arv Z h420 b420 k420 .byte (0 : Int32) [] (.int (0 : Int32)) := (Arv.new A420 (by decide)).pad (pad_rep [] (.int (0 : Int32)) 0)
      refine Go.of st420 ?_
      show Go p e below Qo T420 (mkF m 30 #[.val (.int i1), .val (.int i2), .val (.int i3), .val (.int i4), .val (.int i5), .val (.int i6), .val (.int v7_2), .val (.ref b403), .unset, .unset, .unset, .unset, .unset, .unset, .unset, .unset, .unset, .unset] [(.ref b420)])
      refine Go.of (fun t k => XS.astore X420.here hx rfl (hb hby at_30) rfl rfl (l' := #[.val (.int i1), .val (.int i2), .val (.int i3), .val (.int i4), .val (.int i5), .val (.int i6), .val (.int v7_2), .val (.ref b403), .val (.ref b420), .unset, .unset, .unset, .unset, .unset, .unset, .unset, .unset, .unset]) rfl k) ?_
      show Go p e below Qo T420 (mkF m 32 #[.val (.int i1), .val (.int i2), .val (.int i3), .val (.int i4), .val (.int i5), .val (.int i6), .val (.int v7_2), .val (.ref b403), .val (.ref b420), .unset, .unset, .unset, .unset, .unset, .unset, .unset, .unset, .unset] [])
      refine Go.of (fun t k => XS.goto X420.here hx rfl (pc0 := 32) (pc' := 91) rfl (hb hby at_32) (by decide) (by decide) k) ?_
      show Go p e below Qo T420 (mkF m 91 #[.val (.int i1), .val (.int i2), .val (.int i3), .val (.int i4), .val (.int i5), .val (.int i6), .val (.int v7_2), .val (.ref b403), .val (.ref b420), .unset, .unset, .unset, .unset, .unset, .unset, .unset, .unset, .unset] [])
      refine Go.of (fun t k => XS.iconst X420.here hx rfl (hb hby at_91) k) ?_
      show Go p e below Qo T420 (mkF m 92 #[.val (.int i1), .val (.int i2), .val (.int i3), .val (.int i4), .val (.int i5), .val (.int i6), .val (.int v7_2), .val (.ref b403), .val (.ref b420), .unset, .unset, .unset, .unset, .unset, .unset, .unset, .unset, .unset] [(.int (2 : Int32))])
      obtain ⟨T439, h439, k439, X439, e439, E439, A439, st439⟩ := newP X420 hx hZ (hw _ (List.mem_of_getElem? (i := 0) rfl)) e420 (g := (mkF m 92 #[.val (.int i1), .val (.int i2), .val (.int i3), .val (.int i4), .val (.int i5), .val (.int i6), .val (.int v7_2), .val (.ref b403), .val (.ref b420), .unset, .unset, .unset, .unset, .unset, .unset, .unset, .unset, .unset] [(.int (2 : Int32))])) rfl (hb hby at_92) rfl (by decide) (cap := 2) (by decide) (by decide) (by decide) (by decide)
      obtain ⟨b439, g439⟩ : ∃ z, z = h420.size := ⟨_, rfl⟩
      rw [← g439] at A439 st439
      have ne440 : z_NULL ≠ b439 := Nat.ne_of_lt (Nat.lt_of_lt_of_le q428.lt (Nat.le_of_eq g439.symm))
      have ne441 : z_STRING ≠ b439 := Nat.ne_of_lt (Nat.lt_of_lt_of_le q430.lt (Nat.le_of_eq g439.symm))
      have ne442 : z_DOCUMENT ≠ b439 := Nat.ne_of_lt (Nat.lt_of_lt_of_le q432.lt (Nat.le_of_eq g439.symm))
      have ne443 : z_INT32 ≠ b439 := Nat.ne_of_lt (Nat.lt_of_lt_of_le q434.lt (Nat.le_of_eq g439.symm))
      have ne444 : b403 ≠ b439 := Nat.ne_of_lt (Nat.lt_of_lt_of_le q436.lt (Nat.le_of_eq g439.symm))
      have ne445 : b420 ≠ b439 := Nat.ne_of_lt (Nat.lt_of_lt_of_le q438.lt (Nat.le_of_eq g439.symm))
      have g446 : n0 ≤ b439 := Nat.le_trans Z437 (Nat.le_of_eq g439.symm)
      have q447 : Sta Z h439 "com/example/mimosa/mimosa/bson/BsonType" "NULL" "Lcom/example/mimosa/mimosa/bson/BsonType;" (.ref z_NULL) := q427.ext E439
      have q448 : Exa Z h439 z_NULL "com/example/mimosa/mimosa/bson/BsonType" := q428.ext E439
      have q449 : Sta Z h439 "com/example/mimosa/mimosa/bson/BsonType" "STRING" "Lcom/example/mimosa/mimosa/bson/BsonType;" (.ref z_STRING) := q429.ext E439
      have q450 : Exa Z h439 z_STRING "com/example/mimosa/mimosa/bson/BsonType" := q430.ext E439
      have q451 : Sta Z h439 "com/example/mimosa/mimosa/bson/BsonType" "DOCUMENT" "Lcom/example/mimosa/mimosa/bson/BsonType;" (.ref z_DOCUMENT) := q431.ext E439
      have q452 : Exa Z h439 z_DOCUMENT "com/example/mimosa/mimosa/bson/BsonType" := q432.ext E439
      have q453 : Sta Z h439 "com/example/mimosa/mimosa/bson/BsonType" "INT32" "Lcom/example/mimosa/mimosa/bson/BsonType;" (.ref z_INT32) := q433.ext E439
      have q454 : Exa Z h439 z_INT32 "com/example/mimosa/mimosa/bson/BsonType" := q434.ext E439
      have q455 : Sta Z h439 "java/lang/String" "COMPACT_STRINGS" "Z" (.int zc) := q435.ext E439
      have q456 : Arv Z h439 b403 k403 .byte (0 : Int32) [] (.int (0 : Int32)) := q436.ext E439
      have q457 : Arv Z h439 b420 k420 .byte (0 : Int32) [] (.int (0 : Int32)) := q438.ext E439
      have Z458 : n0 ≤ h439.size := Nat.le_trans Z437 E439.1
      have q459 : Arv Z h439 b439 k439 .byte (2 : Int32) [(.int (0 : Int32)), (.int (0 : Int32))] (.int (0 : Int32)) := (Arv.new A439 (by decide)).pad (pad_rep [] (.int (0 : Int32)) 2)
      refine Go.of st439 ?_
      show Go p e below Qo T439 (mkF m 94 #[.val (.int i1), .val (.int i2), .val (.int i3), .val (.int i4), .val (.int i5), .val (.int i6), .val (.int v7_2), .val (.ref b403), .val (.ref b420), .unset, .unset, .unset, .unset, .unset, .unset, .unset, .unset, .unset] [(.ref b439)])
      refine Go.of (fun t k => XS.dup X439.here hx rfl (hb hby at_94) rfl rfl k) ?_
      show Go p e below Qo T439 (mkF m 95 #[.val (.int i1), .val (.int i2), .val (.int i3), .val (.int i4), .val (.int i5), .val (.int i6), .val (.int v7_2), .val (.ref b403), .val (.ref b420), .unset, .unset, .unset, .unset, .unset, .unset, .unset, .unset, .unset] [(.ref b439), (.ref b439)])
      refine Go.of (fun t k => XS.iconst X439.here hx rfl (hb hby at_95) k) ?_
      show Go p e below Qo T439 (mkF m 96 #[.val (.int i1), .val (.int i2), .val (.int i3), .val (.int i4), .val (.int i5), .val (.int i6), .val (.int v7_2), .val (.ref b403), .val (.ref b420), .unset, .unset, .unset, .unset, .unset, .unset, .unset, .unset, .unset] [(.int (0 : Int32)), (.ref b439), (.ref b439)])
      refine Go.of (fun t k => XS.iloadN X439.here hx rfl (hb hby at_96) rfl  k) ?_
      show Go p e below Qo T439 (mkF m 97 #[.val (.int i1), .val (.int i2), .val (.int i3), .val (.int i4), .val (.int i5), .val (.int i6), .val (.int v7_2), .val (.ref b403), .val (.ref b420), .unset, .unset, .unset, .unset, .unset, .unset, .unset, .unset, .unset] [(.int i2), (.int (0 : Int32)), (.ref b439), (.ref b439)])
      refine Go.of (fun t k => XS.iconst X439.here hx rfl (hb hby at_97) k) ?_
      show Go p e below Qo T439 (mkF m 98 #[.val (.int i1), .val (.int i2), .val (.int i3), .val (.int i4), .val (.int i5), .val (.int i6), .val (.int v7_2), .val (.ref b403), .val (.ref b420), .unset, .unset, .unset, .unset, .unset, .unset, .unset, .unset, .unset] [(.int (1 : Int32)), (.int i2), (.int (0 : Int32)), (.ref b439), (.ref b439)])
      refine Go.of (fun t k => XS.ixor X439.here hx rfl (hb hby at_98) rfl k) ?_
      show Go p e below Qo T439 (mkF m 99 #[.val (.int i1), .val (.int i2), .val (.int i3), .val (.int i4), .val (.int i5), .val (.int i6), .val (.int v7_2), .val (.ref b403), .val (.ref b420), .unset, .unset, .unset, .unset, .unset, .unset, .unset, .unset, .unset] [(.int (i2 ^^^ (1 : Int32))), (.int (0 : Int32)), (.ref b439), (.ref b439)])
      refine Go.of (fun t k => XS.i2b X439.here hx rfl (hb hby at_99) rfl k) ?_
      show Go p e below Qo T439 (mkF m 100 #[.val (.int i1), .val (.int i2), .val (.int i3), .val (.int i4), .val (.int i5), .val (.int i6), .val (.int v7_2), .val (.ref b403), .val (.ref b420), .unset, .unset, .unset, .unset, .unset, .unset, .unset, .unset, .unset] [(.int ((i2 ^^^ (1 : Int32)).toInt8.toInt32)), (.int (0 : Int32)), (.ref b439), (.ref b439)])
      have cpo460 := q459
      obtain ⟨clo460, Aro460, qco460, So460, Mo460, Ho460, Go460⟩ := cpo460
      have hin461 : ¬ ((0 : Int32) < 0 ∨ clo460.slots.size ≤ (0 : Int32).toNatClampNeg) := (inb_of So460 ⟨by decide, by decide⟩)
      obtain ⟨T462, h462, X462, e462, W462, st462⟩ := stB X439 hx hZ e439 Aro460 (j := (0 : Int32)) hin461 (g := (mkF m 100 #[.val (.int i1), .val (.int i2), .val (.int i3), .val (.int i4), .val (.int i5), .val (.int i6), .val (.int v7_2), .val (.ref b403), .val (.ref b420), .unset, .unset, .unset, .unset, .unset, .unset, .unset, .unset, .unset] [(.int ((i2 ^^^ (1 : Int32)).toInt8.toInt32)), (.int (0 : Int32)), (.ref b439), (.ref b439)])) rfl rfl (hb hby at_100)
      have q463 : Sta Z h462 "com/example/mimosa/mimosa/bson/BsonType" "NULL" "Lcom/example/mimosa/mimosa/bson/BsonType;" (.ref z_NULL) := q447.wr W462
      have q464 : Exa Z h462 z_NULL "com/example/mimosa/mimosa/bson/BsonType" := q448.wr W462
      have q465 : Sta Z h462 "com/example/mimosa/mimosa/bson/BsonType" "STRING" "Lcom/example/mimosa/mimosa/bson/BsonType;" (.ref z_STRING) := q449.wr W462
      have q466 : Exa Z h462 z_STRING "com/example/mimosa/mimosa/bson/BsonType" := q450.wr W462
      have q467 : Sta Z h462 "com/example/mimosa/mimosa/bson/BsonType" "DOCUMENT" "Lcom/example/mimosa/mimosa/bson/BsonType;" (.ref z_DOCUMENT) := q451.wr W462
      have q468 : Exa Z h462 z_DOCUMENT "com/example/mimosa/mimosa/bson/BsonType" := q452.wr W462
      have q469 : Sta Z h462 "com/example/mimosa/mimosa/bson/BsonType" "INT32" "Lcom/example/mimosa/mimosa/bson/BsonType;" (.ref z_INT32) := q453.wr W462
      have q470 : Exa Z h462 z_INT32 "com/example/mimosa/mimosa/bson/BsonType" := q454.wr W462
      have q471 : Sta Z h462 "java/lang/String" "COMPACT_STRINGS" "Z" (.int zc) := q455.wr W462
      have q472 : Arv Z h462 b403 k403 .byte (0 : Int32) [] (.int (0 : Int32)) := q456.other W462 ne444
      have q473 : Arv Z h462 b420 k420 .byte (0 : Int32) [] (.int (0 : Int32)) := q457.other W462 ne445
      have q474 : Arv Z h462 b439 k439 .byte (2 : Int32) [(.int (nar .byte ((i2 ^^^ (1 : Int32)).toInt8.toInt32))), (.int (0 : Int32))] (.int (0 : Int32)) := Arv.set Aro460 qco460 So460 Mo460 Ho460 Go460 (fits_nar_byte _) W462 0 rfl (Nat.le_of_ble_eq_true rfl)
      have Z475 : n0 ≤ h462.size := Nat.le_trans Z458 (Keep.of_wr W462).1
      have N476 := Fr.snoc X462 N0 g446
      refine Go.of st462 ?_
      show Go p e below Qo T462 (mkF m 101 #[.val (.int i1), .val (.int i2), .val (.int i3), .val (.int i4), .val (.int i5), .val (.int i6), .val (.int v7_2), .val (.ref b403), .val (.ref b420), .unset, .unset, .unset, .unset, .unset, .unset, .unset, .unset, .unset] [(.ref b439)])
      refine Go.of (fun t k => XS.dup X462.here hx rfl (hb hby at_101) rfl rfl k) ?_
      show Go p e below Qo T462 (mkF m 102 #[.val (.int i1), .val (.int i2), .val (.int i3), .val (.int i4), .val (.int i5), .val (.int i6), .val (.int v7_2), .val (.ref b403), .val (.ref b420), .unset, .unset, .unset, .unset, .unset, .unset, .unset, .unset, .unset] [(.ref b439), (.ref b439)])
      refine Go.of (fun t k => XS.iconst X462.here hx rfl (hb hby at_102) k) ?_
      show Go p e below Qo T462 (mkF m 103 #[.val (.int i1), .val (.int i2), .val (.int i3), .val (.int i4), .val (.int i5), .val (.int i6), .val (.int v7_2), .val (.ref b403), .val (.ref b420), .unset, .unset, .unset, .unset, .unset, .unset, .unset, .unset, .unset] [(.int (1 : Int32)), (.ref b439), (.ref b439)])
      refine Go.of (fun t k => XS.iloadN X462.here hx rfl (hb hby at_103) rfl  k) ?_
      show Go p e below Qo T462 (mkF m 104 #[.val (.int i1), .val (.int i2), .val (.int i3), .val (.int i4), .val (.int i5), .val (.int i6), .val (.int v7_2), .val (.ref b403), .val (.ref b420), .unset, .unset, .unset, .unset, .unset, .unset, .unset, .unset, .unset] [(.int i3), (.int (1 : Int32)), (.ref b439), (.ref b439)])
      refine Go.of (fun t k => XS.i2b X462.here hx rfl (hb hby at_104) rfl k) ?_
      show Go p e below Qo T462 (mkF m 105 #[.val (.int i1), .val (.int i2), .val (.int i3), .val (.int i4), .val (.int i5), .val (.int i6), .val (.int v7_2), .val (.ref b403), .val (.ref b420), .unset, .unset, .unset, .unset, .unset, .unset, .unset, .unset, .unset] [(.int (i3.toInt8.toInt32)), (.int (1 : Int32)), (.ref b439), (.ref b439)])
      have cpo477 := q474
      obtain ⟨clo477, Aro477, qco477, So477, Mo477, Ho477, Go477⟩ := cpo477
      have hin478 : ¬ ((1 : Int32) < 0 ∨ clo477.slots.size ≤ (1 : Int32).toNatClampNeg) := (inb_of So477 ⟨by decide, by decide⟩)
      obtain ⟨T479, h479, X479, e479, W479, st479⟩ := stB X462 hx hZ e462 Aro477 (j := (1 : Int32)) hin478 (g := (mkF m 105 #[.val (.int i1), .val (.int i2), .val (.int i3), .val (.int i4), .val (.int i5), .val (.int i6), .val (.int v7_2), .val (.ref b403), .val (.ref b420), .unset, .unset, .unset, .unset, .unset, .unset, .unset, .unset, .unset] [(.int (i3.toInt8.toInt32)), (.int (1 : Int32)), (.ref b439), (.ref b439)])) rfl rfl (hb hby at_105)
      have q480 : Sta Z h479 "com/example/mimosa/mimosa/bson/BsonType" "NULL" "Lcom/example/mimosa/mimosa/bson/BsonType;" (.ref z_NULL) := q463.wr W479
      have q481 : Exa Z h479 z_NULL "com/example/mimosa/mimosa/bson/BsonType" := q464.wr W479
      have q482 : Sta Z h479 "com/example/mimosa/mimosa/bson/BsonType" "STRING" "Lcom/example/mimosa/mimosa/bson/BsonType;" (.ref z_STRING) := q465.wr W479
      have q483 : Exa Z h479 z_STRING "com/example/mimosa/mimosa/bson/BsonType" := q466.wr W479
      have q484 : Sta Z h479 "com/example/mimosa/mimosa/bson/BsonType" "DOCUMENT" "Lcom/example/mimosa/mimosa/bson/BsonType;" (.ref z_DOCUMENT) := q467.wr W479
      have q485 : Exa Z h479 z_DOCUMENT "com/example/mimosa/mimosa/bson/BsonType" := q468.wr W479
      have q486 : Sta Z h479 "com/example/mimosa/mimosa/bson/BsonType" "INT32" "Lcom/example/mimosa/mimosa/bson/BsonType;" (.ref z_INT32) := q469.wr W479
      have q487 : Exa Z h479 z_INT32 "com/example/mimosa/mimosa/bson/BsonType" := q470.wr W479
      have q488 : Sta Z h479 "java/lang/String" "COMPACT_STRINGS" "Z" (.int zc) := q471.wr W479
      have q489 : Arv Z h479 b403 k403 .byte (0 : Int32) [] (.int (0 : Int32)) := q472.other W479 ne444
      have q490 : Arv Z h479 b420 k420 .byte (0 : Int32) [] (.int (0 : Int32)) := q473.other W479 ne445
      have q491 : Arv Z h479 b439 k439 .byte (2 : Int32) [(.int (nar .byte ((i2 ^^^ (1 : Int32)).toInt8.toInt32))), (.int (nar .byte (i3.toInt8.toInt32)))] (.int (0 : Int32)) := Arv.set Aro477 qco477 So477 Mo477 Ho477 Go477 (fits_nar_byte _) W479 1 rfl (Nat.le_of_ble_eq_true rfl)
      have Z492 : n0 ≤ h479.size := Nat.le_trans Z475 (Keep.of_wr W479).1
      have N493 := Fr.snoc X479 N476 g446
      refine Go.of st479 ?_
      show Go p e below Qo T479 (mkF m 106 #[.val (.int i1), .val (.int i2), .val (.int i3), .val (.int i4), .val (.int i5), .val (.int i6), .val (.int v7_2), .val (.ref b403), .val (.ref b420), .unset, .unset, .unset, .unset, .unset, .unset, .unset, .unset, .unset] [(.ref b439)])
      refine Go.of (fun t k => XS.astore X479.here hx rfl (hb hby at_106) rfl rfl (l' := #[.val (.int i1), .val (.int i2), .val (.int i3), .val (.int i4), .val (.int i5), .val (.int i6), .val (.int v7_2), .val (.ref b403), .val (.ref b420), .val (.ref b439), .unset, .unset, .unset, .unset, .unset, .unset, .unset, .unset]) rfl k) ?_
      show Go p e below Qo T479 (mkF m 108 #[.val (.int i1), .val (.int i2), .val (.int i3), .val (.int i4), .val (.int i5), .val (.int i6), .val (.int v7_2), .val (.ref b403), .val (.ref b420), .val (.ref b439), .unset, .unset, .unset, .unset, .unset, .unset, .unset, .unset] [])
      refine Go.of (fun t k => XS.iconst X479.here hx rfl (hb hby at_108) k) ?_
      show Go p e below Qo T479 (mkF m 109 #[.val (.int i1), .val (.int i2), .val (.int i3), .val (.int i4), .val (.int i5), .val (.int i6), .val (.int v7_2), .val (.ref b403), .val (.ref b420), .val (.ref b439), .unset, .unset, .unset, .unset, .unset, .unset, .unset, .unset] [(.int (1 : Int32))])
      obtain ⟨T494, h494, k494, X494, e494, E494, A494, st494⟩ := newP X479 hx hZ (hw _ (List.mem_of_getElem? (i := 1) rfl)) e479 (g := (mkF m 109 #[.val (.int i1), .val (.int i2), .val (.int i3), .val (.int i4), .val (.int i5), .val (.int i6), .val (.int v7_2), .val (.ref b403), .val (.ref b420), .val (.ref b439), .unset, .unset, .unset, .unset, .unset, .unset, .unset, .unset] [(.int (1 : Int32))])) rfl (hb hby at_109) rfl (by decide) (cap := 1) (by decide) (by decide) (by decide) (by decide)
      obtain ⟨b494, g494⟩ : ∃ z, z = h479.size := ⟨_, rfl⟩
      rw [← g494] at A494 st494
      have ne495 : z_NULL ≠ b494 := Nat.ne_of_lt (Nat.lt_of_lt_of_le q481.lt (Nat.le_of_eq g494.symm))
      have ne496 : z_STRING ≠ b494 := Nat.ne_of_lt (Nat.lt_of_lt_of_le q483.lt (Nat.le_of_eq g494.symm))
      have ne497 : z_DOCUMENT ≠ b494 := Nat.ne_of_lt (Nat.lt_of_lt_of_le q485.lt (Nat.le_of_eq g494.symm))
      have ne498 : z_INT32 ≠ b494 := Nat.ne_of_lt (Nat.lt_of_lt_of_le q487.lt (Nat.le_of_eq g494.symm))
      have ne499 : b403 ≠ b494 := Nat.ne_of_lt (Nat.lt_of_lt_of_le q489.lt (Nat.le_of_eq g494.symm))
      have ne500 : b420 ≠ b494 := Nat.ne_of_lt (Nat.lt_of_lt_of_le q490.lt (Nat.le_of_eq g494.symm))
      have ne501 : b439 ≠ b494 := Nat.ne_of_lt (Nat.lt_of_lt_of_le q491.lt (Nat.le_of_eq g494.symm))
      have g502 : n0 ≤ b494 := Nat.le_trans Z492 (Nat.le_of_eq g494.symm)
      have q503 : Sta Z h494 "com/example/mimosa/mimosa/bson/BsonType" "NULL" "Lcom/example/mimosa/mimosa/bson/BsonType;" (.ref z_NULL) := q480.ext E494
      have q504 : Exa Z h494 z_NULL "com/example/mimosa/mimosa/bson/BsonType" := q481.ext E494
      have q505 : Sta Z h494 "com/example/mimosa/mimosa/bson/BsonType" "STRING" "Lcom/example/mimosa/mimosa/bson/BsonType;" (.ref z_STRING) := q482.ext E494
      have q506 : Exa Z h494 z_STRING "com/example/mimosa/mimosa/bson/BsonType" := q483.ext E494
      have q507 : Sta Z h494 "com/example/mimosa/mimosa/bson/BsonType" "DOCUMENT" "Lcom/example/mimosa/mimosa/bson/BsonType;" (.ref z_DOCUMENT) := q484.ext E494
      have q508 : Exa Z h494 z_DOCUMENT "com/example/mimosa/mimosa/bson/BsonType" := q485.ext E494
      have q509 : Sta Z h494 "com/example/mimosa/mimosa/bson/BsonType" "INT32" "Lcom/example/mimosa/mimosa/bson/BsonType;" (.ref z_INT32) := q486.ext E494
      have q510 : Exa Z h494 z_INT32 "com/example/mimosa/mimosa/bson/BsonType" := q487.ext E494
      have q511 : Sta Z h494 "java/lang/String" "COMPACT_STRINGS" "Z" (.int zc) := q488.ext E494
      have q512 : Arv Z h494 b403 k403 .byte (0 : Int32) [] (.int (0 : Int32)) := q489.ext E494
      have q513 : Arv Z h494 b420 k420 .byte (0 : Int32) [] (.int (0 : Int32)) := q490.ext E494
      have q514 : Arv Z h494 b439 k439 .byte (2 : Int32) [(.int (nar .byte ((i2 ^^^ (1 : Int32)).toInt8.toInt32))), (.int (nar .byte (i3.toInt8.toInt32)))] (.int (0 : Int32)) := q491.ext E494
      have Z515 : n0 ≤ h494.size := Nat.le_trans Z492 E494.1
      have q516 : Arv Z h494 b494 k494 .char (1 : Int32) [(.int (0 : Int32))] (.int (0 : Int32)) := (Arv.new A494 (by decide)).pad (pad_rep [] (.int (0 : Int32)) 1)
      refine Go.of st494 ?_
      show Go p e below Qo T494 (mkF m 111 #[.val (.int i1), .val (.int i2), .val (.int i3), .val (.int i4), .val (.int i5), .val (.int i6), .val (.int v7_2), .val (.ref b403), .val (.ref b420), .val (.ref b439), .unset, .unset, .unset, .unset, .unset, .unset, .unset, .unset] [(.ref b494)])
      refine Go.of (fun t k => XS.dup X494.here hx rfl (hb hby at_111) rfl rfl k) ?_
      show Go p e below Qo T494 (mkF m 112 #[.val (.int i1), .val (.int i2), .val (.int i3), .val (.int i4), .val (.int i5), .val (.int i6), .val (.int v7_2), .val (.ref b403), .val (.ref b420), .val (.ref b439), .unset, .unset, .unset, .unset, .unset, .unset, .unset, .unset] [(.ref b494), (.ref b494)])
      refine Go.of (fun t k => XS.iconst X494.here hx rfl (hb hby at_112) k) ?_
      show Go p e below Qo T494 (mkF m 113 #[.val (.int i1), .val (.int i2), .val (.int i3), .val (.int i4), .val (.int i5), .val (.int i6), .val (.int v7_2), .val (.ref b403), .val (.ref b420), .val (.ref b439), .unset, .unset, .unset, .unset, .unset, .unset, .unset, .unset] [(.int (0 : Int32)), (.ref b494), (.ref b494)])
      refine Go.of (fun t k => XS.iload X494.here hx rfl (hb hby at_113) rfl  k) ?_
      show Go p e below Qo T494 (mkF m 115 #[.val (.int i1), .val (.int i2), .val (.int i3), .val (.int i4), .val (.int i5), .val (.int i6), .val (.int v7_2), .val (.ref b403), .val (.ref b420), .val (.ref b439), .unset, .unset, .unset, .unset, .unset, .unset, .unset, .unset] [(.int i6), (.int (0 : Int32)), (.ref b494), (.ref b494)])
      refine Go.of (fun t k => XS.iconst X494.here hx rfl (hb hby at_115) k) ?_
      show Go p e below Qo T494 (mkF m 116 #[.val (.int i1), .val (.int i2), .val (.int i3), .val (.int i4), .val (.int i5), .val (.int i6), .val (.int v7_2), .val (.ref b403), .val (.ref b420), .val (.ref b439), .unset, .unset, .unset, .unset, .unset, .unset, .unset, .unset] [(.int (2 : Int32)), (.int i6), (.int (0 : Int32)), (.ref b494), (.ref b494)])
      refine Go.of (fun t k => XS.ishr X494.here hx rfl (hb hby at_116) rfl k) ?_
      show Go p e below Qo T494 (mkF m 117 #[.val (.int i1), .val (.int i2), .val (.int i3), .val (.int i4), .val (.int i5), .val (.int i6), .val (.int v7_2), .val (.ref b403), .val (.ref b420), .val (.ref b439), .unset, .unset, .unset, .unset, .unset, .unset, .unset, .unset] [(.int (i6 >>> ((2 : Int32) &&& 31))), (.int (0 : Int32)), (.ref b494), (.ref b494)])
      refine Go.of (fun t k => XS.sipush X494.here hx rfl (hb hby at_117) k) ?_
      show Go p e below Qo T494 (mkF m 120 #[.val (.int i1), .val (.int i2), .val (.int i3), .val (.int i4), .val (.int i5), .val (.int i6), .val (.int v7_2), .val (.ref b403), .val (.ref b420), .val (.ref b439), .unset, .unset, .unset, .unset, .unset, .unset, .unset, .unset] [(.int (255 : Int32)), (.int (i6 >>> ((2 : Int32) &&& 31))), (.int (0 : Int32)), (.ref b494), (.ref b494)])
      refine Go.of (fun t k => XS.iand X494.here hx rfl (hb hby at_120) rfl k) ?_
      show Go p e below Qo T494 (mkF m 121 #[.val (.int i1), .val (.int i2), .val (.int i3), .val (.int i4), .val (.int i5), .val (.int i6), .val (.int v7_2), .val (.ref b403), .val (.ref b420), .val (.ref b439), .unset, .unset, .unset, .unset, .unset, .unset, .unset, .unset] [(.int ((i6 >>> ((2 : Int32) &&& 31)) &&& (255 : Int32))), (.int (0 : Int32)), (.ref b494), (.ref b494)])
      refine Go.of (fun t k => XS.i2c X494.here hx rfl (hb hby at_121) rfl k) ?_
      show Go p e below Qo T494 (mkF m 122 #[.val (.int i1), .val (.int i2), .val (.int i3), .val (.int i4), .val (.int i5), .val (.int i6), .val (.int v7_2), .val (.ref b403), .val (.ref b420), .val (.ref b439), .unset, .unset, .unset, .unset, .unset, .unset, .unset, .unset] [(.int (((i6 >>> ((2 : Int32) &&& 31)) &&& (255 : Int32)).toUInt32.toUInt16.toUInt32.toInt32)), (.int (0 : Int32)), (.ref b494), (.ref b494)])
      have cpo517 := q516
      obtain ⟨clo517, Aro517, qco517, So517, Mo517, Ho517, Go517⟩ := cpo517
      have hin518 : ¬ ((0 : Int32) < 0 ∨ clo517.slots.size ≤ (0 : Int32).toNatClampNeg) := (inb_of So517 ⟨by decide, by decide⟩)
      obtain ⟨T519, h519, X519, e519, W519, st519⟩ := stC X494 hx hZ e494 Aro517 (j := (0 : Int32)) hin518 (g := (mkF m 122 #[.val (.int i1), .val (.int i2), .val (.int i3), .val (.int i4), .val (.int i5), .val (.int i6), .val (.int v7_2), .val (.ref b403), .val (.ref b420), .val (.ref b439), .unset, .unset, .unset, .unset, .unset, .unset, .unset, .unset] [(.int (((i6 >>> ((2 : Int32) &&& 31)) &&& (255 : Int32)).toUInt32.toUInt16.toUInt32.toInt32)), (.int (0 : Int32)), (.ref b494), (.ref b494)])) rfl rfl (hb hby at_122)
      have q520 : Sta Z h519 "com/example/mimosa/mimosa/bson/BsonType" "NULL" "Lcom/example/mimosa/mimosa/bson/BsonType;" (.ref z_NULL) := q503.wr W519
      have q521 : Exa Z h519 z_NULL "com/example/mimosa/mimosa/bson/BsonType" := q504.wr W519
      have q522 : Sta Z h519 "com/example/mimosa/mimosa/bson/BsonType" "STRING" "Lcom/example/mimosa/mimosa/bson/BsonType;" (.ref z_STRING) := q505.wr W519
      have q523 : Exa Z h519 z_STRING "com/example/mimosa/mimosa/bson/BsonType" := q506.wr W519
      have q524 : Sta Z h519 "com/example/mimosa/mimosa/bson/BsonType" "DOCUMENT" "Lcom/example/mimosa/mimosa/bson/BsonType;" (.ref z_DOCUMENT) := q507.wr W519
      have q525 : Exa Z h519 z_DOCUMENT "com/example/mimosa/mimosa/bson/BsonType" := q508.wr W519
      have q526 : Sta Z h519 "com/example/mimosa/mimosa/bson/BsonType" "INT32" "Lcom/example/mimosa/mimosa/bson/BsonType;" (.ref z_INT32) := q509.wr W519
      have q527 : Exa Z h519 z_INT32 "com/example/mimosa/mimosa/bson/BsonType" := q510.wr W519
      have q528 : Sta Z h519 "java/lang/String" "COMPACT_STRINGS" "Z" (.int zc) := q511.wr W519
      have q529 : Arv Z h519 b403 k403 .byte (0 : Int32) [] (.int (0 : Int32)) := q512.other W519 ne499
      have q530 : Arv Z h519 b420 k420 .byte (0 : Int32) [] (.int (0 : Int32)) := q513.other W519 ne500
      have q531 : Arv Z h519 b439 k439 .byte (2 : Int32) [(.int (nar .byte ((i2 ^^^ (1 : Int32)).toInt8.toInt32))), (.int (nar .byte (i3.toInt8.toInt32)))] (.int (0 : Int32)) := q514.other W519 ne501
      have q532 : Arv Z h519 b494 k494 .char (1 : Int32) [(.int (nar .char (((i6 >>> ((2 : Int32) &&& 31)) &&& (255 : Int32)).toUInt32.toUInt16.toUInt32.toInt32)))] (.int (0 : Int32)) := Arv.set Aro517 qco517 So517 Mo517 Ho517 Go517 (fits_nar_char _) W519 0 rfl (Nat.le_of_ble_eq_true rfl)
      have Z533 : n0 ≤ h519.size := Nat.le_trans Z515 (Keep.of_wr W519).1
      have N534 := Fr.snoc X519 N493 g502
      refine Go.of st519 ?_
      show Go p e below Qo T519 (mkF m 123 #[.val (.int i1), .val (.int i2), .val (.int i3), .val (.int i4), .val (.int i5), .val (.int i6), .val (.int v7_2), .val (.ref b403), .val (.ref b420), .val (.ref b439), .unset, .unset, .unset, .unset, .unset, .unset, .unset, .unset] [(.ref b494)])
      refine Go.of (fun t k => XS.astore X519.here hx rfl (hb hby at_123) rfl rfl (l' := #[.val (.int i1), .val (.int i2), .val (.int i3), .val (.int i4), .val (.int i5), .val (.int i6), .val (.int v7_2), .val (.ref b403), .val (.ref b420), .val (.ref b439), .val (.ref b494), .unset, .unset, .unset, .unset, .unset, .unset, .unset]) rfl k) ?_
      show Go p e below Qo T519 (mkF m 125 #[.val (.int i1), .val (.int i2), .val (.int i3), .val (.int i4), .val (.int i5), .val (.int i6), .val (.int v7_2), .val (.ref b403), .val (.ref b420), .val (.ref b439), .val (.ref b494), .unset, .unset, .unset, .unset, .unset, .unset, .unset] [])
      obtain ⟨T535, h535, X535, e535, E535, A535, D535, -, st535⟩ := newO X519 hx hZ hown (hw _ (List.mem_of_getElem? (i := 2) rfl)) (hw _ (List.mem_of_getElem? (i := 3) rfl)) (hw _ (List.mem_of_getElem? (i := 4) rfl)) e519 (g := (mkF m 125 #[.val (.int i1), .val (.int i2), .val (.int i3), .val (.int i4), .val (.int i5), .val (.int i6), .val (.int v7_2), .val (.ref b403), .val (.ref b420), .val (.ref b439), .val (.ref b494), .unset, .unset, .unset, .unset, .unset, .unset, .unset] [])) rfl (hb hby at_125) (by decide) (by decide)
      obtain ⟨b535, g535⟩ : ∃ z, z = h519.size := ⟨_, rfl⟩
      rw [← g535] at A535 D535 st535
      have ne536 : z_NULL ≠ b535 := Nat.ne_of_lt (Nat.lt_of_lt_of_le q521.lt (Nat.le_of_eq g535.symm))
      have ne537 : z_STRING ≠ b535 := Nat.ne_of_lt (Nat.lt_of_lt_of_le q523.lt (Nat.le_of_eq g535.symm))
      have ne538 : z_DOCUMENT ≠ b535 := Nat.ne_of_lt (Nat.lt_of_lt_of_le q525.lt (Nat.le_of_eq g535.symm))
      have ne539 : z_INT32 ≠ b535 := Nat.ne_of_lt (Nat.lt_of_lt_of_le q527.lt (Nat.le_of_eq g535.symm))
      have ne540 : b403 ≠ b535 := Nat.ne_of_lt (Nat.lt_of_lt_of_le q529.lt (Nat.le_of_eq g535.symm))
      have ne541 : b420 ≠ b535 := Nat.ne_of_lt (Nat.lt_of_lt_of_le q530.lt (Nat.le_of_eq g535.symm))
      have ne542 : b439 ≠ b535 := Nat.ne_of_lt (Nat.lt_of_lt_of_le q531.lt (Nat.le_of_eq g535.symm))
      have ne543 : b494 ≠ b535 := Nat.ne_of_lt (Nat.lt_of_lt_of_le q532.lt (Nat.le_of_eq g535.symm))
      have g544 : n0 ≤ b535 := Nat.le_trans Z533 (Nat.le_of_eq g535.symm)
      have q545 : Sta Z h535 "com/example/mimosa/mimosa/bson/BsonType" "NULL" "Lcom/example/mimosa/mimosa/bson/BsonType;" (.ref z_NULL) := q520.ext E535
      have q546 : Exa Z h535 z_NULL "com/example/mimosa/mimosa/bson/BsonType" := q521.ext E535
      have q547 : Sta Z h535 "com/example/mimosa/mimosa/bson/BsonType" "STRING" "Lcom/example/mimosa/mimosa/bson/BsonType;" (.ref z_STRING) := q522.ext E535
      have q548 : Exa Z h535 z_STRING "com/example/mimosa/mimosa/bson/BsonType" := q523.ext E535
      have q549 : Sta Z h535 "com/example/mimosa/mimosa/bson/BsonType" "DOCUMENT" "Lcom/example/mimosa/mimosa/bson/BsonType;" (.ref z_DOCUMENT) := q524.ext E535
      have q550 : Exa Z h535 z_DOCUMENT "com/example/mimosa/mimosa/bson/BsonType" := q525.ext E535
      have q551 : Sta Z h535 "com/example/mimosa/mimosa/bson/BsonType" "INT32" "Lcom/example/mimosa/mimosa/bson/BsonType;" (.ref z_INT32) := q526.ext E535
      have q552 : Exa Z h535 z_INT32 "com/example/mimosa/mimosa/bson/BsonType" := q527.ext E535
      have q553 : Sta Z h535 "java/lang/String" "COMPACT_STRINGS" "Z" (.int zc) := q528.ext E535
      have q554 : Arv Z h535 b403 k403 .byte (0 : Int32) [] (.int (0 : Int32)) := q529.ext E535
      have q555 : Arv Z h535 b420 k420 .byte (0 : Int32) [] (.int (0 : Int32)) := q530.ext E535
      have q556 : Arv Z h535 b439 k439 .byte (2 : Int32) [(.int (nar .byte ((i2 ^^^ (1 : Int32)).toInt8.toInt32))), (.int (nar .byte (i3.toInt8.toInt32)))] (.int (0 : Int32)) := q531.ext E535
      have q557 : Arv Z h535 b494 k494 .char (1 : Int32) [(.int (nar .char (((i6 >>> ((2 : Int32) &&& 31)) &&& (255 : Int32)).toUInt32.toUInt16.toUInt32.toInt32)))] (.int (0 : Int32)) := q532.ext E535
      have Z558 : n0 ≤ h535.size := Nat.le_trans Z533 E535.1
      have q559 : Fld Z h535 b535 "java/lang/String" "coder" "B" (.int (0 : Int32)) := D535 (Or.inr (hw _ (List.mem_of_getElem? (i := 27) rfl))) (ty := .byte) (by decide)
      have q560 : Fld Z h535 b535 "java/lang/String" "value" "[B" .null := D535 (Or.inr (hw _ (List.mem_of_getElem? (i := 29) rfl))) (ty := (.array .byte)) (by decide)
      refine Go.of st535 ?_
      show Go p e below Qo T535 (mkF m 128 #[.val (.int i1), .val (.int i2), .val (.int i3), .val (.int i4), .val (.int i5), .val (.int i6), .val (.int v7_2), .val (.ref b403), .val (.ref b420), .val (.ref b439), .val (.ref b494), .unset, .unset, .unset, .unset, .unset, .unset, .unset] [(.ref b535)])
      refine Go.of (fun t k => XS.dup X535.here hx rfl (hb hby at_128) rfl rfl k) ?_
      show Go p e below Qo T535 (mkF m 129 #[.val (.int i1), .val (.int i2), .val (.int i3), .val (.int i4), .val (.int i5), .val (.int i6), .val (.int v7_2), .val (.ref b403), .val (.ref b420), .val (.ref b439), .val (.ref b494), .unset, .unset, .unset, .unset, .unset, .unset, .unset] [(.ref b535), (.ref b535)])
      refine Go.of (fun t k => XS.aload X535.here hx rfl (hb hby at_129) rfl rfl k) ?_
      show Go p e below Qo T535 (mkF m 131 #[.val (.int i1), .val (.int i2), .val (.int i3), .val (.int i4), .val (.int i5), .val (.int i6), .val (.int v7_2), .val (.ref b403), .val (.ref b420), .val (.ref b439), .val (.ref b494), .unset, .unset, .unset, .unset, .unset, .unset, .unset] [(.ref b494), (.ref b535), (.ref b535)])
      have hws561 : ∀ d ∈ StrChars.Road.words, d.before a0 Z = true := fun d hd => hw d ((by decide +kernel : ∀ d ∈ StrChars.Road.words, d ∈ tables_1) d hd)
      obtain ⟨_, _, ⟨T561, L561, k561, n561⟩, -, X561, ⟨Lc561, hQ561, l561, y561, z561⟩, st561⟩ := X535.specialBack hx (y := (⟨"java/lang/String", "<init>", "([C)V"⟩ : MethodName)) rfl hown (mvT hZ (hw _ (List.mem_of_getElem? (i := 5) rfl))) (mvT hZ (hw _ (List.mem_of_getElem? (i := 6) rfl))) (mvT hZ (hw _ (List.mem_of_getElem? (i := 7) rfl))) (by decide) (StrChars.Road.backV (W := 1) hZ hws561 (kI := 4) (hw _ (List.mem_of_getElem? (i := 3) rfl)) (cs := [(nar .char (((i6 >>> ((2 : Int32) &&& 31)) &&& (255 : Int32)).toUInt32.toUInt16.toUInt32.toInt32))]) (bs := [((nar .char (((i6 >>> ((2 : Int32) &&& 31)) &&& (255 : Int32)).toUInt32.toUInt16.toUInt32.toInt32))).toInt8.toInt32]) (n := 1) g544 Z558 A535 q560 q559 q557 q553 hz rfl rfl (by decide) (by decide) (own_lat _) rfl (by decide) (by decide)) (g := (mkF m 131 #[.val (.int i1), .val (.int i2), .val (.int i3), .val (.int i4), .val (.int i5), .val (.int i6), .val (.int v7_2), .val (.ref b403), .val (.ref b420), .val (.ref b439), .val (.ref b494), .unset, .unset, .unset, .unset, .unset, .unset, .unset] [(.ref b494), (.ref b535), (.ref b535)])) rfl (by rw [hml]; rfl) (Steps.refl _) (a := b535) (argsL := [(.ref b494)]) (rest := [(.ref b535)]) (lenOf pd_0 rfl) rfl (by show 2 * 0 + _ ≤ _; exact Nat.le_of_eq rfl) (hb hby at_131) (fun _ _ => ⟨rfl, e535, (by decide : 5 + 1 ≤ _), (by decide : 7 + 1 ≤ _)⟩)
      dsimp only [Pt.U, Pt.locs, Pt.cells, Pt.slots] at X561 l561 y561 z561 st561 hQ561
      subst l561 y561 z561
      obtain ⟨rfl, N562, Kc563, q564, q565, x566, x567, g568, g569, ne570, q571, q572⟩ := hQ561
      have N573 := Fr.app N534 N562
      have ne574 : z_NULL ≠ x566 := Nat.ne_of_lt (Nat.lt_of_lt_of_le q546.lt g569)
      have ne575 : z_STRING ≠ x566 := Nat.ne_of_lt (Nat.lt_of_lt_of_le q548.lt g569)
      have ne576 : z_DOCUMENT ≠ x566 := Nat.ne_of_lt (Nat.lt_of_lt_of_le q550.lt g569)
      have ne577 : z_INT32 ≠ x566 := Nat.ne_of_lt (Nat.lt_of_lt_of_le q552.lt g569)
      have ne578 : b403 ≠ x566 := Nat.ne_of_lt (Nat.lt_of_lt_of_le q554.lt g569)
      have ne579 : b420 ≠ x566 := Nat.ne_of_lt (Nat.lt_of_lt_of_le q555.lt g569)
      have ne580 : b439 ≠ x566 := Nat.ne_of_lt (Nat.lt_of_lt_of_le q556.lt g569)
      have ne581 : b494 ≠ x566 := Nat.ne_of_lt (Nat.lt_of_lt_of_le q557.lt g569)
      have ne582 : b535 ≠ x566 := Nat.ne_of_lt (Nat.lt_of_lt_of_le A535.lt g569)
      have q583 : Sta Z T561.heap "com/example/mimosa/mimosa/bson/BsonType" "NULL" "Lcom/example/mimosa/mimosa/bson/BsonType;" (.ref z_NULL) := own_staKeep q545 Kc563 (allS (own_plainE A535) all0)
      have q584 : Exa Z T561.heap z_NULL "com/example/mimosa/mimosa/bson/BsonType" := q546.keep Kc563
      have q585 : Sta Z T561.heap "com/example/mimosa/mimosa/bson/BsonType" "STRING" "Lcom/example/mimosa/mimosa/bson/BsonType;" (.ref z_STRING) := own_staKeep q547 Kc563 (allS (own_plainE A535) all0)
      have q586 : Exa Z T561.heap z_STRING "com/example/mimosa/mimosa/bson/BsonType" := q548.keep Kc563
      have q587 : Sta Z T561.heap "com/example/mimosa/mimosa/bson/BsonType" "DOCUMENT" "Lcom/example/mimosa/mimosa/bson/BsonType;" (.ref z_DOCUMENT) := own_staKeep q549 Kc563 (allS (own_plainE A535) all0)
      have q588 : Exa Z T561.heap z_DOCUMENT "com/example/mimosa/mimosa/bson/BsonType" := q550.keep Kc563
      have q589 : Sta Z T561.heap "com/example/mimosa/mimosa/bson/BsonType" "INT32" "Lcom/example/mimosa/mimosa/bson/BsonType;" (.ref z_INT32) := own_staKeep q551 Kc563 (allS (own_plainE A535) all0)
      have q590 : Exa Z T561.heap z_INT32 "com/example/mimosa/mimosa/bson/BsonType" := q552.keep Kc563
      have q591 : Sta Z T561.heap "java/lang/String" "COMPACT_STRINGS" "Z" (.int zc) := own_staKeep q553 Kc563 (allS (own_plainE A535) all0)
      have q592 : Arv Z T561.heap b403 k403 .byte (0 : Int32) [] (.int (0 : Int32)) := q554.keep Kc563 (ninS ne540 nin0)
      have q593 : Arv Z T561.heap b420 k420 .byte (0 : Int32) [] (.int (0 : Int32)) := q555.keep Kc563 (ninS ne541 nin0)
      have q594 : Arv Z T561.heap b439 k439 .byte (2 : Int32) [(.int (nar .byte ((i2 ^^^ (1 : Int32)).toInt8.toInt32))), (.int (nar .byte (i3.toInt8.toInt32)))] (.int (0 : Int32)) := q556.keep Kc563 (ninS ne542 nin0)
      have q595 : Arv Z T561.heap b494 k494 .char (1 : Int32) [(.int (nar .char (((i6 >>> ((2 : Int32) &&& 31)) &&& (255 : Int32)).toUInt32.toUInt16.toUInt32.toInt32)))] (.int (0 : Int32)) := q557.keep Kc563 (ninS ne543 nin0)
      have Z596 : n0 ≤ T561.heap.size := Nat.le_trans Z558 Kc563.1
      refine Go.via st561 ?_
      show Go p e below Qo T561 (mkF m 134 #[.val (.int i1), .val (.int i2), .val (.int i3), .val (.int i4), .val (.int i5), .val (.int i6), .val (.int v7_2), .val (.ref b403), .val (.ref b420), .val (.ref b439), .val (.ref b494), .unset, .unset, .unset, .unset, .unset, .unset, .unset] [(.ref b535)])
      refine Go.of (fun t k => XS.astore X561.here hx rfl (hb hby at_134) rfl rfl (l' := #[.val (.int i1), .val (.int i2), .val (.int i3), .val (.int i4), .val (.int i5), .val (.int i6), .val (.int v7_2), .val (.ref b403), .val (.ref b420), .val (.ref b439), .val (.ref b494), .val (.ref b535), .unset, .unset, .unset, .unset, .unset, .unset]) rfl k) ?_
      show Go p e below Qo T561 (mkF m 136 #[.val (.int i1), .val (.int i2), .val (.int i3), .val (.int i4), .val (.int i5), .val (.int i6), .val (.int v7_2), .val (.ref b403), .val (.ref b420), .val (.ref b439), .val (.ref b494), .val (.ref b535), .unset, .unset, .unset, .unset, .unset, .unset] [])
      refine Go.of (fun t k => XS.iload X561.here hx rfl (hb hby at_136) rfl  k) ?_
      show Go p e below Qo T561 (mkF m 138 #[.val (.int i1), .val (.int i2), .val (.int i3), .val (.int i4), .val (.int i5), .val (.int i6), .val (.int v7_2), .val (.ref b403), .val (.ref b420), .val (.ref b439), .val (.ref b494), .val (.ref b535), .unset, .unset, .unset, .unset, .unset, .unset] [(.int i6)])
      obtain ⟨_, _, ⟨T597, L597, k597, n597⟩, -, X597, ⟨Lc597, hQ597, l597, y597, z597⟩, st597⟩ := Jvm.LawKit.callS X561 hx (y := (⟨"com/example/mimosa/mimosa/bson/BsonElementStandsInPinLaw", "pickType", "(I)Lcom/example/mimosa/mimosa/bson/BsonType;"⟩ : MethodName)) hown (mvT hZ (hw _ (List.mem_of_getElem? (i := 30) rfl))) (mvT hZ (hw _ (List.mem_of_getElem? (i := 31) rfl))) (mvT hZ (hw _ (List.mem_of_getElem? (i := 32) rfl))) (mvT hZ (hw _ (List.mem_of_getElem? (i := 33) rfl))) (by decide) (backOf (W := 0) (rm7 l Z a0 hw [] i6 z_NULL z_STRING z_DOCUMENT z_INT32 T561.heap n0 Z596 q583 q585 q587 q589) hZ (hw _ (List.mem_of_getElem? (i := 33) rfl)) (hw _ (List.mem_of_getElem? (i := 32) rfl)) (by decide) (by decide)) (g := (mkF m 138 #[.val (.int i1), .val (.int i2), .val (.int i3), .val (.int i4), .val (.int i5), .val (.int i6), .val (.int v7_2), .val (.ref b403), .val (.ref b420), .val (.ref b439), .val (.ref b494), .val (.ref b535), .unset, .unset, .unset, .unset, .unset, .unset] [(.int i6)])) rfl (by rw [hml]; rfl) (argsL := [(.int i6)]) (rest := []) (lenOf pd_1 rfl) rfl (by show 2 * 0 + _ ≤ _; exact Nat.le_of_eq rfl) (hb hby at_138) (fun _ _ => ⟨rfl, rfl, (by decide : 6 + 0 ≤ _), (by decide : 8 + 0 ≤ _)⟩)
      dsimp only [Pt.U, Pt.locs, Pt.cells, Pt.slots] at X597 l597 y597 z597 st597 hQ597
      subst l597 y597 z597
      obtain ⟨rfl, N598, eh599⟩ := hQ597
      have N600 := Fr.app N573 N598
      refine Go.of st597 ?_
      show Go p e below Qo T597 (mkF m 141 #[.val (.int i1), .val (.int i2), .val (.int i3), .val (.int i4), .val (.int i5), .val (.int i6), .val (.int v7_2), .val (.ref b403), .val (.ref b420), .val (.ref b439), .val (.ref b494), .val (.ref b535), .unset, .unset, .unset, .unset, .unset, .unset] [(.ref (F7 i6 z_NULL z_STRING z_DOCUMENT z_INT32))])
      refine Go.of (fun t k => XS.astore X597.here hx rfl (hb hby at_141) rfl rfl (l' := #[.val (.int i1), .val (.int i2), .val (.int i3), .val (.int i4), .val (.int i5), .val (.int i6), .val (.int v7_2), .val (.ref b403), .val (.ref b420), .val (.ref b439), .val (.ref b494), .val (.ref b535), .val (.ref (F7 i6 z_NULL z_STRING z_DOCUMENT z_INT32)), .unset, .unset, .unset, .unset, .unset]) rfl k) ?_
      show Go p e below Qo T597 (mkF m 143 #[.val (.int i1), .val (.int i2), .val (.int i3), .val (.int i4), .val (.int i5), .val (.int i6), .val (.int v7_2), .val (.ref b403), .val (.ref b420), .val (.ref b439), .val (.ref b494), .val (.ref b535), .val (.ref (F7 i6 z_NULL z_STRING z_DOCUMENT z_INT32)), .unset, .unset, .unset, .unset, .unset] [])
      obtain ⟨T601, h601, X601, e601, E601, A601, D601, -, st601⟩ := newO X597 hx hZ hown (hw _ (List.mem_of_getElem? (i := 37) rfl)) (hw _ (List.mem_of_getElem? (i := 38) rfl)) (hw _ (List.mem_of_getElem? (i := 39) rfl)) eh599 (g := (mkF m 143 #[.val (.int i1), .val (.int i2), .val (.int i3), .val (.int i4), .val (.int i5), .val (.int i6), .val (.int v7_2), .val (.ref b403), .val (.ref b420), .val (.ref b439), .val (.ref b494), .val (.ref b535), .val (.ref (F7 i6 z_NULL z_STRING z_DOCUMENT z_INT32)), .unset, .unset, .unset, .unset, .unset] [])) rfl (hb hby at_143) (by decide) (by decide)
      obtain ⟨b601, g601⟩ : ∃ z, z = T561.heap.size := ⟨_, rfl⟩
      rw [← g601] at A601 D601 st601
      have ne602 : z_NULL ≠ b601 := Nat.ne_of_lt (Nat.lt_of_lt_of_le q584.lt (Nat.le_of_eq g601.symm))
      have ne603 : z_STRING ≠ b601 := Nat.ne_of_lt (Nat.lt_of_lt_of_le q586.lt (Nat.le_of_eq g601.symm))
      have ne604 : z_DOCUMENT ≠ b601 := Nat.ne_of_lt (Nat.lt_of_lt_of_le q588.lt (Nat.le_of_eq g601.symm))
      have ne605 : z_INT32 ≠ b601 := Nat.ne_of_lt (Nat.lt_of_lt_of_le q590.lt (Nat.le_of_eq g601.symm))
      have ne606 : b403 ≠ b601 := Nat.ne_of_lt (Nat.lt_of_lt_of_le q592.lt (Nat.le_of_eq g601.symm))
      have ne607 : b420 ≠ b601 := Nat.ne_of_lt (Nat.lt_of_lt_of_le q593.lt (Nat.le_of_eq g601.symm))
      have ne608 : b439 ≠ b601 := Nat.ne_of_lt (Nat.lt_of_lt_of_le q594.lt (Nat.le_of_eq g601.symm))
      have ne609 : b494 ≠ b601 := Nat.ne_of_lt (Nat.lt_of_lt_of_le q595.lt (Nat.le_of_eq g601.symm))
      have ne610 : b535 ≠ b601 := Nat.ne_of_lt (Nat.lt_of_lt_of_le q564.lt (Nat.le_of_eq g601.symm))
      have g611 : n0 ≤ b601 := Nat.le_trans Z596 (Nat.le_of_eq g601.symm)
      have q612 : Sta Z h601 "com/example/mimosa/mimosa/bson/BsonType" "NULL" "Lcom/example/mimosa/mimosa/bson/BsonType;" (.ref z_NULL) := q583.ext E601
      have q613 : Exa Z h601 z_NULL "com/example/mimosa/mimosa/bson/BsonType" := q584.ext E601
      have q614 : Sta Z h601 "com/example/mimosa/mimosa/bson/BsonType" "STRING" "Lcom/example/mimosa/mimosa/bson/BsonType;" (.ref z_STRING) := q585.ext E601
      have q615 : Exa Z h601 z_STRING "com/example/mimosa/mimosa/bson/BsonType" := q586.ext E601
      have q616 : Sta Z h601 "com/example/mimosa/mimosa/bson/BsonType" "DOCUMENT" "Lcom/example/mimosa/mimosa/bson/BsonType;" (.ref z_DOCUMENT) := q587.ext E601
      have q617 : Exa Z h601 z_DOCUMENT "com/example/mimosa/mimosa/bson/BsonType" := q588.ext E601
      have q618 : Sta Z h601 "com/example/mimosa/mimosa/bson/BsonType" "INT32" "Lcom/example/mimosa/mimosa/bson/BsonType;" (.ref z_INT32) := q589.ext E601
      have q619 : Exa Z h601 z_INT32 "com/example/mimosa/mimosa/bson/BsonType" := q590.ext E601
      have q620 : Sta Z h601 "java/lang/String" "COMPACT_STRINGS" "Z" (.int zc) := q591.ext E601
      have q621 : Arv Z h601 b403 k403 .byte (0 : Int32) [] (.int (0 : Int32)) := q592.ext E601
      have q622 : Arv Z h601 b420 k420 .byte (0 : Int32) [] (.int (0 : Int32)) := q593.ext E601
      have q623 : Arv Z h601 b439 k439 .byte (2 : Int32) [(.int (nar .byte ((i2 ^^^ (1 : Int32)).toInt8.toInt32))), (.int (nar .byte (i3.toInt8.toInt32)))] (.int (0 : Int32)) := q594.ext E601
      have q624 : Arv Z h601 b494 k494 .char (1 : Int32) [(.int (nar .char (((i6 >>> ((2 : Int32) &&& 31)) &&& (255 : Int32)).toUInt32.toUInt16.toUInt32.toInt32)))] (.int (0 : Int32)) := q595.ext E601
      have q625 : Exa Z h601 b535 "java/lang/String" := q564.ext E601
      have Z626 : n0 ≤ h601.size := Nat.le_trans Z596 E601.1
      have q627 : Fld Z h601 b601 "com/example/mimosa/mimosa/bson/BsonElement" "source" "[B" .null := D601 (Or.inr (hw _ (List.mem_of_getElem? (i := 45) rfl))) (ty := (.array .byte)) (by decide)
      have q628 : Fld Z h601 b601 "com/example/mimosa/mimosa/bson/BsonElement" "name" "Ljava/lang/String;" .null := D601 (Or.inr (hw _ (List.mem_of_getElem? (i := 47) rfl))) (ty := (.object "java/lang/String")) (by decide)
      have q629 : Fld Z h601 b601 "com/example/mimosa/mimosa/bson/BsonElement" "type" "Lcom/example/mimosa/mimosa/bson/BsonType;" .null := D601 (Or.inr (hw _ (List.mem_of_getElem? (i := 49) rfl))) (ty := (.object "com/example/mimosa/mimosa/bson/BsonType")) (by decide)
      have q630 : Fld Z h601 b601 "com/example/mimosa/mimosa/bson/BsonElement" "valueOffset" "I" (.int (0 : Int32)) := D601 (Or.inr (hw _ (List.mem_of_getElem? (i := 51) rfl))) (ty := .int) (by decide)
      have q631 : Fld Z h601 b601 "com/example/mimosa/mimosa/bson/BsonElement" "valueLength" "I" (.int (0 : Int32)) := D601 (Or.inr (hw _ (List.mem_of_getElem? (i := 53) rfl))) (ty := .int) (by decide)
      refine Go.of st601 ?_
      show Go p e below Qo T601 (mkF m 146 #[.val (.int i1), .val (.int i2), .val (.int i3), .val (.int i4), .val (.int i5), .val (.int i6), .val (.int v7_2), .val (.ref b403), .val (.ref b420), .val (.ref b439), .val (.ref b494), .val (.ref b535), .val (.ref (F7 i6 z_NULL z_STRING z_DOCUMENT z_INT32)), .unset, .unset, .unset, .unset, .unset] [(.ref b601)])
      refine Go.of (fun t k => XS.dup X601.here hx rfl (hb hby at_146) rfl rfl k) ?_
      show Go p e below Qo T601 (mkF m 147 #[.val (.int i1), .val (.int i2), .val (.int i3), .val (.int i4), .val (.int i5), .val (.int i6), .val (.int v7_2), .val (.ref b403), .val (.ref b420), .val (.ref b439), .val (.ref b494), .val (.ref b535), .val (.ref (F7 i6 z_NULL z_STRING z_DOCUMENT z_INT32)), .unset, .unset, .unset, .unset, .unset] [(.ref b601), (.ref b601)])
      refine Go.of (fun t k => XS.aload X601.here hx rfl (hb hby at_147) rfl rfl k) ?_
      show Go p e below Qo T601 (mkF m 149 #[.val (.int i1), .val (.int i2), .val (.int i3), .val (.int i4), .val (.int i5), .val (.int i6), .val (.int v7_2), .val (.ref b403), .val (.ref b420), .val (.ref b439), .val (.ref b494), .val (.ref b535), .val (.ref (F7 i6 z_NULL z_STRING z_DOCUMENT z_INT32)), .unset, .unset, .unset, .unset, .unset] [(.ref b403), (.ref b601), (.ref b601)])
      refine Go.of (fun t k => XS.aload X601.here hx rfl (hb hby at_149) rfl rfl k) ?_
      show Go p e below Qo T601 (mkF m 151 #[.val (.int i1), .val (.int i2), .val (.int i3), .val (.int i4), .val (.int i5), .val (.int i6), .val (.int v7_2), .val (.ref b403), .val (.ref b420), .val (.ref b439), .val (.ref b494), .val (.ref b535), .val (.ref (F7 i6 z_NULL z_STRING z_DOCUMENT z_INT32)), .unset, .unset, .unset, .unset, .unset] [(.ref b535), (.ref b403), (.ref b601), (.ref b601)])
      refine Go.of (fun t k => XS.aload X601.here hx rfl (hb hby at_151) rfl rfl k) ?_
      show Go p e below Qo T601 (mkF m 153 #[.val (.int i1), .val (.int i2), .val (.int i3), .val (.int i4), .val (.int i5), .val (.int i6), .val (.int v7_2), .val (.ref b403), .val (.ref b420), .val (.ref b439), .val (.ref b494), .val (.ref b535), .val (.ref (F7 i6 z_NULL z_STRING z_DOCUMENT z_INT32)), .unset, .unset, .unset, .unset, .unset] [(.ref (F7 i6 z_NULL z_STRING z_DOCUMENT z_INT32)), (.ref b535), (.ref b403), (.ref b601), (.ref b601)])
      refine Go.of (fun t k => XS.iloadN X601.here hx rfl (hb hby at_153) rfl  k) ?_
      show Go p e below Qo T601 (mkF m 154 #[.val (.int i1), .val (.int i2), .val (.int i3), .val (.int i4), .val (.int i5), .val (.int i6), .val (.int v7_2), .val (.ref b403), .val (.ref b420), .val (.ref b439), .val (.ref b494), .val (.ref b535), .val (.ref (F7 i6 z_NULL z_STRING z_DOCUMENT z_INT32)), .unset, .unset, .unset, .unset, .unset] [(.int i4), (.ref (F7 i6 z_NULL z_STRING z_DOCUMENT z_INT32)), (.ref b535), (.ref b403), (.ref b601), (.ref b601)])
      refine Go.of (fun t k => XS.iload X601.here hx rfl (hb hby at_154) rfl  k) ?_
      show Go p e below Qo T601 (mkF m 156 #[.val (.int i1), .val (.int i2), .val (.int i3), .val (.int i4), .val (.int i5), .val (.int i6), .val (.int v7_2), .val (.ref b403), .val (.ref b420), .val (.ref b439), .val (.ref b494), .val (.ref b535), .val (.ref (F7 i6 z_NULL z_STRING z_DOCUMENT z_INT32)), .unset, .unset, .unset, .unset, .unset] [(.int i5), (.int i4), (.ref (F7 i6 z_NULL z_STRING z_DOCUMENT z_INT32)), (.ref b535), (.ref b403), (.ref b601), (.ref b601)])
      obtain ⟨_, _, ⟨T632, L632, k632, n632⟩, -, X632, ⟨Lc632, hQ632, l632, y632, z632⟩, st632⟩ := X601.specialBack hx (y := (⟨"com/example/mimosa/mimosa/bson/BsonElement", "<init>", "([BLjava/lang/String;Lcom/example/mimosa/mimosa/bson/BsonType;II)V"⟩ : MethodName)) rfl hown (mvT hZ (hw _ (List.mem_of_getElem? (i := 40) rfl))) (mvT hZ (hw _ (List.mem_of_getElem? (i := 41) rfl))) (mvT hZ (hw _ (List.mem_of_getElem? (i := 42) rfl))) (by decide) (backOf (W := 1) (rm8 l Z a0 hw [] b601 b403 b535 (F7 i6 z_NULL z_STRING z_DOCUMENT z_INT32) i4 i5 .null .null .null (.int (0 : Int32)) (.int (0 : Int32)) h601 n0 Z626 A601 q627 q628 q629 q630 q631 g611) hZ (hw _ (List.mem_of_getElem? (i := 42) rfl)) (hw _ (List.mem_of_getElem? (i := 39) rfl)) (by decide) (by decide)) (g := (mkF m 156 #[.val (.int i1), .val (.int i2), .val (.int i3), .val (.int i4), .val (.int i5), .val (.int i6), .val (.int v7_2), .val (.ref b403), .val (.ref b420), .val (.ref b439), .val (.ref b494), .val (.ref b535), .val (.ref (F7 i6 z_NULL z_STRING z_DOCUMENT z_INT32)), .unset, .unset, .unset, .unset, .unset] [(.int i5), (.int i4), (.ref (F7 i6 z_NULL z_STRING z_DOCUMENT z_INT32)), (.ref b535), (.ref b403), (.ref b601), (.ref b601)])) rfl (by rw [hml]; rfl) (Steps.refl _) (a := b601) (argsL := [(.ref b403), (.ref b535), (.ref (F7 i6 z_NULL z_STRING z_DOCUMENT z_INT32)), (.int i4), (.int i5)]) (rest := [(.ref b601)]) (lenOf pd_2 rfl) rfl (by show 2 * 0 + _ ≤ _; exact Nat.le_of_eq rfl) (hb hby at_156) (fun _ _ => ⟨rfl, e601, (by decide : 7 + 0 ≤ _), (by decide : 13 + 0 ≤ _)⟩)
      dsimp only [Pt.U, Pt.locs, Pt.cells, Pt.slots] at X632 l632 y632 z632 st632 hQ632
      subst l632 y632 z632
      obtain ⟨rfl, N633, Kc634, q635, q636, q637, q638, q639, q640⟩ := hQ632
      have N641 := Fr.app N600 N633
      have q642 : Sta Z T632.heap "com/example/mimosa/mimosa/bson/BsonType" "NULL" "Lcom/example/mimosa/mimosa/bson/BsonType;" (.ref z_NULL) := own_staKeep q612 Kc634 (allS (own_plainE A601) all0)
      have q643 : Exa Z T632.heap z_NULL "com/example/mimosa/mimosa/bson/BsonType" := q613.keep Kc634
      have q644 : Sta Z T632.heap "com/example/mimosa/mimosa/bson/BsonType" "STRING" "Lcom/example/mimosa/mimosa/bson/BsonType;" (.ref z_STRING) := own_staKeep q614 Kc634 (allS (own_plainE A601) all0)
      have q645 : Exa Z T632.heap z_STRING "com/example/mimosa/mimosa/bson/BsonType" := q615.keep Kc634
      have q646 : Sta Z T632.heap "com/example/mimosa/mimosa/bson/BsonType" "DOCUMENT" "Lcom/example/mimosa/mimosa/bson/BsonType;" (.ref z_DOCUMENT) := own_staKeep q616 Kc634 (allS (own_plainE A601) all0)
      have q647 : Exa Z T632.heap z_DOCUMENT "com/example/mimosa/mimosa/bson/BsonType" := q617.keep Kc634
      have q648 : Sta Z T632.heap "com/example/mimosa/mimosa/bson/BsonType" "INT32" "Lcom/example/mimosa/mimosa/bson/BsonType;" (.ref z_INT32) := own_staKeep q618 Kc634 (allS (own_plainE A601) all0)
      have q649 : Exa Z T632.heap z_INT32 "com/example/mimosa/mimosa/bson/BsonType" := q619.keep Kc634
      have q650 : Sta Z T632.heap "java/lang/String" "COMPACT_STRINGS" "Z" (.int zc) := own_staKeep q620 Kc634 (allS (own_plainE A601) all0)
      have q651 : Arv Z T632.heap b403 k403 .byte (0 : Int32) [] (.int (0 : Int32)) := q621.keep Kc634 (ninS ne606 nin0)
      have q652 : Arv Z T632.heap b420 k420 .byte (0 : Int32) [] (.int (0 : Int32)) := q622.keep Kc634 (ninS ne607 nin0)
      have q653 : Arv Z T632.heap b439 k439 .byte (2 : Int32) [(.int (nar .byte ((i2 ^^^ (1 : Int32)).toInt8.toInt32))), (.int (nar .byte (i3.toInt8.toInt32)))] (.int (0 : Int32)) := q623.keep Kc634 (ninS ne608 nin0)
      have q654 : Arv Z T632.heap b494 k494 .char (1 : Int32) [(.int (nar .char (((i6 >>> ((2 : Int32) &&& 31)) &&& (255 : Int32)).toUInt32.toUInt16.toUInt32.toInt32)))] (.int (0 : Int32)) := q624.keep Kc634 (ninS ne609 nin0)
      have q655 : Exa Z T632.heap b535 "java/lang/String" := q625.keep Kc634
      have Z656 : n0 ≤ T632.heap.size := Nat.le_trans Z626 Kc634.1
      refine Go.via st632 ?_
      show Go p e below Qo T632 (mkF m 159 #[.val (.int i1), .val (.int i2), .val (.int i3), .val (.int i4), .val (.int i5), .val (.int i6), .val (.int v7_2), .val (.ref b403), .val (.ref b420), .val (.ref b439), .val (.ref b494), .val (.ref b535), .val (.ref (F7 i6 z_NULL z_STRING z_DOCUMENT z_INT32)), .unset, .unset, .unset, .unset, .unset] [(.ref b601)])
      refine Go.of (fun t k => XS.astore X632.here hx rfl (hb hby at_159) rfl rfl (l' := #[.val (.int i1), .val (.int i2), .val (.int i3), .val (.int i4), .val (.int i5), .val (.int i6), .val (.int v7_2), .val (.ref b403), .val (.ref b420), .val (.ref b439), .val (.ref b494), .val (.ref b535), .val (.ref (F7 i6 z_NULL z_STRING z_DOCUMENT z_INT32)), .val (.ref b601), .unset, .unset, .unset, .unset]) rfl k) ?_
      show Go p e below Qo T632 (mkF m 161 #[.val (.int i1), .val (.int i2), .val (.int i3), .val (.int i4), .val (.int i5), .val (.int i6), .val (.int v7_2), .val (.ref b403), .val (.ref b420), .val (.ref b439), .val (.ref b494), .val (.ref b535), .val (.ref (F7 i6 z_NULL z_STRING z_DOCUMENT z_INT32)), .val (.ref b601), .unset, .unset, .unset, .unset] [])
      refine Go.of (fun t k => XS.aload X632.here hx rfl (hb hby at_161) rfl rfl k) ?_
      show Go p e below Qo T632 (mkF m 163 #[.val (.int i1), .val (.int i2), .val (.int i3), .val (.int i4), .val (.int i5), .val (.int i6), .val (.int v7_2), .val (.ref b403), .val (.ref b420), .val (.ref b439), .val (.ref b494), .val (.ref b535), .val (.ref (F7 i6 z_NULL z_STRING z_DOCUMENT z_INT32)), .val (.ref b601), .unset, .unset, .unset, .unset] [(.ref b601)])
      refine Go.of (fun t k => XS.aload X632.here hx rfl (hb hby at_163) rfl rfl k) ?_
      show Go p e below Qo T632 (mkF m 165 #[.val (.int i1), .val (.int i2), .val (.int i3), .val (.int i4), .val (.int i5), .val (.int i6), .val (.int v7_2), .val (.ref b403), .val (.ref b420), .val (.ref b439), .val (.ref b494), .val (.ref b535), .val (.ref (F7 i6 z_NULL z_STRING z_DOCUMENT z_INT32)), .val (.ref b601), .unset, .unset, .unset, .unset] [(.ref b403), (.ref b601)])
      obtain ⟨ciq658, kiq658, iq658a, iq658b, iq658c⟩ := isOf hZ rfl q635
      obtain ⟨_, _, ⟨T657, L657, k657, n657⟩, -, X657, ⟨Lc657, hQ657, l657, y657, z657⟩, st657⟩ := X632.virtualBack hx (y := (⟨"com/example/mimosa/mimosa/bson/BsonElement", "standsIn", "([B)Z"⟩ : MethodName)) (z := (⟨"com/example/mimosa/mimosa/bson/BsonElement", "standsIn", "([B)Z"⟩ : MethodName)) hown (mvT hZ (hw _ (List.mem_of_getElem? (i := 54) rfl))) (mvT hZ (hw _ (List.mem_of_getElem? (i := 55) rfl))) (notFace_of_selects (args := #[]) (mvT hZ (hw _ (List.mem_of_getElem? (i := 57) rfl)))) (mvT hZ (hw _ (List.mem_of_getElem? (i := 57) rfl))) (mvT hZ (hw _ (List.mem_of_getElem? (i := 56) rfl))) (by decide) (backOf (W := 0) (rm91 l Z a0 hw [] b601 b403 T632.heap n0 Z656 q636) hZ (hw _ (List.mem_of_getElem? (i := 58) rfl)) (hw _ (List.mem_of_getElem? (i := 39) rfl)) (by decide) (by decide)) iq658a iq658c (g := (mkF m 165 #[.val (.int i1), .val (.int i2), .val (.int i3), .val (.int i4), .val (.int i5), .val (.int i6), .val (.int v7_2), .val (.ref b403), .val (.ref b420), .val (.ref b439), .val (.ref b494), .val (.ref b535), .val (.ref (F7 i6 z_NULL z_STRING z_DOCUMENT z_INT32)), .val (.ref b601), .unset, .unset, .unset, .unset] [(.ref b403), (.ref b601)])) rfl (by rw [hml]; rfl) (Steps.refl _) (argsL := [(.ref b403)]) (rest := []) (lenOf pd_3 rfl) rfl (by show 2 * 0 + _ ≤ _; exact Nat.le_of_eq rfl) (hb hby at_165) (fun _ _ => ⟨rfl, rfl, (by decide : 7 + 0 ≤ _), (by decide : 13 + 0 ≤ _)⟩)
      dsimp only [Pt.U, Pt.locs, Pt.cells, Pt.slots] at X657 l657 y657 z657 st657 hQ657
      subst l657 y657 z657
      obtain ⟨rfl, N659, eh660⟩ := hQ657
      have N661 := Fr.app N641 N659
      refine Go.via st657 ?_
      show Go p e below Qo T657 (mkF m 168 #[.val (.int i1), .val (.int i2), .val (.int i3), .val (.int i4), .val (.int i5), .val (.int i6), .val (.int v7_2), .val (.ref b403), .val (.ref b420), .val (.ref b439), .val (.ref b494), .val (.ref b535), .val (.ref (F7 i6 z_NULL z_STRING z_DOCUMENT z_INT32)), .val (.ref b601), .unset, .unset, .unset, .unset] [(.int (1 : Int32))])
      refine Go.of (fun t k => XS.istore X657.here hx rfl (hb hby at_168) rfl (l' := #[.val (.int i1), .val (.int i2), .val (.int i3), .val (.int i4), .val (.int i5), .val (.int i6), .val (.int v7_2), .val (.ref b403), .val (.ref b420), .val (.ref b439), .val (.ref b494), .val (.ref b535), .val (.ref (F7 i6 z_NULL z_STRING z_DOCUMENT z_INT32)), .val (.ref b601), .val (.int (1 : Int32)), .unset, .unset, .unset]) rfl k) ?_
      show Go p e below Qo T657 (mkF m 170 #[.val (.int i1), .val (.int i2), .val (.int i3), .val (.int i4), .val (.int i5), .val (.int i6), .val (.int v7_2), .val (.ref b403), .val (.ref b420), .val (.ref b439), .val (.ref b494), .val (.ref b535), .val (.ref (F7 i6 z_NULL z_STRING z_DOCUMENT z_INT32)), .val (.ref b601), .val (.int (1 : Int32)), .unset, .unset, .unset] [])
      refine Go.of (fun t k => XS.aload X657.here hx rfl (hb hby at_170) rfl rfl k) ?_
      show Go p e below Qo T657 (mkF m 172 #[.val (.int i1), .val (.int i2), .val (.int i3), .val (.int i4), .val (.int i5), .val (.int i6), .val (.int v7_2), .val (.ref b403), .val (.ref b420), .val (.ref b439), .val (.ref b494), .val (.ref b535), .val (.ref (F7 i6 z_NULL z_STRING z_DOCUMENT z_INT32)), .val (.ref b601), .val (.int (1 : Int32)), .unset, .unset, .unset] [(.ref b601)])
      refine Go.of (fun t k => XS.aload X657.here hx rfl (hb hby at_172) rfl rfl k) ?_
      show Go p e below Qo T657 (mkF m 174 #[.val (.int i1), .val (.int i2), .val (.int i3), .val (.int i4), .val (.int i5), .val (.int i6), .val (.int v7_2), .val (.ref b403), .val (.ref b420), .val (.ref b439), .val (.ref b494), .val (.ref b535), .val (.ref (F7 i6 z_NULL z_STRING z_DOCUMENT z_INT32)), .val (.ref b601), .val (.int (1 : Int32)), .unset, .unset, .unset] [(.ref b420), (.ref b601)])
      obtain ⟨ciq663, kiq663, iq663a, iq663b, iq663c⟩ := isOf hZ eh660 q635
      obtain ⟨_, _, ⟨T662, L662, k662, n662⟩, -, X662, ⟨Lc662, hQ662, l662, y662, z662⟩, st662⟩ := X657.virtualBack hx (y := (⟨"com/example/mimosa/mimosa/bson/BsonElement", "standsIn", "([B)Z"⟩ : MethodName)) (z := (⟨"com/example/mimosa/mimosa/bson/BsonElement", "standsIn", "([B)Z"⟩ : MethodName)) hown (mvT hZ (hw _ (List.mem_of_getElem? (i := 54) rfl))) (mvT hZ (hw _ (List.mem_of_getElem? (i := 55) rfl))) (notFace_of_selects (args := #[]) (mvT hZ (hw _ (List.mem_of_getElem? (i := 57) rfl)))) (mvT hZ (hw _ (List.mem_of_getElem? (i := 57) rfl))) (mvT hZ (hw _ (List.mem_of_getElem? (i := 56) rfl))) (by decide) (backOf (W := 0) (rm92 l Z a0 hw [] b601 b420 b403 T632.heap n0 Z656 q636 ne425) hZ (hw _ (List.mem_of_getElem? (i := 58) rfl)) (hw _ (List.mem_of_getElem? (i := 39) rfl)) (by decide) (by decide)) iq663a iq663c (g := (mkF m 174 #[.val (.int i1), .val (.int i2), .val (.int i3), .val (.int i4), .val (.int i5), .val (.int i6), .val (.int v7_2), .val (.ref b403), .val (.ref b420), .val (.ref b439), .val (.ref b494), .val (.ref b535), .val (.ref (F7 i6 z_NULL z_STRING z_DOCUMENT z_INT32)), .val (.ref b601), .val (.int (1 : Int32)), .unset, .unset, .unset] [(.ref b420), (.ref b601)])) rfl (by rw [hml]; rfl) (Steps.refl _) (argsL := [(.ref b420)]) (rest := []) (lenOf pd_3 rfl) rfl (by show 2 * 0 + _ ≤ _; exact Nat.le_of_eq rfl) (hb hby at_174) (fun _ _ => ⟨rfl, eh660, (by decide : 7 + 0 ≤ _), (by decide : 13 + 0 ≤ _)⟩)
      dsimp only [Pt.U, Pt.locs, Pt.cells, Pt.slots] at X662 l662 y662 z662 st662 hQ662
      subst l662 y662 z662
      obtain ⟨rfl, N664, eh665⟩ := hQ662
      have N666 := Fr.app N661 N664
      refine Go.via st662 ?_
      show Go p e below Qo T662 (mkF m 177 #[.val (.int i1), .val (.int i2), .val (.int i3), .val (.int i4), .val (.int i5), .val (.int i6), .val (.int v7_2), .val (.ref b403), .val (.ref b420), .val (.ref b439), .val (.ref b494), .val (.ref b535), .val (.ref (F7 i6 z_NULL z_STRING z_DOCUMENT z_INT32)), .val (.ref b601), .val (.int (1 : Int32)), .unset, .unset, .unset] [(.int (0 : Int32))])
      refine Go.of (fun t k => XS.istore X662.here hx rfl (hb hby at_177) rfl (l' := #[.val (.int i1), .val (.int i2), .val (.int i3), .val (.int i4), .val (.int i5), .val (.int i6), .val (.int v7_2), .val (.ref b403), .val (.ref b420), .val (.ref b439), .val (.ref b494), .val (.ref b535), .val (.ref (F7 i6 z_NULL z_STRING z_DOCUMENT z_INT32)), .val (.ref b601), .val (.int (1 : Int32)), .val (.int (0 : Int32)), .unset, .unset]) rfl k) ?_
      show Go p e below Qo T662 (mkF m 179 #[.val (.int i1), .val (.int i2), .val (.int i3), .val (.int i4), .val (.int i5), .val (.int i6), .val (.int v7_2), .val (.ref b403), .val (.ref b420), .val (.ref b439), .val (.ref b494), .val (.ref b535), .val (.ref (F7 i6 z_NULL z_STRING z_DOCUMENT z_INT32)), .val (.ref b601), .val (.int (1 : Int32)), .val (.int (0 : Int32)), .unset, .unset] [])
      refine Go.of (fun t k => XS.aload X662.here hx rfl (hb hby at_179) rfl rfl k) ?_
      show Go p e below Qo T662 (mkF m 181 #[.val (.int i1), .val (.int i2), .val (.int i3), .val (.int i4), .val (.int i5), .val (.int i6), .val (.int v7_2), .val (.ref b403), .val (.ref b420), .val (.ref b439), .val (.ref b494), .val (.ref b535), .val (.ref (F7 i6 z_NULL z_STRING z_DOCUMENT z_INT32)), .val (.ref b601), .val (.int (1 : Int32)), .val (.int (0 : Int32)), .unset, .unset] [(.ref b601)])
      refine Go.of (fun t k => XS.aload X662.here hx rfl (hb hby at_181) rfl rfl k) ?_
      show Go p e below Qo T662 (mkF m 183 #[.val (.int i1), .val (.int i2), .val (.int i3), .val (.int i4), .val (.int i5), .val (.int i6), .val (.int v7_2), .val (.ref b403), .val (.ref b420), .val (.ref b439), .val (.ref b494), .val (.ref b535), .val (.ref (F7 i6 z_NULL z_STRING z_DOCUMENT z_INT32)), .val (.ref b601), .val (.int (1 : Int32)), .val (.int (0 : Int32)), .unset, .unset] [(.ref b439), (.ref b601)])
      obtain ⟨ciq668, kiq668, iq668a, iq668b, iq668c⟩ := isOf hZ eh665 q635
      obtain ⟨_, _, ⟨T667, L667, k667, n667⟩, -, X667, ⟨Lc667, hQ667, l667, y667, z667⟩, st667⟩ := X662.virtualBack hx (y := (⟨"com/example/mimosa/mimosa/bson/BsonElement", "standsIn", "([B)Z"⟩ : MethodName)) (z := (⟨"com/example/mimosa/mimosa/bson/BsonElement", "standsIn", "([B)Z"⟩ : MethodName)) hown (mvT hZ (hw _ (List.mem_of_getElem? (i := 54) rfl))) (mvT hZ (hw _ (List.mem_of_getElem? (i := 55) rfl))) (notFace_of_selects (args := #[]) (mvT hZ (hw _ (List.mem_of_getElem? (i := 57) rfl)))) (mvT hZ (hw _ (List.mem_of_getElem? (i := 57) rfl))) (mvT hZ (hw _ (List.mem_of_getElem? (i := 56) rfl))) (by decide) (backOf (W := 0) (rm92 l Z a0 hw [] b601 b439 b403 T632.heap n0 Z656 q636 ne444) hZ (hw _ (List.mem_of_getElem? (i := 58) rfl)) (hw _ (List.mem_of_getElem? (i := 39) rfl)) (by decide) (by decide)) iq668a iq668c (g := (mkF m 183 #[.val (.int i1), .val (.int i2), .val (.int i3), .val (.int i4), .val (.int i5), .val (.int i6), .val (.int v7_2), .val (.ref b403), .val (.ref b420), .val (.ref b439), .val (.ref b494), .val (.ref b535), .val (.ref (F7 i6 z_NULL z_STRING z_DOCUMENT z_INT32)), .val (.ref b601), .val (.int (1 : Int32)), .val (.int (0 : Int32)), .unset, .unset] [(.ref b439), (.ref b601)])) rfl (by rw [hml]; rfl) (Steps.refl _) (argsL := [(.ref b439)]) (rest := []) (lenOf pd_3 rfl) rfl (by show 2 * 0 + _ ≤ _; exact Nat.le_of_eq rfl) (hb hby at_183) (fun _ _ => ⟨rfl, eh665, (by decide : 7 + 0 ≤ _), (by decide : 13 + 0 ≤ _)⟩)
      dsimp only [Pt.U, Pt.locs, Pt.cells, Pt.slots] at X667 l667 y667 z667 st667 hQ667
      subst l667 y667 z667
      obtain ⟨rfl, N669, eh670⟩ := hQ667
      have N671 := Fr.app N666 N669
      refine Go.via st667 ?_
      show Go p e below Qo T667 (mkF m 186 #[.val (.int i1), .val (.int i2), .val (.int i3), .val (.int i4), .val (.int i5), .val (.int i6), .val (.int v7_2), .val (.ref b403), .val (.ref b420), .val (.ref b439), .val (.ref b494), .val (.ref b535), .val (.ref (F7 i6 z_NULL z_STRING z_DOCUMENT z_INT32)), .val (.ref b601), .val (.int (1 : Int32)), .val (.int (0 : Int32)), .unset, .unset] [(.int (0 : Int32))])
      refine Go.of (fun t k => XS.istore X667.here hx rfl (hb hby at_186) rfl (l' := #[.val (.int i1), .val (.int i2), .val (.int i3), .val (.int i4), .val (.int i5), .val (.int i6), .val (.int v7_2), .val (.ref b403), .val (.ref b420), .val (.ref b439), .val (.ref b494), .val (.ref b535), .val (.ref (F7 i6 z_NULL z_STRING z_DOCUMENT z_INT32)), .val (.ref b601), .val (.int (1 : Int32)), .val (.int (0 : Int32)), .val (.int (0 : Int32)), .unset]) rfl k) ?_
      show Go p e below Qo T667 (mkF m 188 #[.val (.int i1), .val (.int i2), .val (.int i3), .val (.int i4), .val (.int i5), .val (.int i6), .val (.int v7_2), .val (.ref b403), .val (.ref b420), .val (.ref b439), .val (.ref b494), .val (.ref b535), .val (.ref (F7 i6 z_NULL z_STRING z_DOCUMENT z_INT32)), .val (.ref b601), .val (.int (1 : Int32)), .val (.int (0 : Int32)), .val (.int (0 : Int32)), .unset] [])
      refine Go.of (fun t k => XS.aload X667.here hx rfl (hb hby at_188) rfl rfl k) ?_
      show Go p e below Qo T667 (mkF m 190 #[.val (.int i1), .val (.int i2), .val (.int i3), .val (.int i4), .val (.int i5), .val (.int i6), .val (.int v7_2), .val (.ref b403), .val (.ref b420), .val (.ref b439), .val (.ref b494), .val (.ref b535), .val (.ref (F7 i6 z_NULL z_STRING z_DOCUMENT z_INT32)), .val (.ref b601), .val (.int (1 : Int32)), .val (.int (0 : Int32)), .val (.int (0 : Int32)), .unset] [(.ref b601)])
      refine Go.of (fun t k => XS.aconstNull X667.here hx rfl (hb hby at_190) k) ?_
      show Go p e below Qo T667 (mkF m 191 #[.val (.int i1), .val (.int i2), .val (.int i3), .val (.int i4), .val (.int i5), .val (.int i6), .val (.int v7_2), .val (.ref b403), .val (.ref b420), .val (.ref b439), .val (.ref b494), .val (.ref b535), .val (.ref (F7 i6 z_NULL z_STRING z_DOCUMENT z_INT32)), .val (.ref b601), .val (.int (1 : Int32)), .val (.int (0 : Int32)), .val (.int (0 : Int32)), .unset] [.null, (.ref b601)])
      obtain ⟨ciq673, kiq673, iq673a, iq673b, iq673c⟩ := isOf hZ eh670 q635
      obtain ⟨_, _, ⟨T672, L672, k672, n672⟩, -, X672, ⟨Lc672, hQ672, l672, y672, z672⟩, st672⟩ := X667.virtualBack hx (y := (⟨"com/example/mimosa/mimosa/bson/BsonElement", "standsIn", "([B)Z"⟩ : MethodName)) (z := (⟨"com/example/mimosa/mimosa/bson/BsonElement", "standsIn", "([B)Z"⟩ : MethodName)) hown (mvT hZ (hw _ (List.mem_of_getElem? (i := 54) rfl))) (mvT hZ (hw _ (List.mem_of_getElem? (i := 55) rfl))) (notFace_of_selects (args := #[]) (mvT hZ (hw _ (List.mem_of_getElem? (i := 57) rfl)))) (mvT hZ (hw _ (List.mem_of_getElem? (i := 57) rfl))) (mvT hZ (hw _ (List.mem_of_getElem? (i := 56) rfl))) (by decide) (backOf (W := 0) (rm93 l Z a0 hw [] b601 b403 T632.heap n0 Z656 q636) hZ (hw _ (List.mem_of_getElem? (i := 58) rfl)) (hw _ (List.mem_of_getElem? (i := 39) rfl)) (by decide) (by decide)) iq673a iq673c (g := (mkF m 191 #[.val (.int i1), .val (.int i2), .val (.int i3), .val (.int i4), .val (.int i5), .val (.int i6), .val (.int v7_2), .val (.ref b403), .val (.ref b420), .val (.ref b439), .val (.ref b494), .val (.ref b535), .val (.ref (F7 i6 z_NULL z_STRING z_DOCUMENT z_INT32)), .val (.ref b601), .val (.int (1 : Int32)), .val (.int (0 : Int32)), .val (.int (0 : Int32)), .unset] [.null, (.ref b601)])) rfl (by rw [hml]; rfl) (Steps.refl _) (argsL := [.null]) (rest := []) (lenOf pd_3 rfl) rfl (by show 2 * 0 + _ ≤ _; exact Nat.le_of_eq rfl) (hb hby at_191) (fun _ _ => ⟨rfl, eh670, (by decide : 7 + 0 ≤ _), (by decide : 13 + 0 ≤ _)⟩)
      dsimp only [Pt.U, Pt.locs, Pt.cells, Pt.slots] at X672 l672 y672 z672 st672 hQ672
      subst l672 y672 z672
      obtain ⟨rfl, N674, eh675⟩ := hQ672
      have N676 := Fr.app N671 N674
      refine Go.via st672 ?_
      show Go p e below Qo T672 (mkF m 194 #[.val (.int i1), .val (.int i2), .val (.int i3), .val (.int i4), .val (.int i5), .val (.int i6), .val (.int v7_2), .val (.ref b403), .val (.ref b420), .val (.ref b439), .val (.ref b494), .val (.ref b535), .val (.ref (F7 i6 z_NULL z_STRING z_DOCUMENT z_INT32)), .val (.ref b601), .val (.int (1 : Int32)), .val (.int (0 : Int32)), .val (.int (0 : Int32)), .unset] [(.int (0 : Int32))])
      refine Go.of (fun t k => XS.istore X672.here hx rfl (hb hby at_194) rfl (l' := #[.val (.int i1), .val (.int i2), .val (.int i3), .val (.int i4), .val (.int i5), .val (.int i6), .val (.int v7_2), .val (.ref b403), .val (.ref b420), .val (.ref b439), .val (.ref b494), .val (.ref b535), .val (.ref (F7 i6 z_NULL z_STRING z_DOCUMENT z_INT32)), .val (.ref b601), .val (.int (1 : Int32)), .val (.int (0 : Int32)), .val (.int (0 : Int32)), .val (.int (0 : Int32))]) rfl k) ?_
      show Go p e below Qo T672 (mkF m 196 #[.val (.int i1), .val (.int i2), .val (.int i3), .val (.int i4), .val (.int i5), .val (.int i6), .val (.int v7_2), .val (.ref b403), .val (.ref b420), .val (.ref b439), .val (.ref b494), .val (.ref b535), .val (.ref (F7 i6 z_NULL z_STRING z_DOCUMENT z_INT32)), .val (.ref b601), .val (.int (1 : Int32)), .val (.int (0 : Int32)), .val (.int (0 : Int32)), .val (.int (0 : Int32))] [])
      refine Go.of (fun t k => XS.iload X672.here hx rfl (hb hby at_196) rfl  k) ?_
      show Go p e below Qo T672 (mkF m 198 #[.val (.int i1), .val (.int i2), .val (.int i3), .val (.int i4), .val (.int i5), .val (.int i6), .val (.int v7_2), .val (.ref b403), .val (.ref b420), .val (.ref b439), .val (.ref b494), .val (.ref b535), .val (.ref (F7 i6 z_NULL z_STRING z_DOCUMENT z_INT32)), .val (.ref b601), .val (.int (1 : Int32)), .val (.int (0 : Int32)), .val (.int (0 : Int32)), .val (.int (0 : Int32))] [(.int (1 : Int32))])
      refine Go.of (fun t k => XS.ifNo X672.here hx rfl (hb hby at_198) rfl ((if0 _ _).trans (feq (by decide : ¬ ((1 : Int32) = (0 : Int32)))).1) k) ?_
      show Go p e below Qo T672 (mkF m 201 #[.val (.int i1), .val (.int i2), .val (.int i3), .val (.int i4), .val (.int i5), .val (.int i6), .val (.int v7_2), .val (.ref b403), .val (.ref b420), .val (.ref b439), .val (.ref b494), .val (.ref b535), .val (.ref (F7 i6 z_NULL z_STRING z_DOCUMENT z_INT32)), .val (.ref b601), .val (.int (1 : Int32)), .val (.int (0 : Int32)), .val (.int (0 : Int32)), .val (.int (0 : Int32))] [])
      refine Go.of (fun t k => XS.iload X672.here hx rfl (hb hby at_201) rfl  k) ?_
      show Go p e below Qo T672 (mkF m 203 #[.val (.int i1), .val (.int i2), .val (.int i3), .val (.int i4), .val (.int i5), .val (.int i6), .val (.int v7_2), .val (.ref b403), .val (.ref b420), .val (.ref b439), .val (.ref b494), .val (.ref b535), .val (.ref (F7 i6 z_NULL z_STRING z_DOCUMENT z_INT32)), .val (.ref b601), .val (.int (1 : Int32)), .val (.int (0 : Int32)), .val (.int (0 : Int32)), .val (.int (0 : Int32))] [(.int (0 : Int32))])
      refine Go.of (fun t k => XS.ifNo X672.here hx rfl (hb hby at_203) rfl ((if0 _ _).trans (teq (by decide : (0 : Int32) = (0 : Int32))).2) k) ?_
      show Go p e below Qo T672 (mkF m 206 #[.val (.int i1), .val (.int i2), .val (.int i3), .val (.int i4), .val (.int i5), .val (.int i6), .val (.int v7_2), .val (.ref b403), .val (.ref b420), .val (.ref b439), .val (.ref b494), .val (.ref b535), .val (.ref (F7 i6 z_NULL z_STRING z_DOCUMENT z_INT32)), .val (.ref b601), .val (.int (1 : Int32)), .val (.int (0 : Int32)), .val (.int (0 : Int32)), .val (.int (0 : Int32))] [])
      refine Go.of (fun t k => XS.iload X672.here hx rfl (hb hby at_206) rfl  k) ?_
      show Go p e below Qo T672 (mkF m 208 #[.val (.int i1), .val (.int i2), .val (.int i3), .val (.int i4), .val (.int i5), .val (.int i6), .val (.int v7_2), .val (.ref b403), .val (.ref b420), .val (.ref b439), .val (.ref b494), .val (.ref b535), .val (.ref (F7 i6 z_NULL z_STRING z_DOCUMENT z_INT32)), .val (.ref b601), .val (.int (1 : Int32)), .val (.int (0 : Int32)), .val (.int (0 : Int32)), .val (.int (0 : Int32))] [(.int (0 : Int32))])
      refine Go.of (fun t k => XS.ifNo X672.here hx rfl (hb hby at_208) rfl ((if0 _ _).trans (teq (by decide : (0 : Int32) = (0 : Int32))).2) k) ?_
      show Go p e below Qo T672 (mkF m 211 #[.val (.int i1), .val (.int i2), .val (.int i3), .val (.int i4), .val (.int i5), .val (.int i6), .val (.int v7_2), .val (.ref b403), .val (.ref b420), .val (.ref b439), .val (.ref b494), .val (.ref b535), .val (.ref (F7 i6 z_NULL z_STRING z_DOCUMENT z_INT32)), .val (.ref b601), .val (.int (1 : Int32)), .val (.int (0 : Int32)), .val (.int (0 : Int32)), .val (.int (0 : Int32))] [])
      refine Go.of (fun t k => XS.iload X672.here hx rfl (hb hby at_211) rfl  k) ?_
      show Go p e below Qo T672 (mkF m 213 #[.val (.int i1), .val (.int i2), .val (.int i3), .val (.int i4), .val (.int i5), .val (.int i6), .val (.int v7_2), .val (.ref b403), .val (.ref b420), .val (.ref b439), .val (.ref b494), .val (.ref b535), .val (.ref (F7 i6 z_NULL z_STRING z_DOCUMENT z_INT32)), .val (.ref b601), .val (.int (1 : Int32)), .val (.int (0 : Int32)), .val (.int (0 : Int32)), .val (.int (0 : Int32))] [(.int (0 : Int32))])
      refine Go.of (fun t k => XS.ifNo X672.here hx rfl (hb hby at_213) rfl ((if0 _ _).trans (teq (by decide : (0 : Int32) = (0 : Int32))).2) k) ?_
      show Go p e below Qo T672 (mkF m 216 #[.val (.int i1), .val (.int i2), .val (.int i3), .val (.int i4), .val (.int i5), .val (.int i6), .val (.int v7_2), .val (.ref b403), .val (.ref b420), .val (.ref b439), .val (.ref b494), .val (.ref b535), .val (.ref (F7 i6 z_NULL z_STRING z_DOCUMENT z_INT32)), .val (.ref b601), .val (.int (1 : Int32)), .val (.int (0 : Int32)), .val (.int (0 : Int32)), .val (.int (0 : Int32))] [])
      refine Go.of (fun t k => XS.iconst X672.here hx rfl (hb hby at_216) k) ?_
      show Go p e below Qo T672 (mkF m 217 #[.val (.int i1), .val (.int i2), .val (.int i3), .val (.int i4), .val (.int i5), .val (.int i6), .val (.int v7_2), .val (.ref b403), .val (.ref b420), .val (.ref b439), .val (.ref b494), .val (.ref b535), .val (.ref (F7 i6 z_NULL z_STRING z_DOCUMENT z_INT32)), .val (.ref b601), .val (.int (1 : Int32)), .val (.int (0 : Int32)), .val (.int (0 : Int32)), .val (.int (0 : Int32))] [(.int (1 : Int32))])
      refine Go.of (fun t k => XS.goto X672.here hx rfl (pc0 := 217) (pc' := 221) rfl (hb hby at_217) (by decide) (by decide) k) ?_
      show Go p e below Qo T672 (mkF m 221 #[.val (.int i1), .val (.int i2), .val (.int i3), .val (.int i4), .val (.int i5), .val (.int i6), .val (.int v7_2), .val (.ref b403), .val (.ref b420), .val (.ref b439), .val (.ref b494), .val (.ref b535), .val (.ref (F7 i6 z_NULL z_STRING z_DOCUMENT z_INT32)), .val (.ref b601), .val (.int (1 : Int32)), .val (.int (0 : Int32)), .val (.int (0 : Int32)), .val (.int (0 : Int32))] [(.int (1 : Int32))])
      exact own_retN X672 hx Bd.notSynchronized (t := .boolean) Bd.returns (by simp) (hb hby at_221) (fun u hu hF => hQo _ _ _ ⟨rfl, N676⟩ (own_mono hF (by decide) (by decide)))
  by_cases hc7_677 : ((i6 >>> ((10 : Int32) &&& 31)) &&& (1 : Int32)) = (0 : Int32)
  · refine Go.of (fun t k => XS.ifYes X0.here hx rfl (pc0 := 7) (pc' := 14) rfl (hb hby at_7) rfl ((if0 _ _).trans (teq hc7_677).1) (by decide) (by decide) k) ?_
    show Go p e below Qo s₁ (mkF m 14 #[.val (.int i1), .val (.int i2), .val (.int i3), .val (.int i4), .val (.int i5), .val (.int i6), .unset, .unset, .unset, .unset, .unset, .unset, .unset, .unset, .unset, .unset, .unset, .unset] [])
    refine Go.of (fun t k => XS.iconst X0.here hx rfl (hb hby at_14) k) ?_
    show Go p e below Qo s₁ (mkF m 15 #[.val (.int i1), .val (.int i2), .val (.int i3), .val (.int i4), .val (.int i5), .val (.int i6), .unset, .unset, .unset, .unset, .unset, .unset, .unset, .unset, .unset, .unset, .unset, .unset] [(.int (0 : Int32))])
    exact J7_3 _ (by first | rfl | (rw [if_pos hc7_677]) | (simp only [hc7_677, if_true, if_false]; done) | simp [hc7_677])
  · refine Go.of (fun t k => XS.ifNo X0.here hx rfl (hb hby at_7) rfl ((if0 _ _).trans (feq hc7_677).1) k) ?_
    show Go p e below Qo s₁ (mkF m 10 #[.val (.int i1), .val (.int i2), .val (.int i3), .val (.int i4), .val (.int i5), .val (.int i6), .unset, .unset, .unset, .unset, .unset, .unset, .unset, .unset, .unset, .unset, .unset, .unset] [])
    refine Go.of (fun t k => XS.iconst X0.here hx rfl (hb hby at_10) k) ?_
    show Go p e below Qo s₁ (mkF m 11 #[.val (.int i1), .val (.int i2), .val (.int i3), .val (.int i4), .val (.int i5), .val (.int i6), .unset, .unset, .unset, .unset, .unset, .unset, .unset, .unset, .unset, .unset, .unset, .unset] [(.int (1 : Int32))])
    refine Go.of (fun t k => XS.goto X0.here hx rfl (pc0 := 11) (pc' := 15) rfl (hb hby at_11) (by decide) (by decide) k) ?_
    show Go p e below Qo s₁ (mkF m 15 #[.val (.int i1), .val (.int i2), .val (.int i3), .val (.int i4), .val (.int i5), .val (.int i6), .unset, .unset, .unset, .unset, .unset, .unset, .unset, .unset, .unset, .unset, .unset, .unset] [(.int (1 : Int32))])
    exact J7_3 _ (by first | rfl | (rw [if_neg hc7_677]) | (simp only [hc7_677, if_true, if_false]; done) | simp [hc7_677])
set_option maxRecDepth 65536 in
set_option maxHeartbeats 40000000 in
theorem comes_1 {Post : Tables → Env → Array Value → State → Outcome → State → Prop} (hpost : ∀ tb e args s v u, (limb_1_1.after args s (.returned v) u = true ∧ limb_1_2.after args s (.returned v) u = true ∧ True) → FrameEnd s (.returned v) u (Jvm.fieldLocs frame_1_writes args s ++ Jvm.arrayLocs frame_1_arrays args s ++ Jvm.staticLocs frame_1_statics s) 24 128 → Post tb e args s (.returned v) u) :
    ArmFor flags0 classFile x code maxLocals ret World_1 tables_1 room_1 Calls_1 rest_1 Pre_1 Post := by
  intro l hfl _ _ p e ha hc hk s m args below hf hA hF happ hP
  obtain ⟨hcalls, hrest, hpre⟩ := hP
  obtain ⟨-, -, -, hnamed, -, -, -, hat⟩ := (Spec.applies_iff hf).mp happ
  obtain ⟨hg, hn⟩ := and_e (Cond.before_iff.mp (show (Jvm.Cond.and given_1 narrow_1).before args s = true from hpre))
  obtain ⟨hg0, hgr0⟩ := and_e hg
  obtain ⟨ha0, hgr1⟩ := and_e hgr0
  obtain ⟨ha1, hgr2⟩ := and_e hgr1
  obtain ⟨ha2, hgr3⟩ := and_e hgr2
  obtain ⟨ha3, hgr4⟩ := and_e hgr3
  obtain ⟨ha4, hgr5⟩ := and_e hgr4
  obtain ⟨w0, w1, w2, w3, w4, w5, rfl⟩ : ∃ w0 w1 w2 w3 w4 w5 : Value, args = #[w0, w1, w2, w3, w4, w5] := by
    have hs : args.size = 6 := by simpa [Cond.value, given_1] using hg0
    obtain ⟨L⟩ := args
    match L, hs with
    | [w0, w1, w2, w3, w4, w5], _ => exact ⟨w0, w1, w2, w3, w4, w5, rfl⟩
  have hw := fun d (hd : d ∈ tables_1) => atoms_spec (ws := Jvm.Cond.code x code maxLocals ret :: tables_1) hat d (List.mem_cons_of_mem _ hd)
  have hfit : Fit s := fun {y c} hc i hi => by
    obtain ⟨ha, rfl⟩ := Array.getElem?_eq_some_iff.mp hc
    have q := List.all_eq_true.mp ((Array.all_eq_true_iff_forall_mem.mp hF) _ (Array.getElem_mem ha)) i (List.mem_range.mpr hi)
    simpa [Array.getElem?_eq_getElem hi] using q
  obtain ⟨hsets, hown0⟩ := atoms_of _ (rest_1_c_eq ▸ (show rest_1_c.before _ s = true from hrest))
  obtain ⟨i0, ei0⟩ := is_v ha0
  obtain rfl : w0 = (.int i0) := Option.some.inj ei0
  obtain ⟨i1, ei1⟩ := is_v ha1
  obtain rfl : w1 = (.int i1) := Option.some.inj ei1
  obtain ⟨i2, ei2⟩ := is_v ha2
  obtain rfl : w2 = (.int i2) := Option.some.inj ei2
  obtain ⟨i3, ei3⟩ := is_v ha3
  obtain rfl : w3 = (.int i3) := Option.some.inj ei3
  obtain ⟨i4, ei4⟩ := is_v ha4
  obtain rfl : w4 = (.int i4) := Option.some.inj ei4
  obtain ⟨i5, ei5⟩ := is_v hgr5
  obtain rfl : w5 = (.int i5) := Option.some.inj ei5
  obtain ⟨hs0, hr0⟩ := and_e hn
  obtain ⟨hs1, hr1⟩ := and_e hr0
  obtain ⟨hs2, hr2⟩ := and_e hr1
  obtain ⟨z_NULL, ev_NULL⟩ := exa_v hs0
  have S_NULL : Sta s s.heap "com/example/mimosa/mimosa/bson/BsonType" "NULL" "Lcom/example/mimosa/mimosa/bson/BsonType;" (.ref z_NULL) := Sta.start ev_NULL (Or.inr ⟨(hw _ (List.mem_of_getElem? (i := 35) rfl)), (hw _ (List.mem_of_getElem? (i := 36) rfl))⟩)
  have E_NULL := Exa.start ev_NULL hs0
  obtain ⟨z_STRING, ev_STRING⟩ := exa_v hs1
  have S_STRING : Sta s s.heap "com/example/mimosa/mimosa/bson/BsonType" "STRING" "Lcom/example/mimosa/mimosa/bson/BsonType;" (.ref z_STRING) := Sta.start ev_STRING (Or.inr ⟨(hw _ (List.mem_of_getElem? (i := 35) rfl)), (hw _ (List.mem_of_getElem? (i := 60) rfl))⟩)
  have E_STRING := Exa.start ev_STRING hs1
  obtain ⟨z_DOCUMENT, ev_DOCUMENT⟩ := exa_v hs2
  have S_DOCUMENT : Sta s s.heap "com/example/mimosa/mimosa/bson/BsonType" "DOCUMENT" "Lcom/example/mimosa/mimosa/bson/BsonType;" (.ref z_DOCUMENT) := Sta.start ev_DOCUMENT (Or.inr ⟨(hw _ (List.mem_of_getElem? (i := 35) rfl)), (hw _ (List.mem_of_getElem? (i := 62) rfl))⟩)
  have E_DOCUMENT := Exa.start ev_DOCUMENT hs2
  obtain ⟨z_INT32, ev_INT32⟩ := exa_v hr2
  have S_INT32 : Sta s s.heap "com/example/mimosa/mimosa/bson/BsonType" "INT32" "Lcom/example/mimosa/mimosa/bson/BsonType;" (.ref z_INT32) := Sta.start ev_INT32 (Or.inr ⟨(hw _ (List.mem_of_getElem? (i := 35) rfl)), (hw _ (List.mem_of_getElem? (i := 64) rfl))⟩)
  have E_INT32 := Exa.start ev_INT32 hr2
  obtain ⟨zc, evz⟩ := is_v (Cond.before_iff.mp (hsets _ (List.mem_of_getElem? (i := 1) rfl)))
  have Sz : Sta s s.heap "java/lang/String" "COMPACT_STRINGS" "Z" (.int zc) := Sta.start evz (Or.inl (hsets _ (List.mem_of_getElem? (i := 0) rfl)))
  have hz : ¬ zc = 0 := own_neI evz (hsets _ (List.mem_of_getElem? (i := 2) rfl))
  obtain ⟨n, o, h1, h2, h3, _, L, rfl, ⟨rfl, N⟩, hq⟩ := rm0 l s _ hw tables_1 i0 i1 i2 i3 i4 i5 z_NULL z_STRING z_DOCUMENT z_INT32 zc s.heap s.heap.size (Nat.le_refl _) S_NULL E_NULL S_STRING E_STRING S_DOCUMENT E_DOCUMENT S_INT32 E_INT32 Sz hz p e ha hc hk s m _ below hf ((Spec.applies_iff_loose hf).mp happ).1 ⟨rfl, State.Warmed39.refl s, rfl⟩ trivial
  refine ⟨n, _, h1, h2, h3, hpost _ _ _ _ _ _ ⟨Cond.after_iff.mpr rfl, Cond.after_iff.mpr (eq_i res_at (Term.int_eval (1)) rfl), trivial⟩ ⟨hq.1, hq.2.1, (hq.2.2.sift fun y hy => Or.inr (N y hy)).mono (by decide) (by decide)⟩⟩
theorem main_1_1 : Claimed_1_1 := comes_1 fun _ _ _ _ _ _ h hF => ⟨h.1, hF⟩
theorem main_1_2 : Claimed_1_2 := comes_1 fun _ _ _ _ _ _ h hF => ⟨h.2.1, hF⟩
end Jvm.Pilot.@@N@@
namespace Jvm.Pilot.@@N@@
open Jvm Jvm.ClassFile Sem Op Lib Jvm.Free Jvm.Stand Jvm.Pilot.@@N@@.Jvm.D
/-! MADE BY PROGRAM (witnessworld.py) out of the Statement's table words and the real class files: 22 classes; the members and pool entries that the words name. The judged class is class 1, her method 2. -/
namespace start1
open Jvm.ClassFile
def u (s : String) : CpInfo := .utf8 (stringToUtf16 s)
/-- a pool by its gaps: so many unusable entries, then the entry; so many at the end -/
def gap : Nat → List CpInfo → List CpInfo
  | 0, r => r
  | n + 1, r => .unusable :: gap n r
def poolList (es : List (Nat × CpInfo)) (last : Nat) : List CpInfo := es.foldr (fun e r => gap e.1 (e.2 :: r)) (gap last [])
def pool (es : List (Nat × CpInfo)) (last : Nat) : Array CpInfo := ⟨poolList es last⟩
def fileOf (pool : Array CpInfo) (this : Nat) (attrs : Array Attribute := #[]) (ms : Array MethodInfo := #[]) (fl : Nat := 33) (sup : Nat := 0) (ifs : Array Nat := #[]) (fds : Array FieldInfo := #[]) : ClassFile where
  minorVersion := 0
  majorVersion := 65
  constantPool := pool
  accessFlags := fl
  thisClass := this
  superClass := sup
  interfaces := ifs
  fields := fds
  methods := ms
  attributes := attrs
def plain (name : String) (sup : Option ClassId) : Class where
  name := name
  kind := .ordinary
  loader := none
  accessFlags := 33
  super := sup
  interfaces := #[]
  cf := none
  fields := #[]
  methods := #[]
  instanceTypes := #[]
  staticTypes := #[]
  resolved := #[]
  callSites := []
  init := .initialized
  statics := none
  mirror := none

def pool0 : Array CpInfo := pool [(5, u "<init>"), (0, u "()V"), (1, .class_ 10), (1, u "java/lang/Object")] 113

def k0c0 : Code := { maxStack := 0, maxLocals := 1, code := object_method_1_code, exceptionTable := #[], attributes := #[] }
def k0m0 : Method := { name := "<init>", desc := "()V", sig := { parameters := [], returnType := none }, accessFlags := 1, code := some k0c0 }
/-- java/lang/Object -/
def k0 : Class := { plain "java/lang/Object" none with
  accessFlags := 33
  interfaces := #[]
  cf := some (fileOf pool0 8 #[] #[{ accessFlags := 1, nameIndex := 5, descriptorIndex := 6, attributes := #[] }] 33 0 #[] #[])
  fields := #[]
  methods := #[k0m0]
  instanceTypes := #[]
  staticTypes := #[]
  resolved := Array.replicate 124 none
  statics := none }

def pool1 : Array CpInfo := pool [(2, .class_ 4), (1, u "java/lang/Object"), (0, u "<init>"), (0, u "()V"), (0, .fieldref 8 9), (0, .class_ 10), (0, .nameAndType 11 12), (0, u "com/example/mimosa/mimosa/bson/BsonType"), (0, u "INT32"), (0, u "Lcom/example/mimosa/mimosa/bson/BsonType;"), (0, .fieldref 8 14), (0, .nameAndType 15 12), (0, u "DOCUMENT"), (0, .fieldref 8 17), (0, .nameAndType 18 12), (0, u "STRING"), (0, .fieldref 8 20), (0, .nameAndType 21 12), (0, u "NULL"), (0, .class_ 23), (0, u "java/lang/String"), (0, .methodref 22 25), (0, .nameAndType 5 26), (0, u "([C)V"), (0, .methodref 28 29), (0, .class_ 30), (0, .nameAndType 31 32), (0, u "com/example/mimosa/mimosa/bson/BsonElementStandsInPinLaw"), (0, u "pickType"), (0, u "(I)Lcom/example/mimosa/mimosa/bson/BsonType;"), (0, .class_ 34), (0, u "com/example/mimosa/mimosa/bson/BsonElement"), (0, .methodref 33 36), (0, .nameAndType 5 37), (0, u "([BLjava/lang/String;Lcom/example/mimosa/mimosa/bson/BsonType;II)V"), (0, .methodref 33 39), (0, .nameAndType 40 41), (0, u "standsIn"), (0, u "([B)Z"), (3, u "law"), (0, u "(IIIIII)Z")] 6

def k1m0 : Method := { name := "<init>", desc := "()V", sig := { parameters := [], returnType := none }, accessFlags := 1, code := none }
def k1c1 : Code := { maxStack := 2, maxLocals := 3, code := method_2_code, exceptionTable := #[], attributes := #[] }
def k1m1 : Method := { name := "pickType", desc := "(I)Lcom/example/mimosa/mimosa/bson/BsonType;", sig := { parameters := [.int], returnType := some (.object "com/example/mimosa/mimosa/bson/BsonType") }, accessFlags := 10, code := some k1c1 }
def k1c2 : Code := { maxStack := 7, maxLocals := 18, code := code, exceptionTable := #[], attributes := #[] }
def k1m2 : Method := { name := "law", desc := "(IIIIII)Z", sig := { parameters := [.int, .int, .int, .int, .int, .int], returnType := some .boolean }, accessFlags := 9, code := some k1c2 }
/-- com/example/mimosa/mimosa/bson/BsonElementStandsInPinLaw -/
def k1 : Class := { plain "com/example/mimosa/mimosa/bson/BsonElementStandsInPinLaw" (some 0) with
  accessFlags := 49
  interfaces := #[]
  cf := some (fileOf pool1 28 #[] #[{ accessFlags := 1, nameIndex := 5, descriptorIndex := 6, attributes := #[] }, { accessFlags := 10, nameIndex := 31, descriptorIndex := 32, attributes := #[] }, { accessFlags := 9, nameIndex := 45, descriptorIndex := 46, attributes := #[] }] 49 2 #[] #[])
  fields := #[]
  methods := #[k1m0, k1m1, k1m2]
  instanceTypes := #[]
  staticTypes := #[]
  resolved := Array.replicate 53 none
  statics := none }

def pool2 : Array CpInfo := pool [(1, .class_ 2), (0, u "java/io/Serializable"), (0, .class_ 4), (0, u "java/lang/Object")] 2

/-- java/io/Serializable -/
def k2 : Class := { plain "java/io/Serializable" (some 0) with
  accessFlags := 1537
  interfaces := #[]
  cf := some (fileOf pool2 1 #[] #[] 1537 3 #[] #[])
  fields := #[]
  methods := #[]
  instanceTypes := #[]
  staticTypes := #[]
  resolved := Array.replicate 7 none
  statics := none }

def pool3 : Array CpInfo := pool [(1, .class_ 2), (0, u "java/lang/Comparable"), (0, .class_ 4), (0, u "java/lang/Object")] 7

/-- java/lang/Comparable -/
def k3 : Class := { plain "java/lang/Comparable" (some 0) with
  accessFlags := 1537
  interfaces := #[]
  cf := some (fileOf pool3 1 #[] #[] 1537 3 #[] #[])
  fields := #[]
  methods := #[]
  instanceTypes := #[]
  staticTypes := #[]
  resolved := Array.replicate 12 none
  statics := none }

def pool4 : Array CpInfo := pool [(2, .class_ 4), (1, u "java/lang/CharSequence"), (42, .class_ 48), (0, u "java/lang/CharSequence$1CodePointIterator"), (10, .class_ 60), (0, u "java/lang/CharSequence$1CharIterator"), (5, .class_ 67), (0, u "java/lang/Object")] 63

/-- java/lang/CharSequence -/
def k4 : Class := { plain "java/lang/CharSequence" (some 0) with
  accessFlags := 1537
  interfaces := #[]
  cf := some (fileOf pool4 2 #[.nestMembers #[47, 59]] #[] 1537 66 #[] #[])
  fields := #[]
  methods := #[]
  instanceTypes := #[]
  staticTypes := #[]
  resolved := Array.replicate 131 none
  statics := none }

def pool5 : Array CpInfo := pool [(1, .class_ 2), (0, u "java/lang/constant/Constable"), (0, .class_ 4), (0, u "java/lang/Object")] 6

/-- java/lang/constant/Constable -/
def k5 : Class := { plain "java/lang/constant/Constable" (some 0) with
  accessFlags := 1537
  interfaces := #[]
  cf := some (fileOf pool5 1 #[] #[] 1537 3 #[] #[])
  fields := #[]
  methods := #[]
  instanceTypes := #[]
  staticTypes := #[]
  resolved := Array.replicate 11 none
  statics := none }

def pool6 : Array CpInfo := pool [(1, .class_ 2), (0, u "java/lang/constant/ConstantDesc"), (0, .class_ 4), (0, u "java/lang/Object")] 32

/-- java/lang/constant/ConstantDesc -/
def k6 : Class := { plain "java/lang/constant/ConstantDesc" (some 0) with
  accessFlags := 1537
  interfaces := #[]
  cf := some (fileOf pool6 1 #[] #[] 1537 3 #[] #[])
  fields := #[]
  methods := #[]
  instanceTypes := #[]
  staticTypes := #[]
  resolved := Array.replicate 37 none
  statics := none }

def pool7 : Array CpInfo := pool [(1, .methodref 2 3), (0, .class_ 4), (0, .nameAndType 5 6), (0, u "java/lang/Object"), (0, u "<init>"), (0, u "()V"), (2, .fieldref 10 11), (0, .class_ 12), (0, .nameAndType 13 14), (0, u "java/lang/String"), (0, u "value"), (0, u "[B"), (0, .fieldref 10 16), (0, .nameAndType 17 18), (0, u "coder"), (0, u "B"), (2, u "hash"), (0, u "I"), (2, u "hashIsZero"), (0, u "Z"), (0, .methodref 10 28), (0, .nameAndType 5 29), (0, u "([CIILjava/lang/Void;)V"), (8, .fieldref 10 39), (0, .nameAndType 40 26), (0, u "COMPACT_STRINGS"), (1, .class_ 44), (1, u "java/lang/StringUTF16"), (0, u "compress"), (1, .methodref 42 48), (0, .nameAndType 49 50), (0, u "coderFromArrayLen"), (0, u "([BI)B"), (126, .methodref 42 178), (0, .nameAndType 45 179), (0, u "([CII)[B"), (395, .class_ 576), (0, u "java/lang/CharSequence"), (22, u "CASE_INSENSITIVE_ORDER"), (0, u "Ljava/util/Comparator;"), (409, u "([C)V"), (90, u "serialPersistentFields"), (0, u "[Ljava/io/ObjectStreamField;"), (0, .class_ 1104), (0, u "java/lang/String$CaseInsensitiveComparator"), (1, .class_ 1107), (0, u "java/io/Serializable"), (0, .class_ 1109), (0, u "java/lang/Comparable"), (0, .class_ 1111), (0, u "java/lang/constant/Constable"), (0, .class_ 1113), (0, u "java/lang/constant/ConstantDesc"), (2, u "serialVersionUID"), (0, u "J"), (3, u "REPL"), (0, u "C"), (2, u "LATIN1"), (1, u "UTF16")] 323

def k7m0 : Method := { name := "<init>", desc := "()V", sig := { parameters := [], returnType := none }, accessFlags := 1, code := none }
def k7c1 : Code := { maxStack := 5, maxLocals := 2, code := jdk_42_method_3_code, exceptionTable := #[], attributes := #[] }
def k7m1 : Method := { name := "<init>", desc := "([C)V", sig := { parameters := [(.array .char)], returnType := none }, accessFlags := 1, code := some k7c1 }
def k7c2 : Code := { maxStack := 4, maxLocals := 6, code := jdk_42_method_149_code, exceptionTable := #[], attributes := #[] }
def k7m2 : Method := { name := "<init>", desc := "([CIILjava/lang/Void;)V", sig := { parameters := [(.array .char), .int, .int, (.object "java/lang/Void")], returnType := none }, accessFlags := 2, code := some k7c2 }
/-- java/lang/String -/
def k7 : Class := { plain "java/lang/String" (some 0) with
  accessFlags := 49
  interfaces := #[2, 3, 4, 5, 6]
  cf := some (fileOf pool7 10 #[.nestMembers #[1103]] #[{ accessFlags := 1, nameIndex := 5, descriptorIndex := 6, attributes := #[] }, { accessFlags := 1, nameIndex := 5, descriptorIndex := 1010, attributes := #[] }, { accessFlags := 2, nameIndex := 5, descriptorIndex := 29, attributes := #[] }] 49 2 #[1106, 1108, 575, 1110, 1112] #[{ accessFlags := 18, nameIndex := 13, descriptorIndex := 14, attributes := #[] }, { accessFlags := 18, nameIndex := 17, descriptorIndex := 18, attributes := #[] }, { accessFlags := 2, nameIndex := 21, descriptorIndex := 22, attributes := #[] }, { accessFlags := 2, nameIndex := 25, descriptorIndex := 26, attributes := #[] }, { accessFlags := 26, nameIndex := 1116, descriptorIndex := 1117, attributes := #[] }, { accessFlags := 24, nameIndex := 40, descriptorIndex := 26, attributes := #[] }, { accessFlags := 26, nameIndex := 1101, descriptorIndex := 1102, attributes := #[] }, { accessFlags := 26, nameIndex := 1121, descriptorIndex := 1122, attributes := #[] }, { accessFlags := 25, nameIndex := 599, descriptorIndex := 600, attributes := #[] }, { accessFlags := 24, nameIndex := 1125, descriptorIndex := 18, attributes := #[] }, { accessFlags := 24, nameIndex := 1127, descriptorIndex := 18, attributes := #[] }])
  fields := #[{ name := "value", type := (.array .byte), accessFlags := 18, slot := 0, constantValue := 0 }, { name := "coder", type := .byte, accessFlags := 18, slot := 1, constantValue := 0 }, { name := "hash", type := .int, accessFlags := 2, slot := 2, constantValue := 0 }, { name := "hashIsZero", type := .boolean, accessFlags := 2, slot := 3, constantValue := 0 }, { name := "serialVersionUID", type := .long, accessFlags := 26, slot := 0, constantValue := 0 }, { name := "COMPACT_STRINGS", type := .boolean, accessFlags := 24, slot := 1, constantValue := 0 }, { name := "serialPersistentFields", type := (.array (.object "java/io/ObjectStreamField")), accessFlags := 26, slot := 2, constantValue := 0 }, { name := "REPL", type := .char, accessFlags := 26, slot := 3, constantValue := 0 }, { name := "CASE_INSENSITIVE_ORDER", type := (.object "java/util/Comparator"), accessFlags := 25, slot := 4, constantValue := 0 }, { name := "LATIN1", type := .byte, accessFlags := 24, slot := 5, constantValue := 0 }, { name := "UTF16", type := .byte, accessFlags := 24, slot := 6, constantValue := 0 }]
  methods := #[k7m0, k7m1, k7m2]
  instanceTypes := #[(.array .byte), .byte, .int, .boolean]
  staticTypes := #[.long, .boolean, (.array (.object "java/io/ObjectStreamField")), .char, (.object "java/util/Comparator"), .byte, .byte]
  resolved := Array.replicate 1451 none
  statics := some 0 }

def pool8 : Array CpInfo := pool [(6, .class_ 8), (1, u "java/lang/Object"), (0, u "<init>"), (0, u "()V"), (1, .class_ 14), (1, u "java/lang/StringUTF16"), (31, u "$assertionsDisabled"), (0, u "Z"), (13, u "HI_BYTE_SHIFT"), (0, u "I"), (2, u "LO_BYTE_SHIFT"), (49, .methodref 12 116), (0, .nameAndType 117 118), (0, u "compress"), (0, u "([CI[BII)I"), (3, u "([CII)[B"), (138, u "coderFromArrayLen"), (0, u "([BI)B"), (106, .class_ 371), (1, u "java/lang/StringUTF16$LinesSpliterator"), (58, u "MAX_LENGTH"), (196, .class_ 628), (0, u "java/lang/StringUTF16$CodePointsSpliterator"), (0, .class_ 630), (0, u "java/lang/StringUTF16$CharsSpliterator")] 4

def k8m0 : Method := { name := "<init>", desc := "()V", sig := { parameters := [], returnType := none }, accessFlags := 0, code := none }
def k8c1 : Code := { maxStack := 2, maxLocals := 2, code := jdk_52_method_15_code, exceptionTable := #[], attributes := #[] }
def k8m1 : Method := { name := "coderFromArrayLen", desc := "([BI)B", sig := { parameters := [(.array .byte), .int], returnType := some .byte }, accessFlags := 8, code := some k8c1 }
def k8c2 : Code := { maxStack := 5, maxLocals := 6, code := jdk_52_method_16_code, exceptionTable := #[], attributes := #[] }
def k8m2 : Method := { name := "compress", desc := "([CII)[B", sig := { parameters := [(.array .char), .int, .int], returnType := some (.array .byte) }, accessFlags := 9, code := some k8c2 }
def k8c3 : Code := { maxStack := 3, maxLocals := 7, code := jdk_52_method_21_code, exceptionTable := #[], attributes := #[] }
def k8m3 : Method := { name := "compress", desc := "([CI[BII)I", sig := { parameters := [(.array .char), .int, (.array .byte), .int, .int], returnType := some .int }, accessFlags := 9, code := some k8c3 }
/-- java/lang/StringUTF16 -/
def k8 : Class := { plain "java/lang/StringUTF16" (some 0) with
  accessFlags := 48
  interfaces := #[]
  cf := some (fileOf pool8 12 #[.nestMembers #[627, 629, 369]] #[{ accessFlags := 0, nameIndex := 9, descriptorIndex := 10, attributes := #[] }, { accessFlags := 8, nameIndex := 261, descriptorIndex := 262, attributes := #[] }, { accessFlags := 9, nameIndex := 117, descriptorIndex := 122, attributes := #[] }, { accessFlags := 9, nameIndex := 117, descriptorIndex := 118, attributes := #[] }] 48 6 #[] #[{ accessFlags := 26, nameIndex := 61, descriptorIndex := 62, attributes := #[] }, { accessFlags := 26, nameIndex := 65, descriptorIndex := 62, attributes := #[] }, { accessFlags := 24, nameIndex := 430, descriptorIndex := 62, attributes := #[] }, { accessFlags := 4120, nameIndex := 46, descriptorIndex := 47, attributes := #[] }])
  fields := #[{ name := "HI_BYTE_SHIFT", type := .int, accessFlags := 26, slot := 0, constantValue := 0 }, { name := "LO_BYTE_SHIFT", type := .int, accessFlags := 26, slot := 1, constantValue := 0 }, { name := "MAX_LENGTH", type := .int, accessFlags := 24, slot := 2, constantValue := 0 }, { name := "$assertionsDisabled", type := .boolean, accessFlags := 4120, slot := 3, constantValue := 0 }]
  methods := #[k8m0, k8m1, k8m2, k8m3]
  instanceTypes := #[]
  staticTypes := #[.int, .int, .int, .boolean]
  resolved := Array.replicate 635 none
  statics := none }

def pool9 : Array CpInfo := pool [(2, .class_ 4), (1, u "java/lang/Enum"), (0, u "name"), (0, u "Ljava/lang/String;"), (2, u "ordinal"), (0, u "I"), (1, .class_ 14), (1, u "java/lang/Object"), (4, u "hash"), (86, .class_ 108), (1, u "java/lang/Enum$EnumDesc"), (2, .class_ 112), (0, u "java/lang/constant/Constable"), (0, .class_ 114), (0, u "java/lang/Comparable"), (0, .class_ 116), (0, u "java/io/Serializable")] 87

/-- java/lang/Enum -/
def k9 : Class := { plain "java/lang/Enum" (some 0) with
  accessFlags := 1057
  interfaces := #[5, 3, 2]
  cf := some (fileOf pool9 2 #[.nestMembers #[106]] #[] 1057 12 #[111, 113, 115] #[{ accessFlags := 18, nameIndex := 5, descriptorIndex := 6, attributes := #[] }, { accessFlags := 18, nameIndex := 9, descriptorIndex := 10, attributes := #[] }, { accessFlags := 2, nameIndex := 19, descriptorIndex := 10, attributes := #[] }])
  fields := #[{ name := "name", type := (.object "java/lang/String"), accessFlags := 18, slot := 0, constantValue := 0 }, { name := "ordinal", type := .int, accessFlags := 18, slot := 1, constantValue := 0 }, { name := "hash", type := .int, accessFlags := 2, slot := 2, constantValue := 0 }]
  methods := #[]
  instanceTypes := #[(.object "java/lang/String"), .int, .int]
  staticTypes := #[]
  resolved := Array.replicate 204 none
  statics := none }

def pool10 : Array CpInfo := pool [(1, .class_ 2), (0, u "com/example/mimosa/mimosa/bson/BsonType"), (2, u "DOUBLE"), (0, u "Lcom/example/mimosa/mimosa/bson/BsonType;"), (2, u "STRING"), (2, u "DOCUMENT"), (2, u "ARRAY"), (2, u "BINARY"), (2, u "UNDEFINED"), (2, u "OBJECT_ID"), (2, u "BOOLEAN"), (2, u "DATE_TIME"), (2, u "NULL"), (2, u "REGULAR_EXPRESSION"), (2, u "DB_POINTER"), (2, u "JAVASCRIPT"), (2, u "SYMBOL"), (2, u "JAVASCRIPT_WITH_SCOPE"), (2, u "INT32"), (2, u "TIMESTAMP"), (2, u "INT64"), (2, u "DECIMAL128"), (2, u "MIN_KEY"), (2, u "MAX_KEY"), (2, u "$VALUES"), (0, u "[Lcom/example/mimosa/mimosa/bson/BsonType;"), (6, .class_ 79), (1, u "java/lang/Enum"), (8, u "code"), (0, u "I"), (2, u "BY_CODE")] 46

/-- com/example/mimosa/mimosa/bson/BsonType -/
def k10 : Class := { plain "com/example/mimosa/mimosa/bson/BsonType" (some 9) with
  accessFlags := 16433
  interfaces := #[]
  cf := some (fileOf pool10 1 #[] #[] 16433 77 #[] #[{ accessFlags := 16409, nameIndex := 5, descriptorIndex := 6, attributes := #[] }, { accessFlags := 16409, nameIndex := 9, descriptorIndex := 6, attributes := #[] }, { accessFlags := 16409, nameIndex := 12, descriptorIndex := 6, attributes := #[] }, { accessFlags := 16409, nameIndex := 15, descriptorIndex := 6, attributes := #[] }, { accessFlags := 16409, nameIndex := 18, descriptorIndex := 6, attributes := #[] }, { accessFlags := 16409, nameIndex := 21, descriptorIndex := 6, attributes := #[] }, { accessFlags := 16409, nameIndex := 24, descriptorIndex := 6, attributes := #[] }, { accessFlags := 16409, nameIndex := 27, descriptorIndex := 6, attributes := #[] }, { accessFlags := 16409, nameIndex := 30, descriptorIndex := 6, attributes := #[] }, { accessFlags := 16409, nameIndex := 33, descriptorIndex := 6, attributes := #[] }, { accessFlags := 16409, nameIndex := 36, descriptorIndex := 6, attributes := #[] }, { accessFlags := 16409, nameIndex := 39, descriptorIndex := 6, attributes := #[] }, { accessFlags := 16409, nameIndex := 42, descriptorIndex := 6, attributes := #[] }, { accessFlags := 16409, nameIndex := 45, descriptorIndex := 6, attributes := #[] }, { accessFlags := 16409, nameIndex := 48, descriptorIndex := 6, attributes := #[] }, { accessFlags := 16409, nameIndex := 51, descriptorIndex := 6, attributes := #[] }, { accessFlags := 16409, nameIndex := 54, descriptorIndex := 6, attributes := #[] }, { accessFlags := 16409, nameIndex := 57, descriptorIndex := 6, attributes := #[] }, { accessFlags := 16409, nameIndex := 60, descriptorIndex := 6, attributes := #[] }, { accessFlags := 16409, nameIndex := 63, descriptorIndex := 6, attributes := #[] }, { accessFlags := 16409, nameIndex := 66, descriptorIndex := 6, attributes := #[] }, { accessFlags := 26, nameIndex := 92, descriptorIndex := 70, attributes := #[] }, { accessFlags := 18, nameIndex := 88, descriptorIndex := 89, attributes := #[] }, { accessFlags := 4122, nameIndex := 69, descriptorIndex := 70, attributes := #[] }])
  fields := #[{ name := "DOUBLE", type := (.object "com/example/mimosa/mimosa/bson/BsonType"), accessFlags := 16409, slot := 0, constantValue := 0 }, { name := "STRING", type := (.object "com/example/mimosa/mimosa/bson/BsonType"), accessFlags := 16409, slot := 1, constantValue := 0 }, { name := "DOCUMENT", type := (.object "com/example/mimosa/mimosa/bson/BsonType"), accessFlags := 16409, slot := 2, constantValue := 0 }, { name := "ARRAY", type := (.object "com/example/mimosa/mimosa/bson/BsonType"), accessFlags := 16409, slot := 3, constantValue := 0 }, { name := "BINARY", type := (.object "com/example/mimosa/mimosa/bson/BsonType"), accessFlags := 16409, slot := 4, constantValue := 0 }, { name := "UNDEFINED", type := (.object "com/example/mimosa/mimosa/bson/BsonType"), accessFlags := 16409, slot := 5, constantValue := 0 }, { name := "OBJECT_ID", type := (.object "com/example/mimosa/mimosa/bson/BsonType"), accessFlags := 16409, slot := 6, constantValue := 0 }, { name := "BOOLEAN", type := (.object "com/example/mimosa/mimosa/bson/BsonType"), accessFlags := 16409, slot := 7, constantValue := 0 }, { name := "DATE_TIME", type := (.object "com/example/mimosa/mimosa/bson/BsonType"), accessFlags := 16409, slot := 8, constantValue := 0 }, { name := "NULL", type := (.object "com/example/mimosa/mimosa/bson/BsonType"), accessFlags := 16409, slot := 9, constantValue := 0 }, { name := "REGULAR_EXPRESSION", type := (.object "com/example/mimosa/mimosa/bson/BsonType"), accessFlags := 16409, slot := 10, constantValue := 0 }, { name := "DB_POINTER", type := (.object "com/example/mimosa/mimosa/bson/BsonType"), accessFlags := 16409, slot := 11, constantValue := 0 }, { name := "JAVASCRIPT", type := (.object "com/example/mimosa/mimosa/bson/BsonType"), accessFlags := 16409, slot := 12, constantValue := 0 }, { name := "SYMBOL", type := (.object "com/example/mimosa/mimosa/bson/BsonType"), accessFlags := 16409, slot := 13, constantValue := 0 }, { name := "JAVASCRIPT_WITH_SCOPE", type := (.object "com/example/mimosa/mimosa/bson/BsonType"), accessFlags := 16409, slot := 14, constantValue := 0 }, { name := "INT32", type := (.object "com/example/mimosa/mimosa/bson/BsonType"), accessFlags := 16409, slot := 15, constantValue := 0 }, { name := "TIMESTAMP", type := (.object "com/example/mimosa/mimosa/bson/BsonType"), accessFlags := 16409, slot := 16, constantValue := 0 }, { name := "INT64", type := (.object "com/example/mimosa/mimosa/bson/BsonType"), accessFlags := 16409, slot := 17, constantValue := 0 }, { name := "DECIMAL128", type := (.object "com/example/mimosa/mimosa/bson/BsonType"), accessFlags := 16409, slot := 18, constantValue := 0 }, { name := "MIN_KEY", type := (.object "com/example/mimosa/mimosa/bson/BsonType"), accessFlags := 16409, slot := 19, constantValue := 0 }, { name := "MAX_KEY", type := (.object "com/example/mimosa/mimosa/bson/BsonType"), accessFlags := 16409, slot := 20, constantValue := 0 }, { name := "BY_CODE", type := (.array (.object "com/example/mimosa/mimosa/bson/BsonType")), accessFlags := 26, slot := 21, constantValue := 0 }, { name := "code", type := .int, accessFlags := 18, slot := 3, constantValue := 0 }, { name := "$VALUES", type := (.array (.object "com/example/mimosa/mimosa/bson/BsonType")), accessFlags := 4122, slot := 22, constantValue := 0 }]
  methods := #[]
  instanceTypes := #[(.object "java/lang/String"), .int, .int, .int]
  staticTypes := #[(.object "com/example/mimosa/mimosa/bson/BsonType"), (.object "com/example/mimosa/mimosa/bson/BsonType"), (.object "com/example/mimosa/mimosa/bson/BsonType"), (.object "com/example/mimosa/mimosa/bson/BsonType"), (.object "com/example/mimosa/mimosa/bson/BsonType"), (.object "com/example/mimosa/mimosa/bson/BsonType"), (.object "com/example/mimosa/mimosa/bson/BsonType"), (.object "com/example/mimosa/mimosa/bson/BsonType"), (.object "com/example/mimosa/mimosa/bson/BsonType"), (.object "com/example/mimosa/mimosa/bson/BsonType"), (.object "com/example/mimosa/mimosa/bson/BsonType"), (.object "com/example/mimosa/mimosa/bson/BsonType"), (.object "com/example/mimosa/mimosa/bson/BsonType"), (.object "com/example/mimosa/mimosa/bson/BsonType"), (.object "com/example/mimosa/mimosa/bson/BsonType"), (.object "com/example/mimosa/mimosa/bson/BsonType"), (.object "com/example/mimosa/mimosa/bson/BsonType"), (.object "com/example/mimosa/mimosa/bson/BsonType"), (.object "com/example/mimosa/mimosa/bson/BsonType"), (.object "com/example/mimosa/mimosa/bson/BsonType"), (.object "com/example/mimosa/mimosa/bson/BsonType"), (.array (.object "com/example/mimosa/mimosa/bson/BsonType")), (.array (.object "com/example/mimosa/mimosa/bson/BsonType"))]
  resolved := Array.replicate 139 none
  statics := some 1 }

def pool11 : Array CpInfo := pool [(1, .methodref 2 3), (0, .class_ 4), (0, .nameAndType 5 6), (0, u "java/lang/Object"), (0, u "<init>"), (0, u "()V"), (0, .fieldref 8 9), (0, .class_ 10), (0, .nameAndType 11 12), (0, u "com/example/mimosa/mimosa/bson/BsonElement"), (0, u "source"), (0, u "[B"), (0, .fieldref 8 14), (0, .nameAndType 15 16), (0, u "name"), (0, u "Ljava/lang/String;"), (0, .fieldref 8 18), (0, .nameAndType 19 20), (0, u "type"), (0, u "Lcom/example/mimosa/mimosa/bson/BsonType;"), (0, .fieldref 8 22), (0, .nameAndType 23 24), (0, u "valueOffset"), (0, u "I"), (0, .fieldref 8 26), (0, .nameAndType 27 24), (0, u "valueLength"), (124, u "([BLjava/lang/String;Lcom/example/mimosa/mimosa/bson/BsonType;II)V"), (51, u "standsIn"), (0, u "([B)Z")] 22

def k11c0 : Code := { maxStack := 2, maxLocals := 6, code := prog_15_method_1_code, exceptionTable := #[], attributes := #[] }
def k11m0 : Method := { name := "<init>", desc := "([BLjava/lang/String;Lcom/example/mimosa/mimosa/bson/BsonType;II)V", sig := { parameters := [(.array .byte), (.object "java/lang/String"), (.object "com/example/mimosa/mimosa/bson/BsonType"), .int, .int], returnType := none }, accessFlags := 0, code := some k11c0 }
def k11c1 : Code := { maxStack := 2, maxLocals := 2, code := prog_15_method_23_code, exceptionTable := #[], attributes := #[] }
def k11m1 : Method := { name := "standsIn", desc := "([B)Z", sig := { parameters := [(.array .byte)], returnType := some .boolean }, accessFlags := 0, code := some k11c1 }
/-- com/example/mimosa/mimosa/bson/BsonElement -/
def k11 : Class := { plain "com/example/mimosa/mimosa/bson/BsonElement" (some 0) with
  accessFlags := 49
  interfaces := #[]
  cf := some (fileOf pool11 8 #[] #[{ accessFlags := 0, nameIndex := 5, descriptorIndex := 152, attributes := #[] }, { accessFlags := 0, nameIndex := 204, descriptorIndex := 205, attributes := #[] }] 49 2 #[] #[{ accessFlags := 18, nameIndex := 11, descriptorIndex := 12, attributes := #[] }, { accessFlags := 18, nameIndex := 15, descriptorIndex := 16, attributes := #[] }, { accessFlags := 18, nameIndex := 19, descriptorIndex := 20, attributes := #[] }, { accessFlags := 18, nameIndex := 23, descriptorIndex := 24, attributes := #[] }, { accessFlags := 18, nameIndex := 27, descriptorIndex := 24, attributes := #[] }])
  fields := #[{ name := "source", type := (.array .byte), accessFlags := 18, slot := 0, constantValue := 0 }, { name := "name", type := (.object "java/lang/String"), accessFlags := 18, slot := 1, constantValue := 0 }, { name := "type", type := (.object "com/example/mimosa/mimosa/bson/BsonType"), accessFlags := 18, slot := 2, constantValue := 0 }, { name := "valueOffset", type := .int, accessFlags := 18, slot := 3, constantValue := 0 }, { name := "valueLength", type := .int, accessFlags := 18, slot := 4, constantValue := 0 }]
  methods := #[k11m0, k11m1]
  instanceTypes := #[(.array .byte), (.object "java/lang/String"), (.object "com/example/mimosa/mimosa/bson/BsonType"), .int, .int]
  staticTypes := #[]
  resolved := Array.replicate 228 none
  statics := none }

def pool12 : Array CpInfo := pool [(4, .class_ 6), (1, u "java/lang/Object"), (0, u "<init>"), (0, u "()V"), (5, .class_ 16), (1, u "java/lang/StringLatin1"), (104, u "$assertionsDisabled"), (0, u "Z"), (98, .class_ 223), (1, u "java/lang/StringLatin1$LinesSpliterator"), (166, .class_ 391), (0, u "java/lang/StringLatin1$CharsSpliterator")] 3

def k12m0 : Method := { name := "<init>", desc := "()V", sig := { parameters := [], returnType := none }, accessFlags := 0, code := none }
/-- java/lang/StringLatin1 -/
def k12 : Class := { plain "java/lang/StringLatin1" (some 0) with
  accessFlags := 48
  interfaces := #[]
  cf := some (fileOf pool12 14 #[.nestMembers #[390, 221]] #[{ accessFlags := 0, nameIndex := 7, descriptorIndex := 8, attributes := #[] }] 48 4 #[] #[{ accessFlags := 4120, nameIndex := 121, descriptorIndex := 122, attributes := #[] }])
  fields := #[{ name := "$assertionsDisabled", type := .boolean, accessFlags := 4120, slot := 0, constantValue := 0 }]
  methods := #[k12m0]
  instanceTypes := #[]
  staticTypes := #[.boolean]
  resolved := Array.replicate 395 none
  statics := none }

def pool13 : Array CpInfo := pool [(2, .class_ 4), (1, u "java/lang/Object"), (0, u "<init>"), (0, u "()V"), (17, .class_ 26), (1, u "jdk/internal/util/Preconditions"), (28, .class_ 56), (0, u "jdk/internal/util/Preconditions$4"), (57, .class_ 115), (0, u "jdk/internal/util/Preconditions$1"), (7, u "SIOOBE_FORMATTER"), (0, u "Ljava/util/function/BiFunction;"), (0, .class_ 126), (0, u "jdk/internal/util/Preconditions$2"), (3, u "AIOOBE_FORMATTER"), (0, .class_ 132), (0, u "jdk/internal/util/Preconditions$3"), (3, u "IOOBE_FORMATTER")] 57

def k13m0 : Method := { name := "<init>", desc := "()V", sig := { parameters := [], returnType := none }, accessFlags := 1, code := none }
/-- jdk/internal/util/Preconditions -/
def k13 : Class := { plain "jdk/internal/util/Preconditions" (some 0) with
  accessFlags := 33
  interfaces := #[]
  cf := some (fileOf pool13 24 #[.nestMembers #[55, 131, 125, 114]] #[{ accessFlags := 1, nameIndex := 5, descriptorIndex := 6, attributes := #[] }] 33 2 #[] #[{ accessFlags := 25, nameIndex := 123, descriptorIndex := 124, attributes := #[] }, { accessFlags := 25, nameIndex := 130, descriptorIndex := 124, attributes := #[] }, { accessFlags := 25, nameIndex := 136, descriptorIndex := 124, attributes := #[] }])
  fields := #[{ name := "SIOOBE_FORMATTER", type := (.object "java/util/function/BiFunction"), accessFlags := 25, slot := 0, constantValue := 0 }, { name := "AIOOBE_FORMATTER", type := (.object "java/util/function/BiFunction"), accessFlags := 25, slot := 1, constantValue := 0 }, { name := "IOOBE_FORMATTER", type := (.object "java/util/function/BiFunction"), accessFlags := 25, slot := 2, constantValue := 0 }]
  methods := #[k13m0]
  instanceTypes := #[]
  staticTypes := #[(.object "java/util/function/BiFunction"), (.object "java/util/function/BiFunction"), (.object "java/util/function/BiFunction")]
  resolved := Array.replicate 194 none
  statics := some 2 }

def pool14 : Array CpInfo := pool [(9, u "<init>"), (6, .class_ 18), (1, u "java/lang/Object"), (0, u "()V"), (1, .class_ 23), (1, u "jdk/internal/util/ArraysSupport"), (0, u "LOG2_ARRAY_LONG_INDEX_SCALE"), (0, u "I"), (2, u "U"), (0, u "Ljdk/internal/misc/Unsafe;"), (8, u "BIG_ENDIAN"), (0, u "Z"), (8, u "LOG2_BYTE_BIT_SIZE"), (4, u "LOG2_ARRAY_INT_INDEX_SCALE"), (54, u "JLA"), (0, u "Ljdk/internal/access/JavaLangAccess;"), (11, u "LOG2_ARRAY_BOOLEAN_INDEX_SCALE"), (9, u "LOG2_ARRAY_BYTE_INDEX_SCALE"), (5, u "LOG2_ARRAY_CHAR_INDEX_SCALE"), (5, u "LOG2_ARRAY_SHORT_INDEX_SCALE"), (18, u "LOG2_ARRAY_FLOAT_INDEX_SCALE"), (24, u "LOG2_ARRAY_DOUBLE_INDEX_SCALE"), (89, u "T_BOOLEAN"), (2, u "T_CHAR"), (1, u "T_FLOAT"), (1, u "T_DOUBLE"), (1, u "T_BYTE"), (1, u "T_SHORT"), (1, u "T_INT"), (1, u "T_LONG"), (1, u "SOFT_MAX_ARRAY_LENGTH")] 83

def k14m0 : Method := { name := "<init>", desc := "()V", sig := { parameters := [], returnType := none }, accessFlags := 2, code := none }
/-- jdk/internal/util/ArraysSupport -/
def k14 : Class := { plain "jdk/internal/util/ArraysSupport" (some 0) with
  accessFlags := 33
  interfaces := #[]
  cf := some (fileOf pool14 21 #[] #[{ accessFlags := 2, nameIndex := 9, descriptorIndex := 19, attributes := #[] }] 33 16 #[] #[{ accessFlags := 24, nameIndex := 28, descriptorIndex := 29, attributes := #[] }, { accessFlags := 26, nameIndex := 38, descriptorIndex := 39, attributes := #[] }, { accessFlags := 25, nameIndex := 121, descriptorIndex := 25, attributes := #[] }, { accessFlags := 25, nameIndex := 131, descriptorIndex := 25, attributes := #[] }, { accessFlags := 25, nameIndex := 137, descriptorIndex := 25, attributes := #[] }, { accessFlags := 25, nameIndex := 143, descriptorIndex := 25, attributes := #[] }, { accessFlags := 25, nameIndex := 53, descriptorIndex := 25, attributes := #[] }, { accessFlags := 25, nameIndex := 24, descriptorIndex := 25, attributes := #[] }, { accessFlags := 25, nameIndex := 162, descriptorIndex := 25, attributes := #[] }, { accessFlags := 25, nameIndex := 187, descriptorIndex := 25, attributes := #[] }, { accessFlags := 26, nameIndex := 48, descriptorIndex := 25, attributes := #[] }, { accessFlags := 25, nameIndex := 277, descriptorIndex := 25, attributes := #[] }, { accessFlags := 25, nameIndex := 280, descriptorIndex := 25, attributes := #[] }, { accessFlags := 25, nameIndex := 282, descriptorIndex := 25, attributes := #[] }, { accessFlags := 25, nameIndex := 284, descriptorIndex := 25, attributes := #[] }, { accessFlags := 25, nameIndex := 286, descriptorIndex := 25, attributes := #[] }, { accessFlags := 25, nameIndex := 288, descriptorIndex := 25, attributes := #[] }, { accessFlags := 25, nameIndex := 290, descriptorIndex := 25, attributes := #[] }, { accessFlags := 25, nameIndex := 292, descriptorIndex := 25, attributes := #[] }, { accessFlags := 26, nameIndex := 108, descriptorIndex := 109, attributes := #[] }, { accessFlags := 25, nameIndex := 294, descriptorIndex := 25, attributes := #[] }])
  fields := #[{ name := "U", type := (.object "jdk/internal/misc/Unsafe"), accessFlags := 24, slot := 0, constantValue := 0 }, { name := "BIG_ENDIAN", type := .boolean, accessFlags := 26, slot := 1, constantValue := 0 }, { name := "LOG2_ARRAY_BOOLEAN_INDEX_SCALE", type := .int, accessFlags := 25, slot := 2, constantValue := 0 }, { name := "LOG2_ARRAY_BYTE_INDEX_SCALE", type := .int, accessFlags := 25, slot := 3, constantValue := 0 }, { name := "LOG2_ARRAY_CHAR_INDEX_SCALE", type := .int, accessFlags := 25, slot := 4, constantValue := 0 }, { name := "LOG2_ARRAY_SHORT_INDEX_SCALE", type := .int, accessFlags := 25, slot := 5, constantValue := 0 }, { name := "LOG2_ARRAY_INT_INDEX_SCALE", type := .int, accessFlags := 25, slot := 6, constantValue := 0 }, { name := "LOG2_ARRAY_LONG_INDEX_SCALE", type := .int, accessFlags := 25, slot := 7, constantValue := 0 }, { name := "LOG2_ARRAY_FLOAT_INDEX_SCALE", type := .int, accessFlags := 25, slot := 8, constantValue := 0 }, { name := "LOG2_ARRAY_DOUBLE_INDEX_SCALE", type := .int, accessFlags := 25, slot := 9, constantValue := 0 }, { name := "LOG2_BYTE_BIT_SIZE", type := .int, accessFlags := 26, slot := 10, constantValue := 0 }, { name := "T_BOOLEAN", type := .int, accessFlags := 25, slot := 11, constantValue := 0 }, { name := "T_CHAR", type := .int, accessFlags := 25, slot := 12, constantValue := 0 }, { name := "T_FLOAT", type := .int, accessFlags := 25, slot := 13, constantValue := 0 }, { name := "T_DOUBLE", type := .int, accessFlags := 25, slot := 14, constantValue := 0 }, { name := "T_BYTE", type := .int, accessFlags := 25, slot := 15, constantValue := 0 }, { name := "T_SHORT", type := .int, accessFlags := 25, slot := 16, constantValue := 0 }, { name := "T_INT", type := .int, accessFlags := 25, slot := 17, constantValue := 0 }, { name := "T_LONG", type := .int, accessFlags := 25, slot := 18, constantValue := 0 }, { name := "JLA", type := (.object "jdk/internal/access/JavaLangAccess"), accessFlags := 26, slot := 19, constantValue := 0 }, { name := "SOFT_MAX_ARRAY_LENGTH", type := .int, accessFlags := 25, slot := 20, constantValue := 0 }]
  methods := #[k14m0]
  instanceTypes := #[]
  staticTypes := #[(.object "jdk/internal/misc/Unsafe"), .boolean, .int, .int, .int, .int, .int, .int, .int, .int, .int, .int, .int, .int, .int, .int, .int, .int, .int, (.object "jdk/internal/access/JavaLangAccess"), .int]
  resolved := Array.replicate 378 none
  statics := none }

def pool15 : Array CpInfo := pool [(1, u "java/lang/Cloneable"), (0, .class_ 1), (0, u "java/lang/Object"), (0, .class_ 3)] 3

/-- java/lang/Cloneable -/
def k15 : Class := { plain "java/lang/Cloneable" (some 0) with
  accessFlags := 1537
  interfaces := #[]
  cf := some (fileOf pool15 2 #[] #[] 1537 4 #[] #[])
  fields := #[]
  methods := #[]
  instanceTypes := #[]
  staticTypes := #[]
  resolved := Array.replicate 8 none
  statics := none }

/-- the primitive byte -/
def k16 : Class := { plain "byte" none with kind := .primitive 'B', accessFlags := 0x411 }
/-- [B -/
def k17 : Class := { plain "[B" (some 0) with kind := .array 16 .byte, interfaces := #[15, 2], accessFlags := 1041 }

/-- the primitive char -/
def k18 : Class := { plain "char" none with kind := .primitive 'C', accessFlags := 0x411 }
/-- [C -/
def k19 : Class := { plain "[C" (some 0) with kind := .array 18 .char, interfaces := #[15, 2], accessFlags := 1041 }

/-- the primitive int -/
def k20 : Class := { plain "int" none with kind := .primitive 'I', accessFlags := 0x411 }
/-- [I -/
def k21 : Class := { plain "[I" (some 0) with kind := .array 20 .int, interfaces := #[15, 2], accessFlags := 1041 }

def heap : Heap := #[{ cls := 7, slots := #[.long 0, .int 1, .null, .int 0, .null, .int 0, .int 0], vm := .statics 7 },
  { cls := 10, slots := #[.null, .ref 5, .ref 4, .null, .null, .null, .null, .null, .null, .ref 6, .null, .null, .null, .null, .null, .ref 3, .null, .null, .null, .null, .null, .null, .null], vm := .statics 10 },
  { cls := 13, slots := #[.null, .null, .null], vm := .statics 13 },
  { cls := 10, slots := #[.null, .int 0, .int 0, .int 0], vm := .none },
  { cls := 10, slots := #[.null, .int 1, .int 0, .int 0], vm := .none },
  { cls := 10, slots := #[.null, .int 2, .int 0, .int 0], vm := .none },
  { cls := 10, slots := #[.null, .int 3, .int 0, .int 0], vm := .none }]
def classes : Array Class := #[k0, k1, k2, k3, k4, k5, k6, k7, k8, k9, k10, k11, k12, k13, k14, k15, k16, k17, k18, k19, k20, k21]
def interned : List (Array UInt16 × Addr) := []
def slotsUsed : Nat := 49
def theMethod : MethodId := ⟨1, 2⟩
def args0 : Array Value := #[.int 5, .int 6, .int 5, .int 6, .int 5, .int 6]
def aboutOver (below : List Frame) : State where
  vm := { classes := classes, interned := interned.toArray }
  heap := heap
  slotsUsed := slotsUsed
  threads := #[{ frames := .invoking theMethod args0 :: below }]
def below0 : List Frame := [.native { method := ⟨0, 0⟩, args := #[] }]
def about1 : State := aboutOver below0
def p0 : Program := .bare "" "" ""
def e0 : Env := launch0.env 0 0 0
theorem w_frames : about1.frames = Frame.invoking theMethod args0 :: below0 := rfl
set_option maxRecDepth 65536 in
theorem w_args : argsFit about1.vm theMethod args0 = true := by decide +kernel
set_option maxRecDepth 65536 in
theorem w_heap : heapFits about1 = true := by decide +kernel
set_option maxRecDepth 65536 in
theorem w_runnable : about1.curStatus? = some .runnable := by decide +kernel
set_option maxRecDepth 65536 in
theorem w_alone : about1.alone = true := by decide +kernel
set_option maxRecDepth 65536 in
theorem w_named : about1.methodNamed? x = some theMethod := by decide +kernel
set_option maxRecDepth 65536 in
theorem w_hears : about1.hears theMethod below0 = true := by decide +kernel
set_option maxRecDepth 65536 in
theorem w_ripe : about1.ripe theMethod args0 below0 = true := by decide +kernel
theorem w_running : about1.status = .running := rfl
set_option maxRecDepth 65536 in
theorem w_room : about1.hasRoom e0.platform room_1 = true :=
  launch0.hasRoom_least _ room_1 (by decide +kernel) (by decide +kernel) (by decide +kernel) (by decide +kernel) (by decide +kernel) (by decide +kernel)
theorem allAtoms_all (ts : List Jvm.Cond) (a : Array Jvm.Value) (st : Jvm.State) : (allAtoms ts).before a st = ts.all (fun c => c.before a st) := by
  induction ts with
  | nil => rfl
  | cons c t ih =>
    show (Jvm.Cond.and c (allAtoms t)).before a st = _
    rw [Jvm.Cond.before_and, ih, List.all_cons]
def words1 : List Jvm.Cond := Jvm.Cond.code x code maxLocals ret :: tables_1
/-- a 'code' word, met by the world's own term for the bytes: nothing is compared byte by byte -/
theorem code_word {y : MethodName} {bytes : ByteArray} {mx : Nat} {rt : Option FieldType} {a : Array Value} {s : State} {m : MethodId} {meth : Method} {c : Code} (h1 : s.methodNamed? y = some m) (h2 : s.vm.method? m = some meth) (h3 : meth.code = some c) (h4 : c.code = bytes)
    (h5 : (c.maxLocals == mx && c.exceptionTable.isEmpty && decide (c.maxStack ≤ mostOperands) && decide (meth.sig.returnType = rt) && !meth.locks && decide (parseMethodDescriptor y.desc = some meth.sig)) = true) : (Jvm.Cond.code y bytes mx rt).before a s = true := by
  simp only [Bool.and_eq_true, beq_iff_eq, Bool.not_eq_true', decide_eq_true_eq] at h5
  obtain ⟨⟨⟨⟨⟨g1, g2⟩, g3⟩, g4⟩, g5⟩, g6⟩ := h5
  simp [Cond.before, Cond.holds, Cond.value, h1, h2, h3, h4, g1, g2, g3, g4, g5, g6]
def isCode : Jvm.Cond → Bool
  | .code _ _ _ _ => true
  | _ => false
theorem all_split {L : List Jvm.Cond} {P : Jvm.Cond → Bool} (h1 : L.all (fun c => isCode c || P c) = true) (h2 : ∀ c ∈ L.filter isCode, P c = true) : L.all P = true := by
  refine List.all_eq_true.mpr fun c hc => ?_
  have h := List.all_eq_true.mp h1 c hc
  rcases Bool.eq_false_or_eq_true (isCode c) with hi | hi
  · exact h2 c (List.mem_filter.mpr ⟨hc, hi⟩)
  · simpa [hi] using h
set_option maxRecDepth 65536 in
theorem w_c0 : (Jvm.Cond.code x code maxLocals ret).before args0 about1 = true := code_word (m := ⟨1, 2⟩) (meth := k1m2) (c := k1c2) (by decide +kernel) rfl rfl rfl (by decide +kernel)
set_option maxRecDepth 65536 in
theorem w_c1 : (Jvm.Cond.code ({ cls := "java/lang/String", name := "<init>", desc := "([C)V" } : Jvm.MethodName) jdk_42_method_3_code (2 : Nat) (Option.none : Option Jvm.ClassFile.FieldType)).before args0 about1 = true := code_word (m := ⟨7, 1⟩) (meth := k7m1) (c := k7c1) (by decide +kernel) rfl rfl rfl (by decide +kernel)
set_option maxRecDepth 65536 in
theorem w_c2 : (Jvm.Cond.code ({ cls := "java/lang/String", name := "<init>", desc := "([CIILjava/lang/Void;)V" } : Jvm.MethodName) jdk_42_method_149_code (6 : Nat) (Option.none : Option Jvm.ClassFile.FieldType)).before args0 about1 = true := code_word (m := ⟨7, 2⟩) (meth := k7m2) (c := k7c2) (by decide +kernel) rfl rfl rfl (by decide +kernel)
set_option maxRecDepth 65536 in
theorem w_c3 : (Jvm.Cond.code ({ cls := "java/lang/Object", name := "<init>", desc := "()V" } : Jvm.MethodName) object_method_1_code (1 : Nat) (Option.none : Option Jvm.ClassFile.FieldType)).before args0 about1 = true := code_word (m := ⟨0, 0⟩) (meth := k0m0) (c := k0c0) (by decide +kernel) rfl rfl rfl (by decide +kernel)
set_option maxRecDepth 65536 in
theorem w_c4 : (Jvm.Cond.code ({ cls := "java/lang/StringUTF16", name := "compress", desc := "([CII)[B" } : Jvm.MethodName) jdk_52_method_16_code (6 : Nat) (Option.some (Jvm.ClassFile.FieldType.array Jvm.ClassFile.FieldType.byte))).before args0 about1 = true := code_word (m := ⟨8, 2⟩) (meth := k8m2) (c := k8c2) (by decide +kernel) rfl rfl rfl (by decide +kernel)
set_option maxRecDepth 65536 in
theorem w_c5 : (Jvm.Cond.code ({ cls := "java/lang/StringUTF16", name := "compress", desc := "([CI[BII)I" } : Jvm.MethodName) jdk_52_method_21_code (7 : Nat) (Option.some Jvm.ClassFile.FieldType.int)).before args0 about1 = true := code_word (m := ⟨8, 3⟩) (meth := k8m3) (c := k8c3) (by decide +kernel) rfl rfl rfl (by decide +kernel)
set_option maxRecDepth 65536 in
theorem w_c6 : (Jvm.Cond.code ({ cls := "java/lang/StringUTF16", name := "coderFromArrayLen", desc := "([BI)B" } : Jvm.MethodName) jdk_52_method_15_code (2 : Nat) (Option.some Jvm.ClassFile.FieldType.byte)).before args0 about1 = true := code_word (m := ⟨8, 1⟩) (meth := k8m1) (c := k8c1) (by decide +kernel) rfl rfl rfl (by decide +kernel)
set_option maxRecDepth 65536 in
theorem w_c7 : (Jvm.Cond.code ({ cls := "com/example/mimosa/mimosa/bson/BsonElementStandsInPinLaw", name := "pickType", desc := "(I)Lcom/example/mimosa/mimosa/bson/BsonType;" } : Jvm.MethodName) method_2_code (3 : Nat) (Option.some (Jvm.ClassFile.FieldType.object "com/example/mimosa/mimosa/bson/BsonType"))).before args0 about1 = true := code_word (m := ⟨1, 1⟩) (meth := k1m1) (c := k1c1) (by decide +kernel) rfl rfl rfl (by decide +kernel)
set_option maxRecDepth 65536 in
theorem w_c8 : (Jvm.Cond.code ({ cls := "com/example/mimosa/mimosa/bson/BsonElement", name := "<init>", desc := "([BLjava/lang/String;Lcom/example/mimosa/mimosa/bson/BsonType;II)V" } : Jvm.MethodName) prog_15_method_1_code (6 : Nat) (Option.none : Option Jvm.ClassFile.FieldType)).before args0 about1 = true := code_word (m := ⟨11, 0⟩) (meth := k11m0) (c := k11c0) (by decide +kernel) rfl rfl rfl (by decide +kernel)
set_option maxRecDepth 65536 in
theorem w_c9 : (Jvm.Cond.code ({ cls := "com/example/mimosa/mimosa/bson/BsonElement", name := "standsIn", desc := "([B)Z" } : Jvm.MethodName) prog_15_method_23_code (2 : Nat) (Option.some Jvm.ClassFile.FieldType.boolean)).before args0 about1 = true := code_word (m := ⟨11, 1⟩) (meth := k11m1) (c := k11c1) (by decide +kernel) rfl rfl rfl (by decide +kernel)
def codes1 : List Jvm.Cond := [Jvm.Cond.code x code maxLocals ret, Jvm.Cond.code ({ cls := "java/lang/String", name := "<init>", desc := "([C)V" } : Jvm.MethodName) jdk_42_method_3_code (2 : Nat) (Option.none : Option Jvm.ClassFile.FieldType), Jvm.Cond.code ({ cls := "java/lang/String", name := "<init>", desc := "([CIILjava/lang/Void;)V" } : Jvm.MethodName) jdk_42_method_149_code (6 : Nat) (Option.none : Option Jvm.ClassFile.FieldType), Jvm.Cond.code ({ cls := "java/lang/Object", name := "<init>", desc := "()V" } : Jvm.MethodName) object_method_1_code (1 : Nat) (Option.none : Option Jvm.ClassFile.FieldType), Jvm.Cond.code ({ cls := "java/lang/StringUTF16", name := "compress", desc := "([CII)[B" } : Jvm.MethodName) jdk_52_method_16_code (6 : Nat) (Option.some (Jvm.ClassFile.FieldType.array Jvm.ClassFile.FieldType.byte)), Jvm.Cond.code ({ cls := "java/lang/StringUTF16", name := "compress", desc := "([CI[BII)I" } : Jvm.MethodName) jdk_52_method_21_code (7 : Nat) (Option.some Jvm.ClassFile.FieldType.int), Jvm.Cond.code ({ cls := "java/lang/StringUTF16", name := "coderFromArrayLen", desc := "([BI)B" } : Jvm.MethodName) jdk_52_method_15_code (2 : Nat) (Option.some Jvm.ClassFile.FieldType.byte), Jvm.Cond.code ({ cls := "com/example/mimosa/mimosa/bson/BsonElementStandsInPinLaw", name := "pickType", desc := "(I)Lcom/example/mimosa/mimosa/bson/BsonType;" } : Jvm.MethodName) method_2_code (3 : Nat) (Option.some (Jvm.ClassFile.FieldType.object "com/example/mimosa/mimosa/bson/BsonType")), Jvm.Cond.code ({ cls := "com/example/mimosa/mimosa/bson/BsonElement", name := "<init>", desc := "([BLjava/lang/String;Lcom/example/mimosa/mimosa/bson/BsonType;II)V" } : Jvm.MethodName) prog_15_method_1_code (6 : Nat) (Option.none : Option Jvm.ClassFile.FieldType), Jvm.Cond.code ({ cls := "com/example/mimosa/mimosa/bson/BsonElement", name := "standsIn", desc := "([B)Z" } : Jvm.MethodName) prog_15_method_23_code (2 : Nat) (Option.some Jvm.ClassFile.FieldType.boolean)]
set_option maxRecDepth 65536 in
theorem codes_eq : words1.filter isCode = codes1 := rfl
theorem w_codes : ∀ c ∈ words1.filter isCode, c.before args0 about1 = true := by
  rw [codes_eq]
  intro c hc
  simp only [codes1, List.mem_cons, List.not_mem_nil, or_false] at hc
  rcases hc with rfl | rfl | rfl | rfl | rfl | rfl | rfl | rfl | rfl | rfl
  · exact w_c0
  · exact w_c1
  · exact w_c2
  · exact w_c3
  · exact w_c4
  · exact w_c5
  · exact w_c6
  · exact w_c7
  · exact w_c8
  · exact w_c9
set_option maxRecDepth 65536 in
theorem w_t1 : (words1.take 24).all (fun c => isCode c || c.before args0 about1) = true := by decide +kernel
set_option maxRecDepth 65536 in
theorem w_t2 : ((words1.drop 24).take 24).all (fun c => isCode c || c.before args0 about1) = true := by decide +kernel
set_option maxRecDepth 65536 in
theorem w_t3 : ((words1.drop 24).drop 24).all (fun c => isCode c || c.before args0 about1) = true := by decide +kernel
theorem w_tables : (allAtoms (Jvm.Cond.code x code maxLocals ret :: tables_1)).before args0 about1 = true := by
  rw [allAtoms_all]
  show words1.all (fun c => c.before args0 about1) = true
  refine all_split ?_ w_codes
  rw [← List.take_append_drop 24 words1, List.all_append, w_t1, ← List.take_append_drop 24 (words1.drop 24), List.all_append, w_t2, w_t3]
  rfl
set_option maxRecDepth 65536 in
theorem w_rest : rest_1_c.before args0 about1 = true := by decide +kernel
set_option maxRecDepth 65536 in
theorem w_case : (Jvm.Cond.and given_1 narrow_1).before args0 about1 = true := by decide +kernel
theorem w_applies : (headSpec (Jvm.Cond.code x code maxLocals ret :: tables_1) room_1).applies x e0.platform about1 = true :=
  (Spec.applies_iff w_frames).mpr ⟨w_running, w_runnable, w_alone, w_named, w_hears, w_ripe, w_room, w_tables⟩
theorem atStart : AtStart classFile x code maxLocals ret World_1 tables_1 room_1 Calls_1 rest_1 Pre_1 launch0 p0 e0 about1 theMethod args0 below0 :=
  ⟨lists_1, trivial, launch0.admits_env _ _ _, launch0.least_env, fairChoices_fair.cas, fairChoices_fair.clock, w_frames, w_args, w_heap, w_applies, trivial, w_rest, w_case⟩
end start1
theorem witness_1 : WitnessClaimed_1 := ⟨start1.p0, start1.e0, start1.about1, start1.theMethod, start1.args0, start1.below0, start1.atStart⟩
end Jvm.Pilot.@@N@@
