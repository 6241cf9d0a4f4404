import JvmDerived
import JvmDerived.Pilot.@@N@@Statement
import JvmDerived.Pilot.@@N@@Code
set_option linter.unusedVariables false
set_option linter.unusedSimpArgs false

/- laws to paste: Road.backV (cut by pick.py; bodies as the Statement names them) -/
namespace Jvm.Pilot.@@N@@
namespace StrChars
open Jvm Sem ClassFile Op Lib Jvm.Stand Jvm.Free.XT Jvm.Free.ALB Jvm.Free.JM Jvm.Free
open Jvm.Lib.Cold (StaticIs)
/-- a char array whose places are chars -/
def Ch (a : Addr) (A : Cell) (U : State) : Prop := Arr .char a A U ∧ Typed .char A
theorem Ch.mv {a : Addr} {A : Cell} {U U' : State} (h : Ch a A U) (hal : U.vm.Alike U'.vm) (hh : U'.heap = U.heap) : Ch a A U' := ⟨h.1.mv hal hh, h.2⟩
theorem Ch.keep {a : Addr} {A : Cell} {U U' : State} (h : Ch a A U) (hal : U.vm.Alike U'.vm) (hk : U'.heap[a]? = some A) : Ch a A U' := ⟨h.1.keep hal hk, h.2⟩
/-- what place i of a char[]'s cell holds -/
def cv (A : Cell) (i : Nat) : Int32 := match A.slots[i]? with | some (.int x) => x | _ => 0
theorem Ch.get {a : Addr} {A : Cell} {U : State} (h : Ch a A U) {i : Nat} (hi : i < A.slots.size) : A.slots[i]? = some (.int (cv A i)) := by
  have e := Array.getElem?_eq_getElem hi
  have f := h.2 i _ e
  unfold cv; rw [e]
  generalize A.slots[i] = v at f
  cases v <;> simp [fits] at f ⊢
/-- the byte that i2b leaves of a char -/
def lo8 (x : Int32) : Int32 := x.toInt8.toInt32
theorem fits_lo8 (y : Int32) : fits .byte (.int (lo8 y)) = true := by
  have h1 := y.toInt8.le_toInt
  have h2 := y.toInt8.toInt_lt
  simp only [lo8, fits, Bool.and_eq_true, decide_eq_true_eq, Int32.le_iff_toInt_le, Int8.toInt_toInt32, show (-128 : Int32).toInt = -128 from by decide, show (127 : Int32).toInt = 127 from by decide]
  omega
/-- A' is A but that each place j of lo .. hi - 1 holds f j -/
def Laid (A A' : Cell) (lo hi : Nat) (f : Nat → Value) : Prop := A'.cls = A.cls ∧ A'.vm = A.vm ∧ A'.slots.size = A.slots.size ∧ ∀ i, A'.slots[i]? = if lo ≤ i ∧ i < hi then some (f i) else A.slots[i]?
theorem Laid.zero (A : Cell) (lo : Nat) (f : Nat → Value) : Laid A A lo (lo + 0) f := ⟨rfl, rfl, rfl, fun i => by rw [if_neg (by omega)]⟩
theorem Laid.step {A Ak : Cell} {lo k : Nat} {f : Nat → Value} {v : Value} (h : Laid A Ak lo k f) (hlo : lo ≤ k) (hk : k < Ak.slots.size) (hv : v = f k) : Laid A (Ak.setSlot k v) lo (k + 1) f := by
  refine ⟨h.1, h.2.1, by simpa [Cell.setSlot] using h.2.2.1, fun i => ?_⟩
  by_cases e : k = i
  · subst e; rw [Cell.slots_setSlot_self v hk, if_pos (by omega), hv]
  · rw [Cell.slots_setSlot_ne v e, h.2.2.2 i]
    by_cases q : lo ≤ i ∧ i < k
    · rw [if_pos q, if_pos (by omega)]
    · rw [if_neg q, if_neg (by omega)]
def U16 : String := "java/lang/StringUTF16"
namespace Cmp5
def yN : MethodName := ⟨"java/lang/StringUTF16", "compress", "([CI[BII)I"⟩
abbrev yB : ByteArray := jdk_52_method_21_code
theorem d0 : decode yB 0 = .ok (.iconst 0, 1) := by decide +kernel
theorem d1 : decode yB 1 = .ok (.istore 5, 2) := by decide +kernel
theorem d3 : decode yB 3 = .ok (.iload 5, 2) := by decide +kernel
theorem d5 : decode yB 5 = .ok (.iload 4, 2) := by decide +kernel
theorem d7 : decode yB 7 = .ok (.if_icmp (.ge) 37, 3) := by decide +kernel
theorem d10 : decode yB 10 = .ok (.aload_n 0, 1) := by decide +kernel
theorem d11 : decode yB 11 = .ok (.iload_n 1, 1) := by decide +kernel
theorem d12 : decode yB 12 = .ok (.caload, 1) := by decide +kernel
theorem d13 : decode yB 13 = .ok (.istore 6, 2) := by decide +kernel
theorem d15 : decode yB 15 = .ok (.iload 6, 2) := by decide +kernel
theorem d17 : decode yB 17 = .ok (.sipush 255, 3) := by decide +kernel
theorem d20 : decode yB 20 = .ok (.if_icmp (.le) 6, 3) := by decide +kernel
theorem d26 : decode yB 26 = .ok (.aload_n 2, 1) := by decide +kernel
theorem d27 : decode yB 27 = .ok (.iload_n 3, 1) := by decide +kernel
theorem d28 : decode yB 28 = .ok (.iload 6, 2) := by decide +kernel
theorem d30 : decode yB 30 = .ok (.i2b, 1) := by decide +kernel
theorem d31 : decode yB 31 = .ok (.bastore, 1) := by decide +kernel
theorem d32 : decode yB 32 = .ok (.iinc 1 1, 3) := by decide +kernel
theorem d35 : decode yB 35 = .ok (.iinc 3 1, 3) := by decide +kernel
theorem d38 : decode yB 38 = .ok (.iinc 5 1, 3) := by decide +kernel
theorem d41 : decode yB 41 = .ok (.goto (-38), 3) := by decide +kernel
theorem d44 : decode yB 44 = .ok (.iload 4, 2) := by decide +kernel
theorem d46 : decode yB 46 = .ok (.ireturn, 1) := by decide +kernel
def site : List Cond := []
def tab : Cond := tabOf yN yB 7 (some .int) site
def P (b : Addr) (A : Cell) (d : Addr) (B : Cell) (o q len : Nat) (args : Array Value) (s : State) : Prop := args = #[.ref b, .int (Int32.ofNat o), .ref d, .int (Int32.ofNat q), .int (Int32.ofNat len)] ∧ Ch b A s ∧ Arr .byte d B s ∧ b ≠ d ∧ o + len ≤ A.slots.size ∧ q + len ≤ B.slots.size ∧ ∀ i, i < len → ¬ 255 < cv A (o + i)
def E (b : Addr) (A : Cell) (d : Addr) (B : Cell) (o q len : Nat) (r : Option Value) (s u : State) : Prop := r = some (.int (Int32.ofNat len)) ∧ ∃ B', Put d B' s u ∧ Laid B B' q (q + len) (fun j => Value.int (lo8 (cv A (o + (j - q)))))
/-- no char of the range above 255: len; the places written hold each char's low byte -/
theorem law (l : Launch) (b : Addr) (A : Cell) (d : Addr) (B : Cell) (o q len : Nat) : Law l yN 5 5 0 0 yB 7 (some .int) site (P b A d B o q len) (E b A d B o q len) (copyLocs d q len) 0 0 := by
  refine Law.of_walk (plainFor_of_name (by decide +kernel)) (by decide +kernel) (by decide +kernel) (by decide) (fun _ _ h => by rw [h.1]; rfl) (fun _ U U' hal hh h => ⟨h.1, h.2.1.mv hal hh, h.2.2.1.mv hal hh, h.2.2.2⟩) (fun r U U' V V' h1 hal h2 h => ⟨h.1, h.2.elim fun B' q => ⟨B', q.1.mv h1 h2, q.2⟩⟩) ?_
  intro p e s m args below meth c s₁ X0 hexec hbytes hml hret hlk hnm hown hh0 W hP
  obtain ⟨rfl, hA, hB, hne, l1, l2, hp⟩ := hP
  have c1 : Steps p.tables e below (s₁.setTop (entryFrame m #[.ref b, .int (Int32.ofNat o), .ref d, .int (Int32.ofNat q), .int (Int32.ofNat len)] 7)) (s₁.setTop (mkF m 0 #[.val (.ref b), .val (.int (Int32.ofNat o)), .val (.ref d), .val (.int (Int32.ofNat q)), .val (.int (Int32.ofNat len)), .unset, .unset] [])) := entry rfl
  have hA0 := hA.1.mv X0.warmed.alike hh0
  have hB0 := hB.mv X0.warmed.alike hh0
  have a31 := hA.1.2.2.2
  have c2 : Steps p.tables e below (s₁.setTop (entryFrame m #[.ref b, .int (Int32.ofNat o), .ref d, .int (Int32.ofNat q), .int (Int32.ofNat len)] 7)) (s₁.setTop (mkF m 3 #[.val (.ref b), .val (.int (Int32.ofNat o)), .val (.ref d), .val (.int (Int32.ofNat q)), .val (.int (Int32.ofNat len)), .val (.int 0), .unset] [])) := c1.trans (by
    refine iconstV X0.here hexec rfl 0 (hb hbytes d0) (by decide) ?_
    refine XS.istore X0.here hexec rfl (hb hbytes d1) rfl rfl ?_
    exact Steps.refl _)
  have loop : ∀ (r i : Nat), i + r = len → ∀ (z : Slot), (z = .unset ∨ ∃ w, z = .val w ∧ w.category = 1) → ∀ (Tl : State) (Bk : Cell), Stand p l e { frames := 0, locals := 0, cells := 0, slots := 0 } s m #[.ref b, .int (Int32.ofNat o), .ref d, .int (Int32.ofNat q), .int (Int32.ofNat len)] below meth c Tl ([] ++ copyLocs d q i) 0 0 → Put d Bk s₁ Tl → Laid B Bk q (q + i) (fun j => Value.int (lo8 (cv A (o + (j - q))))) →
      Steps p.tables e below (s₁.setTop (entryFrame m #[.ref b, .int (Int32.ofNat o), .ref d, .int (Int32.ofNat q), .int (Int32.ofNat len)] 7)) (Tl.setTop (mkF m 3 #[.val (.ref b), .val (.int (Int32.ofNat (o + i))), .val (.ref d), .val (.int (Int32.ofNat (q + i))), .val (.int (Int32.ofNat len)), .val (.int (Int32.ofNat i)), z] [])) → ∃ (T' : State) (B' : Cell) (z' : Slot), Stand p l e { frames := 0, locals := 0, cells := 0, slots := 0 } s m #[.ref b, .int (Int32.ofNat o), .ref d, .int (Int32.ofNat q), .int (Int32.ofNat len)] below meth c T' ([] ++ copyLocs d q len) 0 0 ∧ Put d B' s₁ T' ∧ Laid B B' q (q + len) (fun j => Value.int (lo8 (cv A (o + (j - q))))) ∧
      Steps p.tables e below (s₁.setTop (entryFrame m #[.ref b, .int (Int32.ofNat o), .ref d, .int (Int32.ofNat q), .int (Int32.ofNat len)] 7)) (T'.setTop (mkF m 3 #[.val (.ref b), .val (.int (Int32.ofNat (o + len))), .val (.ref d), .val (.int (Int32.ofNat (q + len))), .val (.int (Int32.ofNat len)), .val (.int (Int32.ofNat len)), z'] [])) := by
    intro r
    induction r with
    | zero =>
      intro i hi z hz Tl Bk Xl pl fl cl
      have hil : i = len := by omega
      rw [hil] at Xl fl cl
      exact ⟨Tl, Bk, z, Xl, pl, fl, cl⟩
    | succ r ih =>
      intro i hi z hz Tl Bk Xl pl fl cl
      have all := X0.warmed.alike.symm.trans Xl.warmed.alike
      have hAl := hA0.keep all (pl.other hne hA0.1)
      have hBk := hB0.like all pl.1 fl.1 fl.2.1 fl.2.2.1
      have hlt : q + i < Bk.slots.size := by rw [fl.2.2.1]; omega
      have c3 : Steps p.tables e below (s₁.setTop (entryFrame m #[.ref b, .int (Int32.ofNat o), .ref d, .int (Int32.ofNat q), .int (Int32.ofNat len)] 7)) (Tl.setTop (mkF m 12 #[.val (.ref b), .val (.int (Int32.ofNat (o + i))), .val (.ref d), .val (.int (Int32.ofNat (q + i))), .val (.int (Int32.ofNat len)), .val (.int (Int32.ofNat i)), z] [.int (Int32.ofNat (o + i)), .ref b])) := cl.trans (by
        refine XS.iload Xl.here hexec rfl (hb hbytes d3) rfl ?_
        refine XS.iload Xl.here hexec rfl (hb hbytes d5) rfl ?_
        refine XS.icmpNo Xl.here hexec rfl (hb hbytes d7) rfl (ii_ge_f (lt32 (by omega) (by omega))) ?_
        refine XS.aloadN Xl.here hexec rfl (hb hbytes d10) rfl rfl ?_
        refine XS.iloadN Xl.here hexec rfl (hb hbytes d11) rfl ?_
        exact Steps.refl _)
      have c4 : Steps p.tables e below (s₁.setTop (entryFrame m #[.ref b, .int (Int32.ofNat o), .ref d, .int (Int32.ofNat q), .int (Int32.ofNat len)] 7)) (Tl.setTop (mkF m 13 #[.val (.ref b), .val (.int (Int32.ofNat (o + i))), .val (.ref d), .val (.int (Int32.ofNat (q + i))), .val (.int (Int32.ofNat len)), .val (.int (Int32.ofNat i)), z] [.int (cv A (o + i))])) := c3.trans (by
        refine Xl.aget hexec hAl rfl (hA.get (i := o + i) (by omega)) rfl rfl (hb hbytes d12) ?_
        exact Steps.refl _)
      have c5 : Steps p.tables e below (s₁.setTop (entryFrame m #[.ref b, .int (Int32.ofNat o), .ref d, .int (Int32.ofNat q), .int (Int32.ofNat len)] 7)) (Tl.setTop (mkF m 15 #[.val (.ref b), .val (.int (Int32.ofNat (o + i))), .val (.ref d), .val (.int (Int32.ofNat (q + i))), .val (.int (Int32.ofNat len)), .val (.int (Int32.ofNat i)), .val (.int (cv A (o + i)))] [])) := c4.trans (by
        refine XS.istoreS Xl.here hexec rfl (hb hbytes d13) rfl rfl hz ?_
        exact Steps.refl _)
      have c6 : Steps p.tables e below (s₁.setTop (entryFrame m #[.ref b, .int (Int32.ofNat o), .ref d, .int (Int32.ofNat q), .int (Int32.ofNat len)] 7)) (Tl.setTop (mkF m 31 #[.val (.ref b), .val (.int (Int32.ofNat (o + i))), .val (.ref d), .val (.int (Int32.ofNat (q + i))), .val (.int (Int32.ofNat len)), .val (.int (Int32.ofNat i)), .val (.int (cv A (o + i)))] [.int (lo8 (cv A (o + i))), .int (Int32.ofNat (q + i)), .ref d])) := c5.trans (by
        refine XS.iload Xl.here hexec rfl (hb hbytes d15) rfl ?_
        refine sipushV Xl.here hexec rfl 255 (hb hbytes d17) (by decide) ?_
        refine XS.icmpYes Xl.here hexec rfl (pc0 := 20) rfl (hb hbytes d20) rfl (ii_le_t (hp i (by omega))) (by decide) rfl ?_
        refine XS.aloadN Xl.here hexec rfl (hb hbytes d26) rfl rfl ?_
        refine XS.iloadN Xl.here hexec rfl (hb hbytes d27) rfl ?_
        refine XS.iload Xl.here hexec rfl (hb hbytes d28) rfl ?_
        refine i2b Xl.here hexec rfl (hb hbytes d30) rfl ?_
        exact Steps.refl _)
      obtain ⟨T7, X7, p7, st7⟩ := Xl.aput hexec hBk rfl hlt rfl (fits_lo8 (cv A (o + i))) (g := (mkF m 31 #[.val (.ref b), .val (.int (Int32.ofNat (o + i))), .val (.ref d), .val (.int (Int32.ofNat (q + i))), .val (.int (Int32.ofNat len)), .val (.int (Int32.ofNat i)), .val (.int (cv A (o + i)))] [.int (lo8 (cv A (o + i))), .int (Int32.ofNat (q + i)), .ref d])) rfl (rest := []) rfl (hb hbytes d31)
      have c8 : Steps p.tables e below (s₁.setTop (entryFrame m #[.ref b, .int (Int32.ofNat o), .ref d, .int (Int32.ofNat q), .int (Int32.ofNat len)] 7)) (T7.setTop (mkF m 32 #[.val (.ref b), .val (.int (Int32.ofNat (o + i))), .val (.ref d), .val (.int (Int32.ofNat (q + i))), .val (.int (Int32.ofNat len)), .val (.int (Int32.ofNat i)), .val (.int (cv A (o + i)))] [])) := c6.trans (st7 _ (Steps.refl _))
      have c9 : Steps p.tables e below (s₁.setTop (entryFrame m #[.ref b, .int (Int32.ofNat o), .ref d, .int (Int32.ofNat q), .int (Int32.ofNat len)] 7)) (T7.setTop (mkF m 3 #[.val (.ref b), .val (.int (Int32.ofNat (o + i) + 1)), .val (.ref d), .val (.int (Int32.ofNat (q + i) + 1)), .val (.int (Int32.ofNat len)), .val (.int (Int32.ofNat i + 1)), .val (.int (cv A (o + i)))] [])) := c8.trans (by
        refine iincV X7.here hexec rfl 1 (hb hbytes d32) (by decide) rfl rfl ?_
        refine iincV X7.here hexec rfl 1 (hb hbytes d35) (by decide) rfl rfl ?_
        refine iincV X7.here hexec rfl 1 (hb hbytes d38) (by decide) rfl rfl ?_
        refine XS.goto X7.here hexec rfl (pc0 := 41) rfl (hb hbytes d41) (by decide) rfl ?_
        exact Steps.refl _)
      have c10 : Steps p.tables e below (s₁.setTop (entryFrame m #[.ref b, .int (Int32.ofNat o), .ref d, .int (Int32.ofNat q), .int (Int32.ofNat len)] 7)) (T7.setTop (mkF m 3 #[.val (.ref b), .val (.int (Int32.ofNat (o + (i + 1)))), .val (.ref d), .val (.int (Int32.ofNat (q + (i + 1)))), .val (.int (Int32.ofNat len)), .val (.int (Int32.ofNat (i + 1))), .val (.int (cv A (o + i)))] [])) := by
        have := c9
        rw [succ32, succ32, succ32] at this
        exact this
      exact ih (i + 1) (by omega) _ (Or.inr ⟨_, rfl, rfl⟩) T7 _ (by rw [copyLocs_step, ← List.append_assoc]; exact X7) (pl.trans p7) (fl.step (by omega) hlt (by simp)) c10
  obtain ⟨T9, B9, z9, X9, p9, f9, g9⟩ := loop len 0 (by omega) .unset (Or.inl rfl) s₁ B (by simpa [copyLocs] using X0) ⟨hB0.1, fun _ _ => rfl, rfl⟩ (Laid.zero _ _ _) c2
  have c11 : Steps p.tables e below (s₁.setTop (entryFrame m #[.ref b, .int (Int32.ofNat o), .ref d, .int (Int32.ofNat q), .int (Int32.ofNat len)] 7)) (T9.setTop (mkF m 46 #[.val (.ref b), .val (.int (Int32.ofNat (o + len))), .val (.ref d), .val (.int (Int32.ofNat (q + len))), .val (.int (Int32.ofNat len)), .val (.int (Int32.ofNat len)), z9] [.int (Int32.ofNat len)])) := g9.trans (by
    refine XS.iload X9.here hexec rfl (hb hbytes d3) rfl ?_
    refine XS.iload X9.here hexec rfl (hb hbytes d5) rfl ?_
    refine XS.icmpYes X9.here hexec rfl (pc0 := 7) rfl (hb hbytes d7) rfl (ii_ge_t (nlt32 (by omega) (Nat.le_refl _))) (by decide) rfl ?_
    refine XS.iload X9.here hexec rfl (hb hbytes d44) rfl ?_
    exact Steps.refl _)
  exact ⟨T9, some (.int (Int32.ofNat len)), _, _, _, X9, by simp, rfl, rfl, (fun h => by cases h), ⟨rfl, B9, p9.from hh0, f9⟩, fun fs hl => c11.trans (X9.ireturnOut hexec hret rfl (Or.inl rfl) (hb hbytes d46) hl)⟩
end Cmp5
namespace Cmp3
def yN : MethodName := ⟨"java/lang/StringUTF16", "compress", "([CII)[B"⟩
abbrev yB : ByteArray := jdk_52_method_16_code
theorem d0 : decode yB 0 = .ok (.iload_n 2, 1) := by decide +kernel
theorem d1 : decode yB 1 = .ok (.newarray .byte, 2) := by decide +kernel
theorem d3 : decode yB 3 = .ok (.astore_n 3, 1) := by decide +kernel
theorem d4 : decode yB 4 = .ok (.aload_n 0, 1) := by decide +kernel
theorem d5 : decode yB 5 = .ok (.iload_n 1, 1) := by decide +kernel
theorem d6 : decode yB 6 = .ok (.aload_n 3, 1) := by decide +kernel
theorem d7 : decode yB 7 = .ok (.iconst 0, 1) := by decide +kernel
theorem d8 : decode yB 8 = .ok (.iload_n 2, 1) := by decide +kernel
theorem d9 : decode yB 9 = .ok (.invokestatic 115, 3) := by decide +kernel
theorem d12 : decode yB 12 = .ok (.istore 4, 2) := by decide +kernel
theorem d14 : decode yB 14 = .ok (.iload 4, 2) := by decide +kernel
theorem d16 : decode yB 16 = .ok (.iload_n 2, 1) := by decide +kernel
theorem d17 : decode yB 17 = .ok (.if_icmp (.eq) 40, 3) := by decide +kernel
theorem d57 : decode yB 57 = .ok (.aload_n 3, 1) := by decide +kernel
theorem d58 : decode yB 58 = .ok (.areturn, 1) := by decide +kernel
def site : List Cond := [.arrayClass .byte, Cmp5.tab] ++ staticW U16 115 Cmp5.yN
def tab : Cond := tabOf yN yB 6 (some (.array .byte)) site
def P (b : Addr) (A : Cell) (o len : Nat) (args : Array Value) (s : State) : Prop := args = #[.ref b, .int (Int32.ofNat o), .int (Int32.ofNat len)] ∧ Ch b A s ∧ o + len ≤ A.slots.size ∧ len ≤ 536870912 ∧ ∀ i, i < len → ¬ 255 < cv A (o + i)
def E (b : Addr) (A : Cell) (o len : Nat) (r : Option Value) (s u : State) : Prop := NewArr .byte "[B" len (fun j => .int (lo8 (cv A (o + j)))) r s u ∧ u.heap.size = s.heap.size + 1
/-- no char of the range above 255: a new byte[] of their low bytes -/
theorem law (l : Launch) (b : Addr) (A : Cell) (o len : Nat) : Law l yN 3 3 1 18 yB 6 (some (.array .byte)) site (P b A o len) (E b A o len) [] 1 len := by
  refine Law.of_walk (plainFor_of_name (by decide +kernel)) (by decide +kernel) (by decide +kernel) (by decide) (fun _ _ h => by rw [h.1]; rfl) (fun _ U U' hal hh h => ⟨h.1, h.2.1.mv hal hh, h.2.2⟩) (fun r U U' V V' h1 hal h2 h => ⟨NewArr.mv r U U' V V' h1 hal h2 h.1, by rw [h1, h2]; exact h.2⟩) ?_
  intro p e s m args below meth c s₁ X0 hexec hbytes hml hret hlk hnm hown hh0 W hP
  obtain ⟨rfl, hA, l1, l2, hp⟩ := hP
  have a31 := hA.1.2.2.2
  have c1 : Steps p.tables e below (s₁.setTop (entryFrame m #[.ref b, .int (Int32.ofNat o), .int (Int32.ofNat len)] 6)) (s₁.setTop (mkF m 0 #[.val (.ref b), .val (.int (Int32.ofNat o)), .val (.int (Int32.ofNat len)), .unset, .unset, .unset] [])) := entry rfl
  have c2 : Steps p.tables e below (s₁.setTop (entryFrame m #[.ref b, .int (Int32.ofNat o), .int (Int32.ofNat len)] 6)) (s₁.setTop (mkF m 1 #[.val (.ref b), .val (.int (Int32.ofNat o)), .val (.int (Int32.ofNat len)), .unset, .unset, .unset] [.int (Int32.ofNat len)])) := c1.trans (by
    refine XS.iloadN X0.here hexec rfl (hb hbytes d0) rfl ?_
    exact Steps.refl _)
  obtain ⟨T3, B3, X3, ba3, bs3, bv3, bh3, bf3, st3⟩ := X0.anew hexec (atype := .byte) (wk W (.arrayClass .byte)) rfl (by show len * 1 ≤ _; omega) (by omega) (g := (mkF m 1 #[.val (.ref b), .val (.int (Int32.ofNat o)), .val (.int (Int32.ofNat len)), .unset, .unset, .unset] [.int (Int32.ofNat len)])) rfl (hb hbytes d1) (rest := []) rfl (Nat.le_refl _) (by show 0 + len ≤ len; omega)
  rw [hh0] at ba3 st3
  have kp3 : XT.Kept s T3 := (XT.Kept.of_eq hh0).push bh3
  have hA3 := hA.keep X3.warmed.alike (kp3 _ _ hA.1.1)
  have hne : b ≠ s.heap.size := hA.1.ne
  have c4 : Steps p.tables e below (s₁.setTop (entryFrame m #[.ref b, .int (Int32.ofNat o), .int (Int32.ofNat len)] 6)) (T3.setTop (mkF m 3 #[.val (.ref b), .val (.int (Int32.ofNat o)), .val (.int (Int32.ofNat len)), .unset, .unset, .unset] [.ref s.heap.size])) := c2.trans (st3 _ (Steps.refl _))
  have c5 : Steps p.tables e below (s₁.setTop (entryFrame m #[.ref b, .int (Int32.ofNat o), .int (Int32.ofNat len)] 6)) (T3.setTop (mkF m 9 #[.val (.ref b), .val (.int (Int32.ofNat o)), .val (.int (Int32.ofNat len)), .val (.ref s.heap.size), .unset, .unset] [.int (Int32.ofNat len), .int 0, .ref s.heap.size, .int (Int32.ofNat o), .ref b])) := c4.trans (by
    refine XS.astoreN X3.here hexec rfl (hb hbytes d3) rfl rfl rfl ?_
    refine XS.aloadN X3.here hexec rfl (hb hbytes d4) rfl rfl ?_
    refine XS.iloadN X3.here hexec rfl (hb hbytes d5) rfl ?_
    refine XS.aloadN X3.here hexec rfl (hb hbytes d6) rfl rfl ?_
    refine iconstV X3.here hexec rfl 0 (hb hbytes d7) (by decide) ?_
    refine XS.iloadN X3.here hexec rfl (hb hbytes d8) rfl ?_
    exact Steps.refl _)
  obtain ⟨v6, T6, X6, E6, g6⟩ := X3.callS hexec (Cmp5.law l b A s.heap.size B3 o 0 len) hown (wks W (staticW U16 115 Cmp5.yN)) (wk W Cmp5.tab) (W := 0) (Nat.le_of_ble_eq_true rfl) (Nat.le_of_ble_eq_true rfl) (Nat.le_refl _) (by show 0 + len + 0 ≤ len; omega) (g := (mkF m 9 #[.val (.ref b), .val (.int (Int32.ofNat o)), .val (.int (Int32.ofNat len)), .val (.ref s.heap.size), .unset, .unset] [.int (Int32.ofNat len), .int (Int32.ofNat 0), .ref s.heap.size, .int (Int32.ofNat o), .ref b])) rfl (by rw [hml]; rfl) c5 (argsL := [.ref b, .int (Int32.ofNat o), .ref s.heap.size, .int (Int32.ofNat 0), .int (Int32.ofNat len)]) (rest := []) rfl rfl (by show 2 * 0 + 0 ≤ _; decide) (hb hbytes d9) (⟨rfl, hA3, ba3, hne, l1, by rw [bs3]; simp, hp⟩)
  obtain ⟨rfl, B6, p6, f6⟩ := E6
  have c7 : Steps p.tables e below (s₁.setTop (entryFrame m #[.ref b, .int (Int32.ofNat o), .int (Int32.ofNat len)] 6)) (T6.setTop (mkF m 12 #[.val (.ref b), .val (.int (Int32.ofNat o)), .val (.int (Int32.ofNat len)), .val (.ref s.heap.size), .unset, .unset] [.int (Int32.ofNat len)])) := g6
  have c8 : Steps p.tables e below (s₁.setTop (entryFrame m #[.ref b, .int (Int32.ofNat o), .int (Int32.ofNat len)] 6)) (T6.setTop (mkF m 58 #[.val (.ref b), .val (.int (Int32.ofNat o)), .val (.int (Int32.ofNat len)), .val (.ref s.heap.size), .val (.int (Int32.ofNat len)), .unset] [.ref s.heap.size])) := c7.trans (by
    refine XS.istore X6.here hexec rfl (hb hbytes d12) rfl rfl ?_
    refine XS.iload X6.here hexec rfl (hb hbytes d14) rfl ?_
    refine XS.iloadN X6.here hexec rfl (hb hbytes d16) rfl ?_
    refine XS.icmpYes X6.here hexec rfl (pc0 := 17) rfl (hb hbytes d17) rfl (ii_eq_t rfl) (by decide) rfl ?_
    refine XS.aloadN X6.here hexec rfl (hb hbytes d57) rfl rfl ?_
    exact Steps.refl _)
  have X8 := X6.wide (L' := []) (cells' := 1) (slots' := len) (fun x hx hlt => by
    simp only [List.nil_append, copyLocs, List.mem_map, List.mem_range] at hx
    obtain ⟨i, -, rfl⟩ := hx
    exact absurd hlt (Nat.lt_irrefl _)) (Nat.le_refl _) (by omega)
  exact ⟨T6, some (.ref s.heap.size), _, _, _, X8, rfl, rfl, rfl, (fun h => by cases h), ⟨⟨rfl, B6, ba3.like (X3.warmed.alike.symm.trans X6.warmed.alike) p6.1 f6.1 f6.2.1 f6.2.2.1, f6.2.1.trans bv3, by rw [X6.warmed.alike.findClass, f6.1]; exact bf3, by rw [f6.2.2.1, bs3]; simp, fun j hj => by rw [f6.2.2.2 j, if_pos (by omega)]; rfl, kp3.put p6 (Nat.le_refl _)⟩, by rw [p6.2.2, bh3, hh0]; simp⟩, fun fs hl => c8.trans (X8.areturnOut hexec rfl hret rfl (hb hbytes d58) hl)⟩
end Cmp3
namespace CodL
def yN : MethodName := ⟨"java/lang/StringUTF16", "coderFromArrayLen", "([BI)B"⟩
abbrev yB : ByteArray := jdk_52_method_15_code
theorem d0 : decode yB 0 = .ok (.iload_n 1, 1) := by decide +kernel
theorem d1 : decode yB 1 = .ok (.aload_n 0, 1) := by decide +kernel
theorem d2 : decode yB 2 = .ok (.arraylength, 1) := by decide +kernel
theorem d3 : decode yB 3 = .ok (.isub, 1) := by decide +kernel
theorem d4 : decode yB 4 = .ok (.bipush 31, 2) := by decide +kernel
theorem d6 : decode yB 6 = .ok (.iushr, 1) := by decide +kernel
theorem d7 : decode yB 7 = .ok (.i2b, 1) := by decide +kernel
theorem d8 : decode yB 8 = .ok (.ireturn, 1) := by decide +kernel
def site : List Cond := []
def tab : Cond := tabOf yN yB 2 (some .byte) site
def P (d : Addr) (B : Cell) (args : Array Value) (s : State) : Prop := args = #[.ref d, .int (Int32.ofNat B.slots.size)] ∧ Arr .byte d B s
def E (r : Option Value) (s u : State) : Prop := XT.PureE (some (.int 0)) r s u
/-- an array as long as the number of chars: LATIN1 -/
theorem law (l : Launch) (d : Addr) (B : Cell) : Law l yN 2 2 0 0 yB 2 (some .byte) site (P d B) E [] 0 0 := by
  refine Law.of_walk (plainFor_of_name (by decide +kernel)) (by decide +kernel) (by decide +kernel) (by decide) (fun _ _ h => by rw [h.1]; rfl) (fun _ U U' hal hh h => ⟨h.1, h.2.mv hal hh⟩) (fun r U U' V V' h1 hal h2 h => XT.PureE.mv r U U' V V' h1 hal h2 h) ?_
  intro p e s m args below meth c s₁ X0 hexec hbytes hml hret hlk hnm hown hh0 W hP
  obtain ⟨rfl, hB⟩ := hP
  have hB0 := hB.mv X0.warmed.alike hh0
  have c1 : Steps p.tables e below (s₁.setTop (entryFrame m #[.ref d, .int (Int32.ofNat B.slots.size)] 2)) (s₁.setTop (mkF m 0 #[.val (.ref d), .val (.int (Int32.ofNat B.slots.size))] [])) := entry rfl
  have c2 : Steps p.tables e below (s₁.setTop (entryFrame m #[.ref d, .int (Int32.ofNat B.slots.size)] 2)) (s₁.setTop (mkF m 2 #[.val (.ref d), .val (.int (Int32.ofNat B.slots.size))] [.ref d, .int (Int32.ofNat B.slots.size)])) := c1.trans (by
    refine XS.iloadN X0.here hexec rfl (hb hbytes d0) rfl ?_
    refine XS.aloadN X0.here hexec rfl (hb hbytes d1) rfl rfl ?_
    exact Steps.refl _)
  have c3 : Steps p.tables e below (s₁.setTop (entryFrame m #[.ref d, .int (Int32.ofNat B.slots.size)] 2)) (s₁.setTop (mkF m 8 #[.val (.ref d), .val (.int (Int32.ofNat B.slots.size))] [.int (lo8 (ushr (Int32.ofNat B.slots.size - Int32.ofNat B.slots.size) 31))])) := c2.trans (by
    refine X0.alen hexec hB0 rfl rfl (hb hbytes d2) ?_
    refine XS.isub X0.here hexec rfl (hb hbytes d3) rfl ?_
    refine bipushV X0.here hexec rfl 31 (hb hbytes d4) (by decide) ?_
    refine iushr X0.here hexec rfl (hb hbytes d6) rfl ?_
    refine i2b X0.here hexec rfl (hb hbytes d7) rfl ?_
    exact Steps.refl _)
  have e0 : lo8 (ushr (Int32.ofNat B.slots.size - Int32.ofNat B.slots.size) 31) = 0 := by rw [Int32.sub_self]; decide
  rw [e0] at c3
  exact ⟨s₁, some (.int 0), _, _, _, X0, rfl, rfl, rfl, (fun h => by cases h), ⟨rfl, hh0⟩, fun fs hl => c3.trans (X0.ireturnOut hexec hret rfl (Or.inr (Or.inr (Or.inl rfl))) (hb hbytes d8) hl)⟩
end CodL
/-- the String at a is Latin-1 over a new byte[] (the heap's one new cell): the low bytes of the len chars of A from o on; every cell but a is kept -/
def Got (a : Addr) (D : Cell) (fV fC : Field) (A : Cell) (o len : Nat) (r : Option Value) (s u : State) : Prop := r = none ∧ ∃ D' V : Cell, Blank "java/lang/String" a D' u ∧ Same D D' [fV.slot, fC.slot] ∧ D'.slots[fV.slot]? = some (.ref s.heap.size) ∧ D'.slots[fC.slot]? = some (.int 0) ∧ Arr .byte s.heap.size V u ∧ V.vm = .none ∧ u.vm.findClass "[B" = some V.cls ∧ V.slots.size = len ∧ (∀ j, j < len → V.slots[j]? = some (.int (lo8 (cv A (o + j))))) ∧ (∀ (y : Addr) (c : Cell), y ≠ a → s.heap[y]? = some c → u.heap[y]? = some c) ∧ u.heap.size = s.heap.size + 1
theorem Got.mv {a : Addr} {D A : Cell} {fV fC : Field} {o len : Nat} : ∀ r (U U' V V' : State), U'.heap = U.heap → V.vm.Alike V'.vm → V'.heap = V.heap → Got a D fV fC A o len r U V → Got a D fV fC A o len r U' V' :=
  fun r U U' V V' h1 hal h2 ⟨e0, D', X, a1, a2, a3, a4, a5, a6, a7, a8, a9, a10, a11⟩ => ⟨e0, D', X, a1.mv hal h2, a2, by rw [h1]; exact a3, a4, by rw [h1]; exact a5.mv hal h2, a6, by rw [hal.findClass]; exact a7, a8, a9, by rw [h1, h2]; exact a10, by rw [h1, h2]; exact a11⟩
namespace New4
def yN : MethodName := ⟨"java/lang/String", "<init>", "([CIILjava/lang/Void;)V"⟩
abbrev yB : ByteArray := jdk_42_method_149_code
theorem d0 : decode yB 0 = .ok (.aload_n 0, 1) := by decide +kernel
theorem d1 : decode yB 1 = .ok (.invokespecial 1, 3) := by decide +kernel
theorem d4 : decode yB 4 = .ok (.iload_n 3, 1) := by decide +kernel
theorem d5 : decode yB 5 = .ok (.ifCond (.ne) 22, 3) := by decide +kernel
theorem d27 : decode yB 27 = .ok (.getstatic 38, 3) := by decide +kernel
theorem d30 : decode yB 30 = .ok (.ifCond (.eq) 28, 3) := by decide +kernel
theorem d33 : decode yB 33 = .ok (.aload_n 1, 1) := by decide +kernel
theorem d34 : decode yB 34 = .ok (.iload_n 2, 1) := by decide +kernel
theorem d35 : decode yB 35 = .ok (.iload_n 3, 1) := by decide +kernel
theorem d36 : decode yB 36 = .ok (.invokestatic 177, 3) := by decide +kernel
theorem d39 : decode yB 39 = .ok (.astore 5, 2) := by decide +kernel
theorem d41 : decode yB 41 = .ok (.aload_n 0, 1) := by decide +kernel
theorem d42 : decode yB 42 = .ok (.aload 5, 2) := by decide +kernel
theorem d44 : decode yB 44 = .ok (.iload_n 3, 1) := by decide +kernel
theorem d45 : decode yB 45 = .ok (.invokestatic 47, 3) := by decide +kernel
theorem d48 : decode yB 48 = .ok (.putfield 15, 3) := by decide +kernel
theorem d51 : decode yB 51 = .ok (.aload_n 0, 1) := by decide +kernel
theorem d52 : decode yB 52 = .ok (.aload 5, 2) := by decide +kernel
theorem d54 : decode yB 54 = .ok (.putfield 9, 3) := by decide +kernel
theorem d57 : decode yB 57 = .ok (.return_, 1) := by decide +kernel
def site : List Cond := [.fieldLink "java/lang/String" 38 "java/lang/String" "COMPACT_STRINGS" "Z", Cmp3.tab, CodL.tab, .laysFinal "java/lang/String" "java/lang/String" "value" "[B", .fieldLink "java/lang/String" 9 "java/lang/String" "value" "[B", .laysFinal "java/lang/String" "java/lang/String" "coder" "B", .fieldLink "java/lang/String" 15 "java/lang/String" "coder" "B"] ++ objW "java/lang/String" 1 ++ staticW "java/lang/String" 177 Cmp3.yN ++ staticW "java/lang/String" 47 CodL.yN
def tab : Cond := tabOf yN yB 6 none site
def P (a : Addr) (D : Cell) (fV fC : Field) (b : Addr) (A : Cell) (z : Int32) (o len : Nat) (args : Array Value) (s : State) : Prop := args = #[.ref a, .ref b, .int (Int32.ofNat o), .int (Int32.ofNat len), .null] ∧ Blank "java/lang/String" a D s ∧ Found "java/lang/String" "value" "[B" fV s ∧ Found "java/lang/String" "coder" "B" fC s ∧ Ch b A s ∧ StaticIs s "java/lang/String" "COMPACT_STRINGS" "Z" (.int z) ∧ ¬ z = 0 ∧ 0 < len ∧ o + len ≤ A.slots.size ∧ len ≤ 536870912 ∧ ∀ i, i < len → ¬ 255 < cv A (o + i)
def E (a : Addr) (D : Cell) (fV fC : Field) (A : Cell) (o len : Nat) (r : Option Value) (s u : State) : Prop := Got a D fV fC A o len r s u
/-- len > 0, no char of the range above 255: a Latin-1 String of their low bytes -/
theorem law (l : Launch) (a : Addr) (D : Cell) (fV fC : Field) (b : Addr) (A : Cell) (z : Int32) (o len : Nat) : Law l yN 5 4 2 35 yB 6 none site (P a D fV fC b A z o len) (E a D fV fC A o len) [⟨a, fC.slot⟩, ⟨a, fV.slot⟩] 1 len := by
  refine Law.of_walk (plainFor_of_name (by decide +kernel)) (by decide +kernel) (by decide +kernel) (by decide) (fun _ _ h => by rw [h.1]; rfl) (fun _ U U' hal hh h => ⟨h.1, h.2.1.mv hal hh, h.2.2.1.al hal, h.2.2.2.1.al hal, h.2.2.2.2.1.mv hal hh, h.2.2.2.2.2.1.there hal hh, h.2.2.2.2.2.2⟩) (fun r U U' V V' h1 hal h2 h => Got.mv r U U' V V' h1 hal h2 h) ?_
  intro p e s m args below meth c s₁ X0 hexec hbytes hml hret hlk hnm hown hh0 W hP
  obtain ⟨rfl, hB, f1, f2, hA, s1, hz, l0, l1, l2, hp⟩ := hP
  have a31 := hA.1.2.2.2
  have c1 : Steps p.tables e below (s₁.setTop (entryFrame m #[.ref a, .ref b, .int (Int32.ofNat o), .int (Int32.ofNat len), .null] 6)) (s₁.setTop (mkF m 0 #[.val (.ref a), .val (.ref b), .val (.int (Int32.ofNat o)), .val (.int (Int32.ofNat len)), .val .null, .unset] [])) := entry rfl
  have c2 : Steps p.tables e below (s₁.setTop (entryFrame m #[.ref a, .ref b, .int (Int32.ofNat o), .int (Int32.ofNat len), .null] 6)) (s₁.setTop (mkF m 1 #[.val (.ref a), .val (.ref b), .val (.int (Int32.ofNat o)), .val (.int (Int32.ofNat len)), .val .null, .unset] [.ref a])) := c1.trans (by
    refine XS.aloadN X0.here hexec rfl (hb hbytes d0) rfl rfl ?_
    exact Steps.refl _)
  obtain ⟨T3, X3, q3, st3⟩ := X0.oinit hexec hown (wks W (objW "java/lang/String" 1)) (g := (mkF m 1 #[.val (.ref a), .val (.ref b), .val (.int (Int32.ofNat o)), .val (.int (Int32.ofNat len)), .val .null, .unset] [.ref a])) rfl (by rw [hml]; rfl) (rest := []) rfl (hb hbytes d1) (W := 0) (by show 2 * 0 + 0 ≤ _; decide) (Nat.le_of_ble_eq_true rfl) (Nat.le_of_ble_eq_true rfl)
  have hh3 := q3.trans hh0
  have c4 : Steps p.tables e below (s₁.setTop (entryFrame m #[.ref a, .ref b, .int (Int32.ofNat o), .int (Int32.ofNat len), .null] 6)) (T3.setTop (mkF m 27 #[.val (.ref a), .val (.ref b), .val (.int (Int32.ofNat o)), .val (.int (Int32.ofNat len)), .val .null, .unset] [])) := (c2.trans (st3 _ (Steps.refl _))).trans (by
    refine XS.iloadN X3.here hexec rfl (hb hbytes d4) rfl ?_
    refine XS.ifYes X3.here hexec rfl (pc0 := 5) rfl (hb hbytes d5) rfl (i0_ne_t (nz32 (by omega) l0)) (by decide) rfl ?_
    exact Steps.refl _)
  obtain ⟨T5, X5, q5, st5⟩ := X3.sget hexec hown (wk W (.fieldLink "java/lang/String" 38 "java/lang/String" "COMPACT_STRINGS" "Z")) s1 (fun _ _ h => by rw [hh3]; exact h) (g := (mkF m 27 #[.val (.ref a), .val (.ref b), .val (.int (Int32.ofNat o)), .val (.int (Int32.ofNat len)), .val .null, .unset] [])) rfl (hb hbytes d27)
  have hh5 := q5.trans hh3
  have c6 : Steps p.tables e below (s₁.setTop (entryFrame m #[.ref a, .ref b, .int (Int32.ofNat o), .int (Int32.ofNat len), .null] 6)) (T5.setTop (mkF m 30 #[.val (.ref a), .val (.ref b), .val (.int (Int32.ofNat o)), .val (.int (Int32.ofNat len)), .val .null, .unset] [.int z])) := c4.trans (st5 _ (Steps.refl _))
  have c7 : Steps p.tables e below (s₁.setTop (entryFrame m #[.ref a, .ref b, .int (Int32.ofNat o), .int (Int32.ofNat len), .null] 6)) (T5.setTop (mkF m 36 #[.val (.ref a), .val (.ref b), .val (.int (Int32.ofNat o)), .val (.int (Int32.ofNat len)), .val .null, .unset] [.int (Int32.ofNat len), .int (Int32.ofNat o), .ref b])) := c6.trans (by
    refine XS.ifNo X5.here hexec rfl (hb hbytes d30) rfl (i0_eq_f hz) ?_
    refine XS.aloadN X5.here hexec rfl (hb hbytes d33) rfl rfl ?_
    refine XS.iloadN X5.here hexec rfl (hb hbytes d34) rfl ?_
    refine XS.iloadN X5.here hexec rfl (hb hbytes d35) rfl ?_
    exact Steps.refl _)
  obtain ⟨v8, T8, X8, E8, g8⟩ := X5.callS hexec (Cmp3.law l b A o len) hown (wks W (staticW "java/lang/String" 177 Cmp3.yN)) (wk W Cmp3.tab) (W := 0) (Nat.le_of_ble_eq_true rfl) (Nat.le_of_ble_eq_true rfl) (Nat.le_refl _) (by show 0 + len ≤ len; omega) (g := (mkF m 36 #[.val (.ref a), .val (.ref b), .val (.int (Int32.ofNat o)), .val (.int (Int32.ofNat len)), .val .null, .unset] [.int (Int32.ofNat len), .int (Int32.ofNat o), .ref b])) rfl (by rw [hml]; rfl) c7 (argsL := [.ref b, .int (Int32.ofNat o), .int (Int32.ofNat len)]) (rest := []) rfl rfl (by show 2 * 0 + 0 ≤ _; decide) (hb hbytes d36) (⟨rfl, hA.mv X5.warmed.alike hh5, l1, l2, hp⟩)
  obtain ⟨e8, z8⟩ := E8
  obtain ⟨rfl, N, n1, n2, n3, n4, n5, n6⟩ := NewArr.mv _ T5 s _ _ hh5.symm (Vm.Alike.refl _) rfl e8
  rw [hh5] at z8
  have hB1 := hB.keep X8.warmed.alike (n6 _ _ hB.1)
  have hne : s.heap.size ≠ a := (Nat.ne_of_lt (Array.getElem?_eq_some_iff.mp hB.1).1).symm
  have c9 : Steps p.tables e below (s₁.setTop (entryFrame m #[.ref a, .ref b, .int (Int32.ofNat o), .int (Int32.ofNat len), .null] 6)) (T8.setTop (mkF m 39 #[.val (.ref a), .val (.ref b), .val (.int (Int32.ofNat o)), .val (.int (Int32.ofNat len)), .val .null, .unset] [.ref s.heap.size])) := g8
  have c10 : Steps p.tables e below (s₁.setTop (entryFrame m #[.ref a, .ref b, .int (Int32.ofNat o), .int (Int32.ofNat len), .null] 6)) (T8.setTop (mkF m 45 #[.val (.ref a), .val (.ref b), .val (.int (Int32.ofNat o)), .val (.int (Int32.ofNat len)), .val .null, .val (.ref s.heap.size)] [.int (Int32.ofNat N.slots.size), .ref s.heap.size, .ref a])) := by
    have hc : Steps p.tables e below (s₁.setTop (entryFrame m #[.ref a, .ref b, .int (Int32.ofNat o), .int (Int32.ofNat len), .null] 6)) (T8.setTop (mkF m 45 #[.val (.ref a), .val (.ref b), .val (.int (Int32.ofNat o)), .val (.int (Int32.ofNat len)), .val .null, .val (.ref s.heap.size)] [.int (Int32.ofNat len), .ref s.heap.size, .ref a])) := c9.trans (by
      refine XS.astore X8.here hexec rfl (hb hbytes d39) rfl rfl rfl ?_
      refine XS.aloadN X8.here hexec rfl (hb hbytes d41) rfl rfl ?_
      refine XS.aload X8.here hexec rfl (hb hbytes d42) rfl rfl ?_
      refine XS.iloadN X8.here hexec rfl (hb hbytes d44) rfl ?_
      exact Steps.refl _)
    rw [n4]; exact hc
  obtain ⟨v11, T11, X11, E11, g11⟩ := X8.callS hexec (CodL.law l s.heap.size N) hown (wks W (staticW "java/lang/String" 47 CodL.yN)) (wk W CodL.tab) (W := 1) (Nat.le_of_ble_eq_true rfl) (Nat.le_of_ble_eq_true rfl) (Nat.le_refl _) (by show 0 + len + 0 ≤ len; omega) (g := (mkF m 45 #[.val (.ref a), .val (.ref b), .val (.int (Int32.ofNat o)), .val (.int (Int32.ofNat len)), .val .null, .val (.ref s.heap.size)] [.int (Int32.ofNat N.slots.size), .ref s.heap.size, .ref a])) rfl (by rw [hml]; rfl) c10 (argsL := [.ref s.heap.size, .int (Int32.ofNat N.slots.size)]) (rest := [.ref a]) rfl rfl (by show 2 * 0 + (1 + 0) ≤ _; decide) (hb hbytes d45) (⟨rfl, n1⟩)
  obtain ⟨rfl, q11⟩ := E11
  have hB11 := hB1.mv (X8.warmed.alike.symm.trans X11.warmed.alike) q11
  have c12 : Steps p.tables e below (s₁.setTop (entryFrame m #[.ref a, .ref b, .int (Int32.ofNat o), .int (Int32.ofNat len), .null] 6)) (T11.setTop (mkF m 48 #[.val (.ref a), .val (.ref b), .val (.int (Int32.ofNat o)), .val (.int (Int32.ofNat len)), .val .null, .val (.ref s.heap.size)] [.int 0, .ref a])) := g11
  obtain ⟨T13, X13, p13, bl13, sl13, st13⟩ := X11.finit hexec hown (wk W (.fieldLink "java/lang/String" 15 "java/lang/String" "coder" "B")) (Or.inr ⟨_, (wk W (.laysFinal "java/lang/String" "java/lang/String" "coder" "B"))⟩) (Or.inl ⟨rfl, hnm⟩) f2 (Or.inl rfl) hB11 (t := .byte) (by decide +kernel) rfl (g := (mkF m 48 #[.val (.ref a), .val (.ref b), .val (.int (Int32.ofNat o)), .val (.int (Int32.ofNat len)), .val .null, .val (.ref s.heap.size)] [.int 0, .ref a])) rfl (rest := []) rfl (hb hbytes d48)
  have c14 : Steps p.tables e below (s₁.setTop (entryFrame m #[.ref a, .ref b, .int (Int32.ofNat o), .int (Int32.ofNat len), .null] 6)) (T13.setTop (mkF m 54 #[.val (.ref a), .val (.ref b), .val (.int (Int32.ofNat o)), .val (.int (Int32.ofNat len)), .val .null, .val (.ref s.heap.size)] [.ref s.heap.size, .ref a])) := (c12.trans (st13 _ (Steps.refl _))).trans (by
    refine XS.aloadN X13.here hexec rfl (hb hbytes d51) rfl rfl ?_
    refine XS.aload X13.here hexec rfl (hb hbytes d52) rfl rfl ?_
    exact Steps.refl _)
  obtain ⟨T15, X15, p15, bl15, sl15, st15⟩ := X13.finit hexec hown (wk W (.fieldLink "java/lang/String" 9 "java/lang/String" "value" "[B")) (Or.inr ⟨_, (wk W (.laysFinal "java/lang/String" "java/lang/String" "value" "[B"))⟩) (Or.inl ⟨rfl, hnm⟩) f1 (Or.inl rfl) bl13 (t := (.array .byte)) (by decide +kernel) rfl (g := (mkF m 54 #[.val (.ref a), .val (.ref b), .val (.int (Int32.ofNat o)), .val (.int (Int32.ofNat len)), .val .null, .val (.ref s.heap.size)] [.ref s.heap.size, .ref a])) rfl (rest := []) rfl (hb hbytes d54)
  have c16 : Steps p.tables e below (s₁.setTop (entryFrame m #[.ref a, .ref b, .int (Int32.ofNat o), .int (Int32.ofNat len), .null] 6)) (T15.setTop (mkF m 57 #[.val (.ref a), .val (.ref b), .val (.int (Int32.ofNat o)), .val (.int (Int32.ofNat len)), .val .null, .val (.ref s.heap.size)] [])) := c14.trans (st15 _ (Steps.refl _))
  have ap := apart (Or.inr ⟨_, (wk W (.laysFinal "java/lang/String" "java/lang/String" "value" "[B"))⟩) (Or.inr ⟨_, (wk W (.laysFinal "java/lang/String" "java/lang/String" "coder" "B"))⟩) f1 f2 (t₁ := .array .byte) (t₂ := .byte) (by decide +kernel) (by decide +kernel) (by decide)
  have al := X8.warmed.alike.symm.trans X15.warmed.alike
  have n7 : T11.heap[s.heap.size]? = some N := by rw [q11]; exact n1.1
  exact ⟨T15, none, _, _, _, X15, by simp, rfl, by omega, (fun _ => rfl), ⟨rfl, _, N, bl15, ((Same.refl D _).set _ (by simp)).set _ (by simp), sl15, (Cell.slots_setSlot_ne _ ap).trans sl13, n1.keep al (p15.other hne (p13.other hne n7)), n2, by rw [al.findClass]; exact n3, n4, n5, fun y c h1 h2 => p15.other h1 (p13.other h1 (by rw [q11]; exact n6 y c h2)), by rw [p15.2.2, p13.2.2, q11]; exact z8⟩, fun fs hl => c16.trans (X15.returnOut hexec hret (hb hbytes d57) hl)⟩
end New4
namespace New1
def yN : MethodName := ⟨"java/lang/String", "<init>", "([C)V"⟩
abbrev yB : ByteArray := jdk_42_method_3_code
theorem d0 : decode yB 0 = .ok (.aload_n 0, 1) := by decide +kernel
theorem d1 : decode yB 1 = .ok (.aload_n 1, 1) := by decide +kernel
theorem d2 : decode yB 2 = .ok (.iconst 0, 1) := by decide +kernel
theorem d3 : decode yB 3 = .ok (.aload_n 1, 1) := by decide +kernel
theorem d4 : decode yB 4 = .ok (.arraylength, 1) := by decide +kernel
theorem d5 : decode yB 5 = .ok (.aconst_null, 1) := by decide +kernel
theorem d6 : decode yB 6 = .ok (.invokespecial 27, 3) := by decide +kernel
theorem d9 : decode yB 9 = .ok (.return_, 1) := by decide +kernel
def site : List Cond := [New4.tab] ++ initW "java/lang/String" 27 New4.yN
def tab : Cond := tabOf yN yB 2 none site
def P (a : Addr) (D : Cell) (fV fC : Field) (b : Addr) (A : Cell) (z : Int32) (args : Array Value) (s : State) : Prop := args = #[.ref a, .ref b] ∧ Blank "java/lang/String" a D s ∧ Found "java/lang/String" "value" "[B" fV s ∧ Found "java/lang/String" "coder" "B" fC s ∧ Ch b A s ∧ StaticIs s "java/lang/String" "COMPACT_STRINGS" "Z" (.int z) ∧ ¬ z = 0 ∧ 0 < A.slots.size ∧ A.slots.size ≤ 536870912 ∧ ∀ i, i < A.slots.size → ¬ 255 < cv A i
def E (a : Addr) (D : Cell) (fV fC : Field) (A : Cell) (r : Option Value) (s u : State) : Prop := Got a D fV fC A 0 A.slots.size r s u
/-- new String(chars), not empty, no char above 255: a Latin-1 String of their low bytes -/
theorem law (l : Launch) (a : Addr) (D : Cell) (fV fC : Field) (b : Addr) (A : Cell) (z : Int32) : Law l yN 2 1 3 52 yB 2 none site (P a D fV fC b A z) (E a D fV fC A) [⟨a, fC.slot⟩, ⟨a, fV.slot⟩] 1 A.slots.size := by
  refine Law.of_walk (plainFor_of_name (by decide +kernel)) (by decide +kernel) (by decide +kernel) (by decide) (fun _ _ h => by rw [h.1]; rfl) (fun _ U U' hal hh h => ⟨h.1, h.2.1.mv hal hh, h.2.2.1.al hal, h.2.2.2.1.al hal, h.2.2.2.2.1.mv hal hh, h.2.2.2.2.2.1.there hal hh, h.2.2.2.2.2.2⟩) (fun r U U' V V' h1 hal h2 h => Got.mv r U U' V V' h1 hal h2 h) ?_
  intro p e s m args below meth c s₁ X0 hexec hbytes hml hret hlk hnm hown hh0 W hP
  obtain ⟨rfl, hB, f1, f2, hA, s1, hz, l0, l2, hp⟩ := hP
  have c1 : Steps p.tables e below (s₁.setTop (entryFrame m #[.ref a, .ref b] 2)) (s₁.setTop (mkF m 0 #[.val (.ref a), .val (.ref b)] [])) := entry rfl
  have c2 : Steps p.tables e below (s₁.setTop (entryFrame m #[.ref a, .ref b] 2)) (s₁.setTop (mkF m 6 #[.val (.ref a), .val (.ref b)] [.null, .int (Int32.ofNat A.slots.size), .int 0, .ref b, .ref a])) := c1.trans (by
    refine XS.aloadN X0.here hexec rfl (hb hbytes d0) rfl rfl ?_
    refine XS.aloadN X0.here hexec rfl (hb hbytes d1) rfl rfl ?_
    refine iconstV X0.here hexec rfl 0 (hb hbytes d2) (by decide) ?_
    refine XS.aloadN X0.here hexec rfl (hb hbytes d3) rfl rfl ?_
    refine X0.alen hexec (hA.1.mv X0.warmed.alike hh0) rfl rfl (hb hbytes d4) ?_
    refine XS.aconstNull X0.here hexec rfl (hb hbytes d5) ?_
    exact Steps.refl _)
  obtain ⟨v3, T3, X3, E3, g3⟩ := X0.callN hexec (New4.law l a D fV fC b A z 0 A.slots.size) rfl hown (wks W (initW "java/lang/String" 27 New4.yN)) (W New4.tab (by simp only [site, List.mem_cons, List.mem_append, true_or, or_true])) (W := 0) (Nat.le_of_ble_eq_true rfl) (Nat.le_of_ble_eq_true rfl) (Nat.le_refl _) (by show 0 + A.slots.size ≤ A.slots.size; omega) (g := (mkF m 6 #[.val (.ref a), .val (.ref b)] [.null, .int (Int32.ofNat A.slots.size), .int (Int32.ofNat 0), .ref b, .ref a])) rfl (by rw [hml]; rfl) c2 (argsL := [.ref b, .int (Int32.ofNat 0), .int (Int32.ofNat A.slots.size), .null]) (rest := []) rfl rfl (by show 2 * 0 + 0 ≤ _; decide) (hb hbytes d6) (⟨rfl, hB.mv X0.warmed.alike hh0, f1.al X0.warmed.alike, f2.al X0.warmed.alike, hA.mv X0.warmed.alike hh0, s1.there X0.warmed.alike hh0, hz, l0, by omega, l2, fun i hi => by rw [Nat.zero_add]; exact hp i hi⟩)
  have e0 := Got.mv _ s₁ s _ _ hh0.symm (Vm.Alike.refl _) rfl E3
  obtain rfl := e0.1
  have c4 : Steps p.tables e below (s₁.setTop (entryFrame m #[.ref a, .ref b] 2)) (T3.setTop (mkF m 9 #[.val (.ref a), .val (.ref b)] [])) := g3
  exact ⟨T3, none, _, _, _, X3, by simp, rfl, by omega, (fun _ => rfl), e0, fun fs hl => c4.trans (X3.returnOut hexec hret (hb hbytes d9) hl)⟩
theorem pays {l : Launch} {R : Room} {p : Program} {e : Env} {below : List Frame} {s : State} {sargs : Array Value} {len W : Nat} (a : Addr) (D : Cell) (fV fC : Field) (b : Addr) (A : Cell) (z : Int32) (htab : tab.before sargs s = true) (hfr : 4 ≤ R.frames) (hlo : W + 65 ≤ R.locals) :
    Back l R p e below s sargs yN len W (fun A₁ a₁ => A₁.cells + 1 ≤ R.cells ∧ A₁.slots + A.slots.size ≤ R.slots ∧ P a D fV fC b A z a₁ A₁.U) (fun A₁ _ v₁ B₁ => E a D fV fC A v₁ A₁.U B₁.U ∧ B₁.locs = A₁.locs ++ [⟨a, fC.slot⟩, ⟨a, fV.slot⟩] ∧ B₁.cells = A₁.cells + 1 ∧ B₁.slots = A₁.slots + A.slots.size) :=
  (law l a D fV fC b A z).pays htab hfr (by omega)
end New1
end StrChars
namespace StrChars.Road
open Jvm Sem ClassFile Op Lib Jvm.Stand Jvm.Free Jvm.Free.XT
open Jvm.Lib.Cold (StaticIs)
abbrev ST : String := "java/lang/String"
/-- every table word that New1's law asks, flat -/
abbrev words : List Jvm.Cond := [.code New1.yN New1.yB 2 none, .initialized ST, .methodLink ST 27 New4.yN, .instanceMethod New4.yN,
  .code New4.yN New4.yB 6 none, .fieldLink ST 38 ST "COMPACT_STRINGS" "Z", .laysFinal ST ST "value" "[B", .fieldLink ST 9 ST "value" "[B", .laysFinal ST ST "coder" "B", .fieldLink ST 15 ST "coder" "B",
  .methodLink ST 1 Lib.objectInit, .instanceMethod Lib.objectInit, .code Lib.objectInit ⟨#[0xb1]⟩ 1 none, .methodLink ST 177 Cmp3.yN, .static Cmp3.yN, .methodLink ST 47 CodL.yN, .static CodL.yN,
  .code Cmp3.yN Cmp3.yB 6 (some (.array .byte)), .initialized U16, .arrayClass .byte, .methodLink U16 115 Cmp5.yN, .static Cmp5.yN, .code Cmp5.yN Cmp5.yB 7 (some .int), .code CodL.yN CodL.yB 2 (some .byte)]
theorem tab_of {a : Array Value} {s : State} (h : ∀ w ∈ words, w.before a s = true) : New1.tab.before a s = true := by
  have h5 : Cmp5.tab.before a s = true := unparts (wk h (.code Cmp5.yN Cmp5.yB 7 (some .int))) (wks h (.initialized Cmp5.yN.cls :: Cmp5.site))
  have hc : CodL.tab.before a s = true := unparts (wk h (.code CodL.yN CodL.yB 2 (some .byte))) (wks h (.initialized CodL.yN.cls :: CodL.site))
  have q5 : ∀ w ∈ Cmp5.tab :: words, w.before a s = true := fun w hw => (List.mem_cons.mp hw).elim (fun e => e ▸ h5) (h w)
  have h3 : Cmp3.tab.before a s = true := unparts (wk q5 (.code Cmp3.yN Cmp3.yB 6 (some (.array .byte)))) (wks q5 (.initialized Cmp3.yN.cls :: Cmp3.site))
  have q3 : ∀ w ∈ Cmp3.tab :: CodL.tab :: words, w.before a s = true := fun w hw => (List.mem_cons.mp hw).elim (fun e => e ▸ h3) fun hw => (List.mem_cons.mp hw).elim (fun e => e ▸ hc) (h w)
  have h4 : New4.tab.before a s = true := unparts (wk q3 (.code New4.yN New4.yB 6 none)) (wks q3 (.initialized New4.yN.cls :: New4.site))
  have q4 : ∀ w ∈ New4.tab :: words, w.before a s = true := fun w hw => (List.mem_cons.mp hw).elim (fun e => e ▸ h4) (h w)
  exact unparts (wk q4 (.code New1.yN New1.yB 2 none)) (wks q4 (.initialized New1.yN.cls :: New1.site))
/-- the words ride from the start Z to the walk's own state -/
theorem moved {Z s : State} {a0 args : Array Value} (hZ : Z.Warmed39 s.vm) (hw : ∀ d ∈ words, d.before a0 Z = true) : ∀ d ∈ words, d.before args s = true := fun d hd => by
  have q := hw d hd
  have t : ∀ d ∈ words, d = .arrayClass .byte ∨ (d.onTables && d.keepsFace) = true := by decide +kernel
  rcases t d hd with rfl | t
  · exact RoadKit.mvA hZ q
  · exact RoadKit.mv hZ q t
/-- WHAT COMES BACK, over the tables of the start Z: h the heap at the call, h' behind it -/
def Q (Z : State) (x : Addr) (A : Cell) (h : Heap) (v : Option Value) (h' : Heap) (L : List Loc) : Prop := v = none ∧ (∀ y ∈ L, y.base = x) ∧ RoadKit.Keep h h' [x] ∧ h'.size = h.size + 1 ∧ RoadKit.Exa Z h' x ST ∧ RoadKit.Fld Z h' x ST "value" "[B" (.ref h.size) ∧ RoadKit.Fld Z h' x ST "coder" "B" (.int 0) ∧
  (∃ V : Cell, RoadKit.Arr Z h' h.size V .byte ∧ V.vm = .none ∧ Z.vm.findClass "[B" = some V.cls ∧ V.slots.size = A.slots.size ∧ ∀ j, j < A.slots.size → V.slots[j]? = some (.int (lo8 (cv A j)))) ∧
  ∀ (O n d : String) (w : Value), RoadKit.Fld Z h x O n d w → RoadKit.slotOf Z O n d ≠ RoadKit.slotOf Z ST "value" "[B" → RoadKit.slotOf Z O n d ≠ RoadKit.slotOf Z ST "coder" "B" → RoadKit.Fld Z h' x O n d w
/-- **new String(chars) AT A CALL, IN THE ROAD'S FORM**: for specialBack behind newO: x the fresh String, b the char[] with the cell A -/
theorem back {p : Program} {l : Launch} {e : Env} {R : Room} {s : State} {args : Array Value} {below : List Frame} {len W : Nat} {Z : State} {a0 : Array Value} {h : Heap} (hZ : Z.Warmed39 s.vm) (hw : ∀ d ∈ words, d.before a0 Z = true) {kI : Nat} (wi : (Jvm.Cond.instantiable ST kI).before a0 Z = true)
    {x b : Addr} {A : Cell} {z : Int32} {v0 c0 : Value} (E : RoadKit.Exa Z h x ST) (V : RoadKit.Fld Z h x ST "value" "[B" v0) (C : RoadKit.Fld Z h x ST "coder" "B" c0) (K : RoadKit.Arr Z h b A .char) (hty : Typed .char A) (S : RoadKit.Sta Z h ST "COMPACT_STRINGS" "Z" (.int z)) (hz : ¬ z = 0)
    (l0 : 0 < A.slots.size) (l2 : A.slots.size ≤ 536870912) (hp : ∀ i, i < A.slots.size → ¬ 255 < cv A i) (hfr : 4 ≤ R.frames) (hlo : W + 65 ≤ R.locals) :
    Back l R p e below s args New1.yN len W (fun P a => a = #[.ref x, .ref b] ∧ P.U.heap = h ∧ P.cells + 1 ≤ R.cells ∧ P.slots + A.slots.size ≤ R.slots)
      (fun P _ v B => ∃ L, Q Z x A h v B.U.heap L ∧ B.locs = P.locs ++ L ∧ B.cells = P.cells + 1 ∧ B.slots = P.slots + A.slots.size) := by
  intro m meth c P g ig mk a X hg hsize hdg hW hn hp'
  obtain ⟨rfl, rfl, r1, r2⟩ := hp'
  have al : Z.vm.Alike P.U.vm := hZ.alike.trans X.warmed.alike
  obtain ⟨D, cfV, kV, iV, fV, hD, gV, stV, knV, obV, asV, slV⟩ := id V
  obtain ⟨D', cfC, kC, iC, fC, hD', gC, stC, -, -, asC, slC⟩ := id C
  cases hD.symm.trans hD'
  obtain ⟨D2, kD, e1, e2, e3, e4, e5⟩ := id E
  cases hD.symm.trans e1
  obtain ⟨c2, k2, i1, i2, i3, -⟩ := Cond.instantiable_spec wi
  cases e2.symm.trans i1
  cases e3.symm.trans i2
  obtain ⟨kU, u1, u2⟩ := al.2.2 _ _ e3
  have hB : Blank ST x D P.U := ⟨hD, ⟨knV, fun q hq => by rw [hq] at obV; cases obV⟩, by rw [al.findClass]; exact e2, kU, u1, by rw [u2]; exact i3, by rw [u2]; exact e5 i3⟩
  have F1 : Found ST "value" "[B" fV P.U := ⟨SBG.found_only al ⟨cfV, kV, iV, gV⟩, stV⟩
  have F2 : Found ST "coder" "B" fC P.U := ⟨SBG.found_only al ⟨cfC, kC, iC, gC⟩, stC⟩
  have hA : Ch b A P.U := ⟨⟨K.1, State.isArrayOf_alike al K.2.1, K.2.2, by omega⟩, hty⟩
  have hS : StaticIs P.U ST "COMPACT_STRINGS" "Z" (.int z) := by
    obtain ⟨cfS, iS, kS, fS, st, cS, t1, t2, t3, t4, t5, t6, t7⟩ := S
    exact StaticIs.there (s := { Z with heap := P.U.heap }) ⟨cfS, iS, kS, fS, st, cS, t1, t2, t3, t4, t5, (fun q => by rw [q] at t6; cases t6), t7⟩ al rfl
  obtain ⟨v, B, X', ⟨⟨hv, E', V', q1, q2, q3, q4, q5, q6, q7, q8, q9, q10, q11⟩, hl, hc, hs⟩, st⟩ := New1.pays x D fV fC b A z (tab_of (moved hZ hw)) hfr hlo m meth c P g ig mk _ X hg hsize hdg hW hn ⟨r1, r2, rfl, hB, F1, F2, hA, hS, hz, l0, l2, hp⟩
  have al' : Z.vm.Alike B.U.vm := hZ.alike.trans X'.warmed.alike
  have hsz : E'.slots.size = D.slots.size := by
    obtain ⟨-, -, -, kB, w1, w2, w3⟩ := q1
    obtain ⟨kB', y1, y2⟩ := al'.2.2 _ _ e3
    rw [q2.2.1] at w1
    cases w1.symm.trans y1
    rw [w3, e5 i3, y2]
  refine ⟨v, B, X', ⟨_, ⟨hv, ?_, ⟨by omega, fun y cy hy hn' => q10 y cy (by simpa using hn') hy, fun y cy hy => ?_⟩, q11, ⟨E', _, q1.1, by rw [q2.2.1]; exact e2, by rw [q2.2.1]; exact e3, by rw [q2.1]; exact obV, fun _ => by rw [hsz]; exact e5 i3⟩,
    ⟨E', cfV, kV, iV, fV, q1.1, gV, stV, by rw [q2.1]; exact knV, by rw [q2.1]; exact obV, by rw [q2.2.1]; exact asV, q3⟩, ⟨E', cfC, kC, iC, fC, q1.1, gC, stC, by rw [q2.1]; exact knV, by rw [q2.1]; exact obV, by rw [q2.2.1]; exact asC, q4⟩,
    ⟨V', ⟨q5.1, State.isArrayOf_alike al'.symm q5.2.1, q5.2.2.1⟩, q6, by rw [← al'.findClass]; exact q7, q8, fun j hj => by have := q9 j hj; rwa [Nat.zero_add] at this⟩, fun O n d w F n1 n2 => ?_⟩, hl, hc, hs⟩, st⟩
  · intro y hy
    simp only [List.mem_cons, List.not_mem_nil, or_false] at hy
    rcases hy with rfl | rfl <;> rfl
  · by_cases q : y = x
    · subst q
      cases hD.symm.trans hy
      exact ⟨E', q1.1, q2.2.1, q2.1, hsz⟩
    · exact ⟨cy, q10 y cy q hy, rfl, rfl, rfl⟩
  · obtain ⟨D3, cf, k, i, f, g1, g2, g3, g4, g5, g6, g7⟩ := F
    cases hD.symm.trans g1
    simp only [RoadKit.slotOf, g2, gV, gC, Option.map_some, Option.getD_some] at n1 n2
    exact ⟨E', cf, k, i, f, q1.1, g2, g3, by rw [q2.1]; exact g4, by rw [q2.1]; exact g5, by rw [q2.2.1]; exact g6, by rw [q2.2.2 f.slot (by simp [n1, n2])]; exact g7⟩
end StrChars.Road
namespace StrChars.Road
open Jvm Sem ClassFile Op Lib Jvm.Stand Jvm.Free Jvm.Free.XT
/-- WHAT COMES BACK, the byte[] as a list of values -/
def QA (Z : State) (x : Addr) (zn : Int32) (cs : List Int32) (h : Heap) (v : Option Value) (h' : Heap) (L : List Loc) : Prop := v = none ∧ (∀ y ∈ L, y.base = x) ∧ RoadKit.Keep h h' [x] ∧ h'.size = h.size + 1 ∧ RoadKit.Exa Z h' x ST ∧ RoadKit.Fld Z h' x ST "value" "[B" (.ref h.size) ∧ RoadKit.Fld Z h' x ST "coder" "B" (.int 0) ∧
  (∃ kb, Z.vm.findClass "[B" = some kb ∧ RoadKit.Arv Z h' h.size kb .byte zn (cs.map fun c => .int (lo8 c)) (.int 0)) ∧
  ∀ (O n d : String) (w : Value), RoadKit.Fld Z h x O n d w → RoadKit.slotOf Z O n d ≠ RoadKit.slotOf Z ST "value" "[B" → RoadKit.slotOf Z O n d ≠ RoadKit.slotOf Z ST "coder" "B" → RoadKit.Fld Z h' x O n d w
/-- **new String(chars) AT A CALL, THE ARRAYS AS LISTS**: the char[] at b holds cs, not empty, no char above 255 -/
theorem backArv {p : Program} {l : Launch} {e : Env} {R : Room} {s : State} {args : Array Value} {below : List Frame} {len W : Nat} {Z : State} {a0 : Array Value} {h : Heap} (hZ : Z.Warmed39 s.vm) (hw : ∀ d ∈ words, d.before a0 Z = true) {kI : Nat} (wi : (Jvm.Cond.instantiable ST kI).before a0 Z = true)
    {x b : Addr} {k : ClassId} {zn z : Int32} {cs : List Int32} {dv v0 c0 : Value} (E : RoadKit.Exa Z h x ST) (V : RoadKit.Fld Z h x ST "value" "[B" v0) (C : RoadKit.Fld Z h x ST "coder" "B" c0) (K : RoadKit.Arv Z h b k .char zn (cs.map Value.int) dv) (S : RoadKit.Sta Z h ST "COMPACT_STRINGS" "Z" (.int z)) (hz : ¬ z = 0)
    (hlen : zn.toNatClampNeg = cs.length) (h0 : 0 < cs.length) (hbig : cs.length ≤ 536870912) (hall : ∀ c ∈ cs, ¬ 255 < c) (hfr : 4 ≤ R.frames) (hlo : W + 65 ≤ R.locals) :
    Back l R p e below s args New1.yN len W (fun P a => a = #[.ref x, .ref b] ∧ P.U.heap = h ∧ P.cells + 1 ≤ R.cells ∧ P.slots + cs.length ≤ R.slots)
      (fun P _ v B => ∃ L, QA Z x zn cs h v B.U.heap L ∧ B.locs = P.locs ++ L ∧ B.cells = P.cells + 1 ∧ B.slots = P.slots + cs.length) := by
  obtain ⟨A, K1, K2, K3, K4, K5, K6⟩ := K
  have e : A.slots.size = cs.length := K3.trans hlen
  have hat : ∀ (i : Nat) (hi : i < cs.length), A.slots[i]? = some (.int cs[i]) := fun i hi => by rw [K5 i (by omega)]; simp [List.getD_eq_getElem?_getD, hi]
  have hcv : ∀ (i : Nat) (hi : i < cs.length), cv A i = cs[i] := fun i hi => by unfold cv; rw [hat i hi]
  have hty : Typed .char A := fun i v hv => by
    have hi : i < A.slots.size := (Array.getElem?_eq_some_iff.mp hv).1
    have q := K5 i hi
    rw [hv] at q
    rw [Option.some.inj q]
    exact K6 i hi
  refine Back.mono (back hZ hw wi E V C K1 hty S hz (by omega) (by omega) (fun i hi => by rw [hcv i (by omega)]; exact hall _ (List.getElem_mem _)) hfr hlo) (fun P a hp => ⟨hp.1, hp.2.1, hp.2.2.1, by rw [e]; exact hp.2.2.2⟩) (fun P a v B hp hq => ?_)
  obtain ⟨L, ⟨q1, q2, q3, q4, q5, q6, q7, ⟨V', v1, v2, v3, v4, v5⟩, q9⟩, hl, hc, hs⟩ := hq
  refine ⟨L, ⟨q1, q2, q3, q4, q5, q6, q7, ⟨V'.cls, v3, V', v1, rfl, by rw [v4, e, hlen], K4, fun i hi => ?_, fun i hi => ?_⟩, q9⟩, hl, hc, by rw [hs, e]⟩
  · have hi' : i < cs.length := by omega
    rw [v5 i (by omega), hcv i hi']; simp [List.getD_eq_getElem?_getD, hi']
  · have hi' : i < cs.length := by omega
    simp only [List.getD_eq_getElem?_getD, List.getElem?_map, List.getElem?_eq_getElem hi', Option.map_some, Option.getD_some]
    exact fits_lo8 _
end StrChars.Road
namespace StrChars.Road
open Jvm Sem ClassFile Op Lib Jvm.Stand Jvm.Free Jvm.Free.XT
/-- WHAT COMES BACK, in the writer's own shape -/
def QV (Z : State) (x : Addr) (N : Int32) (bs : List Int32) (h : Heap) (n0 : Nat) (v : Option Value) (h' : Heap) (L : List Loc) : Prop := v = none ∧ RoadKit.Fr n0 L ∧ RoadKit.Keep h h' [x] ∧ RoadKit.Exa Z h' x ST ∧ RoadKit.Fld Z h' x ST "coder" "B" (.int 0) ∧
  ∃ (t : Addr) (kb : ClassId), n0 ≤ t ∧ h.size ≤ t ∧ ¬ t = x ∧ RoadKit.Fld Z h' x ST "value" "[B" (.ref t) ∧ RoadKit.Arv Z h' t kb .byte N (bs.map Value.int) (.int 0)
/-- **new String(chars) AT A CALL, FOR THE WRITER**: a char[] of n known ints, each 0 to 255 -/
theorem backV {p : Program} {l : Launch} {e : Env} {R : Room} {s : State} {args : Array Value} {below : List Frame} {len W : Nat} {Z : State} {a0 : Array Value} {h : Heap} (hZ : Z.Warmed39 s.vm) (hw : ∀ d ∈ words, d.before a0 Z = true) {kI : Nat} (wi : (Jvm.Cond.instantiable ST kI).before a0 Z = true)
    {x b : Addr} {kC : ClassId} {cs bs : List Int32} {d v0 c0 : Value} {z N : Int32} {n n0 : Nat} (hx0 : n0 ≤ x) (hh0 : n0 ≤ h.size) (E : RoadKit.Exa Z h x ST) (V : RoadKit.Fld Z h x ST "value" "[B" v0) (C : RoadKit.Fld Z h x ST "coder" "B" c0) (K : RoadKit.Arv Z h b kC .char N (cs.map Value.int) d) (S : RoadKit.Sta Z h ST "COMPACT_STRINGS" "Z" (.int z)) (hz : ¬ z = 0)
    (hn : cs.length = n) (hN : N = Int32.ofNat n) (l0 : 0 < n) (l2 : n ≤ 4000) (hp : ∀ c ∈ cs, ¬ c < 0 ∧ ¬ (255 : Int32) < c) (hb : bs = cs.map (fun c => c.toInt8.toInt32)) (hfr : 4 ≤ R.frames) (hlo : W + 65 ≤ R.locals) :
    Back l R p e below s args (⟨"java/lang/String", "<init>", "([C)V"⟩ : MethodName) len W (fun P a => a = #[.ref x, .ref b] ∧ P.U.heap = h ∧ P.cells + 1 ≤ R.cells ∧ P.slots + n ≤ R.slots)
      (fun P _ v B => ∃ L, QV Z x N bs h n0 v B.U.heap L ∧ B.locs = P.locs ++ L ∧ B.cells = P.cells + 1 ∧ B.slots = P.slots + n) := by
  subst hn hN hb
  refine Back.mono (backArv hZ hw wi E V C K S hz (n32 (by omega)) l0 (by omega) (fun c hc => (hp c hc).2) hfr hlo) (fun P a hp => hp) (fun P a v B hp hq => ?_)
  obtain ⟨L, ⟨q1, q2, q3, q4, q5, q6, q7, ⟨kb, v1, v2⟩, q9⟩, hl, hc, hs⟩ := hq
  exact ⟨L, ⟨q1, fun y hy => by rw [q2 y hy]; exact hx0, q3, q5, q7, h.size, kb, hh0, Nat.le_refl _, Nat.ne_of_gt E.lt, q6, by rw [List.map_map]; exact v2⟩, hl, hc, hs⟩
end StrChars.Road
end Jvm.Pilot.@@N@@

namespace Jvm.Pilot.@@N@@
open Jvm Jvm.ClassFile Sem Op Lib Jvm.Free Jvm.Stand Jvm.LawKit Jvm.RoadKit Bundle Jvm.Pilot.@@N@@.Jvm.D
section OwnKit
/-- where a walk stands that may intern String constants: the library's Stand over the tables at hand, and what stays the same throughout; EL: the constants whose text is known -/
def On (l : Launch) (Z : State) (EL : List (String × Nat)) (p : Program) (e : Env) (R : Room) (s : State) (m : MethodId) (args : Array Value) (below : List Frame) (meth : Method) (c : Code) (y : MethodName) (code : ByteArray) (maxL : Nat) (ret : Option FieldType) (vm : Vm) (T : State) (h : Heap) (locs : List Loc) (cells slots : Nat) : Prop :=
  Stand p l e R (s.setVm vm) m args below meth c T locs cells slots ∧ (p.tables.exec = Jvm.exec ∧ c.code = code ∧ Z.Warmed39 vm ∧ vm.findClass y.cls = some m.cls ∧ meth.sig.returnType = ret ∧ meth.locks = false ∧ meth.name = y.name ∧ c.maxLocals = maxL) ∧ T.heap = h ∧ Fr Z.heap.size locs ∧ Ext Z.heap h ∧ (∃ k0, s.Since vm k0 ∧ k0 ≤ h.size) ∧ CHr Z EL s.vm s.heap vm h ∧ ∃ a1, EW Z a1 EL
/-- the run from here ends as F says -/
def Goes (p : Program) (e : Env) (below : List Frame) (F : State → Outcome → Prop) (T : State) (g : JFrame) : Prop :=
  ∃ s₂ o, Steps p.tables e below (T.setTop g) s₂ ∧ s₂.status = .running ∧ Ended s₂ below o ∧ F s₂ o
def FinQ (Z : State) (EL : List (String × Nat)) (s : State) (Q : Option Value → Heap → (Addr → Prop) → Prop) (rc rs : Nat) (s₂ : State) (o : Outcome) : Prop :=
  ∃ v L, o = .returned v ∧ (Q v s₂.heap (Safe Z EL s₂.vm s₂.heap) ∧ Fr Z.heap.size L ∧ Ext Z.heap s₂.heap) ∧ CHr Z EL s.vm s.heap s₂.vm s₂.heap ∧ ReturnedEndW s o s₂ L rc rs
/-- a method's contract: called with these arguments on this heap it returns, and Q holds; ss: places that are no constant's -/
def Con (l : Launch) (Z : State) (EL : List (String × Nat)) (y : MethodName) (code : ByteArray) (maxL : Nat) (ret : Option FieldType) (rm : Room) (as : Array Value) (h : Heap) (ss : List Addr) (Q : Option Value → Heap → (Addr → Prop) → Prop) : Prop :=
  (∃ a1, EW Z a1 EL) → Ext Z.heap h → ∀ ws : List Jvm.Cond, MetFree l y (head1 (Jvm.Cond.code y code maxL ret :: ws) rm) (fun a U => a = as ∧ Z.Warmed39 U.vm ∧ U.heap = h ∧ CHv Z EL U.vm h ∧ ∀ x ∈ ss, Safe Z EL U.vm h x) (fun _ _ _ _ _ => True) (fun _ U o U' => ∃ v L, o = .returned v ∧ (Q v U'.heap (Safe Z EL U'.vm U'.heap) ∧ Fr Z.heap.size L ∧ Ext Z.heap U'.heap) ∧ CHr Z EL U.vm U.heap U'.vm U'.heap ∧ ReturnedEndW U o U' L rm.cells rm.slots)
theorem Goes.step {p : Program} {e : Env} {below : List Frame} {F : State → Outcome → Prop} {T T' : State} {g g' : JFrame} (st : ∀ t, Steps p.tables e below (T'.setTop g') t → Steps p.tables e below (T.setTop g) t) (k : Goes p e below F T' g') : Goes p e below F T g := by
  obtain ⟨s₂, o, h1, h2⟩ := k
  exact ⟨s₂, o, st _ h1, h2⟩
theorem Goes.cast {p : Program} {e : Env} {below : List Frame} {F : State → Outcome → Prop} {T : State} {g g' : JFrame} (q : g = g') (k : Goes p e below F T g') : Goes p e below F T g := q ▸ k
theorem Goes.mono {p : Program} {e : Env} {below : List Frame} {F F' : State → Outcome → Prop} {T : State} {g : JFrame} (q : ∀ s o, F s o → F' s o) (k : Goes p e below F T g) : Goes p e below F' T g := by
  obtain ⟨s₂, o, h1, h2, h3, h4⟩ := k
  exact ⟨s₂, o, h1, h2, h3, q _ _ h4⟩
variable {l : Launch} {Z : State} {EL : List (String × Nat)} {p : Program} {e : Env} {R : Room} {s : State} {m : MethodId} {args : Array Value} {below : List Frame} {meth : Method} {c : Code} {y : MethodName} {code : ByteArray} {maxL : Nat} {ret : Option FieldType} {vm : Vm} {T : State} {h : Heap} {locs : List Loc} {cells slots : Nat} {F : State → Outcome → Prop} {pc : Nat} {L L' : Array Slot} {S : List Value} {a0 : Array Value} {ss : List Addr}
theorem Con.intro {rm : Room} {as : Array Value} {Q : Option Value → Heap → (Addr → Prop) → Prop} (hp : plainFor y = true)
    (body : ∀ (p : Program) (e : Env) (s : State) (m : MethodId) (below : List Frame) (meth : Method) (c : Code) (T : State), On l Z EL p e rm s m as below meth c y code maxL ret s.vm T h [] 0 0 → (∀ x ∈ ss, Safe Z EL s.vm h x) → Goes p e below (FinQ Z EL s Q rm.cells rm.slots) T (entryFrame m as maxL)) : Con l Z EL y code maxL ret rm as h ss Q := by
  intro hEW hE ws
  refine MetFree.of_bodySF hp hisR ?_
  intro p e s m args below meth c s₁ Bd hml0 hP hK
  obtain ⟨rfl, hZ, hh, hC, hs⟩ := hP
  have hnm := (name_of_methodNamed Bd.named Bd.method).1
  subst hh
  obtain ⟨s₂, o, k1, k2, k3, k4⟩ := body p e s m below meth c s₁ ⟨Stand.of_body Bd, ⟨Bd.exec, Bd.bytes, hZ, findClass_of_methodNamed Bd.named, Bd.returns, Bd.notSynchronized, hnm, hml0⟩, by rw [Bd.state]; rfl, Fr.nil _, hE, ⟨0, (State.WarmedH.refl s).since 0, Nat.zero_le _⟩, CHr.refl hC, hEW⟩ hs
  exact ⟨s₂, o, k1, k2, k3, k4⟩
theorem Con.mono {rm : Room} {as : Array Value} {Q Q' : Option Value → Heap → (Addr → Prop) → Prop} (hC : Con l Z EL y code maxL ret rm as h ss Q) (hq : ∀ v h' S, Q v h' S → Q' v h' S) : Con l Z EL y code maxL ret rm as h ss Q' := by
  intro hEW hE ws p e ha hc hk s m args below hf happ hP hK
  obtain ⟨n, o, h1, h2, h3, v, L, h4, ⟨h5, h6⟩, h7⟩ := hC hEW hE ws p e ha hc hk s m args below hf happ hP hK
  exact ⟨n, o, h1, h2, h3, v, L, h4, ⟨hq _ _ _ h5, h6⟩, h7⟩
theorem On.size (X : On l Z EL p e R s m args below meth c y code maxL ret vm T h locs cells slots) : Z.heap.size ≤ h.size := X.2.2.2.2.1.1
theorem On.ext (X : On l Z EL p e R s m args below meth c y code maxL ret vm T h locs cells slots) : Ext Z.heap h := X.2.2.2.2.1
theorem On.chv (X : On l Z EL p e R s m args below meth c y code maxL ret vm T h locs cells slots) : CHv Z EL vm h := X.2.2.2.2.2.2.1.1
theorem On.alike (X : On l Z EL p e R s m args below meth c y code maxL ret vm T h locs cells slots) : Z.vm.Alike vm := X.2.1.2.2.1.alike
theorem On.sta (X : On l Z EL p e R s m args below meth c y code maxL ret vm T h locs cells slots) {C n d : String} {v : Value} (S : Sta Z Z.heap C n d v) : Sta Z h C n d v := S.ext X.ext
theorem ext_wr {Z : State} {h h' : Heap} {a : Addr} {sl : Nat} {v : Value} (E : Ext Z.heap h) (W : Wr h h' a sl v) (q : Z.heap.size ≤ a) : Ext Z.heap h' := (Old.wr (Z := Z) (n0 := Z.heap.size) ⟨rfl, E⟩ W q).2
theorem ext_keep {Z : State} {h h' : Heap} {ws : List Addr} (E : Ext Z.heap h) (K : Keep h h' ws) (q : ∀ x ∈ ws, Z.heap.size ≤ x) : Ext Z.heap h' := (Old.keep (Z := Z) (n0 := Z.heap.size) ⟨rfl, E⟩ K q).2
theorem ext_trans {h h' h'' : Heap} (E : Ext h h') (E' : Ext h' h'') : Ext h h'' := ⟨Nat.le_trans E.1 E'.1, fun a c q => E'.2 a c (E.2 a c q)⟩
theorem keep_ext {h h' : Heap} (E : Ext h h') : Keep h h' [] := (Keep.refl h []).ext E
theorem ext_of_keep {h h' : Heap} (K : Keep h h' []) : Ext h h' := ⟨K.1, fun a c q => K.2.1 a c q nin0⟩
/-- the walk goes on at a later heap over the same tables -/
theorem On.later (X : On l Z EL p e R s m args below meth c y code maxL ret vm T h locs cells slots) {T' : State} {h' : Heap} {locs' : List Loc} {cells' slots' : Nat} (X' : Stand p l e R (s.setVm vm) m args below meth c T' locs' cells' slots') (e' : T'.heap = h') (N' : Fr Z.heap.size locs') (E' : Ext Z.heap h') (R' : CHr Z EL vm h vm h') : On l Z EL p e R s m args below meth c y code maxL ret vm T' h' locs' cells' slots' := by
  obtain ⟨X1, C1, e1, N1, E1, ⟨k0, s0, q0⟩, H1, hw⟩ := X
  exact ⟨X', C1, e', N', E', ⟨k0, s0, Nat.le_trans q0 R'.2.1⟩, H1.trans R', hw⟩
/-- .. or over later tables -/
theorem On.laterV (X : On l Z EL p e R s m args below meth c y code maxL ret vm T h locs cells slots) {vm' : Vm} {T' : State} {h' : Heap} {locs' : List Loc} {cells' slots' n : Nat} (X' : Stand p l e R ((s.setVm vm).setVm vm') m args below meth c T' locs' cells' slots') (S' : (s.setVm vm).Since vm' n) (hn : n = h'.size) (e' : T'.heap = h') (N' : Fr Z.heap.size locs') (E' : Ext Z.heap h') (R' : CHr Z EL vm h vm' h') : On l Z EL p e R s m args below meth c y code maxL ret vm' T' h' locs' cells' slots' := by
  obtain ⟨X1, C1, e1, N1, E1, ⟨k0, s0, q0⟩, H1, hw⟩ := X
  subst hn
  exact ⟨X', ⟨C1.1, C1.2.1, State.Warmed39.trans (t := s.setVm vm) C1.2.2.1 S'.1, (S'.1.alike.findClass _ _).trans C1.2.2.2.1, C1.2.2.2.2⟩, e', N', E', ⟨h'.size, s0.trans S' (Nat.le_trans q0 R'.2.1), Nat.le_refl _⟩, H1.trans R', hw⟩
theorem o_iload (X : On l Z EL p e R s m args below meth c y code maxL ret vm T h locs cells slots) {k : Nat} {v : Int32} {q : Nat} (hd : decode code pc = .ok (.iload k, 2)) (hl : L[k]? = some (.val (.int v))) (hp : pc + 2 = q) (K : Goes p e below F T (mkF m q L (.int v :: S))) : Goes p e below F T (mkF m pc L S) := by
  subst hp
  exact Goes.step (fun _ k => XS.iload X.1.here X.2.1.1 (g := mkF m pc L S) rfl (hb X.2.1.2.1 hd) hl k) K
theorem o_iloadN (X : On l Z EL p e R s m args below meth c y code maxL ret vm T h locs cells slots) {k : Fin 4} {v : Int32} {q : Nat} (hd : decode code pc = .ok (.iload_n k, 1)) (hl : L[k.val]? = some (.val (.int v))) (hp : pc + 1 = q) (K : Goes p e below F T (mkF m q L (.int v :: S))) : Goes p e below F T (mkF m pc L S) := by
  subst hp
  exact Goes.step (fun _ k => XS.iloadN X.1.here X.2.1.1 (g := mkF m pc L S) rfl (hb X.2.1.2.1 hd) hl k) K
theorem o_lload (X : On l Z EL p e R s m args below meth c y code maxL ret vm T h locs cells slots) {k : Nat} {v : Int64} {q : Nat} (hd : decode code pc = .ok (.lload k, 2)) (hl : L[k]? = some (.val (.long v))) (hp : pc + 2 = q) (K : Goes p e below F T (mkF m q L (.long v :: S))) : Goes p e below F T (mkF m pc L S) := by
  subst hp
  exact Goes.step (fun _ k => XS.lload X.1.here X.2.1.1 (g := mkF m pc L S) rfl (hb X.2.1.2.1 hd) hl k) K
theorem o_lloadN (X : On l Z EL p e R s m args below meth c y code maxL ret vm T h locs cells slots) {k : Fin 4} {v : Int64} {q : Nat} (hd : decode code pc = .ok (.lload_n k, 1)) (hl : L[k.val]? = some (.val (.long v))) (hp : pc + 1 = q) (K : Goes p e below F T (mkF m q L (.long v :: S))) : Goes p e below F T (mkF m pc L S) := by
  subst hp
  exact Goes.step (fun _ k => XS.lloadN X.1.here X.2.1.1 (g := mkF m pc L S) rfl (hb X.2.1.2.1 hd) hl k) K
theorem o_aload (X : On l Z EL p e R s m args below meth c y code maxL ret vm T h locs cells slots) {k : Nat} {v : Value} {q : Nat} (hd : decode code pc = .ok (.aload k, 2)) (hl : L[k]? = some (.val v)) (hv : v.isRef = true) (hp : pc + 2 = q) (K : Goes p e below F T (mkF m q L (v :: S))) : Goes p e below F T (mkF m pc L S) := by
  subst hp
  exact Goes.step (fun _ k => XS.aload X.1.here X.2.1.1 (g := mkF m pc L S) rfl (hb X.2.1.2.1 hd) hl hv k) K
theorem o_aloadN (X : On l Z EL p e R s m args below meth c y code maxL ret vm T h locs cells slots) {k : Fin 4} {v : Value} {q : Nat} (hd : decode code pc = .ok (.aload_n k, 1)) (hl : L[k.val]? = some (.val v)) (hv : v.isRef = true) (hp : pc + 1 = q) (K : Goes p e below F T (mkF m q L (v :: S))) : Goes p e below F T (mkF m pc L S) := by
  subst hp
  exact Goes.step (fun _ k => XS.aloadN X.1.here X.2.1.1 (g := mkF m pc L S) rfl (hb X.2.1.2.1 hd) hl hv k) K
theorem o_istore (X : On l Z EL p e R s m args below meth c y code maxL ret vm T h locs cells slots) {k : Nat} {x z : Int32} {q : Nat} (hd : decode code pc = .ok (.istore k, 2)) (hz : x = z) (hl : storeLocals L k (.int z) = some L') (hp : pc + 2 = q) (K : Goes p e below F T (mkF m q L' S)) : Goes p e below F T (mkF m pc L (.int x :: S)) := by
  subst hz hp
  exact Goes.step (fun _ k => XS.istore X.1.here X.2.1.1 (g := mkF m pc L (.int x :: S)) rfl (hb X.2.1.2.1 hd) rfl hl k) K
theorem o_istoreN (X : On l Z EL p e R s m args below meth c y code maxL ret vm T h locs cells slots) {k : Fin 4} {x z : Int32} {q : Nat} (hd : decode code pc = .ok (.istore_n k, 1)) (hz : x = z) (hl : storeLocals L k.val (.int z) = some L') (hp : pc + 1 = q) (K : Goes p e below F T (mkF m q L' S)) : Goes p e below F T (mkF m pc L (.int x :: S)) := by
  subst hz hp
  exact Goes.step (fun _ k => XS.istoreN X.1.here X.2.1.1 (g := mkF m pc L (.int x :: S)) rfl (hb X.2.1.2.1 hd) rfl hl k) K
theorem o_lstore (X : On l Z EL p e R s m args below meth c y code maxL ret vm T h locs cells slots) {k : Nat} {x z : Int64} {q : Nat} (hd : decode code pc = .ok (.lstore k, 2)) (hz : x = z) (hl : storeLocals L k (.long z) = some L') (hp : pc + 2 = q) (K : Goes p e below F T (mkF m q L' S)) : Goes p e below F T (mkF m pc L (.long x :: S)) := by
  subst hz hp
  exact Goes.step (fun _ k => XS.lstore X.1.here X.2.1.1 (g := mkF m pc L (.long x :: S)) rfl (hb X.2.1.2.1 hd) rfl hl k) K
theorem o_lstoreN (X : On l Z EL p e R s m args below meth c y code maxL ret vm T h locs cells slots) {k : Fin 4} {x z : Int64} {q : Nat} (hd : decode code pc = .ok (.lstore_n k, 1)) (hz : x = z) (hl : storeLocals L k.val (.long z) = some L') (hp : pc + 1 = q) (K : Goes p e below F T (mkF m q L' S)) : Goes p e below F T (mkF m pc L (.long x :: S)) := by
  subst hz hp
  exact Goes.step (fun _ k => XS.lstoreN X.1.here X.2.1.1 (g := mkF m pc L (.long x :: S)) rfl (hb X.2.1.2.1 hd) rfl hl k) K
theorem o_astore (X : On l Z EL p e R s m args below meth c y code maxL ret vm T h locs cells slots) {k : Nat} {x : Value} {q : Nat} (hd : decode code pc = .ok (.astore k, 2)) (hv : x.isRef = true) (hl : storeLocals L k x = some L') (hp : pc + 2 = q) (K : Goes p e below F T (mkF m q L' S)) : Goes p e below F T (mkF m pc L (x :: S)) := by
  subst hp
  exact Goes.step (fun _ k => XS.astore X.1.here X.2.1.1 (g := mkF m pc L (x :: S)) rfl (hb X.2.1.2.1 hd) rfl hv hl k) K
theorem o_astoreN (X : On l Z EL p e R s m args below meth c y code maxL ret vm T h locs cells slots) {k : Fin 4} {x : Value} {q : Nat} (hd : decode code pc = .ok (.astore_n k, 1)) (hv : x.isRef = true) (hl : storeLocals L k.val x = some L') (hp : pc + 1 = q) (K : Goes p e below F T (mkF m q L' S)) : Goes p e below F T (mkF m pc L (x :: S)) := by
  subst hp
  exact Goes.step (fun _ k => XS.astoreN X.1.here X.2.1.1 (g := mkF m pc L (x :: S)) rfl (hb X.2.1.2.1 hd) rfl hv hl k) K
theorem o_iconst (X : On l Z EL p e R s m args below meth c y code maxL ret vm T h locs cells slots) {i : Int} {w : Int32} {q : Nat} (hd : decode code pc = .ok (.iconst i, 1)) (hw : Int32.ofInt i = w) (hp : pc + 1 = q) (K : Goes p e below F T (mkF m q L (.int w :: S))) : Goes p e below F T (mkF m pc L S) := by
  subst hw hp
  exact Goes.step (fun _ k => XS.iconst X.1.here X.2.1.1 (g := mkF m pc L S) rfl (hb X.2.1.2.1 hd) k) K
theorem o_bipush (X : On l Z EL p e R s m args below meth c y code maxL ret vm T h locs cells slots) {i : Int} {w : Int32} {q : Nat} (hd : decode code pc = .ok (.bipush i, 2)) (hw : (Int8.ofInt i).toInt32 = w) (hp : pc + 2 = q) (K : Goes p e below F T (mkF m q L (.int w :: S))) : Goes p e below F T (mkF m pc L S) := by
  subst hw hp
  exact Goes.step (fun _ k => XS.bipush X.1.here X.2.1.1 (g := mkF m pc L S) rfl (hb X.2.1.2.1 hd) k) K
theorem o_sipush (X : On l Z EL p e R s m args below meth c y code maxL ret vm T h locs cells slots) {i : Int} {w : Int32} {q : Nat} (hd : decode code pc = .ok (.sipush i, 3)) (hw : (Int16.ofInt i).toInt32 = w) (hp : pc + 3 = q) (K : Goes p e below F T (mkF m q L (.int w :: S))) : Goes p e below F T (mkF m pc L S) := by
  subst hw hp
  exact Goes.step (fun _ k => XS.sipush X.1.here X.2.1.1 (g := mkF m pc L S) rfl (hb X.2.1.2.1 hd) k) K
theorem o_lconst (X : On l Z EL p e R s m args below meth c y code maxL ret vm T h locs cells slots) {i : Fin 2} {w : Int64} {q : Nat} (hd : decode code pc = .ok (.lconst i, 1)) (hw : Int64.ofNat i = w) (hp : pc + 1 = q) (K : Goes p e below F T (mkF m q L (.long w :: S))) : Goes p e below F T (mkF m pc L S) := by
  subst hw hp
  exact Goes.step (fun _ k => XS.lconst X.1.here X.2.1.1 (g := mkF m pc L S) rfl (hb X.2.1.2.1 hd) k) K
theorem o_null (X : On l Z EL p e R s m args below meth c y code maxL ret vm T h locs cells slots)  {q : Nat} (hd : decode code pc = .ok (.aconst_null, 1)) (hp : pc + 1 = q) (K : Goes p e below F T (mkF m q L (.null :: S))) : Goes p e below F T (mkF m pc L S) := by
  subst hp
  exact Goes.step (fun _ k => XS.aconstNull X.1.here X.2.1.1 (g := mkF m pc L S) rfl (hb X.2.1.2.1 hd)  k) K
theorem o_iadd (X : On l Z EL p e R s m args below meth c y code maxL ret vm T h locs cells slots) {x : Int32} {z : Int32} {w : Int32} {q : Nat} (hd : decode code pc = .ok (.iadd, 1)) (hw : x + z = w) (hp : pc + 1 = q) (K : Goes p e below F T (mkF m q L (.int w :: S))) : Goes p e below F T (mkF m pc L (.int z :: .int x :: S)) := by
  subst hw hp
  exact Goes.step (fun _ k => XS.iadd X.1.here X.2.1.1 (g := mkF m pc L (.int z :: .int x :: S)) rfl (hb X.2.1.2.1 hd) rfl  k) K
theorem o_isub (X : On l Z EL p e R s m args below meth c y code maxL ret vm T h locs cells slots) {x : Int32} {z : Int32} {w : Int32} {q : Nat} (hd : decode code pc = .ok (.isub, 1)) (hw : x - z = w) (hp : pc + 1 = q) (K : Goes p e below F T (mkF m q L (.int w :: S))) : Goes p e below F T (mkF m pc L (.int z :: .int x :: S)) := by
  subst hw hp
  exact Goes.step (fun _ k => XS.isub X.1.here X.2.1.1 (g := mkF m pc L (.int z :: .int x :: S)) rfl (hb X.2.1.2.1 hd) rfl  k) K
theorem o_imul (X : On l Z EL p e R s m args below meth c y code maxL ret vm T h locs cells slots) {x : Int32} {z : Int32} {w : Int32} {q : Nat} (hd : decode code pc = .ok (.imul, 1)) (hw : x * z = w) (hp : pc + 1 = q) (K : Goes p e below F T (mkF m q L (.int w :: S))) : Goes p e below F T (mkF m pc L (.int z :: .int x :: S)) := by
  subst hw hp
  exact Goes.step (fun _ k => XS.imul X.1.here X.2.1.1 (g := mkF m pc L (.int z :: .int x :: S)) rfl (hb X.2.1.2.1 hd) rfl  k) K
theorem o_iand (X : On l Z EL p e R s m args below meth c y code maxL ret vm T h locs cells slots) {x : Int32} {z : Int32} {w : Int32} {q : Nat} (hd : decode code pc = .ok (.iand, 1)) (hw : x &&& z = w) (hp : pc + 1 = q) (K : Goes p e below F T (mkF m q L (.int w :: S))) : Goes p e below F T (mkF m pc L (.int z :: .int x :: S)) := by
  subst hw hp
  exact Goes.step (fun _ k => XS.iand X.1.here X.2.1.1 (g := mkF m pc L (.int z :: .int x :: S)) rfl (hb X.2.1.2.1 hd) rfl  k) K
theorem o_ior (X : On l Z EL p e R s m args below meth c y code maxL ret vm T h locs cells slots) {x : Int32} {z : Int32} {w : Int32} {q : Nat} (hd : decode code pc = .ok (.ior, 1)) (hw : x ||| z = w) (hp : pc + 1 = q) (K : Goes p e below F T (mkF m q L (.int w :: S))) : Goes p e below F T (mkF m pc L (.int z :: .int x :: S)) := by
  subst hw hp
  exact Goes.step (fun _ k => XS.ior X.1.here X.2.1.1 (g := mkF m pc L (.int z :: .int x :: S)) rfl (hb X.2.1.2.1 hd) rfl  k) K
theorem o_ixor (X : On l Z EL p e R s m args below meth c y code maxL ret vm T h locs cells slots) {x : Int32} {z : Int32} {w : Int32} {q : Nat} (hd : decode code pc = .ok (.ixor, 1)) (hw : x ^^^ z = w) (hp : pc + 1 = q) (K : Goes p e below F T (mkF m q L (.int w :: S))) : Goes p e below F T (mkF m pc L (.int z :: .int x :: S)) := by
  subst hw hp
  exact Goes.step (fun _ k => XS.ixor X.1.here X.2.1.1 (g := mkF m pc L (.int z :: .int x :: S)) rfl (hb X.2.1.2.1 hd) rfl  k) K
theorem o_ishl (X : On l Z EL p e R s m args below meth c y code maxL ret vm T h locs cells slots) {x : Int32} {z : Int32} {w : Int32} {q : Nat} (hd : decode code pc = .ok (.ishl, 1)) (hw : x <<< (z &&& 31) = w) (hp : pc + 1 = q) (K : Goes p e below F T (mkF m q L (.int w :: S))) : Goes p e below F T (mkF m pc L (.int z :: .int x :: S)) := by
  subst hw hp
  exact Goes.step (fun _ k => XS.ishl X.1.here X.2.1.1 (g := mkF m pc L (.int z :: .int x :: S)) rfl (hb X.2.1.2.1 hd) rfl  k) K
theorem o_ishr (X : On l Z EL p e R s m args below meth c y code maxL ret vm T h locs cells slots) {x : Int32} {z : Int32} {w : Int32} {q : Nat} (hd : decode code pc = .ok (.ishr, 1)) (hw : x >>> (z &&& 31) = w) (hp : pc + 1 = q) (K : Goes p e below F T (mkF m q L (.int w :: S))) : Goes p e below F T (mkF m pc L (.int z :: .int x :: S)) := by
  subst hw hp
  exact Goes.step (fun _ k => XS.ishr X.1.here X.2.1.1 (g := mkF m pc L (.int z :: .int x :: S)) rfl (hb X.2.1.2.1 hd) rfl  k) K
theorem o_iushr (X : On l Z EL p e R s m args below meth c y code maxL ret vm T h locs cells slots) {x : Int32} {z : Int32} {w : Int32} {q : Nat} (hd : decode code pc = .ok (.iushr, 1)) (hw : (x.toUInt32 >>> (z &&& 31).toUInt32).toInt32 = w) (hp : pc + 1 = q) (K : Goes p e below F T (mkF m q L (.int w :: S))) : Goes p e below F T (mkF m pc L (.int z :: .int x :: S)) := by
  subst hw hp
  exact Goes.step (fun _ k => XS.iushr X.1.here X.2.1.1 (g := mkF m pc L (.int z :: .int x :: S)) rfl (hb X.2.1.2.1 hd) rfl  k) K
theorem o_ladd (X : On l Z EL p e R s m args below meth c y code maxL ret vm T h locs cells slots) {x : Int64} {z : Int64} {w : Int64} {q : Nat} (hd : decode code pc = .ok (.ladd, 1)) (hw : x + z = w) (hp : pc + 1 = q) (K : Goes p e below F T (mkF m q L (.long w :: S))) : Goes p e below F T (mkF m pc L (.long z :: .long x :: S)) := by
  subst hw hp
  exact Goes.step (fun _ k => XS.ladd X.1.here X.2.1.1 (g := mkF m pc L (.long z :: .long x :: S)) rfl (hb X.2.1.2.1 hd) rfl  k) K
theorem o_lsub (X : On l Z EL p e R s m args below meth c y code maxL ret vm T h locs cells slots) {x : Int64} {z : Int64} {w : Int64} {q : Nat} (hd : decode code pc = .ok (.lsub, 1)) (hw : x - z = w) (hp : pc + 1 = q) (K : Goes p e below F T (mkF m q L (.long w :: S))) : Goes p e below F T (mkF m pc L (.long z :: .long x :: S)) := by
  subst hw hp
  exact Goes.step (fun _ k => XS.lsub X.1.here X.2.1.1 (g := mkF m pc L (.long z :: .long x :: S)) rfl (hb X.2.1.2.1 hd) rfl  k) K
theorem o_lmul (X : On l Z EL p e R s m args below meth c y code maxL ret vm T h locs cells slots) {x : Int64} {z : Int64} {w : Int64} {q : Nat} (hd : decode code pc = .ok (.lmul, 1)) (hw : x * z = w) (hp : pc + 1 = q) (K : Goes p e below F T (mkF m q L (.long w :: S))) : Goes p e below F T (mkF m pc L (.long z :: .long x :: S)) := by
  subst hw hp
  exact Goes.step (fun _ k => XS.lmul X.1.here X.2.1.1 (g := mkF m pc L (.long z :: .long x :: S)) rfl (hb X.2.1.2.1 hd) rfl  k) K
theorem o_land (X : On l Z EL p e R s m args below meth c y code maxL ret vm T h locs cells slots) {x : Int64} {z : Int64} {w : Int64} {q : Nat} (hd : decode code pc = .ok (.land, 1)) (hw : x &&& z = w) (hp : pc + 1 = q) (K : Goes p e below F T (mkF m q L (.long w :: S))) : Goes p e below F T (mkF m pc L (.long z :: .long x :: S)) := by
  subst hw hp
  exact Goes.step (fun _ k => XS.land X.1.here X.2.1.1 (g := mkF m pc L (.long z :: .long x :: S)) rfl (hb X.2.1.2.1 hd) rfl  k) K
theorem o_lor (X : On l Z EL p e R s m args below meth c y code maxL ret vm T h locs cells slots) {x : Int64} {z : Int64} {w : Int64} {q : Nat} (hd : decode code pc = .ok (.lor, 1)) (hw : x ||| z = w) (hp : pc + 1 = q) (K : Goes p e below F T (mkF m q L (.long w :: S))) : Goes p e below F T (mkF m pc L (.long z :: .long x :: S)) := by
  subst hw hp
  exact Goes.step (fun _ k => XS.lor X.1.here X.2.1.1 (g := mkF m pc L (.long z :: .long x :: S)) rfl (hb X.2.1.2.1 hd) rfl  k) K
theorem o_lxor (X : On l Z EL p e R s m args below meth c y code maxL ret vm T h locs cells slots) {x : Int64} {z : Int64} {w : Int64} {q : Nat} (hd : decode code pc = .ok (.lxor, 1)) (hw : x ^^^ z = w) (hp : pc + 1 = q) (K : Goes p e below F T (mkF m q L (.long w :: S))) : Goes p e below F T (mkF m pc L (.long z :: .long x :: S)) := by
  subst hw hp
  exact Goes.step (fun _ k => XS.lxor X.1.here X.2.1.1 (g := mkF m pc L (.long z :: .long x :: S)) rfl (hb X.2.1.2.1 hd) rfl  k) K
theorem o_lshl (X : On l Z EL p e R s m args below meth c y code maxL ret vm T h locs cells slots) {x : Int64} {z : Int32} {w : Int64} {q : Nat} (hd : decode code pc = .ok (.lshl, 1)) (hw : x <<< (z &&& 0x3f).toInt64 = w) (hp : pc + 1 = q) (K : Goes p e below F T (mkF m q L (.long w :: S))) : Goes p e below F T (mkF m pc L (.int z :: .long x :: S)) := by
  subst hw hp
  exact Goes.step (fun _ k => XS.lshl X.1.here X.2.1.1 (g := mkF m pc L (.int z :: .long x :: S)) rfl (hb X.2.1.2.1 hd) rfl  k) K
theorem o_lshr (X : On l Z EL p e R s m args below meth c y code maxL ret vm T h locs cells slots) {x : Int64} {z : Int32} {w : Int64} {q : Nat} (hd : decode code pc = .ok (.lshr, 1)) (hw : x >>> (z &&& 0x3f).toInt64 = w) (hp : pc + 1 = q) (K : Goes p e below F T (mkF m q L (.long w :: S))) : Goes p e below F T (mkF m pc L (.int z :: .long x :: S)) := by
  subst hw hp
  exact Goes.step (fun _ k => XS.lshr X.1.here X.2.1.1 (g := mkF m pc L (.int z :: .long x :: S)) rfl (hb X.2.1.2.1 hd) rfl  k) K
theorem o_lushr (X : On l Z EL p e R s m args below meth c y code maxL ret vm T h locs cells slots) {x : Int64} {z : Int32} {w : Int64} {q : Nat} (hd : decode code pc = .ok (.lushr, 1)) (hw : (x.toUInt64 >>> (z &&& 0x3f).toInt64.toUInt64).toInt64 = w) (hp : pc + 1 = q) (K : Goes p e below F T (mkF m q L (.long w :: S))) : Goes p e below F T (mkF m pc L (.int z :: .long x :: S)) := by
  subst hw hp
  exact Goes.step (fun _ k => XS.lushr X.1.here X.2.1.1 (g := mkF m pc L (.int z :: .long x :: S)) rfl (hb X.2.1.2.1 hd) rfl  k) K
theorem o_idiv (X : On l Z EL p e R s m args below meth c y code maxL ret vm T h locs cells slots) {x : Int32} {z : Int32} {w : Int32} {q : Nat} (hd : decode code pc = .ok (.idiv, 1)) (hn : z ≠ 0) (hw : x / z = w) (hp : pc + 1 = q) (K : Goes p e below F T (mkF m q L (.int w :: S))) : Goes p e below F T (mkF m pc L (.int z :: .int x :: S)) := by
  subst hw hp
  exact Goes.step (fun _ k => XS.idiv X.1.here X.2.1.1 (g := mkF m pc L (.int z :: .int x :: S)) rfl (hb X.2.1.2.1 hd) rfl hn k) K
theorem o_irem (X : On l Z EL p e R s m args below meth c y code maxL ret vm T h locs cells slots) {x : Int32} {z : Int32} {w : Int32} {q : Nat} (hd : decode code pc = .ok (.irem, 1)) (hn : z ≠ 0) (hw : x % z = w) (hp : pc + 1 = q) (K : Goes p e below F T (mkF m q L (.int w :: S))) : Goes p e below F T (mkF m pc L (.int z :: .int x :: S)) := by
  subst hw hp
  exact Goes.step (fun _ k => iremM (g := mkF m pc L (.int z :: .int x :: S)) X.1 X.2.1.1 rfl (hb X.2.1.2.1 hd) rfl hn k) K
theorem o_lcmp (X : On l Z EL p e R s m args below meth c y code maxL ret vm T h locs cells slots) {x : Int64} {z : Int64} {w : Int32} {q : Nat} (hd : decode code pc = .ok (.lcmp, 1)) (hw : lcmpW x z = w) (hp : pc + 1 = q) (K : Goes p e below F T (mkF m q L (.int w :: S))) : Goes p e below F T (mkF m pc L (.long z :: .long x :: S)) := by
  subst hw hp
  exact Goes.step (fun _ k => XS.lcmp X.1.here X.2.1.1 (g := mkF m pc L (.long z :: .long x :: S)) rfl (hb X.2.1.2.1 hd) rfl  k) K
theorem o_ineg (X : On l Z EL p e R s m args below meth c y code maxL ret vm T h locs cells slots) {x : Int32} {w : Int32} {q : Nat} (hd : decode code pc = .ok (.ineg, 1)) (hw : -x = w) (hp : pc + 1 = q) (K : Goes p e below F T (mkF m q L (.int w :: S))) : Goes p e below F T (mkF m pc L (.int x :: S)) := by
  subst hw hp
  exact Goes.step (fun _ k => XS.ineg X.1.here X.2.1.1 (g := mkF m pc L (.int x :: S)) rfl (hb X.2.1.2.1 hd) rfl k) K
theorem o_lneg (X : On l Z EL p e R s m args below meth c y code maxL ret vm T h locs cells slots) {x : Int64} {w : Int64} {q : Nat} (hd : decode code pc = .ok (.lneg, 1)) (hw : -x = w) (hp : pc + 1 = q) (K : Goes p e below F T (mkF m q L (.long w :: S))) : Goes p e below F T (mkF m pc L (.long x :: S)) := by
  subst hw hp
  exact Goes.step (fun _ k => XS.lneg X.1.here X.2.1.1 (g := mkF m pc L (.long x :: S)) rfl (hb X.2.1.2.1 hd) rfl k) K
theorem o_i2l (X : On l Z EL p e R s m args below meth c y code maxL ret vm T h locs cells slots) {x : Int32} {w : Int64} {q : Nat} (hd : decode code pc = .ok (.i2l, 1)) (hw : x.toInt64 = w) (hp : pc + 1 = q) (K : Goes p e below F T (mkF m q L (.long w :: S))) : Goes p e below F T (mkF m pc L (.int x :: S)) := by
  subst hw hp
  exact Goes.step (fun _ k => XS.i2l X.1.here X.2.1.1 (g := mkF m pc L (.int x :: S)) rfl (hb X.2.1.2.1 hd) rfl k) K
theorem o_l2i (X : On l Z EL p e R s m args below meth c y code maxL ret vm T h locs cells slots) {x : Int64} {w : Int32} {q : Nat} (hd : decode code pc = .ok (.l2i, 1)) (hw : x.toInt32 = w) (hp : pc + 1 = q) (K : Goes p e below F T (mkF m q L (.int w :: S))) : Goes p e below F T (mkF m pc L (.long x :: S)) := by
  subst hw hp
  exact Goes.step (fun _ k => XS.l2i X.1.here X.2.1.1 (g := mkF m pc L (.long x :: S)) rfl (hb X.2.1.2.1 hd) rfl k) K
theorem o_i2b (X : On l Z EL p e R s m args below meth c y code maxL ret vm T h locs cells slots) {x : Int32} {w : Int32} {q : Nat} (hd : decode code pc = .ok (.i2b, 1)) (hw : x.toInt8.toInt32 = w) (hp : pc + 1 = q) (K : Goes p e below F T (mkF m q L (.int w :: S))) : Goes p e below F T (mkF m pc L (.int x :: S)) := by
  subst hw hp
  exact Goes.step (fun _ k => XS.i2b X.1.here X.2.1.1 (g := mkF m pc L (.int x :: S)) rfl (hb X.2.1.2.1 hd) rfl k) K
theorem o_i2c (X : On l Z EL p e R s m args below meth c y code maxL ret vm T h locs cells slots) {x : Int32} {w : Int32} {q : Nat} (hd : decode code pc = .ok (.i2c, 1)) (hw : x.toUInt32.toUInt16.toUInt32.toInt32 = w) (hp : pc + 1 = q) (K : Goes p e below F T (mkF m q L (.int w :: S))) : Goes p e below F T (mkF m pc L (.int x :: S)) := by
  subst hw hp
  exact Goes.step (fun _ k => XS.i2c X.1.here X.2.1.1 (g := mkF m pc L (.int x :: S)) rfl (hb X.2.1.2.1 hd) rfl k) K
theorem o_i2s (X : On l Z EL p e R s m args below meth c y code maxL ret vm T h locs cells slots) {x : Int32} {w : Int32} {q : Nat} (hd : decode code pc = .ok (.i2s, 1)) (hw : x.toInt16.toInt32 = w) (hp : pc + 1 = q) (K : Goes p e below F T (mkF m q L (.int w :: S))) : Goes p e below F T (mkF m pc L (.int x :: S)) := by
  subst hw hp
  exact Goes.step (fun _ k => XS.i2s X.1.here X.2.1.1 (g := mkF m pc L (.int x :: S)) rfl (hb X.2.1.2.1 hd) rfl k) K
theorem o_dup (X : On l Z EL p e R s m args below meth c y code maxL ret vm T h locs cells slots) {x : Value} {q : Nat} (hd : decode code pc = .ok (.dup, 1)) (hc : x.category = 1) (hp : pc + 1 = q) (K : Goes p e below F T (mkF m q L (x :: x :: S))) : Goes p e below F T (mkF m pc L (x :: S)) := by
  subst hp
  exact Goes.step (fun _ k => XS.dup X.1.here X.2.1.1 (g := mkF m pc L (x :: S)) rfl (hb X.2.1.2.1 hd) rfl hc k) K
theorem o_pop (X : On l Z EL p e R s m args below meth c y code maxL ret vm T h locs cells slots) {x : Value} {q : Nat} (hd : decode code pc = .ok (.pop, 1)) (hc : x.category = 1) (hp : pc + 1 = q) (K : Goes p e below F T (mkF m q L S)) : Goes p e below F T (mkF m pc L (x :: S)) := by
  subst hp
  exact Goes.step (fun _ k => XS.pop X.1.here X.2.1.1 (g := mkF m pc L (x :: S)) rfl (hb X.2.1.2.1 hd) rfl hc k) K
theorem o_dupX1 (X : On l Z EL p e R s m args below meth c y code maxL ret vm T h locs cells slots) {x z : Value} {q : Nat} (hd : decode code pc = .ok (.dup_x1, 1)) (hc : x.category = 1) (hc' : z.category = 1) (hp : pc + 1 = q) (K : Goes p e below F T (mkF m q L (x :: z :: x :: S))) : Goes p e below F T (mkF m pc L (x :: z :: S)) := by
  subst hp
  exact Goes.step (fun _ k => XS.dupX1 X.1.here X.2.1.1 (g := mkF m pc L (x :: z :: S)) rfl (hb X.2.1.2.1 hd) rfl hc hc' k) K
theorem o_dup2 (X : On l Z EL p e R s m args below meth c y code maxL ret vm T h locs cells slots) {x z : Value} {q : Nat} (hd : decode code pc = .ok (.dup2, 1)) (hc : x.category = 1) (hc' : z.category = 1) (hp : pc + 1 = q) (K : Goes p e below F T (mkF m q L (x :: z :: x :: z :: S))) : Goes p e below F T (mkF m pc L (x :: z :: S)) := by
  subst hp
  exact Goes.step (fun _ k => Jvm.Free.XT.dup2 X.1.here X.2.1.1 (g := mkF m pc L (x :: z :: S)) rfl (hb X.2.1.2.1 hd) rfl hc hc' k) K
theorem o_iinc (X : On l Z EL p e R s m args below meth c y code maxL ret vm T h locs cells slots) {k : Nat} {i : Int} {x z : Int32} {q : Nat} (hd : decode code pc = .ok (.iinc k i, 3)) (hl : L[k]? = some (.val (.int x))) (hz : x + Int32.ofInt i = z) (hl' : storeLocals L k (.int z) = some L') (hp : pc + 3 = q) (K : Goes p e below F T (mkF m q L' S)) : Goes p e below F T (mkF m pc L S) := by
  subst hz hp
  exact Goes.step (fun _ k => XS.iinc X.1.here X.2.1.1 (g := mkF m pc L S) rfl (hb X.2.1.2.1 hd) hl hl' k) K
theorem o_goto (X : On l Z EL p e R s m args below meth c y code maxL ret vm T h locs cells slots) {i : Int} {q : Nat} (hd : decode code pc = .ok (.goto i, 3)) (ho : 0 ≤ (pc : Int) + i) (hp : ((pc : Int) + i).toNat = q) (K : Goes p e below F T (mkF m q L S)) : Goes p e below F T (mkF m pc L S) := Goes.step (fun _ k => XS.goto X.1.here X.2.1.1 (g := mkF m pc L S) (pc0 := pc) rfl rfl (hb X.2.1.2.1 hd) ho hp k) K
theorem o_ifY (X : On l Z EL p e R s m args below meth c y code maxL ret vm T h locs cells slots) {cd : ClassFile.Cond} {i : Int} {x : Int32} {q : Nat} (hd : decode code pc = .ok (.ifCond cd i, 3)) (hc : if_icmp.holds cd x 0 = true) (ho : 0 ≤ (pc : Int) + i) (hp : ((pc : Int) + i).toNat = q) (K : Goes p e below F T (mkF m q L S)) : Goes p e below F T (mkF m pc L (.int x :: S)) := Goes.step (fun _ k => XS.ifYes X.1.here X.2.1.1 (g := mkF m pc L (.int x :: S)) rfl (pc0 := pc) rfl (hb X.2.1.2.1 hd) rfl ((if0 _ _).trans hc) ho hp k) K
theorem o_ifN (X : On l Z EL p e R s m args below meth c y code maxL ret vm T h locs cells slots) {cd : ClassFile.Cond} {i : Int} {x : Int32} {q : Nat} (hd : decode code pc = .ok (.ifCond cd i, 3)) (hc : if_icmp.holds cd x 0 = false) (hp : pc + 3 = q) (K : Goes p e below F T (mkF m q L S)) : Goes p e below F T (mkF m pc L (.int x :: S)) := by
  subst hp
  exact Goes.step (fun _ k => XS.ifNo X.1.here X.2.1.1 (g := mkF m pc L (.int x :: S)) rfl (hb X.2.1.2.1 hd) rfl ((if0 _ _).trans hc) k) K
theorem o_icmpY (X : On l Z EL p e R s m args below meth c y code maxL ret vm T h locs cells slots) {cd : ClassFile.Cond} {i : Int} {x z : Int32} {q : Nat} (hd : decode code pc = .ok (.if_icmp cd i, 3)) (hc : if_icmp.holds cd x z = true) (ho : 0 ≤ (pc : Int) + i) (hp : ((pc : Int) + i).toNat = q) (K : Goes p e below F T (mkF m q L S)) : Goes p e below F T (mkF m pc L (.int z :: .int x :: S)) := Goes.step (fun _ k => XS.icmpYes X.1.here X.2.1.1 (g := mkF m pc L (.int z :: .int x :: S)) rfl (pc0 := pc) rfl (hb X.2.1.2.1 hd) rfl hc ho hp k) K
theorem o_icmpN (X : On l Z EL p e R s m args below meth c y code maxL ret vm T h locs cells slots) {cd : ClassFile.Cond} {i : Int} {x z : Int32} {q : Nat} (hd : decode code pc = .ok (.if_icmp cd i, 3)) (hc : if_icmp.holds cd x z = false) (hp : pc + 3 = q) (K : Goes p e below F T (mkF m q L S)) : Goes p e below F T (mkF m pc L (.int z :: .int x :: S)) := by
  subst hp
  exact Goes.step (fun _ k => XS.icmpNo X.1.here X.2.1.1 (g := mkF m pc L (.int z :: .int x :: S)) rfl (hb X.2.1.2.1 hd) rfl hc k) K
theorem o_ifnullY (X : On l Z EL p e R s m args below meth c y code maxL ret vm T h locs cells slots) {i : Int} {q : Nat} (hd : decode code pc = .ok (.ifnull i, 3)) (ho : 0 ≤ (pc : Int) + i) (hp : ((pc : Int) + i).toNat = q) (K : Goes p e below F T (mkF m q L S)) : Goes p e below F T (mkF m pc L (.null :: S)) := Goes.step (fun _ k => XS.ifnullYes X.1.here X.2.1.1 (g := mkF m pc L (.null :: S)) rfl (pc0 := pc) rfl (hb X.2.1.2.1 hd) rfl ho hp k) K
theorem o_ifnullN (X : On l Z EL p e R s m args below meth c y code maxL ret vm T h locs cells slots) {i : Int} {q : Nat} {b : Addr} (hd : decode code pc = .ok (.ifnull i, 3)) (hp : pc + 3 = q) (K : Goes p e below F T (mkF m q L S)) : Goes p e below F T (mkF m pc L ((.ref b) :: S)) := by
  subst hp
  exact Goes.step (fun _ k => XS.ifnullNo X.1.here X.2.1.1 (g := mkF m pc L ((.ref b) :: S)) rfl (hb X.2.1.2.1 hd) rfl k) K
theorem o_ifnonnullY (X : On l Z EL p e R s m args below meth c y code maxL ret vm T h locs cells slots) {i : Int} {q : Nat} {b : Addr} (hd : decode code pc = .ok (.ifnonnull i, 3)) (ho : 0 ≤ (pc : Int) + i) (hp : ((pc : Int) + i).toNat = q) (K : Goes p e below F T (mkF m q L S)) : Goes p e below F T (mkF m pc L ((.ref b) :: S)) := Goes.step (fun _ k => XS.ifnonnullYes X.1.here X.2.1.1 (g := mkF m pc L ((.ref b) :: S)) rfl (pc0 := pc) rfl (hb X.2.1.2.1 hd) rfl ho hp k) K
theorem o_ifnonnullN (X : On l Z EL p e R s m args below meth c y code maxL ret vm T h locs cells slots) {i : Int} {q : Nat} (hd : decode code pc = .ok (.ifnonnull i, 3)) (hp : pc + 3 = q) (K : Goes p e below F T (mkF m q L S)) : Goes p e below F T (mkF m pc L (.null :: S)) := by
  subst hp
  exact Goes.step (fun _ k => XS.ifnonnullNo X.1.here X.2.1.1 (g := mkF m pc L (.null :: S)) rfl (hb X.2.1.2.1 hd) rfl k) K
theorem o_acmp (X : On l Z EL p e R s m args below meth c y code maxL ret vm T h locs cells slots) {cd : ACond} {i : Int} {x z : Value} {q : Nat} {same : Bool} (hd : decode code pc = .ok (.if_acmp cd i, 3)) (h1 : x.isRef = true) (h2 : z.isRef = true) (hq : decide (x = z) = same) (ho : 0 ≤ (pc : Int) + i) (hp : q = if acV cd same = true then ((pc : Int) + i).toNat else pc + 3) (K : Goes p e below F T (mkF m q L S)) : Goes p e below F T (mkF m pc L (z :: x :: S)) := Goes.step (fun _ k => Jvm.RoadKit.acmp (g := mkF m pc L (z :: x :: S)) X.1 X.2.1.1 rfl h1 h2 (pc0 := pc) rfl (hb X.2.1.2.1 hd) rfl hq ho hp k) K
theorem o_ldcI (X : On l Z EL p e R s m args below meth c y code maxL ret vm T h locs cells slots) {index : Nat} {v : Int32} {q : Nat} (w : (Jvm.Cond.constant y.cls index v).before a0 Z = true) (hd : decode code pc = .ok (.ldc index, 2)) (hp : pc + 2 = q) (K : Goes p e below F T (mkF m q L (.int v :: S))) : Goes p e below F T (mkF m pc L S) := by
  subst hp
  exact Goes.step (X.1.ldcInt X.2.1.1 X.2.1.2.2.2.1 (mvT (s := s.setVm vm) X.2.1.2.2.1 w) (g := mkF m pc L S) rfl (hb X.2.1.2.1 hd)) K
theorem o_ldcJ (X : On l Z EL p e R s m args below meth c y code maxL ret vm T h locs cells slots) {index : Nat} {v : Int64} {q : Nat} (w : (Jvm.Cond.constantLong y.cls index v).before a0 Z = true) (hd : decode code pc = .ok (.ldc2_w index, 3)) (hp : pc + 3 = q) (K : Goes p e below F T (mkF m q L (.long v :: S))) : Goes p e below F T (mkF m pc L S) := by
  subst hp
  exact Goes.step (X.1.ldc2Long X.2.1.1 X.2.1.2.2.2.1 (mvT (s := s.setVm vm) X.2.1.2.2.1 w) (g := mkF m pc L S) rfl (hb X.2.1.2.1 hd)) K
theorem o_ldcS (X : On l Z EL p e R s m args below meth c y code maxL ret vm T h locs cells slots) {text : String} {index q n : Nat} {vs : List Value} {z : Int32} (w : (Jvm.Cond.stringLink y.cls index text).before a0 Z = true) (wS : ∀ a ∈ Bundle.stringAtoms, a.before a0 Z = true) (hmem : (y.cls, index) ∈ EL) (ht : (∀ c ∈ text.toList, c.toNat < 256) ∧ text.toList.map (fun c => Value.int (Jvm.Lit.byteI c.toNat.toUInt16)) = vs) (hz : ¬ z < 0) (hl : z.toNatClampNeg = vs.length) (hd : decode code pc = .ok (.ldc index, 2)) (hn : 4 * text.toList.length ≤ n) (hbig : n ≤ 536870912) (hc : cells + 2 ≤ R.cells) (hl' : slots + (n + 4) ≤ R.slots) (hp : pc + 2 = q)
    (K : ∀ (vm' : Vm) (T' : State) (h' : Heap) (a b : Addr) (k : ClassId), On l Z EL p e R s m args below meth c y code maxL ret vm' T' h' locs (cells + 2) (slots + (n + 4)) → Ext h h' → CHr Z EL vm h vm' h' → Exa Z h' a "java/lang/String" → Fld Z h' a "java/lang/String" "coder" "B" (.int 0) → Fld Z h' a "java/lang/String" "value" "[B" (.ref b) → Arv Z h' b k .byte z vs (.int 0) → (∀ x, Safe Z EL vm' h' x → x ≠ a ∧ x ≠ b) → Goes p e below F T' (mkF m q L (.ref a :: S))) : Goes p e below F T (mkF m pc L S) := by
  subst hp
  obtain ⟨X1, C1, e1, N1, E1, ⟨k0, s0, q0⟩, H1, ⟨a1, hw⟩⟩ := X
  have hEL : EW Z a0 EL := fun p hp => by
    obtain ⟨t, q1, q2⟩ := hw p hp
    exact ⟨t, by simpa [Cond.before, Cond.holds, Cond.value] using q1, q2⟩
  obtain ⟨a, T', h', k1, b, k, X', e', E', S', q', hZ', ho', r1, r2, r3, r4, -, -, R', -, r5, st⟩ := ldcCH X1 C1.1 C1.2.2.1 C1.2.2.2.1 w wS e1 s0 q0 hEL hmem H1.1 ht hz hl (g := mkF m pc L S) rfl (hb C1.2.1 hd) hn hbig hc hl'
  exact Goes.step st (K T'.vm T' h' a b k ⟨X', ⟨C1.1, C1.2.1, hZ', ho', C1.2.2.2.2⟩, e', N1, ext_trans E1 E', ⟨k1, S', q'⟩, H1.trans R', ⟨a1, hw⟩⟩ E' R' r1 r2 r3 r4 r5)
theorem o_ldcO (X : On l Z EL p e R s m args below meth c y code maxL ret vm T h locs cells slots) {text : String} {index q n : Nat} (w : (Jvm.Cond.stringLink y.cls index text).before a0 Z = true) (wS : ∀ a ∈ Bundle.stringAtoms, a.before a0 Z = true) (hd : decode code pc = .ok (.ldc index, 2)) (hn : 4 * text.toList.length ≤ n) (hbig : n ≤ 536870912) (hc : cells + 2 ≤ R.cells) (hl' : slots + (n + 4) ≤ R.slots) (hp : pc + 2 = q)
    (K : ∀ (vm' : Vm) (T' : State) (h' : Heap) (a : Addr), On l Z EL p e R s m args below meth c y code maxL ret vm' T' h' locs (cells + 2) (slots + (n + 4)) → Ext h h' → CHr Z EL vm h vm' h' → Goes p e below F T' (mkF m q L (.ref a :: S))) : Goes p e below F T (mkF m pc L S) := by
  subst hp
  obtain ⟨X1, C1, e1, N1, E1, ⟨k0, s0, q0⟩, H1, ⟨a1, hw⟩⟩ := X
  have hEL : EW Z a0 EL := fun p hp => by
    obtain ⟨t, q1, q2⟩ := hw p hp
    exact ⟨t, by simpa [Cond.before, Cond.holds, Cond.value] using q1, q2⟩
  obtain ⟨a, T', h', k1, X', e', E', S', q', hZ', ho', R', -, st⟩ := ldcOH X1 C1.1 C1.2.2.1 C1.2.2.2.1 w wS e1 s0 q0 hEL H1.1 (g := mkF m pc L S) rfl (hb C1.2.1 hd) hn hbig hc hl'
  exact Goes.step st (K T'.vm T' h' a ⟨X', ⟨C1.1, C1.2.1, hZ', ho', C1.2.2.2.2⟩, e', N1, ext_trans E1 E', ⟨k1, S', q'⟩, H1.trans R', ⟨a1, hw⟩⟩ E' R')
theorem o_new (X : On l Z EL p e R s m args below meth c y code maxL ret vm T h locs cells slots) {C : String} {index n q : Nat} (w : (Jvm.Cond.classLink y.cls index C).before a0 Z = true) (wi : (Jvm.Cond.instantiable C n).before a0 Z = true) (wz : (Jvm.Cond.initialized C).before a0 Z = true) (hd : decode code pc = .ok (.new index, 3)) (hc : cells + 1 ≤ R.cells) (hl : slots + n ≤ R.slots) (hp : pc + 3 = q)
    (K : ∀ (T' : State) (h' : Heap) (a : Addr), a = h.size → On l Z EL p e R s m args below meth c y code maxL ret vm T' h' locs (cells + 1) (slots + n) → Ext h h' → CHr Z EL vm h vm h' → Safe Z EL vm h' a → Exa Z h' a C → (∀ {O nm d : String} {ty : FieldType}, Laid Z a0 C O nm d → parseFieldDescriptor d = some ty → Fld Z h' a O nm d (defaultValue ty)) → Z.heap.size ≤ a → Goes p e below F T' (mkF m q L (.ref a :: S))) : Goes p e below F T (mkF m pc L S) := by
  subst hp
  obtain ⟨T', h', X', e', E', A', D', -, st⟩ := newO X.1 X.2.1.1 (show Z.Warmed39 (s.setVm vm).vm from X.2.1.2.2.1) X.2.1.2.2.2.1 w wi wz X.2.2.1 (g := mkF m pc L S) rfl (hb X.2.1.2.1 hd) hc hl
  exact Goes.step st (K T' h' h.size rfl (X.later X' e' X.2.2.2.1 (ext_trans X.ext E') (CHr.ext E' X.chv)) E' (CHr.ext E' X.chv) (Safe.ext E' X.chv (Safe.new (Nat.le_refl _))) A' D' X.size)
theorem o_newarr (X : On l Z EL p e R s m args below meth c y code maxL ret vm T h locs cells slots) {aty : ArrayType} {n : Int32} {cap q : Nat} (N : Nat) (w : (Jvm.Cond.arrayClass (newarray.typeOf aty)).before a0 Z = true) (hd : decode code pc = .ok (.newarray aty, 2)) (hn : ¬ n < 0) (hcap : n.toNatClampNeg ≤ cap) (hb8 : cap * 8 ≤ 536870912) (hc : cells + 1 ≤ R.cells) (hl : slots + cap ≤ R.slots) (hp : pc + 2 = q)
    (K : ∀ (T' : State) (h' : Heap) (a : Addr) (k : ClassId), a = h.size → On l Z EL p e R s m args below meth c y code maxL ret vm T' h' locs (cells + 1) (slots + cap) → Ext h h' → CHr Z EL vm h vm h' → Safe Z EL vm h' a → Arv Z h' a k (newarray.typeOf aty) n (List.replicate N (defaultValue (newarray.typeOf aty))) (defaultValue (newarray.typeOf aty)) → Z.heap.size ≤ a → Goes p e below F T' (mkF m q L (.ref a :: S))) : Goes p e below F T (mkF m pc L (.int n :: S)) := by
  subst hp
  obtain ⟨T', h', k, X', e', E', A', st⟩ := newP X.1 X.2.1.1 (show Z.Warmed39 (s.setVm vm).vm from X.2.1.2.2.1) w X.2.2.1 (g := mkF m pc L (.int n :: S)) rfl (hb X.2.1.2.1 hd) rfl hn hcap hb8 hc hl
  exact Goes.step st (K T' h' h.size k rfl (X.later X' e' X.2.2.2.1 (ext_trans X.ext E') (CHr.ext E' X.chv)) E' (CHr.ext E' X.chv) (Safe.ext E' X.chv (Safe.new (Nat.le_refl _))) ((Arv.new A' hn).pad (pad_rep [] _ N)) X.size)
theorem o_getF (X : On l Z EL p e R s m args below meth c y code maxL ret vm T h locs cells slots) {R0 O n d host : String} {index q : Nat} {a : Addr} {v : Value} (Fx : Fld Z h a O n d v) (w : (Jvm.Cond.fieldLink y.cls index R0 n d).before a0 Z = true ∨ (Jvm.Cond.fieldLinkNest y.cls index R0 n d host).before a0 Z = true) (via : Via Z R0 O n d) (hd : decode code pc = .ok (.getfield index, 3)) (hp : pc + 3 = q)
    (K : ∀ T' : State, On l Z EL p e R s m args below meth c y code maxL ret vm T' h locs cells slots → Goes p e below F T' (mkF m q L (v :: S))) : Goes p e below F T (mkF m pc L (.ref a :: S)) := by
  subst hp
  obtain ⟨T', X', e', st⟩ := getF X.1 X.2.1.1 (show Z.Warmed39 (s.setVm vm).vm from X.2.1.2.2.1) X.2.1.2.2.2.1 w via X.2.2.1 Fx (g := mkF m pc L (.ref a :: S)) rfl rfl (hb X.2.1.2.1 hd)
  exact Goes.step st (K T' (X.later X' e' X.2.2.2.1 X.ext (CHr.refl X.chv)))
theorem o_getS (X : On l Z EL p e R s m args below meth c y code maxL ret vm T h locs cells slots) {R0 O n d host : String} {index q : Nat} {v : Value} (Fx : Sta Z Z.heap O n d v) (w : (Jvm.Cond.fieldLink y.cls index R0 n d).before a0 Z = true ∨ (Jvm.Cond.fieldLinkNest y.cls index R0 n d host).before a0 Z = true) (via : Via Z R0 O n d) (hd : decode code pc = .ok (.getstatic index, 3)) (hp : pc + 3 = q)
    (K : ∀ T' : State, On l Z EL p e R s m args below meth c y code maxL ret vm T' h locs cells slots → Goes p e below F T' (mkF m q L (v :: S))) : Goes p e below F T (mkF m pc L S) := by
  subst hp
  obtain ⟨T', X', e', st⟩ := getS2 X.1 X.2.1.1 (show Z.Warmed39 (s.setVm vm).vm from X.2.1.2.2.1) X.2.1.2.2.2.1 w via X.2.2.1 (Fx.ext X.ext) (g := mkF m pc L S) rfl (hb X.2.1.2.1 hd)
  exact Goes.step st (K T' (X.later X' e' X.2.2.2.1 X.ext (CHr.refl X.chv)))
theorem o_putF (X : On l Z EL p e R s m args below meth c y code maxL ret vm T h locs cells slots) {R0 O n d host C : String} {index kk q : Nat} {ty : FieldType} {a : Addr} {v old : Value} (Fx : Fld Z h a O n d old) (E : Exa Z h a C) (ha : Z.heap.size ≤ a) (hsf : Safe Z EL vm h a) (w : (Jvm.Cond.fieldLink y.cls index R0 n d).before a0 Z = true ∨ (Jvm.Cond.fieldLinkNest y.cls index R0 n d host).before a0 Z = true) (via : Via Z R0 O n d)
    (Lw : (Jvm.Cond.lays C O n d).before a0 Z = true ∨ ((Jvm.Cond.laysFinal C O n d).before a0 Z = true ∧ y.cls = O ∧ y.name = "<init>")) (wi : (Jvm.Cond.instantiable C kk).before a0 Z = true) (hty : parseFieldDescriptor d = some ty) (hn : narrow ty v = v) (hf : fits ty v = true) (hd : decode code pc = .ok (.putfield index, 3)) (hp : pc + 3 = q)
    (K : ∀ (T' : State) (h' : Heap) (locs' : List Loc), On l Z EL p e R s m args below meth c y code maxL ret vm T' h' locs' cells slots → Wr h h' a (Jvm.RoadKit.slotOf Z O n d) v → CHr Z EL vm h vm h' → Fld Z h' a O n d v → Goes p e below F T' (mkF m q L S)) : Goes p e below F T (mkF m pc L (v :: .ref a :: S)) := by
  subst hp
  obtain ⟨T', h', X', e', W', st⟩ := putF X.1 X.2.1.1 (show Z.Warmed39 (s.setVm vm).vm from X.2.1.2.2.1) X.2.1.2.2.2.1 w via X.2.2.1 Fx E (Lw.imp_right fun q => ⟨q.1, q.2.1, X.2.1.2.2.2.2.2.2.1.trans q.2.2⟩) wi hty hn hf (g := mkF m pc L (v :: .ref a :: S)) rfl rfl (hb X.2.1.2.1 hd)
  exact Goes.step st (K T' h' _ (X.later X' e' (Fr.snoc X' X.2.2.2.1 ha) (ext_wr X.ext W' ha) (CHr.wr W' hsf X.chv)) W' (CHr.wr W' hsf X.chv) (Fx.same W'))
theorem o_len (X : On l Z EL p e R s m args below meth c y code maxL ret vm T h locs cells slots) {a : Addr} {k : ClassId} {ty : FieldType} {n : Int32} {vs : List Value} {dv : Value} {q : Nat} (A : Arv Z h a k ty n vs dv) (hd : decode code pc = .ok (.arraylength, 1)) (hp : pc + 1 = q) (K : Goes p e below F T (mkF m q L (.int n :: S))) : Goes p e below F T (mkF m pc L (.ref a :: S)) := by
  subst hp
  obtain ⟨cl, Ar, -, Sz, Nn, -⟩ := A
  refine Goes.step (X.1.arraylength X.2.1.1 (by rw [X.2.2.1]; exact Ar.1) (State.isArrayOf_alike X.alike Ar.2.1) (g := mkF m pc L (.ref a :: S)) rfl rfl (hb X.2.1.2.1 hd)) ?_
  rw [len_of Sz Nn]
  exact K
theorem o_iaload (X : On l Z EL p e R s m args below meth c y code maxL ret vm T h locs cells slots) {a : Addr} {k : ClassId} {n j : Int32} {vs : List Value} {dv v : Value} {q : Nat} (A : Arv Z h a k .int n vs dv) (hj : ¬ j < 0 ∧ j < n) (hv : vs.getD j.toNatClampNeg dv = v) (hd : decode code pc = .ok (.iaload, 1)) (hp : pc + 1 = q) (K : Goes p e below F T (mkF m q L (v :: S))) : Goes p e below F T (mkF m pc L (.int j :: .ref a :: S)) := by
  subst hp
  obtain ⟨cl, Ar, -, Sz, Nn, H, -⟩ := A
  have hin := inb_of Sz hj
  exact Goes.step (X.1.iaload X.2.1.1 (j := j) (v := v) (by rw [X.2.2.1]; exact Ar.1) (State.isArrayOf_alike X.alike Ar.2.1) Ar.2.2 hin (H.at hin hv) (g := mkF m pc L (.int j :: .ref a :: S)) rfl rfl (hb X.2.1.2.1 hd)) K
theorem o_laload (X : On l Z EL p e R s m args below meth c y code maxL ret vm T h locs cells slots) {a : Addr} {k : ClassId} {n j : Int32} {vs : List Value} {dv v : Value} {q : Nat} (A : Arv Z h a k .long n vs dv) (hj : ¬ j < 0 ∧ j < n) (hv : vs.getD j.toNatClampNeg dv = v) (hd : decode code pc = .ok (.laload, 1)) (hp : pc + 1 = q) (K : Goes p e below F T (mkF m q L (v :: S))) : Goes p e below F T (mkF m pc L (.int j :: .ref a :: S)) := by
  subst hp
  obtain ⟨cl, Ar, -, Sz, Nn, H, -⟩ := A
  have hin := inb_of Sz hj
  exact Goes.step (X.1.laload X.2.1.1 (j := j) (v := v) (by rw [X.2.2.1]; exact Ar.1) (State.isArrayOf_alike X.alike Ar.2.1) Ar.2.2 hin (H.at hin hv) (g := mkF m pc L (.int j :: .ref a :: S)) rfl rfl (hb X.2.1.2.1 hd)) K
theorem o_caload (X : On l Z EL p e R s m args below meth c y code maxL ret vm T h locs cells slots) {a : Addr} {k : ClassId} {n j : Int32} {vs : List Value} {dv v : Value} {q : Nat} (A : Arv Z h a k .char n vs dv) (hj : ¬ j < 0 ∧ j < n) (hv : vs.getD j.toNatClampNeg dv = v) (hd : decode code pc = .ok (.caload, 1)) (hp : pc + 1 = q) (K : Goes p e below F T (mkF m q L (v :: S))) : Goes p e below F T (mkF m pc L (.int j :: .ref a :: S)) := by
  subst hp
  obtain ⟨cl, Ar, -, Sz, Nn, H, -⟩ := A
  have hin := inb_of Sz hj
  exact Goes.step (X.1.caload X.2.1.1 (j := j) (v := v) (by rw [X.2.2.1]; exact Ar.1) (State.isArrayOf_alike X.alike Ar.2.1) Ar.2.2 hin (H.at hin hv) (g := mkF m pc L (.int j :: .ref a :: S)) rfl rfl (hb X.2.1.2.1 hd)) K
theorem o_baload (X : On l Z EL p e R s m args below meth c y code maxL ret vm T h locs cells slots) {a : Addr} {k : ClassId} {n j : Int32} {vs : List Value} {dv v : Value} {q : Nat} (A : Arv Z h a k .byte n vs dv) (hj : ¬ j < 0 ∧ j < n) (hv : vs.getD j.toNatClampNeg dv = v) (hd : decode code pc = .ok (.baload, 1)) (hp : pc + 1 = q) (K : Goes p e below F T (mkF m q L (v :: S))) : Goes p e below F T (mkF m pc L (.int j :: .ref a :: S)) := by
  subst hp
  obtain ⟨cl, Ar, -, Sz, Nn, H, -⟩ := A
  have hin := inb_of Sz hj
  exact Goes.step (X.1.baloadBytes X.2.1.1 (j := j) (v := v) (by rw [X.2.2.1]; exact Ar.1) (State.isArrayOf_alike X.alike Ar.2.1) Ar.2.2 hin (H.at hin hv) (g := mkF m pc L (.int j :: .ref a :: S)) rfl rfl (hb X.2.1.2.1 hd)) K
theorem o_aaload (X : On l Z EL p e R s m args below meth c y code maxL ret vm T h locs cells slots) {a : Addr} {k : ClassId} {ty : FieldType} {n j : Int32} {vs : List Value} {dv v : Value} {q : Nat} (A : Arv Z h a k ty n vs dv) (hty : ty.isReference = true) (hj : ¬ j < 0 ∧ j < n) (hv : vs.getD j.toNatClampNeg dv = v) (hd : decode code pc = .ok (.aaload, 1)) (hp : pc + 1 = q) (K : Goes p e below F T (mkF m q L (v :: S))) : Goes p e below F T (mkF m pc L (.int j :: .ref a :: S)) := by
  subst hp
  obtain ⟨cl, Ar, -, Sz, Nn, H, -⟩ := A
  have hin := inb_of Sz hj
  exact Goes.step (X.1.aaload X.2.1.1 (j := j) (v := v) (by rw [X.2.2.1]; exact Ar.1) (State.isArrayOf_alike X.alike Ar.2.1) hty Ar.2.2 hin (H.at hin hv) (g := mkF m pc L (.int j :: .ref a :: S)) rfl rfl (hb X.2.1.2.1 hd)) K
theorem o_iastore (X : On l Z EL p e R s m args below meth c y code maxL ret vm T h locs cells slots) {a : Addr} {k : ClassId} {n j : Int32} {x : Int32} {v : Value} {vs : List Value} {dv : Value} {q : Nat} (i : Nat) (A : Arv Z h a k .int n vs dv) (ha : Z.heap.size ≤ a) (hsf : Safe Z EL vm h a) (hj : ¬ j < 0 ∧ j < n) (hi : j.toNatClampNeg = i) (hlt : i < vs.length) (hv : (.int x : Value) = v) (hd : decode code pc = .ok (.iastore, 1)) (hp : pc + 1 = q)
    (K : ∀ (T' : State) (h' : Heap) (locs' : List Loc), On l Z EL p e R s m args below meth c y code maxL ret vm T' h' locs' cells slots → Wr h h' a i v → CHr Z EL vm h vm h' → Arv Z h' a k .int n (vs.set i v) dv → Goes p e below F T' (mkF m q L S)) : Goes p e below F T (mkF m pc L (.int x :: .int j :: .ref a :: S)) := by
  subst hp hv
  obtain ⟨cl, Ar, q1, Sz, Nn, H, G⟩ := A
  obtain ⟨T', h', X', e', W', st⟩ := stI X.1 X.2.1.1 (show Z.Warmed39 (s.setVm vm).vm from X.2.1.2.2.1) X.2.2.1 Ar (j := j) (inb_of Sz hj) (g := mkF m pc L (.int x :: .int j :: .ref a :: S)) rfl rfl (hb X.2.1.2.1 hd)
  exact Goes.step st (K T' h' _ (X.later X' e' (Fr.snoc X' X.2.2.2.1 ha) (ext_wr X.ext W' ha) (CHr.wr W' hsf X.chv)) (hi ▸ W') (CHr.wr W' hsf X.chv) (Arv.set Ar q1 Sz Nn H G rfl W' i hi hlt))
theorem o_lastore (X : On l Z EL p e R s m args below meth c y code maxL ret vm T h locs cells slots) {a : Addr} {k : ClassId} {n j : Int32} {x : Int64} {v : Value} {vs : List Value} {dv : Value} {q : Nat} (i : Nat) (A : Arv Z h a k .long n vs dv) (ha : Z.heap.size ≤ a) (hsf : Safe Z EL vm h a) (hj : ¬ j < 0 ∧ j < n) (hi : j.toNatClampNeg = i) (hlt : i < vs.length) (hv : (.long x : Value) = v) (hd : decode code pc = .ok (.lastore, 1)) (hp : pc + 1 = q)
    (K : ∀ (T' : State) (h' : Heap) (locs' : List Loc), On l Z EL p e R s m args below meth c y code maxL ret vm T' h' locs' cells slots → Wr h h' a i v → CHr Z EL vm h vm h' → Arv Z h' a k .long n (vs.set i v) dv → Goes p e below F T' (mkF m q L S)) : Goes p e below F T (mkF m pc L (.long x :: .int j :: .ref a :: S)) := by
  subst hp hv
  obtain ⟨cl, Ar, q1, Sz, Nn, H, G⟩ := A
  obtain ⟨T', h', X', e', W', st⟩ := stJ X.1 X.2.1.1 (show Z.Warmed39 (s.setVm vm).vm from X.2.1.2.2.1) X.2.2.1 Ar (j := j) (inb_of Sz hj) (g := mkF m pc L (.long x :: .int j :: .ref a :: S)) rfl rfl (hb X.2.1.2.1 hd)
  exact Goes.step st (K T' h' _ (X.later X' e' (Fr.snoc X' X.2.2.2.1 ha) (ext_wr X.ext W' ha) (CHr.wr W' hsf X.chv)) (hi ▸ W') (CHr.wr W' hsf X.chv) (Arv.set Ar q1 Sz Nn H G rfl W' i hi hlt))
theorem o_castore (X : On l Z EL p e R s m args below meth c y code maxL ret vm T h locs cells slots) {a : Addr} {k : ClassId} {n j : Int32} {x : Int32} {v : Value} {vs : List Value} {dv : Value} {q : Nat} (i : Nat) (A : Arv Z h a k .char n vs dv) (ha : Z.heap.size ≤ a) (hsf : Safe Z EL vm h a) (hj : ¬ j < 0 ∧ j < n) (hi : j.toNatClampNeg = i) (hlt : i < vs.length) (hv : (.int (nar .char x) : Value) = v) (hd : decode code pc = .ok (.castore, 1)) (hp : pc + 1 = q)
    (K : ∀ (T' : State) (h' : Heap) (locs' : List Loc), On l Z EL p e R s m args below meth c y code maxL ret vm T' h' locs' cells slots → Wr h h' a i v → CHr Z EL vm h vm h' → Arv Z h' a k .char n (vs.set i v) dv → Goes p e below F T' (mkF m q L S)) : Goes p e below F T (mkF m pc L (.int x :: .int j :: .ref a :: S)) := by
  subst hp hv
  obtain ⟨cl, Ar, q1, Sz, Nn, H, G⟩ := A
  obtain ⟨T', h', X', e', W', st⟩ := stC X.1 X.2.1.1 (show Z.Warmed39 (s.setVm vm).vm from X.2.1.2.2.1) X.2.2.1 Ar (j := j) (inb_of Sz hj) (g := mkF m pc L (.int x :: .int j :: .ref a :: S)) rfl rfl (hb X.2.1.2.1 hd)
  exact Goes.step st (K T' h' _ (X.later X' e' (Fr.snoc X' X.2.2.2.1 ha) (ext_wr X.ext W' ha) (CHr.wr W' hsf X.chv)) (hi ▸ W') (CHr.wr W' hsf X.chv) (Arv.set Ar q1 Sz Nn H G (fits_nar_char x) W' i hi hlt))
theorem o_bastore (X : On l Z EL p e R s m args below meth c y code maxL ret vm T h locs cells slots) {a : Addr} {k : ClassId} {n j : Int32} {x : Int32} {v : Value} {vs : List Value} {dv : Value} {q : Nat} (i : Nat) (A : Arv Z h a k .byte n vs dv) (ha : Z.heap.size ≤ a) (hsf : Safe Z EL vm h a) (hj : ¬ j < 0 ∧ j < n) (hi : j.toNatClampNeg = i) (hlt : i < vs.length) (hv : (.int (nar .byte x) : Value) = v) (hd : decode code pc = .ok (.bastore, 1)) (hp : pc + 1 = q)
    (K : ∀ (T' : State) (h' : Heap) (locs' : List Loc), On l Z EL p e R s m args below meth c y code maxL ret vm T' h' locs' cells slots → Wr h h' a i v → CHr Z EL vm h vm h' → Arv Z h' a k .byte n (vs.set i v) dv → Goes p e below F T' (mkF m q L S)) : Goes p e below F T (mkF m pc L (.int x :: .int j :: .ref a :: S)) := by
  subst hp hv
  obtain ⟨cl, Ar, q1, Sz, Nn, H, G⟩ := A
  obtain ⟨T', h', X', e', W', st⟩ := stB X.1 X.2.1.1 (show Z.Warmed39 (s.setVm vm).vm from X.2.1.2.2.1) X.2.2.1 Ar (j := j) (inb_of Sz hj) (g := mkF m pc L (.int x :: .int j :: .ref a :: S)) rfl rfl (hb X.2.1.2.1 hd)
  exact Goes.step st (K T' h' _ (X.later X' e' (Fr.snoc X' X.2.2.2.1 ha) (ext_wr X.ext W' ha) (CHr.wr W' hsf X.chv)) (hi ▸ W') (CHr.wr W' hsf X.chv) (Arv.set Ar q1 Sz Nn H G (fits_nar_byte x) W' i hi hlt))
/-- the end of a walk -/
theorem fin_of (X : On l Z EL p e R s m args below meth c y code maxL ret vm T h locs cells slots) {Q : Option Value → Heap → (Addr → Prop) → Prop} {rc rs : Nat} {v : Option Value} (hv : ret = none → v = none) (hQ : ∀ Sf : Addr → Prop, (∀ x, x < h.size → Safe Z EL vm h x → Sf x) → Q v h Sf) (hc : cells ≤ rc) (hs : slots ≤ rs)
    (hr : ∀ fs, (∀ (f : JFrame) (acts : List Action), f.method = m → f.locked = none → f.entered = [] → (doReturn e (T.setTop f) acts v).1 = T.setFrames fs) → Steps p.tables e below (T.setTop (mkF m pc L S)) (T.setFrames fs)) : Goes p e below (FinQ Z EL s Q rc rs) T (mkF m pc L S) := by
  obtain ⟨X1, C1, e1, N1, E1, ⟨k0, s0, q0⟩, H1, ⟨a1, hw⟩⟩ := X
  obtain ⟨fs, h1, h2, h3, h4⟩ := X1.leaveW s0 (by rw [e1]; exact q0) (v := v) (fun q => hv (C1.2.2.2.2.1.symm.trans q)) C1.2.2.2.2.2.1
  have A := CHv.at X1 C1.2.2.1 hw H1.1
  obtain ⟨g1, g2, g3, g4⟩ := h4
  refine ⟨_, _, hr fs h1, h2, h3, v, locs, rfl, ⟨?_, N1, ?_⟩, ?_, g1, g2, g3, g4.mono hc hs⟩
  · show Q v T.heap (Safe Z EL T.vm T.heap)
    rw [e1]
    exact hQ _ fun x hx S => A.safe hx S
  · show Ext Z.heap T.heap
    rw [e1]; exact E1
  · show CHr Z EL s.vm s.heap T.vm T.heap
    rw [e1]; exact H1.trans A
theorem o_ret (X : On l Z EL p e R s m args below meth c y code maxL none vm T h locs cells slots) {Q : Option Value → Heap → (Addr → Prop) → Prop} {rc rs : Nat} (hd : decode code pc = .ok (.return_, 1)) (hQ : ∀ Sf : Addr → Prop, (∀ x, x < h.size → Safe Z EL vm h x → Sf x) → Q none h Sf) (hc : cells ≤ rc) (hs : slots ≤ rs) : Goes p e below (FinQ Z EL s Q rc rs) T (mkF m pc L []) :=
  fin_of X (fun _ => rfl) hQ hc hs (fun fs hr => X.1.returnOut X.2.1.1 X.2.1.2.2.2.2.1 (hb X.2.1.2.1 hd) hr)
theorem o_retI (X : On l Z EL p e R s m args below meth c y code maxL (some .int) vm T h locs cells slots) {Q : Option Value → Heap → (Addr → Prop) → Prop} {rc rs : Nat} {z : Int32} (hd : decode code pc = .ok (.ireturn, 1)) (hQ : ∀ Sf : Addr → Prop, (∀ x, x < h.size → Safe Z EL vm h x → Sf x) → Q (some (.int z)) h Sf) (hc : cells ≤ rc) (hs : slots ≤ rs) : Goes p e below (FinQ Z EL s Q rc rs) T (mkF m pc L (.int z :: S)) :=
  fin_of X (fun q => nomatch q) hQ hc hs (fun fs hr => retOut X.1 X.2.1.1 X.2.1.2.2.2.2.1 rfl (Or.inl ⟨rfl, Or.inl rfl, z, rfl⟩) (hb X.2.1.2.1 hd) hr)
theorem o_retN {t : FieldType} (X : On l Z EL p e R s m args below meth c y code maxL (some t) vm T h locs cells slots) {Q : Option Value → Heap → (Addr → Prop) → Prop} {rc rs : Nat} {z : Int32} (hd : decode code pc = .ok (.ireturn, 1)) (ht : t = .boolean ∨ t = .byte ∨ t = .char ∨ t = .short) (hQ : ∀ Sf : Addr → Prop, (∀ x, x < h.size → Safe Z EL vm h x → Sf x) → Q (some (.int (nar t z))) h Sf) (hc : cells ≤ rc) (hs : slots ≤ rs) : Goes p e below (FinQ Z EL s Q rc rs) T (mkF m pc L (.int z :: S)) :=
  fin_of X (fun q => nomatch q) hQ hc hs (fun fs hr => retN X.1 X.2.1.1 X.2.1.2.2.2.2.1 ht (hb X.2.1.2.1 hd) hr)
theorem o_retR {t : FieldType} (X : On l Z EL p e R s m args below meth c y code maxL (some t) vm T h locs cells slots) {Q : Option Value → Heap → (Addr → Prop) → Prop} {rc rs : Nat} {v : Value} (hd : decode code pc = .ok (.areturn, 1)) (ht : t.isReference = true) (hv : v.isRef = true) (hn : narrow t v = v) (hQ : ∀ Sf : Addr → Prop, (∀ x, x < h.size → Safe Z EL vm h x → Sf x) → Q (some v) h Sf) (hc : cells ≤ rc) (hs : slots ≤ rs) : Goes p e below (FinQ Z EL s Q rc rs) T (mkF m pc L (v :: S)) :=
  fin_of X (fun q => nomatch q) hQ hc hs (fun fs hr => retOut X.1 X.2.1.1 X.2.1.2.2.2.2.1 hn (Or.inr (Or.inr (Or.inr (Or.inr ⟨rfl, ht, hv⟩)))) (hb X.2.1.2.1 hd) hr)
theorem o_retJ (X : On l Z EL p e R s m args below meth c y code maxL (some .long) vm T h locs cells slots) {Q : Option Value → Heap → (Addr → Prop) → Prop} {rc rs : Nat} {z : Int64} (hd : decode code pc = .ok (.lreturn, 1)) (hQ : ∀ Sf : Addr → Prop, (∀ x, x < h.size → Safe Z EL vm h x → Sf x) → Q (some (.long z)) h Sf) (hc : cells ≤ rc) (hs : slots ≤ rs) : Goes p e below (FinQ Z EL s Q rc rs) T (mkF m pc L (.long z :: S)) :=
  fin_of X (fun q => nomatch q) hQ hc hs (fun fs hr => retOut X.1 X.2.1.1 X.2.1.2.2.2.2.1 rfl (Or.inr (Or.inl ⟨rfl, rfl, z, rfl⟩)) (hb X.2.1.2.1 hd) hr)
theorem o_initO (X : On l Z EL p e R s m args below meth c y code maxL ret vm T h locs cells slots) {idx q : Nat} {a : Addr} (w1 : (Jvm.Cond.methodLink y.cls idx Lib.objectInit).before a0 Z = true) (w2 : (Jvm.Cond.instanceMethod Lib.objectInit).before a0 Z = true) (w3 : (Jvm.Cond.code Lib.objectInit ⟨#[0xb1]⟩ 1 none).before a0 Z = true) (hd : decode code pc = .ok (.invokespecial idx, 3)) (hL : L.size = maxL) (hf : 1 ≤ R.frames) (hl : (S.map fun v => v.category).sum + 12 ≤ R.locals) (hp : pc + 3 = q)
    (K : ∀ T' : State, On l Z EL p e R s m args below meth c y code maxL ret vm T' h locs cells slots → Goes p e below F T' (mkF m q L S)) : Goes p e below F T (mkF m pc L (.ref a :: S)) := by
  subst hp
  obtain ⟨T', X', e', st⟩ := initO X.1 X.2.1.1 (show Z.Warmed39 (s.setVm vm).vm from X.2.1.2.2.1) X.2.1.2.2.2.1 w1 w2 w3 X.2.2.1 (g := mkF m pc L (.ref a :: S)) rfl (hL.trans X.2.1.2.2.2.2.2.2.2.symm) rfl (hb X.2.1.2.1 hd) hf (W := (S.map fun v => v.category).sum) (by show 2 * 0 + _ ≤ _; omega) hl
  exact Goes.step st (K T' (X.later X' e' X.2.2.2.1 X.ext (CHr.refl X.chv)))
/-- a contract as a BackS -/
theorem Con.back {y' : MethodName} {bytes : ByteArray} {maxL' : Nat} {ret' : Option FieldType} {rm : Room} {as : Array Value} {Q : Option Value → Heap → (Addr → Prop) → Prop} {len W : Nat} (X : On l Z EL p e R s m args below meth c y code maxL ret vm T h locs cells slots) (hC : Con l Z EL y' bytes maxL' ret' rm as h ss Q) (hss : ∀ x ∈ ss, x < h.size ∧ Safe Z EL vm h x) (w4 : (Jvm.Cond.code y' bytes maxL' ret').before a0 Z = true) (w3 : (Jvm.Cond.initialized y'.cls).before a0 Z = true) (hf : rm.frames + 1 ≤ R.frames) (hl : W + (maxL' + 11) + rm.locals ≤ R.locals) :
    BackS l R p e below (s.setVm vm) args y' len W (fun A b => b = as ∧ A.U.heap = h ∧ A.cells + rm.cells ≤ R.cells ∧ A.slots + rm.slots ≤ R.slots) (fun A _ v B => ∃ L, (Q v B.U.heap (Safe Z EL B.U.vm B.U.heap) ∧ Fr Z.heap.size L ∧ Ext Z.heap B.U.heap) ∧ B.locs = A.locs ++ L ∧ B.cells = A.cells + rm.cells ∧ B.slots = A.slots + rm.slots ∧ CHr Z EL vm h B.U.vm B.U.heap) := by
  obtain ⟨X1, C1, e1, N1, E1, ⟨k0, s0, q0⟩, H1, ⟨a1, hw⟩⟩ := X
  exact BackS.of_freeW (bytes := bytes) (maxL := maxL') (ret := ret') (E := fun _ first o t L k n => k = rm.cells ∧ n = rm.slots ∧ (∃ v, o = .returned v ∧ Q v t.heap (Safe Z EL t.vm t.heap) ∧ Fr Z.heap.size L ∧ Ext Z.heap t.heap) ∧ CHr Z EL first.vm first.heap t.vm t.heap) (hC ⟨a1, hw⟩ E1 []) hf hl
    (fun m meth c A a Y hp => have hU : Z.Warmed39 A.U.vm := wtrans (s := s.setVm vm) C1.2.2.1 Y.warmed
      ⟨by show (Cond.and _ .tt).before a A.U = true; rw [Cond.before_and, mv hU w4]; rfl, mv hU w4, mv hU w3, hp.2.2.1, hp.2.2.2⟩)
    (fun m meth c A a g mk Y hp => ⟨hp.1, wtrans (s := s.setVm vm) C1.2.2.1 Y.warmed, hp.2.1, (CHv.at Y C1.2.2.1 hw H1.1).1, fun x hx => (CHv.at Y C1.2.2.1 hw H1.1).safe (hss x hx).1 (hss x hx).2⟩) (fun _ _ _ _ _ _ _ _ _ => trivial)
    (fun _ _ _ _ ⟨v, L, h1, h2, h3, h4⟩ => ⟨L, _, _, h4, rfl, rfl, ⟨v, h1, h2⟩, h3⟩)
    (fun m meth c A a g mk v t L k n Y hp _ _ ⟨e1, e2, ⟨v', e3, e4⟩, e5⟩ => by
      cases e3; subst e1 e2
      refine ⟨L, e4, rfl, rfl, rfl, (CHv.at Y C1.2.2.1 hw H1.1).trans ?_⟩
      rw [← hp.2.1]; exact e5)
theorem o_spec (X : On l Z EL p e R s m args below meth c y code maxL ret vm T h locs cells slots) {y' : MethodName} {index q : Nat} {bytes : ByteArray} {maxL' : Nat} {rm : Room} {as : Array Value} {Q : Option Value → Heap → (Addr → Prop) → Prop} (argsL : List Value) {a : Addr} {rest : List Value} (hC : Con l Z EL y' bytes maxL' none rm as h ss Q) (hss : ∀ x ∈ ss, x < h.size ∧ Safe Z EL vm h x)
    (hy1 : y'.name = "<init>") (w1 : (Jvm.Cond.methodLink y.cls index y').before a0 Z = true) (w2 : (Jvm.Cond.instanceMethod y').before a0 Z = true) (w3 : (Jvm.Cond.code y' bytes maxL' none).before a0 Z = true) (w4 : (Jvm.Cond.initialized y'.cls).before a0 Z = true) (hy : y'.cls ≠ "java/lang/invoke/MethodHandle" ∧ y'.cls ≠ "java/lang/invoke/VarHandle")
    (hd : decode code pc = .ok (.invokespecial index, 3)) (has : (.ref a :: argsL).toArray = as) (hL : L.size = maxL) (hlen : ∀ sig, parseMethodDescriptor y'.desc = some sig → argsL.length = sig.parameters.length) (hS : S = argsL.reverse ++ .ref a :: rest) (hf : rm.frames + 1 ≤ R.frames) (hl : (rest.map fun v => v.category).sum + (maxL' + 11) + rm.locals ≤ R.locals) (hc : cells + rm.cells ≤ R.cells) (hs : slots + rm.slots ≤ R.slots) (hp : pc + 3 = q)
    (K : ∀ (v : Option Value) (vm' : Vm) (T' : State) (h' : Heap) (locs' : List Loc), On l Z EL p e R s m args below meth c y code maxL ret vm' T' h' locs' (cells + rm.cells) (slots + rm.slots) → CHr Z EL vm h vm' h' → Q v h' (Safe Z EL vm' h') → Goes p e below F T' (mkF m q L (v.toList ++ rest))) : Goes p e below F T (mkF m pc L S) := by
  subst hp hS has
  obtain ⟨v, vm1, ⟨T', L1, k1, n1⟩, -, X', S', g', ⟨Lc, hQ, e2, e3, e4, R'⟩, st⟩ := X.1.specialBackS X.2.1.1 hy1 X.2.1.2.2.2.1 (mvT (s := s.setVm vm) X.2.1.2.2.1 w1) (mvT (s := s.setVm vm) X.2.1.2.2.1 w2) (mvT (s := s.setVm vm) X.2.1.2.2.1 w3) hy (Con.back X hC hss w3 w4 hf hl) (g := mkF m pc L (argsL.reverse ++ .ref a :: rest)) rfl (hL.trans X.2.1.2.2.2.2.2.2.2.symm) (Steps.refl _) hlen rfl (by show 2 * 0 + _ ≤ _; omega) (hb X.2.1.2.1 hd) (fun _ _ => ⟨rfl, X.2.2.1, hc, hs⟩)
  dsimp only [Pt.U, Pt.locs, Pt.cells, Pt.slots] at X' S' g' hQ e2 e3 e4 R' st
  subst e2 e3 e4
  exact Goes.step (fun _ k => st.trans k) (K v T'.vm T' T'.heap _ (X.laterV X' S' rfl rfl (Fr.app X.2.2.2.1 hQ.2.1) hQ.2.2 R') R' hQ.1)
theorem o_virt (X : On l Z EL p e R s m args below meth c y code maxL ret vm T h locs cells slots) {C : String} {y' : MethodName} {index q : Nat} {bytes : ByteArray} {maxL' : Nat} {ret' : Option FieldType} {rm : Room} {as : Array Value} {Q : Option Value → Heap → (Addr → Prop) → Prop} (argsL : List Value) {a : Addr} {rest : List Value} (E : Exa Z h a C) (hC : Con l Z EL y' bytes maxL' ret' rm as h ss Q) (hss : ∀ x ∈ ss, x < h.size ∧ Safe Z EL vm h x)
    (w1 : (Jvm.Cond.methodLink y.cls index y').before a0 Z = true) (w2 : (Jvm.Cond.declares y').before a0 Z = true) (w3 : (Jvm.Cond.selects C y' y').before a0 Z = true) (w4 : (Jvm.Cond.instanceMethod y').before a0 Z = true) (w5 : (Jvm.Cond.code y' bytes maxL' ret').before a0 Z = true) (w6 : (Jvm.Cond.initialized y'.cls).before a0 Z = true) (hy : y'.cls ≠ "java/lang/invoke/MethodHandle" ∧ y'.cls ≠ "java/lang/invoke/VarHandle")
    (hd : decode code pc = .ok (.invokevirtual index, 3)) (has : (.ref a :: argsL).toArray = as) (hL : L.size = maxL) (hlen : ∀ sig, parseMethodDescriptor y'.desc = some sig → argsL.length = sig.parameters.length) (hS : S = argsL.reverse ++ .ref a :: rest) (hf : rm.frames + 1 ≤ R.frames) (hl : (rest.map fun v => v.category).sum + (maxL' + 11) + rm.locals ≤ R.locals) (hc : cells + rm.cells ≤ R.cells) (hs : slots + rm.slots ≤ R.slots) (hp : pc + 3 = q)
    (K : ∀ (v : Option Value) (vm' : Vm) (T' : State) (h' : Heap) (locs' : List Loc), On l Z EL p e R s m args below meth c y code maxL ret vm' T' h' locs' (cells + rm.cells) (slots + rm.slots) → CHr Z EL vm h vm' h' → Q v h' (Safe Z EL vm' h') → Goes p e below F T' (mkF m q L (v.toList ++ rest))) : Goes p e below F T (mkF m pc L S) := by
  subst hp hS has
  obtain ⟨cB, kB, q1, q2, q3⟩ := isOf (show Z.Warmed39 (s.setVm vm).vm from X.2.1.2.2.1) X.2.2.1 E
  obtain ⟨v, vm1, ⟨T', L1, k1, n1⟩, -, X', S', g', ⟨Lc, hQ, e2, e3, e4, R'⟩, st⟩ := X.1.virtualBackS X.2.1.1 (y := y') (z := y') X.2.1.2.2.2.1 (mvT (s := s.setVm vm) X.2.1.2.2.1 w1) (mvT (s := s.setVm vm) X.2.1.2.2.1 w2) (notFace_of_selects (args := #[]) (mvT (s := s.setVm vm) X.2.1.2.2.1 w3)) (mvT (s := s.setVm vm) X.2.1.2.2.1 w3) (mvT (s := s.setVm vm) X.2.1.2.2.1 w4) hy (Con.back X hC hss w5 w6 hf hl) q1 q3 (g := mkF m pc L (argsL.reverse ++ .ref a :: rest)) rfl (hL.trans X.2.1.2.2.2.2.2.2.2.symm) (Steps.refl _) hlen rfl (by show 2 * 0 + _ ≤ _; omega) (hb X.2.1.2.1 hd) (fun _ _ => ⟨rfl, X.2.2.1, hc, hs⟩)
  dsimp only [Pt.U, Pt.locs, Pt.cells, Pt.slots] at X' S' g' hQ e2 e3 e4 R' st
  subst e2 e3 e4
  exact Goes.step (fun _ k => st.trans k) (K v T'.vm T' T'.heap _ (X.laterV X' S' rfl rfl (Fr.app X.2.2.2.1 hQ.2.1) hQ.2.2 R') R' hQ.1)
theorem o_stat (X : On l Z EL p e R s m args below meth c y code maxL ret vm T h locs cells slots) {y' : MethodName} {index q : Nat} {bytes : ByteArray} {maxL' : Nat} {ret' : Option FieldType} {rm : Room} {as : Array Value} {Q : Option Value → Heap → (Addr → Prop) → Prop} (argsL : List Value) {rest : List Value} (hC : Con l Z EL y' bytes maxL' ret' rm as h ss Q) (hss : ∀ x ∈ ss, x < h.size ∧ Safe Z EL vm h x)
    (w1 : (Jvm.Cond.methodLink y.cls index y').before a0 Z = true) (w2 : (Jvm.Cond.static y').before a0 Z = true) (w3 : (Jvm.Cond.initialized y'.cls).before a0 Z = true) (w4 : (Jvm.Cond.code y' bytes maxL' ret').before a0 Z = true) (hy : y'.cls ≠ "java/lang/invoke/MethodHandle" ∧ y'.cls ≠ "java/lang/invoke/VarHandle")
    (hd : decode code pc = .ok (.invokestatic index, 3)) (has : argsL.toArray = as) (hL : L.size = maxL) (hlen : ∀ sig, parseMethodDescriptor y'.desc = some sig → argsL.length = sig.parameters.length) (hS : S = argsL.reverse ++ rest) (hf : rm.frames + 1 ≤ R.frames) (hl : (rest.map fun v => v.category).sum + (maxL' + 11) + rm.locals ≤ R.locals) (hc : cells + rm.cells ≤ R.cells) (hs : slots + rm.slots ≤ R.slots) (hp : pc + 3 = q)
    (K : ∀ (v : Option Value) (vm' : Vm) (T' : State) (h' : Heap) (locs' : List Loc), On l Z EL p e R s m args below meth c y code maxL ret vm' T' h' locs' (cells + rm.cells) (slots + rm.slots) → CHr Z EL vm h vm' h' → Q v h' (Safe Z EL vm' h') → Goes p e below F T' (mkF m q L (v.toList ++ rest))) : Goes p e below F T (mkF m pc L S) := by
  subst hp hS has
  obtain ⟨v, vm1, ⟨T', L1, k1, n1⟩, -, X', S', g', ⟨Lc, hQ, e2, e3, e4, R'⟩, st⟩ := callSS X.1 X.2.1.1 X.2.1.2.2.2.1 (mvT (s := s.setVm vm) X.2.1.2.2.1 w1) (mvT (s := s.setVm vm) X.2.1.2.2.1 w2) (mvT (s := s.setVm vm) X.2.1.2.2.1 w3) (mvT (s := s.setVm vm) X.2.1.2.2.1 w4) hy (Con.back X hC hss w4 w3 hf hl) (g := mkF m pc L (argsL.reverse ++ rest)) rfl (hL.trans X.2.1.2.2.2.2.2.2.2.symm) hlen rfl (by show 2 * 0 + _ ≤ _; omega) (hb X.2.1.2.1 hd) (fun _ _ => ⟨rfl, X.2.2.1, hc, hs⟩)
  dsimp only [Pt.U, Pt.locs, Pt.cells, Pt.slots] at X' S' g' hQ e2 e3 e4 R' st
  subst e2 e3 e4
  exact Goes.step (fun _ k => st.trans k) (K v T'.vm T' T'.heap _ (X.laterV X' S' rfl rfl (Fr.app X.2.2.2.1 hQ.2.1) hQ.2.2 R') R' hQ.1)
theorem o_specB (X : On l Z EL p e R s m args below meth c y code maxL ret vm T h locs cells slots) {y' : MethodName} {index W q : Nat} {bytes : ByteArray} {maxL' : Nat} {Q : Option Value → Heap → List Loc → Prop} {rc rs : Nat} {as : Array Value} {ws : List Addr} (argsL : List Value) {a : Addr} {rest : List Value}
    (hK : Back l R p e below (s.setVm vm) args y' 3 W (fun A b => b = as ∧ A.U.heap = h ∧ A.cells + rc ≤ R.cells ∧ A.slots + rs ≤ R.slots) (fun A _ v B => ∃ L, Q v B.U.heap L ∧ B.locs = A.locs ++ L ∧ B.cells = A.cells + rc ∧ B.slots = A.slots + rs))
    (hq : ∀ v h' L, Q v h' L → Fr Z.heap.size L ∧ Keep h h' ws) (hws : ∀ x ∈ ws, Z.heap.size ≤ x ∧ Safe Z EL vm h x)
    (hy1 : y'.name = "<init>") (w1 : (Jvm.Cond.methodLink y.cls index y').before a0 Z = true) (w2 : (Jvm.Cond.instanceMethod y').before a0 Z = true) (w3 : (Jvm.Cond.code y' bytes maxL' none).before a0 Z = true) (hy : y'.cls ≠ "java/lang/invoke/MethodHandle" ∧ y'.cls ≠ "java/lang/invoke/VarHandle")
    (hd : decode code pc = .ok (.invokespecial index, 3)) (has : (.ref a :: argsL).toArray = as) (hL : L.size = maxL) (hlen : ∀ sig, parseMethodDescriptor y'.desc = some sig → argsL.length = sig.parameters.length) (hS : S = argsL.reverse ++ .ref a :: rest) (hW : (rest.map fun v => v.category).sum ≤ W) (hc : cells + rc ≤ R.cells) (hs : slots + rs ≤ R.slots) (hp : pc + 3 = q)
    (K : ∀ (v : Option Value) (T' : State) (h' : Heap) (L' locs' : List Loc), On l Z EL p e R s m args below meth c y code maxL ret vm T' h' locs' (cells + rc) (slots + rs) → CHr Z EL vm h vm h' → Q v h' L' → Goes p e below F T' (mkF m q L (v.toList ++ rest))) : Goes p e below F T (mkF m pc L S) := by
  subst hp hS has
  obtain ⟨v, vm1, ⟨T', L1, k1, n1⟩, -, X', ⟨Lc, hQ, e2, e3, e4⟩, st⟩ := X.1.specialBack X.2.1.1 hy1 X.2.1.2.2.2.1 (mvT (s := s.setVm vm) X.2.1.2.2.1 w1) (mvT (s := s.setVm vm) X.2.1.2.2.1 w2) (mvT (s := s.setVm vm) X.2.1.2.2.1 w3) hy hK (g := mkF m pc L (argsL.reverse ++ .ref a :: rest)) rfl (hL.trans X.2.1.2.2.2.2.2.2.2.symm) (Steps.refl _) hlen rfl (by show 2 * 0 + _ ≤ _; omega) (hb X.2.1.2.1 hd) (fun _ _ => ⟨rfl, X.2.2.1, hc, hs⟩)
  dsimp only [Pt.U, Pt.locs, Pt.cells, Pt.slots] at X' hQ e2 e3 e4 st
  subst e2 e3 e4
  obtain ⟨f1, f2⟩ := hq _ _ _ hQ
  have R' : CHr Z EL vm h vm T'.heap := CHr.keep f2 (fun x hx => (hws x hx).2) X.chv
  exact Goes.step (fun _ k => st.trans k) (K v T' T'.heap Lc _ (X.later X' rfl (Fr.app X.2.2.2.1 f1) (ext_keep X.ext f2 fun x hx => (hws x hx).1) R') R' hQ)
theorem o_virtB (X : On l Z EL p e R s m args below meth c y code maxL ret vm T h locs cells slots) {C : String} {y' : MethodName} {index W q : Nat} {Q : Option Value → Heap → List Loc → Prop} {rc rs : Nat} {as : Array Value} {ws : List Addr} (argsL : List Value) {a : Addr} {rest : List Value} (E : Exa Z h a C)
    (hK : Back l R p e below (s.setVm vm) args y' 3 W (fun A b => b = as ∧ A.U.heap = h ∧ A.cells + rc ≤ R.cells ∧ A.slots + rs ≤ R.slots) (fun A _ v B => ∃ L, Q v B.U.heap L ∧ B.locs = A.locs ++ L ∧ B.cells = A.cells + rc ∧ B.slots = A.slots + rs))
    (hq : ∀ v h' L, Q v h' L → Fr Z.heap.size L ∧ Keep h h' ws) (hws : ∀ x ∈ ws, Z.heap.size ≤ x ∧ Safe Z EL vm h x)
    (w1 : (Jvm.Cond.methodLink y.cls index y').before a0 Z = true) (w2 : (Jvm.Cond.declares y').before a0 Z = true) (w3 : (Jvm.Cond.selects C y' y').before a0 Z = true) (w4 : (Jvm.Cond.instanceMethod y').before a0 Z = true) (hy : y'.cls ≠ "java/lang/invoke/MethodHandle" ∧ y'.cls ≠ "java/lang/invoke/VarHandle")
    (hd : decode code pc = .ok (.invokevirtual index, 3)) (has : (.ref a :: argsL).toArray = as) (hL : L.size = maxL) (hlen : ∀ sig, parseMethodDescriptor y'.desc = some sig → argsL.length = sig.parameters.length) (hS : S = argsL.reverse ++ .ref a :: rest) (hW : (rest.map fun v => v.category).sum ≤ W) (hc : cells + rc ≤ R.cells) (hs : slots + rs ≤ R.slots) (hp : pc + 3 = q)
    (K : ∀ (v : Option Value) (T' : State) (h' : Heap) (L' locs' : List Loc), On l Z EL p e R s m args below meth c y code maxL ret vm T' h' locs' (cells + rc) (slots + rs) → CHr Z EL vm h vm h' → Q v h' L' → Goes p e below F T' (mkF m q L (v.toList ++ rest))) : Goes p e below F T (mkF m pc L S) := by
  subst hp hS has
  obtain ⟨cB, kB, q1, q2, q3⟩ := isOf (show Z.Warmed39 (s.setVm vm).vm from X.2.1.2.2.1) X.2.2.1 E
  obtain ⟨v, vm1, ⟨T', L1, k1, n1⟩, -, X', ⟨Lc, hQ, e2, e3, e4⟩, st⟩ := X.1.virtualBack X.2.1.1 (y := y') (z := y') X.2.1.2.2.2.1 (mvT (s := s.setVm vm) X.2.1.2.2.1 w1) (mvT (s := s.setVm vm) X.2.1.2.2.1 w2) (notFace_of_selects (args := #[]) (mvT (s := s.setVm vm) X.2.1.2.2.1 w3)) (mvT (s := s.setVm vm) X.2.1.2.2.1 w3) (mvT (s := s.setVm vm) X.2.1.2.2.1 w4) hy hK q1 q3 (g := mkF m pc L (argsL.reverse ++ .ref a :: rest)) rfl (hL.trans X.2.1.2.2.2.2.2.2.2.symm) (Steps.refl _) hlen rfl (by show 2 * 0 + _ ≤ _; omega) (hb X.2.1.2.1 hd) (fun _ _ => ⟨rfl, X.2.2.1, hc, hs⟩)
  dsimp only [Pt.U, Pt.locs, Pt.cells, Pt.slots] at X' hQ e2 e3 e4 st
  subst e2 e3 e4
  obtain ⟨f1, f2⟩ := hq _ _ _ hQ
  have R' : CHr Z EL vm h vm T'.heap := CHr.keep f2 (fun x hx => (hws x hx).2) X.chv
  exact Goes.step (fun _ k => st.trans k) (K v T' T'.heap Lc _ (X.later X' rfl (Fr.app X.2.2.2.1 f1) (ext_keep X.ext f2 fun x hx => (hws x hx).1) R') R' hQ)
theorem o_statB (X : On l Z EL p e R s m args below meth c y code maxL ret vm T h locs cells slots) {y' : MethodName} {index W q : Nat} {bytes : ByteArray} {maxL' : Nat} {ret' : Option FieldType} {Q : Option Value → Heap → List Loc → Prop} {rc rs : Nat} {as : Array Value} {ws : List Addr} (argsL : List Value) {rest : List Value}
    (hK : Back l R p e below (s.setVm vm) args y' 3 W (fun A b => b = as ∧ A.U.heap = h ∧ A.cells + rc ≤ R.cells ∧ A.slots + rs ≤ R.slots) (fun A _ v B => ∃ L, Q v B.U.heap L ∧ B.locs = A.locs ++ L ∧ B.cells = A.cells + rc ∧ B.slots = A.slots + rs))
    (hq : ∀ v h' L, Q v h' L → Fr Z.heap.size L ∧ Keep h h' ws) (hws : ∀ x ∈ ws, Z.heap.size ≤ x ∧ Safe Z EL vm h x)
    (w1 : (Jvm.Cond.methodLink y.cls index y').before a0 Z = true) (w2 : (Jvm.Cond.static y').before a0 Z = true) (w3 : (Jvm.Cond.initialized y'.cls).before a0 Z = true) (w4 : (Jvm.Cond.code y' bytes maxL' ret').before a0 Z = true) (hy : y'.cls ≠ "java/lang/invoke/MethodHandle" ∧ y'.cls ≠ "java/lang/invoke/VarHandle")
    (hd : decode code pc = .ok (.invokestatic index, 3)) (has : argsL.toArray = as) (hL : L.size = maxL) (hlen : ∀ sig, parseMethodDescriptor y'.desc = some sig → argsL.length = sig.parameters.length) (hS : S = argsL.reverse ++ rest) (hW : (rest.map fun v => v.category).sum ≤ W) (hc : cells + rc ≤ R.cells) (hs : slots + rs ≤ R.slots) (hp : pc + 3 = q)
    (K : ∀ (v : Option Value) (T' : State) (h' : Heap) (L' locs' : List Loc), On l Z EL p e R s m args below meth c y code maxL ret vm T' h' locs' (cells + rc) (slots + rs) → CHr Z EL vm h vm h' → Q v h' L' → Goes p e below F T' (mkF m q L (v.toList ++ rest))) : Goes p e below F T (mkF m pc L S) := by
  subst hp hS has
  obtain ⟨v, vm1, ⟨T', L1, k1, n1⟩, -, X', ⟨Lc, hQ, e2, e3, e4⟩, st⟩ := Jvm.LawKit.callS X.1 X.2.1.1 X.2.1.2.2.2.1 (mvT (s := s.setVm vm) X.2.1.2.2.1 w1) (mvT (s := s.setVm vm) X.2.1.2.2.1 w2) (mvT (s := s.setVm vm) X.2.1.2.2.1 w3) (mvT (s := s.setVm vm) X.2.1.2.2.1 w4) hy hK (g := mkF m pc L (argsL.reverse ++ rest)) rfl (hL.trans X.2.1.2.2.2.2.2.2.2.symm) hlen rfl (by show 2 * 0 + _ ≤ _; omega) (hb X.2.1.2.1 hd) (fun _ _ => ⟨rfl, X.2.2.1, hc, hs⟩)
  dsimp only [Pt.U, Pt.locs, Pt.cells, Pt.slots] at X' hQ e2 e3 e4 st
  subst e2 e3 e4
  obtain ⟨f1, f2⟩ := hq _ _ _ hQ
  have R' : CHr Z EL vm h vm T'.heap := CHr.keep f2 (fun x hx => (hws x hx).2) X.chv
  exact Goes.step st (K v T' T'.heap Lc _ (X.later X' rfl (Fr.app X.2.2.2.1 f1) (ext_keep X.ext f2 fun x hx => (hws x hx).1) R') R' hQ)
end OwnKit
end Jvm.Pilot.@@N@@

namespace Jvm.Pilot.@@N@@
open Jvm Jvm.ClassFile Sem Op Lib Jvm.Free Jvm.Stand Jvm.LawKit Jvm.RoadKit Bundle Jvm.Pilot.@@N@@.Jvm.D
def W (a0 : Array Value) (Z : State) : Prop := ∀ d ∈ tables_1, d.before a0 Z = true
def EL0 : List (String × Nat) := [("java/lang/String", 7)]
theorem w0 {a0 : Array Value} {Z : State} (hw : W a0 Z) : (Jvm.Cond.methodLink "com/example/loadweir/loadweir/gateway/HostPortWithPortPinLaw" (16 : Nat) ({ cls := "com/example/loadweir/loadweir/gateway/HostPortWithPortPinLaw", name := "host", desc := "(IIII)Ljava/lang/String;" } : Jvm.MethodName)).before a0 Z = true := hw _ (List.mem_of_getElem? (i := 0) rfl)
theorem w1 {a0 : Array Value} {Z : State} (hw : W a0 Z) : (Jvm.Cond.static ({ cls := "com/example/loadweir/loadweir/gateway/HostPortWithPortPinLaw", name := "host", desc := "(IIII)Ljava/lang/String;" } : Jvm.MethodName)).before a0 Z = true := hw _ (List.mem_of_getElem? (i := 1) rfl)
theorem w2 {a0 : Array Value} {Z : State} (hw : W a0 Z) : (Jvm.Cond.initialized "com/example/loadweir/loadweir/gateway/HostPortWithPortPinLaw").before a0 Z = true := hw _ (List.mem_of_getElem? (i := 2) rfl)
theorem w3 {a0 : Array Value} {Z : State} (hw : W a0 Z) : (Jvm.Cond.code ({ cls := "com/example/loadweir/loadweir/gateway/HostPortWithPortPinLaw", name := "host", desc := "(IIII)Ljava/lang/String;" } : Jvm.MethodName) method_2_code (6 : Nat) (Option.some (Jvm.ClassFile.FieldType.object "java/lang/String"))).before a0 Z = true := hw _ (List.mem_of_getElem? (i := 3) rfl)
theorem w4 {a0 : Array Value} {Z : State} (hw : W a0 Z) : (Jvm.Cond.methodLink "com/example/loadweir/loadweir/gateway/HostPortWithPortPinLaw" (12 : Nat) ({ cls := "java/lang/String", name := "valueOf", desc := "(C)Ljava/lang/String;" } : Jvm.MethodName)).before a0 Z = true := hw _ (List.mem_of_getElem? (i := 4) rfl)
theorem w5 {a0 : Array Value} {Z : State} (hw : W a0 Z) : (Jvm.Cond.static ({ cls := "java/lang/String", name := "valueOf", desc := "(C)Ljava/lang/String;" } : Jvm.MethodName)).before a0 Z = true := hw _ (List.mem_of_getElem? (i := 5) rfl)
theorem w6 {a0 : Array Value} {Z : State} (hw : W a0 Z) : (Jvm.Cond.initialized "java/lang/String").before a0 Z = true := hw _ (List.mem_of_getElem? (i := 6) rfl)
theorem w7 {a0 : Array Value} {Z : State} (hw : W a0 Z) : (Jvm.Cond.code ({ cls := "java/lang/String", name := "valueOf", desc := "(C)Ljava/lang/String;" } : Jvm.MethodName) jdk_42_method_139_code (1 : Nat) (Option.some (Jvm.ClassFile.FieldType.object "java/lang/String"))).before a0 Z = true := hw _ (List.mem_of_getElem? (i := 7) rfl)
theorem w8 {a0 : Array Value} {Z : State} (hw : W a0 Z) : (Jvm.Cond.fieldLink "java/lang/String" (38 : Nat) "java/lang/String" "COMPACT_STRINGS" "Z").before a0 Z = true := hw _ (List.mem_of_getElem? (i := 8) rfl)
theorem w9 {a0 : Array Value} {Z : State} (hw : W a0 Z) : (Jvm.Cond.methodLink "java/lang/String" (1015 : Nat) ({ cls := "java/lang/StringLatin1", name := "canEncode", desc := "(C)Z" } : Jvm.MethodName)).before a0 Z = true := hw _ (List.mem_of_getElem? (i := 9) rfl)
theorem w10 {a0 : Array Value} {Z : State} (hw : W a0 Z) : (Jvm.Cond.static ({ cls := "java/lang/StringLatin1", name := "canEncode", desc := "(C)Z" } : Jvm.MethodName)).before a0 Z = true := hw _ (List.mem_of_getElem? (i := 10) rfl)
theorem w11 {a0 : Array Value} {Z : State} (hw : W a0 Z) : (Jvm.Cond.initialized "java/lang/StringLatin1").before a0 Z = true := hw _ (List.mem_of_getElem? (i := 11) rfl)
theorem w12 {a0 : Array Value} {Z : State} (hw : W a0 Z) : (Jvm.Cond.code ({ cls := "java/lang/StringLatin1", name := "canEncode", desc := "(C)Z" } : Jvm.MethodName) jdk_43_method_3_code (1 : Nat) (Option.some Jvm.ClassFile.FieldType.boolean)).before a0 Z = true := hw _ (List.mem_of_getElem? (i := 12) rfl)
theorem w13 {a0 : Array Value} {Z : State} (hw : W a0 Z) : (Jvm.Cond.classLink "java/lang/String" (10 : Nat) "java/lang/String").before a0 Z = true := hw _ (List.mem_of_getElem? (i := 13) rfl)
theorem w14 {a0 : Array Value} {Z : State} (hw : W a0 Z) : (Jvm.Cond.instantiable "java/lang/String" (4 : Nat)).before a0 Z = true := hw _ (List.mem_of_getElem? (i := 14) rfl)
theorem w15 {a0 : Array Value} {Z : State} (hw : W a0 Z) : (Jvm.Cond.methodLink "java/lang/String" (1018 : Nat) ({ cls := "java/lang/StringLatin1", name := "toBytes", desc := "(C)[B" } : Jvm.MethodName)).before a0 Z = true := hw _ (List.mem_of_getElem? (i := 15) rfl)
theorem w16 {a0 : Array Value} {Z : State} (hw : W a0 Z) : (Jvm.Cond.static ({ cls := "java/lang/StringLatin1", name := "toBytes", desc := "(C)[B" } : Jvm.MethodName)).before a0 Z = true := hw _ (List.mem_of_getElem? (i := 16) rfl)
theorem w17 {a0 : Array Value} {Z : State} (hw : W a0 Z) : (Jvm.Cond.code ({ cls := "java/lang/StringLatin1", name := "toBytes", desc := "(C)[B" } : Jvm.MethodName) jdk_43_method_46_code (1 : Nat) (Option.some (Jvm.ClassFile.FieldType.array Jvm.ClassFile.FieldType.byte))).before a0 Z = true := hw _ (List.mem_of_getElem? (i := 17) rfl)
theorem w18 {a0 : Array Value} {Z : State} (hw : W a0 Z) : (Jvm.Cond.arrayClass Jvm.ClassFile.FieldType.byte).before a0 Z = true := hw _ (List.mem_of_getElem? (i := 18) rfl)
theorem w19 {a0 : Array Value} {Z : State} (hw : W a0 Z) : (Jvm.Cond.methodLink "java/lang/String" (209 : Nat) ({ cls := "java/lang/String", name := "<init>", desc := "([BB)V" } : Jvm.MethodName)).before a0 Z = true := hw _ (List.mem_of_getElem? (i := 19) rfl)
theorem w20 {a0 : Array Value} {Z : State} (hw : W a0 Z) : (Jvm.Cond.instanceMethod ({ cls := "java/lang/String", name := "<init>", desc := "([BB)V" } : Jvm.MethodName)).before a0 Z = true := hw _ (List.mem_of_getElem? (i := 20) rfl)
theorem w22 {a0 : Array Value} {Z : State} (hw : W a0 Z) : (Jvm.Cond.code ({ cls := "java/lang/String", name := "<init>", desc := "([BB)V" } : Jvm.MethodName) jdk_42_method_151_code (3 : Nat) (Option.none : Option Jvm.ClassFile.FieldType)).before a0 Z = true := hw _ (List.mem_of_getElem? (i := 22) rfl)
theorem w23 {a0 : Array Value} {Z : State} (hw : W a0 Z) : (Jvm.Cond.methodLink "java/lang/String" (1 : Nat) ({ cls := "java/lang/Object", name := "<init>", desc := "()V" } : Jvm.MethodName)).before a0 Z = true := hw _ (List.mem_of_getElem? (i := 23) rfl)
theorem w24 {a0 : Array Value} {Z : State} (hw : W a0 Z) : (Jvm.Cond.instanceMethod ({ cls := "java/lang/Object", name := "<init>", desc := "()V" } : Jvm.MethodName)).before a0 Z = true := hw _ (List.mem_of_getElem? (i := 24) rfl)
theorem w25 {a0 : Array Value} {Z : State} (hw : W a0 Z) : (Jvm.Cond.code ({ cls := "java/lang/Object", name := "<init>", desc := "()V" } : Jvm.MethodName) object_method_1_code (1 : Nat) (Option.none : Option Jvm.ClassFile.FieldType)).before a0 Z = true := hw _ (List.mem_of_getElem? (i := 25) rfl)
theorem w26 {a0 : Array Value} {Z : State} (hw : W a0 Z) : (Jvm.Cond.fieldLink "java/lang/String" (9 : Nat) "java/lang/String" "value" "[B").before a0 Z = true := hw _ (List.mem_of_getElem? (i := 26) rfl)
theorem w27 {a0 : Array Value} {Z : State} (hw : W a0 Z) : (Jvm.Cond.laysFinal "java/lang/String" "java/lang/String" "value" "[B").before a0 Z = true := hw _ (List.mem_of_getElem? (i := 27) rfl)
theorem w28 {a0 : Array Value} {Z : State} (hw : W a0 Z) : (Jvm.Cond.fieldLink "java/lang/String" (15 : Nat) "java/lang/String" "coder" "B").before a0 Z = true := hw _ (List.mem_of_getElem? (i := 28) rfl)
theorem w29 {a0 : Array Value} {Z : State} (hw : W a0 Z) : (Jvm.Cond.laysFinal "java/lang/String" "java/lang/String" "coder" "B").before a0 Z = true := hw _ (List.mem_of_getElem? (i := 29) rfl)
theorem w30 {a0 : Array Value} {Z : State} (hw : W a0 Z) : (Jvm.Cond.classLink "com/example/loadweir/loadweir/gateway/HostPortWithPortPinLaw" (22 : Nat) "com/example/loadweir/loadweir/gateway/HostPort").before a0 Z = true := hw _ (List.mem_of_getElem? (i := 30) rfl)
theorem w31 {a0 : Array Value} {Z : State} (hw : W a0 Z) : (Jvm.Cond.instantiable "com/example/loadweir/loadweir/gateway/HostPort" (2 : Nat)).before a0 Z = true := hw _ (List.mem_of_getElem? (i := 31) rfl)
theorem w32 {a0 : Array Value} {Z : State} (hw : W a0 Z) : (Jvm.Cond.initialized "com/example/loadweir/loadweir/gateway/HostPort").before a0 Z = true := hw _ (List.mem_of_getElem? (i := 32) rfl)
theorem w33 {a0 : Array Value} {Z : State} (hw : W a0 Z) : (Jvm.Cond.methodLink "com/example/loadweir/loadweir/gateway/HostPortWithPortPinLaw" (24 : Nat) ({ cls := "com/example/loadweir/loadweir/gateway/HostPort", name := "<init>", desc := "(Ljava/lang/String;I)V" } : Jvm.MethodName)).before a0 Z = true := hw _ (List.mem_of_getElem? (i := 33) rfl)
theorem w34 {a0 : Array Value} {Z : State} (hw : W a0 Z) : (Jvm.Cond.instanceMethod ({ cls := "com/example/loadweir/loadweir/gateway/HostPort", name := "<init>", desc := "(Ljava/lang/String;I)V" } : Jvm.MethodName)).before a0 Z = true := hw _ (List.mem_of_getElem? (i := 34) rfl)
theorem w35 {a0 : Array Value} {Z : State} (hw : W a0 Z) : (Jvm.Cond.code ({ cls := "com/example/loadweir/loadweir/gateway/HostPort", name := "<init>", desc := "(Ljava/lang/String;I)V" } : Jvm.MethodName) prog_12_method_1_code (3 : Nat) (Option.none : Option Jvm.ClassFile.FieldType)).before a0 Z = true := hw _ (List.mem_of_getElem? (i := 35) rfl)
theorem w36 {a0 : Array Value} {Z : State} (hw : W a0 Z) : (Jvm.Cond.methodLink "com/example/loadweir/loadweir/gateway/HostPort" (1 : Nat) ({ cls := "java/lang/Record", name := "<init>", desc := "()V" } : Jvm.MethodName)).before a0 Z = true := hw _ (List.mem_of_getElem? (i := 36) rfl)
theorem w37 {a0 : Array Value} {Z : State} (hw : W a0 Z) : (Jvm.Cond.instanceMethod ({ cls := "java/lang/Record", name := "<init>", desc := "()V" } : Jvm.MethodName)).before a0 Z = true := hw _ (List.mem_of_getElem? (i := 37) rfl)
theorem w39 {a0 : Array Value} {Z : State} (hw : W a0 Z) : (Jvm.Cond.initialized "java/lang/Record").before a0 Z = true := hw _ (List.mem_of_getElem? (i := 39) rfl)
theorem w40 {a0 : Array Value} {Z : State} (hw : W a0 Z) : (Jvm.Cond.code ({ cls := "java/lang/Record", name := "<init>", desc := "()V" } : Jvm.MethodName) jdk_30_method_1_code (1 : Nat) (Option.none : Option Jvm.ClassFile.FieldType)).before a0 Z = true := hw _ (List.mem_of_getElem? (i := 40) rfl)
theorem w41 {a0 : Array Value} {Z : State} (hw : W a0 Z) : (Jvm.Cond.methodLink "java/lang/Record" (1 : Nat) ({ cls := "java/lang/Object", name := "<init>", desc := "()V" } : Jvm.MethodName)).before a0 Z = true := hw _ (List.mem_of_getElem? (i := 41) rfl)
theorem w42 {a0 : Array Value} {Z : State} (hw : W a0 Z) : (Jvm.Cond.fieldLink "com/example/loadweir/loadweir/gateway/HostPort" (7 : Nat) "com/example/loadweir/loadweir/gateway/HostPort" "host" "Ljava/lang/String;").before a0 Z = true := hw _ (List.mem_of_getElem? (i := 42) rfl)
theorem w43 {a0 : Array Value} {Z : State} (hw : W a0 Z) : (Jvm.Cond.laysFinal "com/example/loadweir/loadweir/gateway/HostPort" "com/example/loadweir/loadweir/gateway/HostPort" "host" "Ljava/lang/String;").before a0 Z = true := hw _ (List.mem_of_getElem? (i := 43) rfl)
theorem w44 {a0 : Array Value} {Z : State} (hw : W a0 Z) : (Jvm.Cond.fieldLink "com/example/loadweir/loadweir/gateway/HostPort" (13 : Nat) "com/example/loadweir/loadweir/gateway/HostPort" "port" "I").before a0 Z = true := hw _ (List.mem_of_getElem? (i := 44) rfl)
theorem w45 {a0 : Array Value} {Z : State} (hw : W a0 Z) : (Jvm.Cond.laysFinal "com/example/loadweir/loadweir/gateway/HostPort" "com/example/loadweir/loadweir/gateway/HostPort" "port" "I").before a0 Z = true := hw _ (List.mem_of_getElem? (i := 45) rfl)
theorem w46 {a0 : Array Value} {Z : State} (hw : W a0 Z) : (Jvm.Cond.methodLink "com/example/loadweir/loadweir/gateway/HostPortWithPortPinLaw" (27 : Nat) ({ cls := "com/example/loadweir/loadweir/gateway/HostPort", name := "withPort", desc := "(I)Lcom/example/loadweir/loadweir/gateway/HostPort;" } : Jvm.MethodName)).before a0 Z = true := hw _ (List.mem_of_getElem? (i := 46) rfl)
theorem w47 {a0 : Array Value} {Z : State} (hw : W a0 Z) : (Jvm.Cond.declares ({ cls := "com/example/loadweir/loadweir/gateway/HostPort", name := "withPort", desc := "(I)Lcom/example/loadweir/loadweir/gateway/HostPort;" } : Jvm.MethodName)).before a0 Z = true := hw _ (List.mem_of_getElem? (i := 47) rfl)
theorem w48 {a0 : Array Value} {Z : State} (hw : W a0 Z) : (Jvm.Cond.instanceMethod ({ cls := "com/example/loadweir/loadweir/gateway/HostPort", name := "withPort", desc := "(I)Lcom/example/loadweir/loadweir/gateway/HostPort;" } : Jvm.MethodName)).before a0 Z = true := hw _ (List.mem_of_getElem? (i := 48) rfl)
theorem w49 {a0 : Array Value} {Z : State} (hw : W a0 Z) : (Jvm.Cond.selects "com/example/loadweir/loadweir/gateway/HostPort" ({ cls := "com/example/loadweir/loadweir/gateway/HostPort", name := "withPort", desc := "(I)Lcom/example/loadweir/loadweir/gateway/HostPort;" } : Jvm.MethodName) ({ cls := "com/example/loadweir/loadweir/gateway/HostPort", name := "withPort", desc := "(I)Lcom/example/loadweir/loadweir/gateway/HostPort;" } : Jvm.MethodName)).before a0 Z = true := hw _ (List.mem_of_getElem? (i := 49) rfl)
theorem w50 {a0 : Array Value} {Z : State} (hw : W a0 Z) : (Jvm.Cond.code ({ cls := "com/example/loadweir/loadweir/gateway/HostPort", name := "withPort", desc := "(I)Lcom/example/loadweir/loadweir/gateway/HostPort;" } : Jvm.MethodName) prog_12_method_4_code (2 : Nat) (Option.some (Jvm.ClassFile.FieldType.object "com/example/loadweir/loadweir/gateway/HostPort"))).before a0 Z = true := hw _ (List.mem_of_getElem? (i := 50) rfl)
theorem w51 {a0 : Array Value} {Z : State} (hw : W a0 Z) : (Jvm.Cond.classLink "com/example/loadweir/loadweir/gateway/HostPort" (8 : Nat) "com/example/loadweir/loadweir/gateway/HostPort").before a0 Z = true := hw _ (List.mem_of_getElem? (i := 51) rfl)
theorem w52 {a0 : Array Value} {Z : State} (hw : W a0 Z) : (Jvm.Cond.methodLink "com/example/loadweir/loadweir/gateway/HostPort" (89 : Nat) ({ cls := "com/example/loadweir/loadweir/gateway/HostPort", name := "<init>", desc := "(Ljava/lang/String;I)V" } : Jvm.MethodName)).before a0 Z = true := hw _ (List.mem_of_getElem? (i := 52) rfl)
theorem w53 {a0 : Array Value} {Z : State} (hw : W a0 Z) : (Jvm.Cond.methodLink "com/example/loadweir/loadweir/gateway/HostPortWithPortPinLaw" (31 : Nat) ({ cls := "com/example/loadweir/loadweir/gateway/HostPort", name := "port", desc := "()I" } : Jvm.MethodName)).before a0 Z = true := hw _ (List.mem_of_getElem? (i := 53) rfl)
theorem w54 {a0 : Array Value} {Z : State} (hw : W a0 Z) : (Jvm.Cond.declares ({ cls := "com/example/loadweir/loadweir/gateway/HostPort", name := "port", desc := "()I" } : Jvm.MethodName)).before a0 Z = true := hw _ (List.mem_of_getElem? (i := 54) rfl)
theorem w55 {a0 : Array Value} {Z : State} (hw : W a0 Z) : (Jvm.Cond.instanceMethod ({ cls := "com/example/loadweir/loadweir/gateway/HostPort", name := "port", desc := "()I" } : Jvm.MethodName)).before a0 Z = true := hw _ (List.mem_of_getElem? (i := 55) rfl)
theorem w56 {a0 : Array Value} {Z : State} (hw : W a0 Z) : (Jvm.Cond.selects "com/example/loadweir/loadweir/gateway/HostPort" ({ cls := "com/example/loadweir/loadweir/gateway/HostPort", name := "port", desc := "()I" } : Jvm.MethodName) ({ cls := "com/example/loadweir/loadweir/gateway/HostPort", name := "port", desc := "()I" } : Jvm.MethodName)).before a0 Z = true := hw _ (List.mem_of_getElem? (i := 56) rfl)
theorem w57 {a0 : Array Value} {Z : State} (hw : W a0 Z) : (Jvm.Cond.code ({ cls := "com/example/loadweir/loadweir/gateway/HostPort", name := "port", desc := "()I" } : Jvm.MethodName) prog_12_method_9_code (1 : Nat) (Option.some Jvm.ClassFile.FieldType.int)).before a0 Z = true := hw _ (List.mem_of_getElem? (i := 57) rfl)
theorem w58 {a0 : Array Value} {Z : State} (hw : W a0 Z) : (Jvm.Cond.methodLink "com/example/loadweir/loadweir/gateway/HostPortWithPortPinLaw" (35 : Nat) ({ cls := "com/example/loadweir/loadweir/gateway/HostPort", name := "host", desc := "()Ljava/lang/String;" } : Jvm.MethodName)).before a0 Z = true := hw _ (List.mem_of_getElem? (i := 58) rfl)
theorem w59 {a0 : Array Value} {Z : State} (hw : W a0 Z) : (Jvm.Cond.declares ({ cls := "com/example/loadweir/loadweir/gateway/HostPort", name := "host", desc := "()Ljava/lang/String;" } : Jvm.MethodName)).before a0 Z = true := hw _ (List.mem_of_getElem? (i := 59) rfl)
theorem w60 {a0 : Array Value} {Z : State} (hw : W a0 Z) : (Jvm.Cond.instanceMethod ({ cls := "com/example/loadweir/loadweir/gateway/HostPort", name := "host", desc := "()Ljava/lang/String;" } : Jvm.MethodName)).before a0 Z = true := hw _ (List.mem_of_getElem? (i := 60) rfl)
theorem w61 {a0 : Array Value} {Z : State} (hw : W a0 Z) : (Jvm.Cond.selects "com/example/loadweir/loadweir/gateway/HostPort" ({ cls := "com/example/loadweir/loadweir/gateway/HostPort", name := "host", desc := "()Ljava/lang/String;" } : Jvm.MethodName) ({ cls := "com/example/loadweir/loadweir/gateway/HostPort", name := "host", desc := "()Ljava/lang/String;" } : Jvm.MethodName)).before a0 Z = true := hw _ (List.mem_of_getElem? (i := 61) rfl)
theorem w62 {a0 : Array Value} {Z : State} (hw : W a0 Z) : (Jvm.Cond.code ({ cls := "com/example/loadweir/loadweir/gateway/HostPort", name := "host", desc := "()Ljava/lang/String;" } : Jvm.MethodName) prog_12_method_8_code (1 : Nat) (Option.some (Jvm.ClassFile.FieldType.object "java/lang/String"))).before a0 Z = true := hw _ (List.mem_of_getElem? (i := 62) rfl)
theorem w63 {a0 : Array Value} {Z : State} (hw : W a0 Z) : (Jvm.Cond.methodLink "com/example/loadweir/loadweir/gateway/HostPortWithPortPinLaw" (38 : Nat) ({ cls := "java/lang/String", name := "equals", desc := "(Ljava/lang/Object;)Z" } : Jvm.MethodName)).before a0 Z = true := hw _ (List.mem_of_getElem? (i := 63) rfl)
theorem w64 {a0 : Array Value} {Z : State} (hw : W a0 Z) : (Jvm.Cond.declares ({ cls := "java/lang/String", name := "equals", desc := "(Ljava/lang/Object;)Z" } : Jvm.MethodName)).before a0 Z = true := hw _ (List.mem_of_getElem? (i := 64) rfl)
theorem w65 {a0 : Array Value} {Z : State} (hw : W a0 Z) : (Jvm.Cond.instanceMethod ({ cls := "java/lang/String", name := "equals", desc := "(Ljava/lang/Object;)Z" } : Jvm.MethodName)).before a0 Z = true := hw _ (List.mem_of_getElem? (i := 65) rfl)
theorem w66 {a0 : Array Value} {Z : State} (hw : W a0 Z) : (Jvm.Cond.selects "java/lang/String" ({ cls := "java/lang/String", name := "equals", desc := "(Ljava/lang/Object;)Z" } : Jvm.MethodName) ({ cls := "java/lang/String", name := "equals", desc := "(Ljava/lang/Object;)Z" } : Jvm.MethodName)).before a0 Z = true := hw _ (List.mem_of_getElem? (i := 66) rfl)
theorem w67 {a0 : Array Value} {Z : State} (hw : W a0 Z) : (Jvm.Cond.code ({ cls := "java/lang/String", name := "equals", desc := "(Ljava/lang/Object;)Z" } : Jvm.MethodName) jdk_42_method_66_code (3 : Nat) (Option.some Jvm.ClassFile.FieldType.boolean)).before a0 Z = true := hw _ (List.mem_of_getElem? (i := 67) rfl)
theorem w68 {a0 : Array Value} {Z : State} (hw : W a0 Z) : (Jvm.Cond.arrayClass Jvm.ClassFile.FieldType.char).before a0 Z = true := hw _ (List.mem_of_getElem? (i := 68) rfl)
theorem w69 {a0 : Array Value} {Z : State} (hw : W a0 Z) : (Jvm.Cond.classLink "com/example/loadweir/loadweir/gateway/HostPortWithPortPinLaw" (7 : Nat) "java/lang/String").before a0 Z = true := hw _ (List.mem_of_getElem? (i := 69) rfl)
theorem w70 {a0 : Array Value} {Z : State} (hw : W a0 Z) : (Jvm.Cond.methodLink "com/example/loadweir/loadweir/gateway/HostPortWithPortPinLaw" (9 : Nat) ({ cls := "java/lang/String", name := "<init>", desc := "([C)V" } : Jvm.MethodName)).before a0 Z = true := hw _ (List.mem_of_getElem? (i := 70) rfl)
theorem w71 {a0 : Array Value} {Z : State} (hw : W a0 Z) : (Jvm.Cond.instanceMethod ({ cls := "java/lang/String", name := "<init>", desc := "([C)V" } : Jvm.MethodName)).before a0 Z = true := hw _ (List.mem_of_getElem? (i := 71) rfl)
theorem w72 {a0 : Array Value} {Z : State} (hw : W a0 Z) : (Jvm.Cond.code ({ cls := "java/lang/String", name := "<init>", desc := "([C)V" } : Jvm.MethodName) jdk_42_method_3_code (2 : Nat) (Option.none : Option Jvm.ClassFile.FieldType)).before a0 Z = true := hw _ (List.mem_of_getElem? (i := 72) rfl)
theorem w73 {a0 : Array Value} {Z : State} (hw : W a0 Z) : (Jvm.Cond.methodLink "java/lang/String" (27 : Nat) ({ cls := "java/lang/String", name := "<init>", desc := "([CIILjava/lang/Void;)V" } : Jvm.MethodName)).before a0 Z = true := hw _ (List.mem_of_getElem? (i := 73) rfl)
theorem w74 {a0 : Array Value} {Z : State} (hw : W a0 Z) : (Jvm.Cond.instanceMethod ({ cls := "java/lang/String", name := "<init>", desc := "([CIILjava/lang/Void;)V" } : Jvm.MethodName)).before a0 Z = true := hw _ (List.mem_of_getElem? (i := 74) rfl)
theorem w75 {a0 : Array Value} {Z : State} (hw : W a0 Z) : (Jvm.Cond.code ({ cls := "java/lang/String", name := "<init>", desc := "([CIILjava/lang/Void;)V" } : Jvm.MethodName) jdk_42_method_149_code (6 : Nat) (Option.none : Option Jvm.ClassFile.FieldType)).before a0 Z = true := hw _ (List.mem_of_getElem? (i := 75) rfl)
theorem w86 {a0 : Array Value} {Z : State} (hw : W a0 Z) : (Jvm.Cond.stringLink "java/lang/String" (7 : Nat) "").before a0 Z = true := hw _ (List.mem_of_getElem? (i := 86) rfl)
theorem d_jdk_43_method_3_0 : decode jdk_43_method_3_code 0 = .ok (.iload_n 0, 1) := by decide +kernel
theorem d_jdk_43_method_3_1 : decode jdk_43_method_3_code 1 = .ok (.sipush 255, 3) := by decide +kernel
theorem d_jdk_43_method_3_4 : decode jdk_43_method_3_code 4 = .ok (.if_icmp .gt 7, 3) := by decide +kernel
theorem d_jdk_43_method_3_7 : decode jdk_43_method_3_code 7 = .ok (.iconst 1, 1) := by decide +kernel
theorem d_jdk_43_method_3_8 : decode jdk_43_method_3_code 8 = .ok (.goto 4, 3) := by decide +kernel
theorem d_jdk_43_method_3_12 : decode jdk_43_method_3_code 12 = .ok (.ireturn, 1) := by decide +kernel
theorem d_jdk_43_method_46_0 : decode jdk_43_method_46_code 0 = .ok (.iconst 1, 1) := by decide +kernel
theorem d_jdk_43_method_46_1 : decode jdk_43_method_46_code 1 = .ok (.newarray .byte, 2) := by decide +kernel
theorem d_jdk_43_method_46_3 : decode jdk_43_method_46_code 3 = .ok (.dup, 1) := by decide +kernel
theorem d_jdk_43_method_46_4 : decode jdk_43_method_46_code 4 = .ok (.iconst 0, 1) := by decide +kernel
theorem d_jdk_43_method_46_5 : decode jdk_43_method_46_code 5 = .ok (.iload_n 0, 1) := by decide +kernel
theorem d_jdk_43_method_46_6 : decode jdk_43_method_46_code 6 = .ok (.i2b, 1) := by decide +kernel
theorem d_jdk_43_method_46_7 : decode jdk_43_method_46_code 7 = .ok (.bastore, 1) := by decide +kernel
theorem d_jdk_43_method_46_8 : decode jdk_43_method_46_code 8 = .ok (.areturn, 1) := by decide +kernel
theorem d_jdk_42_method_151_0 : decode jdk_42_method_151_code 0 = .ok (.aload_n 0, 1) := by decide +kernel
theorem d_jdk_42_method_151_1 : decode jdk_42_method_151_code 1 = .ok (.invokespecial 1, 3) := by decide +kernel
theorem d_jdk_42_method_151_4 : decode jdk_42_method_151_code 4 = .ok (.aload_n 0, 1) := by decide +kernel
theorem d_jdk_42_method_151_5 : decode jdk_42_method_151_code 5 = .ok (.aload_n 1, 1) := by decide +kernel
theorem d_jdk_42_method_151_6 : decode jdk_42_method_151_code 6 = .ok (.putfield 9, 3) := by decide +kernel
theorem d_jdk_42_method_151_9 : decode jdk_42_method_151_code 9 = .ok (.aload_n 0, 1) := by decide +kernel
theorem d_jdk_42_method_151_10 : decode jdk_42_method_151_code 10 = .ok (.iload_n 2, 1) := by decide +kernel
theorem d_jdk_42_method_151_11 : decode jdk_42_method_151_code 11 = .ok (.putfield 15, 3) := by decide +kernel
theorem d_jdk_42_method_151_14 : decode jdk_42_method_151_code 14 = .ok (.return_, 1) := by decide +kernel
theorem d_jdk_42_method_139_0 : decode jdk_42_method_139_code 0 = .ok (.getstatic 38, 3) := by decide +kernel
theorem d_jdk_42_method_139_3 : decode jdk_42_method_139_code 3 = .ok (.ifCond .eq 23, 3) := by decide +kernel
theorem d_jdk_42_method_139_6 : decode jdk_42_method_139_code 6 = .ok (.iload_n 0, 1) := by decide +kernel
theorem d_jdk_42_method_139_7 : decode jdk_42_method_139_code 7 = .ok (.invokestatic 1015, 3) := by decide +kernel
theorem d_jdk_42_method_139_10 : decode jdk_42_method_139_code 10 = .ok (.ifCond .eq 16, 3) := by decide +kernel
theorem d_jdk_42_method_139_13 : decode jdk_42_method_139_code 13 = .ok (.new 10, 3) := by decide +kernel
theorem d_jdk_42_method_139_16 : decode jdk_42_method_139_code 16 = .ok (.dup, 1) := by decide +kernel
theorem d_jdk_42_method_139_17 : decode jdk_42_method_139_code 17 = .ok (.iload_n 0, 1) := by decide +kernel
theorem d_jdk_42_method_139_18 : decode jdk_42_method_139_code 18 = .ok (.invokestatic 1018, 3) := by decide +kernel
theorem d_jdk_42_method_139_21 : decode jdk_42_method_139_code 21 = .ok (.iconst 0, 1) := by decide +kernel
theorem d_jdk_42_method_139_22 : decode jdk_42_method_139_code 22 = .ok (.invokespecial 209, 3) := by decide +kernel
theorem d_jdk_42_method_139_25 : decode jdk_42_method_139_code 25 = .ok (.areturn, 1) := by decide +kernel
theorem d_jdk_42_method_149_0 : decode jdk_42_method_149_code 0 = .ok (.aload_n 0, 1) := by decide +kernel
theorem d_jdk_42_method_149_1 : decode jdk_42_method_149_code 1 = .ok (.invokespecial 1, 3) := by decide +kernel
theorem d_jdk_42_method_149_4 : decode jdk_42_method_149_code 4 = .ok (.iload_n 3, 1) := by decide +kernel
theorem d_jdk_42_method_149_5 : decode jdk_42_method_149_code 5 = .ok (.ifCond .ne 22, 3) := by decide +kernel
theorem d_jdk_42_method_149_8 : decode jdk_42_method_149_code 8 = .ok (.aload_n 0, 1) := by decide +kernel
theorem d_jdk_42_method_149_9 : decode jdk_42_method_149_code 9 = .ok (.ldc 7, 2) := by decide +kernel
theorem d_jdk_42_method_149_11 : decode jdk_42_method_149_code 11 = .ok (.getfield 9, 3) := by decide +kernel
theorem d_jdk_42_method_149_14 : decode jdk_42_method_149_code 14 = .ok (.putfield 9, 3) := by decide +kernel
theorem d_jdk_42_method_149_17 : decode jdk_42_method_149_code 17 = .ok (.aload_n 0, 1) := by decide +kernel
theorem d_jdk_42_method_149_18 : decode jdk_42_method_149_code 18 = .ok (.ldc 7, 2) := by decide +kernel
theorem d_jdk_42_method_149_20 : decode jdk_42_method_149_code 20 = .ok (.getfield 15, 3) := by decide +kernel
theorem d_jdk_42_method_149_23 : decode jdk_42_method_149_code 23 = .ok (.putfield 15, 3) := by decide +kernel
theorem d_jdk_42_method_149_26 : decode jdk_42_method_149_code 26 = .ok (.return_, 1) := by decide +kernel
theorem d_jdk_42_method_3_0 : decode jdk_42_method_3_code 0 = .ok (.aload_n 0, 1) := by decide +kernel
theorem d_jdk_42_method_3_1 : decode jdk_42_method_3_code 1 = .ok (.aload_n 1, 1) := by decide +kernel
theorem d_jdk_42_method_3_2 : decode jdk_42_method_3_code 2 = .ok (.iconst 0, 1) := by decide +kernel
theorem d_jdk_42_method_3_3 : decode jdk_42_method_3_code 3 = .ok (.aload_n 1, 1) := by decide +kernel
theorem d_jdk_42_method_3_4 : decode jdk_42_method_3_code 4 = .ok (.arraylength, 1) := by decide +kernel
theorem d_jdk_42_method_3_5 : decode jdk_42_method_3_code 5 = .ok (.aconst_null, 1) := by decide +kernel
theorem d_jdk_42_method_3_6 : decode jdk_42_method_3_code 6 = .ok (.invokespecial 27, 3) := by decide +kernel
theorem d_jdk_42_method_3_9 : decode jdk_42_method_3_code 9 = .ok (.return_, 1) := by decide +kernel
theorem d_method_2_0 : decode method_2_code 0 = .ok (.iload_n 3, 1) := by decide +kernel
theorem d_method_2_1 : decode method_2_code 1 = .ok (.iconst 3, 1) := by decide +kernel
theorem d_method_2_2 : decode method_2_code 2 = .ok (.iand, 1) := by decide +kernel
theorem d_method_2_3 : decode method_2_code 3 = .ok (.istore 4, 2) := by decide +kernel
theorem d_method_2_5 : decode method_2_code 5 = .ok (.iload 4, 2) := by decide +kernel
theorem d_method_2_7 : decode method_2_code 7 = .ok (.ifCond .ne 14, 3) := by decide +kernel
theorem d_method_2_10 : decode method_2_code 10 = .ok (.new 7, 3) := by decide +kernel
theorem d_method_2_13 : decode method_2_code 13 = .ok (.dup, 1) := by decide +kernel
theorem d_method_2_14 : decode method_2_code 14 = .ok (.iconst 0, 1) := by decide +kernel
theorem d_method_2_15 : decode method_2_code 15 = .ok (.newarray .char, 2) := by decide +kernel
theorem d_method_2_17 : decode method_2_code 17 = .ok (.invokespecial 9, 3) := by decide +kernel
theorem d_method_2_20 : decode method_2_code 20 = .ok (.areturn, 1) := by decide +kernel
theorem d_method_2_21 : decode method_2_code 21 = .ok (.iload 4, 2) := by decide +kernel
theorem d_method_2_23 : decode method_2_code 23 = .ok (.iconst 1, 1) := by decide +kernel
theorem d_method_2_24 : decode method_2_code 24 = .ok (.if_icmp .ne 13, 3) := by decide +kernel
theorem d_method_2_27 : decode method_2_code 27 = .ok (.iload_n 0, 1) := by decide +kernel
theorem d_method_2_28 : decode method_2_code 28 = .ok (.sipush 255, 3) := by decide +kernel
theorem d_method_2_31 : decode method_2_code 31 = .ok (.iand, 1) := by decide +kernel
theorem d_method_2_32 : decode method_2_code 32 = .ok (.i2c, 1) := by decide +kernel
theorem d_method_2_33 : decode method_2_code 33 = .ok (.invokestatic 12, 3) := by decide +kernel
theorem d_method_2_36 : decode method_2_code 36 = .ok (.areturn, 1) := by decide +kernel
theorem d_method_2_37 : decode method_2_code 37 = .ok (.iconst 3, 1) := by decide +kernel
theorem d_method_2_38 : decode method_2_code 38 = .ok (.newarray .char, 2) := by decide +kernel
theorem d_method_2_40 : decode method_2_code 40 = .ok (.astore 5, 2) := by decide +kernel
theorem d_method_2_42 : decode method_2_code 42 = .ok (.aload 5, 2) := by decide +kernel
theorem d_method_2_44 : decode method_2_code 44 = .ok (.iconst 0, 1) := by decide +kernel
theorem d_method_2_45 : decode method_2_code 45 = .ok (.iload_n 0, 1) := by decide +kernel
theorem d_method_2_46 : decode method_2_code 46 = .ok (.sipush 255, 3) := by decide +kernel
theorem d_method_2_49 : decode method_2_code 49 = .ok (.iand, 1) := by decide +kernel
theorem d_method_2_50 : decode method_2_code 50 = .ok (.i2c, 1) := by decide +kernel
theorem d_method_2_51 : decode method_2_code 51 = .ok (.castore, 1) := by decide +kernel
theorem d_method_2_52 : decode method_2_code 52 = .ok (.aload 5, 2) := by decide +kernel
theorem d_method_2_54 : decode method_2_code 54 = .ok (.iconst 1, 1) := by decide +kernel
theorem d_method_2_55 : decode method_2_code 55 = .ok (.iload_n 1, 1) := by decide +kernel
theorem d_method_2_56 : decode method_2_code 56 = .ok (.sipush 255, 3) := by decide +kernel
theorem d_method_2_59 : decode method_2_code 59 = .ok (.iand, 1) := by decide +kernel
theorem d_method_2_60 : decode method_2_code 60 = .ok (.i2c, 1) := by decide +kernel
theorem d_method_2_61 : decode method_2_code 61 = .ok (.castore, 1) := by decide +kernel
theorem d_method_2_62 : decode method_2_code 62 = .ok (.aload 5, 2) := by decide +kernel
theorem d_method_2_64 : decode method_2_code 64 = .ok (.iconst 2, 1) := by decide +kernel
theorem d_method_2_65 : decode method_2_code 65 = .ok (.iload_n 2, 1) := by decide +kernel
theorem d_method_2_66 : decode method_2_code 66 = .ok (.sipush 255, 3) := by decide +kernel
theorem d_method_2_69 : decode method_2_code 69 = .ok (.iand, 1) := by decide +kernel
theorem d_method_2_70 : decode method_2_code 70 = .ok (.i2c, 1) := by decide +kernel
theorem d_method_2_71 : decode method_2_code 71 = .ok (.castore, 1) := by decide +kernel
theorem d_method_2_72 : decode method_2_code 72 = .ok (.iload 4, 2) := by decide +kernel
theorem d_method_2_74 : decode method_2_code 74 = .ok (.iconst 2, 1) := by decide +kernel
theorem d_method_2_75 : decode method_2_code 75 = .ok (.if_icmp .ne 9, 3) := by decide +kernel
theorem d_method_2_78 : decode method_2_code 78 = .ok (.aload 5, 2) := by decide +kernel
theorem d_method_2_80 : decode method_2_code 80 = .ok (.iconst 1, 1) := by decide +kernel
theorem d_method_2_81 : decode method_2_code 81 = .ok (.bipush 58, 2) := by decide +kernel
theorem d_method_2_83 : decode method_2_code 83 = .ok (.castore, 1) := by decide +kernel
theorem d_method_2_84 : decode method_2_code 84 = .ok (.new 7, 3) := by decide +kernel
theorem d_method_2_87 : decode method_2_code 87 = .ok (.dup, 1) := by decide +kernel
theorem d_method_2_88 : decode method_2_code 88 = .ok (.aload 5, 2) := by decide +kernel
theorem d_method_2_90 : decode method_2_code 90 = .ok (.invokespecial 9, 3) := by decide +kernel
theorem d_method_2_93 : decode method_2_code 93 = .ok (.areturn, 1) := by decide +kernel
theorem d_jdk_30_method_1_0 : decode jdk_30_method_1_code 0 = .ok (.aload_n 0, 1) := by decide +kernel
theorem d_jdk_30_method_1_1 : decode jdk_30_method_1_code 1 = .ok (.invokespecial 1, 3) := by decide +kernel
theorem d_jdk_30_method_1_4 : decode jdk_30_method_1_code 4 = .ok (.return_, 1) := by decide +kernel
theorem d_prog_12_method_1_0 : decode prog_12_method_1_code 0 = .ok (.aload_n 0, 1) := by decide +kernel
theorem d_prog_12_method_1_1 : decode prog_12_method_1_code 1 = .ok (.invokespecial 1, 3) := by decide +kernel
theorem d_prog_12_method_1_4 : decode prog_12_method_1_code 4 = .ok (.aload_n 0, 1) := by decide +kernel
theorem d_prog_12_method_1_5 : decode prog_12_method_1_code 5 = .ok (.aload_n 1, 1) := by decide +kernel
theorem d_prog_12_method_1_6 : decode prog_12_method_1_code 6 = .ok (.putfield 7, 3) := by decide +kernel
theorem d_prog_12_method_1_9 : decode prog_12_method_1_code 9 = .ok (.aload_n 0, 1) := by decide +kernel
theorem d_prog_12_method_1_10 : decode prog_12_method_1_code 10 = .ok (.iload_n 2, 1) := by decide +kernel
theorem d_prog_12_method_1_11 : decode prog_12_method_1_code 11 = .ok (.putfield 13, 3) := by decide +kernel
theorem d_prog_12_method_1_14 : decode prog_12_method_1_code 14 = .ok (.return_, 1) := by decide +kernel
theorem d_prog_12_method_4_0 : decode prog_12_method_4_code 0 = .ok (.new 8, 3) := by decide +kernel
theorem d_prog_12_method_4_3 : decode prog_12_method_4_code 3 = .ok (.dup, 1) := by decide +kernel
theorem d_prog_12_method_4_4 : decode prog_12_method_4_code 4 = .ok (.aload_n 0, 1) := by decide +kernel
theorem d_prog_12_method_4_5 : decode prog_12_method_4_code 5 = .ok (.getfield 7, 3) := by decide +kernel
theorem d_prog_12_method_4_8 : decode prog_12_method_4_code 8 = .ok (.iload_n 1, 1) := by decide +kernel
theorem d_prog_12_method_4_9 : decode prog_12_method_4_code 9 = .ok (.invokespecial 89, 3) := by decide +kernel
theorem d_prog_12_method_4_12 : decode prog_12_method_4_code 12 = .ok (.areturn, 1) := by decide +kernel
theorem d_prog_12_method_9_0 : decode prog_12_method_9_code 0 = .ok (.aload_n 0, 1) := by decide +kernel
theorem d_prog_12_method_9_1 : decode prog_12_method_9_code 1 = .ok (.getfield 13, 3) := by decide +kernel
theorem d_prog_12_method_9_4 : decode prog_12_method_9_code 4 = .ok (.ireturn, 1) := by decide +kernel
theorem d_prog_12_method_8_0 : decode prog_12_method_8_code 0 = .ok (.aload_n 0, 1) := by decide +kernel
theorem d_prog_12_method_8_1 : decode prog_12_method_8_code 1 = .ok (.getfield 7, 3) := by decide +kernel
theorem d_prog_12_method_8_4 : decode prog_12_method_8_code 4 = .ok (.areturn, 1) := by decide +kernel
theorem d_jdk_42_method_66_0 : decode jdk_42_method_66_code 0 = .ok (.aload_n 0, 1) := by decide +kernel
theorem d_jdk_42_method_66_1 : decode jdk_42_method_66_code 1 = .ok (.aload_n 1, 1) := by decide +kernel
theorem d_jdk_42_method_66_2 : decode jdk_42_method_66_code 2 = .ok (.if_acmp .ne 5, 3) := by decide +kernel
theorem d_jdk_42_method_66_5 : decode jdk_42_method_66_code 5 = .ok (.iconst 1, 1) := by decide +kernel
theorem d_jdk_42_method_66_6 : decode jdk_42_method_66_code 6 = .ok (.ireturn, 1) := by decide +kernel
theorem pd0 : parseMethodDescriptor "(C)Z" = some ⟨[.char], some .boolean⟩ := by decide +kernel
theorem pd1 : parseMethodDescriptor "(C)[B" = some ⟨[.char], some (.array .byte)⟩ := by decide +kernel
theorem pd2 : parseMethodDescriptor "([BB)V" = some ⟨[(.array .byte), .byte], none⟩ := by decide +kernel
theorem pd3 : parseMethodDescriptor "([CIILjava/lang/Void;)V" = some ⟨[(.array .char), .int, .int, (.object "java/lang/Void")], none⟩ := by decide +kernel
theorem pd4 : parseMethodDescriptor "([C)V" = some ⟨[(.array .char)], none⟩ := by decide +kernel
theorem pd5 : parseMethodDescriptor "(C)Ljava/lang/String;" = some ⟨[.char], some (.object "java/lang/String")⟩ := by decide +kernel
theorem pd6 : parseMethodDescriptor "()V" = some ⟨[], none⟩ := by decide +kernel
theorem pd7 : parseMethodDescriptor "(Ljava/lang/String;I)V" = some ⟨[(.object "java/lang/String"), .int], none⟩ := by decide +kernel
theorem pd8 : parseMethodDescriptor "(IIII)Ljava/lang/String;" = some ⟨[.int, .int, .int, .int], some (.object "java/lang/String")⟩ := by decide +kernel
theorem pd9 : parseMethodDescriptor "(I)Lcom/example/loadweir/loadweir/gateway/HostPort;" = some ⟨[.int], some (.object "com/example/loadweir/loadweir/gateway/HostPort")⟩ := by decide +kernel
theorem pd10 : parseMethodDescriptor "()I" = some ⟨[], some .int⟩ := by decide +kernel
theorem pd11 : parseMethodDescriptor "()Ljava/lang/String;" = some ⟨[], some (.object "java/lang/String")⟩ := by decide +kernel
theorem pd12 : parseMethodDescriptor "(Ljava/lang/Object;)Z" = some ⟨[(.object "java/lang/Object")], some .boolean⟩ := by decide +kernel
theorem wS0 {a0 : Array Value} {Z : State} (hw : W a0 Z) : ∀ d ∈ Bundle.stringAtoms, d.before a0 Z = true := fun d hd => hw d ((by decide +kernel : ∀ d ∈ Bundle.stringAtoms, d ∈ tables_1) d hd)
theorem own_ch255 (x : Int32) : ¬ ((255 : Int32) < ((x &&& (255 : Int32)).toUInt32.toUInt16.toUInt32.toInt32)) := by
  have m := c_mask x 255 8 (by decide) (by decide)
  have a := c_i2c (x &&& 255)
  have e1 : (255 : Int32).toInt = 255 := rfl
  rw [Int32.lt_iff_toInt_lt]
  omega
theorem own_nar255 {x ch : Int32} (h : nar .char ((x &&& (255 : Int32)).toUInt32.toUInt16.toUInt32.toInt32) = ch) : ¬ ch < 0 ∧ ¬ (255 : Int32) < ch := by
  have m := c_mask x 255 8 (by decide) (by decide)
  have a := c_i2c (x &&& 255)
  have b := c_i2c ((x &&& (255 : Int32)).toUInt32.toUInt16.toUInt32.toInt32)
  rw [show ((x &&& (255 : Int32)).toUInt32.toUInt16.toUInt32.toInt32).toUInt32.toUInt16.toUInt32.toInt32 = ch from h] at b
  have e0 : (0 : Int32).toInt = 0 := rfl
  have e1 : (255 : Int32).toInt = 255 := rfl
  rw [Int32.lt_iff_toInt_lt, Int32.lt_iff_toInt_lt]
  omega
theorem own_lat3 {a b c : Int32} (h1 : ¬ a < 0 ∧ ¬ (255 : Int32) < a) (h2 : ¬ b < 0 ∧ ¬ (255 : Int32) < b) (h3 : ¬ c < 0 ∧ ¬ (255 : Int32) < c) : ∀ x ∈ ([a, b, c] : List Int32), ¬ x < 0 ∧ ¬ (255 : Int32) < x := by
  intro x hx
  simp only [List.mem_cons, List.not_mem_nil, or_false] at hx
  rcases hx with rfl | rfl | rfl
  · exact h1
  · exact h2
  · exact h3

set_option maxRecDepth 65536 in
set_option maxHeartbeats 40000000 in
theorem c_can {l : Launch} {Z : State} {a0 : Array Value} (hw : W a0 Z) (x : Int32) (h0 : Heap) (hx : ¬ ((255 : Int32) < x)) :
    Con l Z EL0 (⟨"java/lang/StringLatin1", "canEncode", "(C)Z"⟩ : MethodName) jdk_43_method_3_code 1 (some .boolean) ({ frames := 0, cells := 0, slots := 0, locals := 0 } : Room) #[(.int x)] h0 [] (fun v h' Sf => v = some (.int 1) ∧ h' = h0) := by
  have hpn : plainName "java/lang/StringLatin1" = true := by first | (simp [plainName, overriddenIn]; done) | decide +kernel
  refine Con.intro (plainFor_of_name hpn) ?_
  intro p e s m below meth c T X hss
  refine Goes.cast (g' := mkF m 0 #[.val (.int x)] []) (by first | (simp [entryFrame, mkF, argsToLocals, Value.category]; done) | rfl) ?_
  refine o_iloadN X d_jdk_43_method_3_0 rfl (q := 1) rfl ?_
  refine o_sipush X d_jdk_43_method_3_1 (w := 255) rfl (q := 4) rfl ?_
  refine o_icmpN X d_jdk_43_method_3_4 (flt hx).2.2.1 (q := 7) rfl ?_
  refine o_iconst X d_jdk_43_method_3_7 (w := 1) rfl (q := 8) rfl ?_
  refine o_goto X d_jdk_43_method_3_8 (by decide) (q := 12) (by decide) ?_
  exact o_retN X d_jdk_43_method_3_12 (by simp) (fun Sf hSf => ⟨rfl, rfl⟩) (by decide) (by decide)
set_option maxRecDepth 65536 in
set_option maxHeartbeats 40000000 in
theorem c_toB {l : Launch} {Z : State} {a0 : Array Value} (hw : W a0 Z) (x : Int32) (h0 : Heap)  :
    Con l Z EL0 (⟨"java/lang/StringLatin1", "toBytes", "(C)[B"⟩ : MethodName) jdk_43_method_46_code 1 (some (.array .byte)) ({ frames := 0, cells := 1, slots := 1, locals := 0 } : Room) #[(.int x)] h0 [] (fun v h' Sf => ∃ b : Addr, v = some (.ref b) ∧ Keep h0 h' [] ∧ Sf b) := by
  have hpn : plainName "java/lang/StringLatin1" = true := by first | (simp [plainName, overriddenIn]; done) | decide +kernel
  refine Con.intro (plainFor_of_name hpn) ?_
  intro p e s m below meth c T X hss
  refine Goes.cast (g' := mkF m 0 #[.val (.int x)] []) (by first | (simp [entryFrame, mkF, argsToLocals, Value.category]; done) | rfl) ?_
  refine o_iconst X d_jdk_43_method_46_0 (w := 1) rfl (q := 1) rfl ?_
  refine o_newarr X (aty := .byte) (cap := 1) 1 (w18 hw) d_jdk_43_method_46_1 (by decide) (by decide) (by decide) (by decide) (by decide) (q := 3) rfl ?_
  intro T1 h1 b1 k1 gb1 X1 E1 R1 S1 V1 g0_b1
  have V1 : Arv Z h1 b1 k1 .byte (1 : Int32) [(.int (0 : Int32))] (.int (0 : Int32)) := V1
  refine o_dup X1 d_jdk_43_method_46_3 rfl (q := 4) rfl ?_
  refine o_iconst X1 d_jdk_43_method_46_4 (w := 0) rfl (q := 5) rfl ?_
  refine o_iloadN X1 d_jdk_43_method_46_5 rfl (q := 6) rfl ?_
  refine o_i2b X1 d_jdk_43_method_46_6 (w := (x.toInt8.toInt32)) rfl (q := 7) rfl ?_
  refine o_bastore X1 0 V1 g0_b1 S1 (by decide) rfl (Nat.le_of_ble_eq_true rfl) (v := (.int (nar .byte (x.toInt8.toInt32)))) rfl d_jdk_43_method_46_7 (q := 8) rfl ?_
  intro T2 h2 l2 X2 W2 R2 V2
  have V2 : Arv Z h2 b1 k1 .byte (1 : Int32) [(.int (nar .byte (x.toInt8.toInt32)))] (.int (0 : Int32)) := V2
  have sz3 := Nat.le_trans (Keep.refl h0 []).1 (Nat.le_of_eq gb1.symm)
  have k4 := Keep.ext (Keep.refl h0 []) E1
  have k5 := Keep.wr k4 W2 (Or.inr sz3)
  have f6 := (CHr.safe R2 (V1.lt) S1)
  exact o_retR X2 d_jdk_43_method_46_8 rfl rfl rfl (fun Sf hSf => ⟨b1, rfl, k5, hSf _ V2.lt f6⟩) (by decide) (by decide)
set_option maxRecDepth 65536 in
set_option maxHeartbeats 40000000 in
theorem c_strBB {l : Launch} {Z : State} {a0 : Array Value} (hw : W a0 Z) (a b : Addr) (h0 : Heap) (E : Exa Z h0 a "java/lang/String") (ga : Z.heap.size ≤ a) (Fv : Fld Z h0 a "java/lang/String" "value" "[B" .null) (Fc : Fld Z h0 a "java/lang/String" "coder" "B" (.int (0 : Int32))) :
    Con l Z EL0 (⟨"java/lang/String", "<init>", "([BB)V"⟩ : MethodName) jdk_42_method_151_code 3 none ({ frames := 1, cells := 0, slots := 0, locals := 12 } : Room) #[(.ref a), (.ref b), (.int (0 : Int32))] h0 [a] (fun v h' Sf => v = none ∧ Keep h0 h' [a]) := by
  have hpn : plainName "java/lang/String" = true := by first | (simp [plainName, overriddenIn]; done) | decide +kernel
  refine Con.intro (plainFor_of_name hpn) ?_
  intro p e s m below meth c T X hss
  have S_a := hss a (by simp)
  refine Goes.cast (g' := mkF m 0 #[.val (.ref a), .val (.ref b), .val (.int (0 : Int32))] []) (by first | (simp [entryFrame, mkF, argsToLocals, Value.category]; done) | rfl) ?_
  refine o_aloadN X d_jdk_42_method_151_0 rfl rfl (q := 1) rfl ?_
  refine o_initO X (w23 hw) (w24 hw) (w25 hw) d_jdk_42_method_151_1 rfl (by decide) (Nat.le_of_ble_eq_true rfl) (q := 4) rfl ?_
  intro T1 X1
  refine o_aloadN X1 d_jdk_42_method_151_4 rfl rfl (q := 5) rfl ?_
  refine o_aloadN X1 d_jdk_42_method_151_5 rfl rfl (q := 6) rfl ?_
  refine o_putF X1 Fv E ga S_a (host := "") (Or.inl (w26 hw)) Via.refl (Or.inr ⟨(w27 hw), rfl, rfl⟩) (w14 hw) (ty := (.array .byte)) (by decide) rfl rfl d_jdk_42_method_151_6 (q := 9) rfl ?_
  intro T2 h2 l2 X2 W2 R2 F2
  refine o_aloadN X2 d_jdk_42_method_151_9 rfl rfl (q := 10) rfl ?_
  refine o_iloadN X2 d_jdk_42_method_151_10 rfl (q := 11) rfl ?_
  have f3 := (Fc.other W2 (Or.inr (slot_ne (Or.inr (w29 hw)) (Or.inr (w27 hw)) (by decide) (t := .byte) (t' := (.array .byte)) (by decide) (by decide))))
  have f4 := (E.wr W2)
  have f6 := (CHr.safe R2 (E.lt) S_a)
  refine o_putF X2 f3 f4 ga f6 (host := "") (Or.inl (w28 hw)) Via.refl (Or.inr ⟨(w29 hw), rfl, rfl⟩) (w14 hw) (ty := .byte) (by decide) (by decide) (by decide) d_jdk_42_method_151_11 (q := 14) rfl ?_
  intro T5 h5 l5 X5 W5 R5 F5
  have k7 := Keep.wr (Keep.refl h0 [a]) W2 (Or.inl (by simp))
  have k8 := Keep.wr k7 W5 (Or.inl (by simp))
  exact o_ret X5 d_jdk_42_method_151_14 (fun Sf hSf => ⟨rfl, k8⟩) (by decide) (by decide)
set_option maxRecDepth 65536 in
set_option maxHeartbeats 40000000 in
theorem c_valueOf {l : Launch} {Z : State} {a0 : Array Value} (hw : W a0 Z) (x : Int32) (h0 : Heap) (cs : Int32) (O2 : Sta Z Z.heap "java/lang/String" "COMPACT_STRINGS" "Z" (.int cs)) (P5 : ¬ cs = 0) (hx : ¬ ((255 : Int32) < x)) :
    Con l Z EL0 (⟨"java/lang/String", "valueOf", "(C)Ljava/lang/String;"⟩ : MethodName) jdk_42_method_139_code 1 (some (.object "java/lang/String")) ({ frames := 2, cells := 2, slots := 5, locals := 27 } : Room) #[(.int x)] h0 [] (fun v h' Sf => ∃ b : Addr, v = some (.ref b) ∧ Keep h0 h' [] ∧ Exa Z h' b "java/lang/String") := by
  have hpn : plainName "java/lang/String" = true := by first | (simp [plainName, overriddenIn]; done) | decide +kernel
  refine Con.intro (plainFor_of_name hpn) ?_
  intro p e s m below meth c T X hss
  refine Goes.cast (g' := mkF m 0 #[.val (.int x)] []) (by first | (simp [entryFrame, mkF, argsToLocals, Value.category]; done) | rfl) ?_
  refine o_getS X O2 (host := "") (Or.inl (w8 hw)) Via.refl d_jdk_42_method_139_0 (q := 3) rfl ?_
  intro T1 X1
  refine o_ifN X1 d_jdk_42_method_139_3 (feq P5).1 (q := 6) rfl ?_
  refine o_iloadN X1 d_jdk_42_method_139_6 rfl (q := 7) rfl ?_
  refine o_stat X1 [(.int x)] (y' := (⟨"java/lang/StringLatin1", "canEncode", "(C)Z"⟩ : MethodName)) (c_can hw x _ hx) all0 (w9 hw) (w10 hw) (w11 hw) (w12 hw) (by decide) d_jdk_42_method_139_7 (rest := []) rfl rfl (lenOf pd0 rfl) rfl (by decide) (Nat.le_of_ble_eq_true rfl) (by decide) (by decide) (q := 10) rfl ?_
  intro v2 vm2 T2 h2 l2 X2 R2 q2
  obtain ⟨rfl, e2⟩ := q2
  have e2 := e2.symm
  subst e2
  show Goes p e below _ T2 (mkF m 10 #[.val (.int x)] [(.int (1 : Int32))])
  refine o_ifN X2 d_jdk_42_method_139_10 (by decide) (q := 13) rfl ?_
  refine o_new X2 (w13 hw) (w14 hw) (w6 hw) d_jdk_42_method_139_13 (by decide) (by decide) (q := 16) rfl ?_
  intro T3 h3 b3 gb3 X3 E3 R3 S3 A3 D3 g0_b3
  have f4 : Fld Z h3 b3 "java/lang/String" "value" "[B" .null := D3 (Or.inr (w27 hw)) (ty := (.array .byte)) (by decide)
  have f5 : Fld Z h3 b3 "java/lang/String" "coder" "B" (.int (0 : Int32)) := D3 (Or.inr (w29 hw)) (ty := .byte) (by decide)
  refine o_dup X3 d_jdk_42_method_139_16 rfl (q := 17) rfl ?_
  refine o_iloadN X3 d_jdk_42_method_139_17 rfl (q := 18) rfl ?_
  refine o_stat X3 [(.int x)] (y' := (⟨"java/lang/StringLatin1", "toBytes", "(C)[B"⟩ : MethodName)) (c_toB hw x _) all0 (w15 hw) (w16 hw) (w11 hw) (w17 hw) (by decide) d_jdk_42_method_139_18 (rest := [(.ref b3), (.ref b3)]) rfl rfl (lenOf pd1 rfl) rfl (by decide) (Nat.le_of_ble_eq_true rfl) (by decide) (by decide) (q := 21) rfl ?_
  intro v6 vm6 T6 h6 l6 X6 R6 q6
  obtain ⟨t6, rfl, K6, s6⟩ := q6
  show Goes p e below _ T6 (mkF m 21 #[.val (.int x)] [(.ref t6), (.ref b3), (.ref b3)])
  refine o_iconst X6 d_jdk_42_method_139_21 (w := 0) rfl (q := 22) rfl ?_
  have f7 := (A3.keep K6)
  have f8 := (f4.keep K6 nin0)
  have f9 := (f5.keep K6 nin0)
  have f11 := (CHr.safe R6 (A3.lt) S3)
  refine o_spec X6 [(.ref t6), (.int (0 : Int32))] (y' := (⟨"java/lang/String", "<init>", "([BB)V"⟩ : MethodName)) (c_strBB hw b3 t6 _ f7 g0_b3 f8 f9) (allS ⟨f7.lt, f11⟩ all0) rfl (w19 hw) (w20 hw) (w22 hw) (w6 hw) (by decide) d_jdk_42_method_139_22 (rest := [(.ref b3)]) rfl rfl (lenOf pd2 rfl) rfl (by decide) (Nat.le_of_ble_eq_true rfl) (by decide) (by decide) (q := 25) rfl ?_
  intro v10 vm10 T10 h10 l10 X10 R10 q10
  obtain ⟨rfl, K10⟩ := q10
  show Goes p e below _ T10 (mkF m 25 #[.val (.int x)] [(.ref b3)])
  have sz12 := Nat.le_trans (Keep.refl h0 []).1 (Nat.le_of_eq gb3.symm)
  have k13 := Keep.ext (Keep.refl h0 []) E3
  have k14 := Keep.trans k13 K6 all0
  have k15 := Keep.trans k14 K10 (allS (Or.inr sz12) all0)
  have f16 := (f7.keep K10)
  exact o_retR X10 d_jdk_42_method_139_25 rfl rfl rfl (fun Sf hSf => ⟨b3, rfl, k15, f16⟩) (by decide) (by decide)
set_option maxRecDepth 65536 in
set_option maxHeartbeats 40000000 in
theorem c_strE4 {l : Launch} {Z : State} {a0 : Array Value} (hw : W a0 Z) (a b : Addr) (h0 : Heap) (E : Exa Z h0 a "java/lang/String") (ga : Z.heap.size ≤ a) (Fv : Fld Z h0 a "java/lang/String" "value" "[B" .null) (Fc : Fld Z h0 a "java/lang/String" "coder" "B" (.int (0 : Int32))) :
    Con l Z EL0 (⟨"java/lang/String", "<init>", "([CIILjava/lang/Void;)V"⟩ : MethodName) jdk_42_method_149_code 6 none ({ frames := 1, cells := 4, slots := 8, locals := 12 } : Room) #[(.ref a), (.ref b), (.int (0 : Int32)), (.int (0 : Int32)), .null] h0 [a] (fun v h' Sf => v = none ∧ Keep h0 h' [a]) := by
  have hpn : plainName "java/lang/String" = true := by first | (simp [plainName, overriddenIn]; done) | decide +kernel
  refine Con.intro (plainFor_of_name hpn) ?_
  intro p e s m below meth c T X hss
  have S_a := hss a (by simp)
  refine Goes.cast (g' := mkF m 0 #[.val (.ref a), .val (.ref b), .val (.int (0 : Int32)), .val (.int (0 : Int32)), .val .null, .unset] []) (by first | (simp [entryFrame, mkF, argsToLocals, Value.category]; done) | rfl) ?_
  refine o_aloadN X d_jdk_42_method_149_0 rfl rfl (q := 1) rfl ?_
  refine o_initO X (w23 hw) (w24 hw) (w25 hw) d_jdk_42_method_149_1 rfl (by decide) (Nat.le_of_ble_eq_true rfl) (q := 4) rfl ?_
  intro T1 X1
  refine o_iloadN X1 d_jdk_42_method_149_4 rfl (q := 5) rfl ?_
  refine o_ifN X1 d_jdk_42_method_149_5 (by decide) (q := 8) rfl ?_
  refine o_aloadN X1 d_jdk_42_method_149_8 rfl rfl (q := 9) rfl ?_
  refine o_ldcS X1 (n := 0) (vs := []) (z := 0) (w86 hw) (wS0 hw) (List.mem_of_getElem? (i := 0) rfl) ⟨by decide, by decide⟩ (by decide) (by decide) d_jdk_42_method_149_9 (by decide) (by decide) (by decide) (by decide) (q := 11) rfl ?_
  intro vm2 T2 h2 a2 b2 k2 X2 E2 R2 A2 Fc2 Fv2 V2 ne2
  refine o_getF X2 Fv2 (host := "") (Or.inl (w26 hw)) Via.refl d_jdk_42_method_149_11 (q := 14) rfl ?_
  intro T3 X3
  have f4 := (Fv.ext E2)
  have f5 := (E.ext E2)
  have f7 := (CHr.safe R2 (E.lt) S_a)
  refine o_putF X3 f4 f5 ga f7 (host := "") (Or.inl (w26 hw)) Via.refl (Or.inr ⟨(w27 hw), rfl, rfl⟩) (w14 hw) (ty := (.array .byte)) (by decide) rfl rfl d_jdk_42_method_149_14 (q := 17) rfl ?_
  intro T6 h6 l6 X6 W6 R6 F6
  refine o_aloadN X6 d_jdk_42_method_149_17 rfl rfl (q := 18) rfl ?_
  refine o_ldcS X6 (n := 0) (vs := []) (z := 0) (w86 hw) (wS0 hw) (List.mem_of_getElem? (i := 0) rfl) ⟨by decide, by decide⟩ (by decide) (by decide) d_jdk_42_method_149_18 (by decide) (by decide) (by decide) (by decide) (q := 20) rfl ?_
  intro vm8 T8 h8 a8 b8 k8 X8 E8 R8 A8 Fc8 Fv8 V8 ne8
  refine o_getF X8 Fc8 (host := "") (Or.inl (w28 hw)) Via.refl d_jdk_42_method_149_20 (q := 23) rfl ?_
  intro T9 X9
  have f10 := (((Fc.ext E2).other W6 (Or.inr (slot_ne (Or.inr (w29 hw)) (Or.inr (w27 hw)) (by decide) (t := .byte) (t' := (.array .byte)) (by decide) (by decide)))).ext E8)
  have f11 := ((f5.wr W6).ext E8)
  have f13 := (CHr.safe R8 (F6.lt) (CHr.safe R6 (f5.lt) f7))
  refine o_putF X9 f10 f11 ga f13 (host := "") (Or.inl (w28 hw)) Via.refl (Or.inr ⟨(w29 hw), rfl, rfl⟩) (w14 hw) (ty := .byte) (by decide) (by decide) (by decide) d_jdk_42_method_149_23 (q := 26) rfl ?_
  intro T12 h12 l12 X12 W12 R12 F12
  have k14 := Keep.ext (Keep.refl h0 [a]) E2
  have k15 := Keep.wr k14 W6 (Or.inl (by simp))
  have k16 := Keep.ext k15 E8
  have k17 := Keep.wr k16 W12 (Or.inl (by simp))
  exact o_ret X12 d_jdk_42_method_149_26 (fun Sf hSf => ⟨rfl, k17⟩) (by decide) (by decide)
set_option maxRecDepth 65536 in
set_option maxHeartbeats 40000000 in
theorem c_strE {l : Launch} {Z : State} {a0 : Array Value} (hw : W a0 Z) (a b : Addr) (h0 : Heap) (E : Exa Z h0 a "java/lang/String") (ga : Z.heap.size ≤ a) (Fv : Fld Z h0 a "java/lang/String" "value" "[B" .null) (Fc : Fld Z h0 a "java/lang/String" "coder" "B" (.int (0 : Int32))) {kb : ClassId} (Vb : Arv Z h0 b kb .char (0 : Int32) [] (.int (0 : Int32))) :
    Con l Z EL0 (⟨"java/lang/String", "<init>", "([C)V"⟩ : MethodName) jdk_42_method_3_code 2 none ({ frames := 2, cells := 4, slots := 8, locals := 29 } : Room) #[(.ref a), (.ref b)] h0 [a] (fun v h' Sf => v = none ∧ Keep h0 h' [a]) := by
  have hpn : plainName "java/lang/String" = true := by first | (simp [plainName, overriddenIn]; done) | decide +kernel
  refine Con.intro (plainFor_of_name hpn) ?_
  intro p e s m below meth c T X hss
  have S_a := hss a (by simp)
  refine Goes.cast (g' := mkF m 0 #[.val (.ref a), .val (.ref b)] []) (by first | (simp [entryFrame, mkF, argsToLocals, Value.category]; done) | rfl) ?_
  refine o_aloadN X d_jdk_42_method_3_0 rfl rfl (q := 1) rfl ?_
  refine o_aloadN X d_jdk_42_method_3_1 rfl rfl (q := 2) rfl ?_
  refine o_iconst X d_jdk_42_method_3_2 (w := 0) rfl (q := 3) rfl ?_
  refine o_aloadN X d_jdk_42_method_3_3 rfl rfl (q := 4) rfl ?_
  refine o_len X Vb d_jdk_42_method_3_4 (q := 5) rfl ?_
  refine o_null X d_jdk_42_method_3_5 (q := 6) rfl ?_
  refine o_spec X [(.ref b), (.int (0 : Int32)), (.int (0 : Int32)), .null] (y' := (⟨"java/lang/String", "<init>", "([CIILjava/lang/Void;)V"⟩ : MethodName)) (c_strE4 hw a b _ E ga Fv Fc) (allS ⟨E.lt, S_a⟩ all0) rfl (w73 hw) (w74 hw) (w75 hw) (w6 hw) (by decide) d_jdk_42_method_3_6 (rest := []) rfl rfl (lenOf pd3 rfl) rfl (by decide) (Nat.le_of_ble_eq_true rfl) (by decide) (by decide) (q := 9) rfl ?_
  intro v1 vm1 T1 h1 l1 X1 R1 q1
  obtain ⟨rfl, K1⟩ := q1
  show Goes p e below _ T1 (mkF m 9 #[.val (.ref a), .val (.ref b)] [])
  have k2 := Keep.trans (Keep.refl h0 [a]) K1 (allS (Or.inl (by simp)) all0)
  exact o_ret X1 d_jdk_42_method_3_9 (fun Sf hSf => ⟨rfl, k2⟩) (by decide) (by decide)
set_option maxRecDepth 65536 in
set_option maxHeartbeats 40000000 in
theorem c_host {l : Launch} {Z : State} {a0 : Array Value} (hw : W a0 Z) (p0 p1 p2 p3 : Int32) (cs : Int32) (h0 : Heap) (O2 : Sta Z Z.heap "java/lang/String" "COMPACT_STRINGS" "Z" (.int cs)) (P5 : ¬ cs = 0) :
    Con l Z EL0 (⟨"com/example/loadweir/loadweir/gateway/HostPortWithPortPinLaw", "host", "(IIII)Ljava/lang/String;"⟩ : MethodName) method_2_code 6 (some (.object "java/lang/String")) ({ frames := 5, cells := 6, slots := 12, locals := 66 } : Room) #[(.int p0), (.int p1), (.int p2), (.int p3)] h0 [] (fun v h' Sf => ∃ b : Addr, v = some (.ref b) ∧ Keep h0 h' [] ∧ Exa Z h' b "java/lang/String") := by
  have hpn : plainName "com/example/loadweir/loadweir/gateway/HostPortWithPortPinLaw" = true := by first | (simp [plainName, overriddenIn]; done) | decide +kernel
  refine Con.intro (plainFor_of_name hpn) ?_
  intro p e s m below meth c T X hss
  refine Goes.cast (g' := mkF m 0 #[.val (.int p0), .val (.int p1), .val (.int p2), .val (.int p3), .unset, .unset] []) (by first | (simp [entryFrame, mkF, argsToLocals, Value.category]; done) | rfl) ?_
  have hws : ∀ d ∈ StrChars.Road.words, d.before a0 Z = true := fun d hd => hw d ((by decide +kernel : ∀ d ∈ StrChars.Road.words, d ∈ tables_1) d hd)
  refine o_iloadN X d_method_2_0 rfl (q := 1) rfl ?_
  refine o_iconst X d_method_2_1 (w := 3) rfl (q := 2) rfl ?_
  refine o_iand X d_method_2_2 (w := (p3 &&& (3 : Int32))) rfl (q := 3) rfl ?_
  obtain ⟨k, h_k⟩ : ∃ z : Int32, (p3 &&& (3 : Int32)) = z := ⟨_, rfl⟩
  refine o_istore X d_method_2_3 h_k (L' := #[.val (.int p0), .val (.int p1), .val (.int p2), .val (.int p3), .val (.int k), .unset]) rfl (q := 5) rfl ?_
  refine o_iload X d_method_2_5 rfl (q := 7) rfl ?_
  by_cases hc7 : k = (0 : Int32)
  · refine o_ifN X d_method_2_7 (teq hc7).2 (q := 10) rfl ?_
    refine o_new X (w69 hw) (w14 hw) (w6 hw) d_method_2_10 (by decide) (by decide) (q := 13) rfl ?_
    intro T1 h1 b1 gb1 X1 E1 R1 S1 A1 D1 g0_b1
    have f2 : Fld Z h1 b1 "java/lang/String" "value" "[B" .null := D1 (Or.inr (w27 hw)) (ty := (.array .byte)) (by decide)
    have f3 : Fld Z h1 b1 "java/lang/String" "coder" "B" (.int (0 : Int32)) := D1 (Or.inr (w29 hw)) (ty := .byte) (by decide)
    refine o_dup X1 d_method_2_13 rfl (q := 14) rfl ?_
    refine o_iconst X1 d_method_2_14 (w := 0) rfl (q := 15) rfl ?_
    refine o_newarr X1 (aty := .char) (cap := 0) 0 (w68 hw) d_method_2_15 (by decide) (by decide) (by decide) (by decide) (by decide) (q := 17) rfl ?_
    intro T4 h4 b4 k4 gb4 X4 E4 R4 S4 V4 g0_b4
    have V4 : Arv Z h4 b4 k4 .char (0 : Int32) [] (.int (0 : Int32)) := V4
    have f5 := (A1.ext E4)
    have f6 := (f2.ext E4)
    have f7 := (f3.ext E4)
    have f9 := (CHr.safe R4 (A1.lt) S1)
    refine o_spec X4 [(.ref b4)] (y' := (⟨"java/lang/String", "<init>", "([C)V"⟩ : MethodName)) (c_strE hw b1 b4 _ f5 g0_b1 f6 f7 V4) (allS ⟨f5.lt, f9⟩ all0) rfl (w70 hw) (w71 hw) (w72 hw) (w6 hw) (by decide) d_method_2_17 (rest := [(.ref b1)]) rfl rfl (lenOf pd4 rfl) rfl (by decide) (Nat.le_of_ble_eq_true rfl) (by decide) (by decide) (q := 20) rfl ?_
    intro v8 vm8 T8 h8 l8 X8 R8 q8
    obtain ⟨rfl, K8⟩ := q8
    show Goes p e below _ T8 (mkF m 20 #[.val (.int p0), .val (.int p1), .val (.int p2), .val (.int p3), .val (.int k), .unset] [(.ref b1)])
    have sz10 := Nat.le_trans (Keep.refl h0 []).1 (Nat.le_of_eq gb1.symm)
    have k11 := Keep.ext (Keep.refl h0 []) E1
    have sz12 := Nat.le_trans k11.1 (Nat.le_of_eq gb4.symm)
    have k13 := Keep.ext k11 E4
    have k14 := Keep.trans k13 K8 (allS (Or.inr sz10) all0)
    have f15 := (f5.keep K8)
    exact o_retR X8 d_method_2_20 rfl rfl rfl (fun Sf hSf => ⟨b1, rfl, k14, f15⟩) (by decide) (by decide)
  · refine o_ifY X d_method_2_7 (feq hc7).2 (by decide) (q := 21) (by decide) ?_
    refine o_iload X d_method_2_21 rfl (q := 23) rfl ?_
    refine o_iconst X d_method_2_23 (w := 1) rfl (q := 24) rfl ?_
    by_cases hc24 : k = (1 : Int32)
    · refine o_icmpN X d_method_2_24 (teq hc24).2 (q := 27) rfl ?_
      refine o_iloadN X d_method_2_27 rfl (q := 28) rfl ?_
      refine o_sipush X d_method_2_28 (w := 255) rfl (q := 31) rfl ?_
      refine o_iand X d_method_2_31 (w := (p0 &&& (255 : Int32))) rfl (q := 32) rfl ?_
      refine o_i2c X d_method_2_32 (w := ((p0 &&& (255 : Int32)).toUInt32.toUInt16.toUInt32.toInt32)) rfl (q := 33) rfl ?_
      refine o_stat X [(.int ((p0 &&& (255 : Int32)).toUInt32.toUInt16.toUInt32.toInt32))] (y' := (⟨"java/lang/String", "valueOf", "(C)Ljava/lang/String;"⟩ : MethodName)) (c_valueOf hw ((p0 &&& (255 : Int32)).toUInt32.toUInt16.toUInt32.toInt32) _ cs O2 P5 (own_ch255 p0)) all0 (w4 hw) (w5 hw) (w6 hw) (w7 hw) (by decide) d_method_2_33 (rest := []) rfl rfl (lenOf pd5 rfl) rfl (by decide) (Nat.le_of_ble_eq_true rfl) (by decide) (by decide) (q := 36) rfl ?_
      intro v16 vm16 T16 h16 l16 X16 R16 q16
      obtain ⟨t16, rfl, K16, E16⟩ := q16
      show Goes p e below _ T16 (mkF m 36 #[.val (.int p0), .val (.int p1), .val (.int p2), .val (.int p3), .val (.int k), .unset] [(.ref t16)])
      have k17 := Keep.trans (Keep.refl h0 []) K16 all0
      exact o_retR X16 d_method_2_36 rfl rfl rfl (fun Sf hSf => ⟨t16, rfl, k17, E16⟩) (by decide) (by decide)
    · refine o_icmpY X d_method_2_24 (feq hc24).2 (by decide) (q := 37) (by decide) ?_
      refine o_iconst X d_method_2_37 (w := 3) rfl (q := 38) rfl ?_
      refine o_newarr X (aty := .char) (cap := 3) 3 (w68 hw) d_method_2_38 (by decide) (by decide) (by decide) (by decide) (by decide) (q := 40) rfl ?_
      intro T18 h18 b18 k18 gb18 X18 E18 R18 S18 V18 g0_b18
      have V18 : Arv Z h18 b18 k18 .char (3 : Int32) [(.int (0 : Int32)), (.int (0 : Int32)), (.int (0 : Int32))] (.int (0 : Int32)) := V18
      refine o_astore X18 d_method_2_40 rfl (L' := #[.val (.int p0), .val (.int p1), .val (.int p2), .val (.int p3), .val (.int k), .val (.ref b18)]) rfl (q := 42) rfl ?_
      refine o_aload X18 d_method_2_42 rfl rfl (q := 44) rfl ?_
      refine o_iconst X18 d_method_2_44 (w := 0) rfl (q := 45) rfl ?_
      refine o_iloadN X18 d_method_2_45 rfl (q := 46) rfl ?_
      refine o_sipush X18 d_method_2_46 (w := 255) rfl (q := 49) rfl ?_
      refine o_iand X18 d_method_2_49 (w := (p0 &&& (255 : Int32))) rfl (q := 50) rfl ?_
      refine o_i2c X18 d_method_2_50 (w := ((p0 &&& (255 : Int32)).toUInt32.toUInt16.toUInt32.toInt32)) rfl (q := 51) rfl ?_
      obtain ⟨c0, h_c0⟩ : ∃ z : Int32, nar .char ((p0 &&& (255 : Int32)).toUInt32.toUInt16.toUInt32.toInt32) = z := ⟨_, rfl⟩
      refine o_castore X18 0 V18 g0_b18 (Safe.arv X18.alike V18 (by decide)) (by decide) rfl (Nat.le_of_ble_eq_true rfl) (v := (.int c0)) (by rw [h_c0]) d_method_2_51 (q := 52) rfl ?_
      intro T19 h19 l19 X19 W19 R19 V19
      have V19 : Arv Z h19 b18 k18 .char (3 : Int32) [(.int c0), (.int (0 : Int32)), (.int (0 : Int32))] (.int (0 : Int32)) := V19
      refine o_aload X19 d_method_2_52 rfl rfl (q := 54) rfl ?_
      refine o_iconst X19 d_method_2_54 (w := 1) rfl (q := 55) rfl ?_
      refine o_iloadN X19 d_method_2_55 rfl (q := 56) rfl ?_
      refine o_sipush X19 d_method_2_56 (w := 255) rfl (q := 59) rfl ?_
      refine o_iand X19 d_method_2_59 (w := (p1 &&& (255 : Int32))) rfl (q := 60) rfl ?_
      refine o_i2c X19 d_method_2_60 (w := ((p1 &&& (255 : Int32)).toUInt32.toUInt16.toUInt32.toInt32)) rfl (q := 61) rfl ?_
      obtain ⟨c1, h_c1⟩ : ∃ z : Int32, nar .char ((p1 &&& (255 : Int32)).toUInt32.toUInt16.toUInt32.toInt32) = z := ⟨_, rfl⟩
      refine o_castore X19 1 V19 g0_b18 (Safe.arv X19.alike V19 (by decide)) (by decide) rfl (Nat.le_of_ble_eq_true rfl) (v := (.int c1)) (by rw [h_c1]) d_method_2_61 (q := 62) rfl ?_
      intro T20 h20 l20 X20 W20 R20 V20
      have V20 : Arv Z h20 b18 k18 .char (3 : Int32) [(.int c0), (.int c1), (.int (0 : Int32))] (.int (0 : Int32)) := V20
      refine o_aload X20 d_method_2_62 rfl rfl (q := 64) rfl ?_
      refine o_iconst X20 d_method_2_64 (w := 2) rfl (q := 65) rfl ?_
      refine o_iloadN X20 d_method_2_65 rfl (q := 66) rfl ?_
      refine o_sipush X20 d_method_2_66 (w := 255) rfl (q := 69) rfl ?_
      refine o_iand X20 d_method_2_69 (w := (p2 &&& (255 : Int32))) rfl (q := 70) rfl ?_
      refine o_i2c X20 d_method_2_70 (w := ((p2 &&& (255 : Int32)).toUInt32.toUInt16.toUInt32.toInt32)) rfl (q := 71) rfl ?_
      obtain ⟨c2, h_c2⟩ : ∃ z : Int32, nar .char ((p2 &&& (255 : Int32)).toUInt32.toUInt16.toUInt32.toInt32) = z := ⟨_, rfl⟩
      refine o_castore X20 2 V20 g0_b18 (Safe.arv X20.alike V20 (by decide)) (by decide) rfl (Nat.le_of_ble_eq_true rfl) (v := (.int c2)) (by rw [h_c2]) d_method_2_71 (q := 72) rfl ?_
      intro T21 h21 l21 X21 W21 R21 V21
      have V21 : Arv Z h21 b18 k18 .char (3 : Int32) [(.int c0), (.int c1), (.int c2)] (.int (0 : Int32)) := V21
      refine o_iload X21 d_method_2_72 rfl (q := 74) rfl ?_
      refine o_iconst X21 d_method_2_74 (w := 2) rfl (q := 75) rfl ?_
      by_cases hc75 : k = (2 : Int32)
      · refine o_icmpN X21 d_method_2_75 (teq hc75).2 (q := 78) rfl ?_
        refine o_aload X21 d_method_2_78 rfl rfl (q := 80) rfl ?_
        refine o_iconst X21 d_method_2_80 (w := 1) rfl (q := 81) rfl ?_
        refine o_bipush X21 d_method_2_81 (w := 58) rfl (q := 83) rfl ?_
        refine o_castore X21 1 V21 g0_b18 (Safe.arv X21.alike V21 (by decide)) (by decide) rfl (Nat.le_of_ble_eq_true rfl) (v := (.int (58 : Int32))) rfl d_method_2_83 (q := 84) rfl ?_
        intro T22 h22 l22 X22 W22 R22 V22
        have V22 : Arv Z h22 b18 k18 .char (3 : Int32) [(.int c0), (.int (58 : Int32)), (.int c2)] (.int (0 : Int32)) := V22
        refine o_new X22 (w69 hw) (w14 hw) (w6 hw) d_method_2_84 (by decide) (by decide) (q := 87) rfl ?_
        intro T23 h23 b23 gb23 X23 E23 R23 S23 A23 D23 g0_b23
        have f24 : Fld Z h23 b23 "java/lang/String" "value" "[B" .null := D23 (Or.inr (w27 hw)) (ty := (.array .byte)) (by decide)
        have f25 : Fld Z h23 b23 "java/lang/String" "coder" "B" (.int (0 : Int32)) := D23 (Or.inr (w29 hw)) (ty := .byte) (by decide)
        refine o_dup X23 d_method_2_87 rfl (q := 88) rfl ?_
        refine o_aload X23 d_method_2_88 rfl rfl (q := 90) rfl ?_
        have f26 := (V22.ext E23)
        have hlat : ∀ c ∈ ([c0, (58 : Int32), c2] : List Int32), ¬ c < 0 ∧ ¬ (255 : Int32) < c := own_lat3 (own_nar255 h_c0) (by decide) (own_nar255 h_c2)
        refine o_specB X23 [(.ref b18)] (y' := (⟨"java/lang/String", "<init>", "([C)V"⟩ : MethodName)) (StrChars.Road.backV (W := 1) X23.2.1.2.2.1 hws (kI := 4) (w14 hw) (cs := [c0, (58 : Int32), c2]) (bs := [c0, (58 : Int32), c2].map (fun c => c.toInt8.toInt32)) (n := 3) (n0 := Z.heap.size) g0_b23 X23.size A23 f24 f25 f26 (X23.sta O2) P5 rfl rfl (by decide) (by decide) hlat rfl (by decide) (by decide)) (ws := [b23]) (fun _ _ _ q => ⟨q.2.1, q.2.2.1⟩) (allS ⟨g0_b23, S23⟩ all0) rfl (w70 hw) (w71 hw) (w72 hw) (by decide) d_method_2_90 (rest := [(.ref b23)]) rfl rfl (lenOf pd4 rfl) rfl (Nat.le_of_ble_eq_true rfl) (by decide) (by decide) (q := 93) rfl ?_
        intro v27 T27 h27 L27 l27 X27 R27 q27
        obtain ⟨rfl, -, K27, -⟩ := q27
        show Goes p e below _ T27 (mkF m 93 #[.val (.int p0), .val (.int p1), .val (.int p2), .val (.int p3), .val (.int k), .val (.ref b18)] [(.ref b23)])
        have sz28 := Nat.le_trans (Keep.refl h0 []).1 (Nat.le_of_eq gb18.symm)
        have k29 := Keep.ext (Keep.refl h0 []) E18
        have k30 := Keep.wr k29 W19 (Or.inr sz28)
        have k31 := Keep.wr k30 W20 (Or.inr sz28)
        have k32 := Keep.wr k31 W21 (Or.inr sz28)
        have k33 := Keep.wr k32 W22 (Or.inr sz28)
        have sz34 := Nat.le_trans k33.1 (Nat.le_of_eq gb23.symm)
        have k35 := Keep.ext k33 E23
        have k36 := Keep.trans k35 K27 (allS (Or.inr sz34) all0)
        have f37 := (A23.keep K27)
        exact o_retR X27 d_method_2_93 rfl rfl rfl (fun Sf hSf => ⟨b23, rfl, k36, f37⟩) (by decide) (by decide)
      · refine o_icmpY X21 d_method_2_75 (feq hc75).2 (by decide) (q := 84) (by decide) ?_
        refine o_new X21 (w69 hw) (w14 hw) (w6 hw) d_method_2_84 (by decide) (by decide) (q := 87) rfl ?_
        intro T38 h38 b38 gb38 X38 E38 R38 S38 A38 D38 g0_b38
        have f39 : Fld Z h38 b38 "java/lang/String" "value" "[B" .null := D38 (Or.inr (w27 hw)) (ty := (.array .byte)) (by decide)
        have f40 : Fld Z h38 b38 "java/lang/String" "coder" "B" (.int (0 : Int32)) := D38 (Or.inr (w29 hw)) (ty := .byte) (by decide)
        refine o_dup X38 d_method_2_87 rfl (q := 88) rfl ?_
        refine o_aload X38 d_method_2_88 rfl rfl (q := 90) rfl ?_
        have f41 := (V21.ext E38)
        have hlat : ∀ c ∈ ([c0, c1, c2] : List Int32), ¬ c < 0 ∧ ¬ (255 : Int32) < c := own_lat3 (own_nar255 h_c0) (own_nar255 h_c1) (own_nar255 h_c2)
        refine o_specB X38 [(.ref b18)] (y' := (⟨"java/lang/String", "<init>", "([C)V"⟩ : MethodName)) (StrChars.Road.backV (W := 1) X38.2.1.2.2.1 hws (kI := 4) (w14 hw) (cs := [c0, c1, c2]) (bs := [c0, c1, c2].map (fun c => c.toInt8.toInt32)) (n := 3) (n0 := Z.heap.size) g0_b38 X38.size A38 f39 f40 f41 (X38.sta O2) P5 rfl rfl (by decide) (by decide) hlat rfl (by decide) (by decide)) (ws := [b38]) (fun _ _ _ q => ⟨q.2.1, q.2.2.1⟩) (allS ⟨g0_b38, S38⟩ all0) rfl (w70 hw) (w71 hw) (w72 hw) (by decide) d_method_2_90 (rest := [(.ref b38)]) rfl rfl (lenOf pd4 rfl) rfl (Nat.le_of_ble_eq_true rfl) (by decide) (by decide) (q := 93) rfl ?_
        intro v42 T42 h42 L42 l42 X42 R42 q42
        obtain ⟨rfl, -, K42, -⟩ := q42
        show Goes p e below _ T42 (mkF m 93 #[.val (.int p0), .val (.int p1), .val (.int p2), .val (.int p3), .val (.int k), .val (.ref b18)] [(.ref b38)])
        have sz43 := Nat.le_trans (Keep.refl h0 []).1 (Nat.le_of_eq gb18.symm)
        have k44 := Keep.ext (Keep.refl h0 []) E18
        have k45 := Keep.wr k44 W19 (Or.inr sz43)
        have k46 := Keep.wr k45 W20 (Or.inr sz43)
        have k47 := Keep.wr k46 W21 (Or.inr sz43)
        have sz48 := Nat.le_trans k47.1 (Nat.le_of_eq gb38.symm)
        have k49 := Keep.ext k47 E38
        have k50 := Keep.trans k49 K42 (allS (Or.inr sz48) all0)
        have f51 := (A38.keep K42)
        exact o_retR X42 d_method_2_93 rfl rfl rfl (fun Sf hSf => ⟨b38, rfl, k50, f51⟩) (by decide) (by decide)
set_option maxRecDepth 65536 in
set_option maxHeartbeats 40000000 in
theorem c_rec {l : Launch} {Z : State} {a0 : Array Value} (hw : W a0 Z) (a : Addr) (h0 : Heap)  :
    Con l Z EL0 (⟨"java/lang/Record", "<init>", "()V"⟩ : MethodName) jdk_30_method_1_code 1 none ({ frames := 1, cells := 0, slots := 0, locals := 12 } : Room) #[(.ref a)] h0 [] (fun v h' Sf => v = none ∧ h' = h0) := by
  have hpn : plainName "java/lang/Record" = true := by first | (simp [plainName, overriddenIn]; done) | decide +kernel
  refine Con.intro (plainFor_of_name hpn) ?_
  intro p e s m below meth c T X hss
  refine Goes.cast (g' := mkF m 0 #[.val (.ref a)] []) (by first | (simp [entryFrame, mkF, argsToLocals, Value.category]; done) | rfl) ?_
  refine o_aloadN X d_jdk_30_method_1_0 rfl rfl (q := 1) rfl ?_
  refine o_initO X (w41 hw) (w24 hw) (w25 hw) d_jdk_30_method_1_1 rfl (by decide) (Nat.le_of_ble_eq_true rfl) (q := 4) rfl ?_
  intro T1 X1
  exact o_ret X1 d_jdk_30_method_1_4 (fun Sf hSf => ⟨rfl, rfl⟩) (by decide) (by decide)
set_option maxRecDepth 65536 in
set_option maxHeartbeats 40000000 in
theorem c_hp {l : Launch} {Z : State} {a0 : Array Value} (hw : W a0 Z) (a t : Addr) (pp : Int32) (h0 : Heap) (E : Exa Z h0 a "com/example/loadweir/loadweir/gateway/HostPort") (ga : Z.heap.size ≤ a) (F_host : Fld Z h0 a "com/example/loadweir/loadweir/gateway/HostPort" "host" "Ljava/lang/String;" .null) (F_port : Fld Z h0 a "com/example/loadweir/loadweir/gateway/HostPort" "port" "I" (.int (0 : Int32))) :
    Con l Z EL0 (⟨"com/example/loadweir/loadweir/gateway/HostPort", "<init>", "(Ljava/lang/String;I)V"⟩ : MethodName) prog_12_method_1_code 3 none ({ frames := 2, cells := 0, slots := 0, locals := 24 } : Room) #[(.ref a), (.ref t), (.int pp)] h0 [] (fun v h' Sf => v = none ∧ Keep h0 h' [a] ∧ Fld Z h' a "com/example/loadweir/loadweir/gateway/HostPort" "host" "Ljava/lang/String;" (.ref t) ∧ Fld Z h' a "com/example/loadweir/loadweir/gateway/HostPort" "port" "I" (.int pp)) := by
  have hpn : plainName "com/example/loadweir/loadweir/gateway/HostPort" = true := by first | (simp [plainName, overriddenIn]; done) | decide +kernel
  refine Con.intro (plainFor_of_name hpn) ?_
  intro p e s m below meth c T X hss
  refine Goes.cast (g' := mkF m 0 #[.val (.ref a), .val (.ref t), .val (.int pp)] []) (by first | (simp [entryFrame, mkF, argsToLocals, Value.category]; done) | rfl) ?_
  refine o_aloadN X d_prog_12_method_1_0 rfl rfl (q := 1) rfl ?_
  refine o_spec X [] (y' := (⟨"java/lang/Record", "<init>", "()V"⟩ : MethodName)) (c_rec hw a _) all0 rfl (w36 hw) (w37 hw) (w40 hw) (w39 hw) (by decide) d_prog_12_method_1_1 (rest := []) rfl rfl (lenOf pd6 rfl) rfl (by decide) (Nat.le_of_ble_eq_true rfl) (by decide) (by decide) (q := 4) rfl ?_
  intro v1 vm1 T1 h1 l1 X1 R1 q1
  obtain ⟨rfl, e1⟩ := q1
  have e1 := e1.symm
  subst e1
  show Goes p e below _ T1 (mkF m 4 #[.val (.ref a), .val (.ref t), .val (.int pp)] [])
  refine o_aloadN X1 d_prog_12_method_1_4 rfl rfl (q := 5) rfl ?_
  refine o_aloadN X1 d_prog_12_method_1_5 rfl rfl (q := 6) rfl ?_
  have f2 := F_host
  have f3 := E
  refine o_putF X1 f2 f3 ga (Safe.exa X1.alike f3 (by decide) (by decide)) (host := "") (Or.inl (w42 hw)) Via.refl (Or.inr ⟨(w43 hw), rfl, rfl⟩) (w31 hw) (ty := (.object "java/lang/String")) (by decide) rfl rfl d_prog_12_method_1_6 (q := 9) rfl ?_
  intro T4 h4 l4 X4 W4 R4 F4
  refine o_aloadN X4 d_prog_12_method_1_9 rfl rfl (q := 10) rfl ?_
  refine o_iloadN X4 d_prog_12_method_1_10 rfl (q := 11) rfl ?_
  have f5 := (F_port.other W4 (Or.inr (slot_ne (Or.inr (w45 hw)) (Or.inr (w43 hw)) (by decide) (t := .int) (t' := (.object "java/lang/String")) (by decide) (by decide))))
  have f6 := (f3.wr W4)
  refine o_putF X4 f5 f6 ga (Safe.exa X4.alike f6 (by decide) (by decide)) (host := "") (Or.inl (w44 hw)) Via.refl (Or.inr ⟨(w45 hw), rfl, rfl⟩) (w31 hw) (ty := .int) (by decide) rfl rfl d_prog_12_method_1_11 (q := 14) rfl ?_
  intro T7 h7 l7 X7 W7 R7 F7
  have k8 := Keep.wr (Keep.refl h0 [a]) W4 (Or.inl (by simp))
  have k9 := Keep.wr k8 W7 (Or.inl (by simp))
  have f10 := (F4.other W7 (Or.inr (slot_ne (Or.inr (w43 hw)) (Or.inr (w45 hw)) (by decide) (t := (.object "java/lang/String")) (t' := .int) (by decide) (by decide))))
  exact o_ret X7 d_prog_12_method_1_14 (fun Sf hSf => ⟨rfl, k9, f10, F7⟩) (by decide) (by decide)
set_option maxRecDepth 65536 in
set_option maxHeartbeats 40000000 in
theorem c_with {l : Launch} {Z : State} {a0 : Array Value} (hw : W a0 Z) (a t : Addr) (q : Int32) (h0 : Heap) (F_host : Fld Z h0 a "com/example/loadweir/loadweir/gateway/HostPort" "host" "Ljava/lang/String;" (.ref t)) :
    Con l Z EL0 (⟨"com/example/loadweir/loadweir/gateway/HostPort", "withPort", "(I)Lcom/example/loadweir/loadweir/gateway/HostPort;"⟩ : MethodName) prog_12_method_4_code 2 (some (.object "com/example/loadweir/loadweir/gateway/HostPort")) ({ frames := 3, cells := 1, slots := 2, locals := 41 } : Room) #[(.ref a), (.int q)] h0 [] (fun v h' Sf => ∃ b : Addr, v = some (.ref b) ∧ Keep h0 h' [] ∧ Exa Z h' b "com/example/loadweir/loadweir/gateway/HostPort" ∧ Fld Z h' b "com/example/loadweir/loadweir/gateway/HostPort" "host" "Ljava/lang/String;" (.ref t) ∧ Fld Z h' b "com/example/loadweir/loadweir/gateway/HostPort" "port" "I" (.int q)) := by
  have hpn : plainName "com/example/loadweir/loadweir/gateway/HostPort" = true := by first | (simp [plainName, overriddenIn]; done) | decide +kernel
  refine Con.intro (plainFor_of_name hpn) ?_
  intro p e s m below meth c T X hss
  refine Goes.cast (g' := mkF m 0 #[.val (.ref a), .val (.int q)] []) (by first | (simp [entryFrame, mkF, argsToLocals, Value.category]; done) | rfl) ?_
  refine o_new X (w51 hw) (w31 hw) (w32 hw) d_prog_12_method_4_0 (by decide) (by decide) (q := 3) rfl ?_
  intro T1 h1 b1 gb1 X1 E1 R1 S1 A1 D1 g0_b1
  have f2 : Fld Z h1 b1 "com/example/loadweir/loadweir/gateway/HostPort" "host" "Ljava/lang/String;" .null := D1 (Or.inr (w43 hw)) (ty := (.object "java/lang/String")) (by decide)
  have f3 : Fld Z h1 b1 "com/example/loadweir/loadweir/gateway/HostPort" "port" "I" (.int (0 : Int32)) := D1 (Or.inr (w45 hw)) (ty := .int) (by decide)
  refine o_dup X1 d_prog_12_method_4_3 rfl (q := 4) rfl ?_
  refine o_aloadN X1 d_prog_12_method_4_4 rfl rfl (q := 5) rfl ?_
  have f4 := (F_host.ext E1)
  refine o_getF X1 f4 (host := "") (Or.inl (w42 hw)) Via.refl d_prog_12_method_4_5 (q := 8) rfl ?_
  intro T5 X5
  refine o_iloadN X5 d_prog_12_method_4_8 rfl (q := 9) rfl ?_
  refine o_spec X5 [(.ref t), (.int q)] (y' := (⟨"com/example/loadweir/loadweir/gateway/HostPort", "<init>", "(Ljava/lang/String;I)V"⟩ : MethodName)) (c_hp hw b1 t q _ A1 g0_b1 f2 f3) all0 rfl (w52 hw) (w34 hw) (w35 hw) (w32 hw) (by decide) d_prog_12_method_4_9 (rest := [(.ref b1)]) rfl rfl (lenOf pd7 rfl) rfl (by decide) (Nat.le_of_ble_eq_true rfl) (by decide) (by decide) (q := 12) rfl ?_
  intro v6 vm6 T6 h6 l6 X6 R6 q6
  obtain ⟨rfl, K6, Fh6, Fp6⟩ := q6
  show Goes p e below _ T6 (mkF m 12 #[.val (.ref a), .val (.int q)] [(.ref b1)])
  have sz7 := Nat.le_trans (Keep.refl h0 []).1 (Nat.le_of_eq gb1.symm)
  have k8 := Keep.ext (Keep.refl h0 []) E1
  have k9 := Keep.trans k8 K6 (allS (Or.inr sz7) all0)
  have f10 := (A1.keep K6)
  exact o_retR X6 d_prog_12_method_4_12 rfl rfl rfl (fun Sf hSf => ⟨b1, rfl, k9, f10, Fh6, Fp6⟩) (by decide) (by decide)
set_option maxRecDepth 65536 in
set_option maxHeartbeats 40000000 in
theorem c_portG {l : Launch} {Z : State} {a0 : Array Value} (hw : W a0 Z) (a : Addr) (pp : Int32) (h0 : Heap) (F : Fld Z h0 a "com/example/loadweir/loadweir/gateway/HostPort" "port" "I" (.int pp)) :
    Con l Z EL0 (⟨"com/example/loadweir/loadweir/gateway/HostPort", "port", "()I"⟩ : MethodName) prog_12_method_9_code 1 (some .int) ({ frames := 0, cells := 0, slots := 0, locals := 0 } : Room) #[(.ref a)] h0 [] (fun v h' Sf => v = some (.int pp) ∧ h' = h0) := by
  have hpn : plainName "com/example/loadweir/loadweir/gateway/HostPort" = true := by first | (simp [plainName, overriddenIn]; done) | decide +kernel
  refine Con.intro (plainFor_of_name hpn) ?_
  intro p e s m below meth c T X hss
  refine Goes.cast (g' := mkF m 0 #[.val (.ref a)] []) (by first | (simp [entryFrame, mkF, argsToLocals, Value.category]; done) | rfl) ?_
  refine o_aloadN X d_prog_12_method_9_0 rfl rfl (q := 1) rfl ?_
  refine o_getF X F (host := "") (Or.inl (w44 hw)) Via.refl d_prog_12_method_9_1 (q := 4) rfl ?_
  intro T1 X1
  exact o_retI X1 d_prog_12_method_9_4 (fun Sf hSf => ⟨rfl, rfl⟩) (by decide) (by decide)
set_option maxRecDepth 65536 in
set_option maxHeartbeats 40000000 in
theorem c_hostG {l : Launch} {Z : State} {a0 : Array Value} (hw : W a0 Z) (a : Addr) (t : Addr) (h0 : Heap) (F : Fld Z h0 a "com/example/loadweir/loadweir/gateway/HostPort" "host" "Ljava/lang/String;" (.ref t)) :
    Con l Z EL0 (⟨"com/example/loadweir/loadweir/gateway/HostPort", "host", "()Ljava/lang/String;"⟩ : MethodName) prog_12_method_8_code 1 (some (.object "java/lang/String")) ({ frames := 0, cells := 0, slots := 0, locals := 0 } : Room) #[(.ref a)] h0 [] (fun v h' Sf => v = some (.ref t) ∧ h' = h0) := by
  have hpn : plainName "com/example/loadweir/loadweir/gateway/HostPort" = true := by first | (simp [plainName, overriddenIn]; done) | decide +kernel
  refine Con.intro (plainFor_of_name hpn) ?_
  intro p e s m below meth c T X hss
  refine Goes.cast (g' := mkF m 0 #[.val (.ref a)] []) (by first | (simp [entryFrame, mkF, argsToLocals, Value.category]; done) | rfl) ?_
  refine o_aloadN X d_prog_12_method_8_0 rfl rfl (q := 1) rfl ?_
  refine o_getF X F (host := "") (Or.inl (w42 hw)) Via.refl d_prog_12_method_8_1 (q := 4) rfl ?_
  intro T1 X1
  exact o_retR X1 d_prog_12_method_8_4 rfl rfl rfl (fun Sf hSf => ⟨rfl, rfl⟩) (by decide) (by decide)
set_option maxRecDepth 65536 in
set_option maxHeartbeats 40000000 in
theorem c_eqS {l : Launch} {Z : State} {a0 : Array Value} (hw : W a0 Z) (a : Addr) (h0 : Heap)  :
    Con l Z EL0 (⟨"java/lang/String", "equals", "(Ljava/lang/Object;)Z"⟩ : MethodName) jdk_42_method_66_code 3 (some .boolean) ({ frames := 0, cells := 0, slots := 0, locals := 0 } : Room) #[(.ref a), (.ref a)] h0 [] (fun v h' Sf => v = some (.int 1) ∧ h' = h0) := by
  have hpn : plainName "java/lang/String" = true := by first | (simp [plainName, overriddenIn]; done) | decide +kernel
  refine Con.intro (plainFor_of_name hpn) ?_
  intro p e s m below meth c T X hss
  refine Goes.cast (g' := mkF m 0 #[.val (.ref a), .val (.ref a), .unset] []) (by first | (simp [entryFrame, mkF, argsToLocals, Value.category]; done) | rfl) ?_
  refine o_aloadN X d_jdk_42_method_66_0 rfl rfl (q := 1) rfl ?_
  refine o_aloadN X d_jdk_42_method_66_1 rfl rfl (q := 2) rfl ?_
  refine o_acmp X d_jdk_42_method_66_2 rfl rfl (same := true) (decide_eq_true rfl) (by decide) (q := 5) (by decide) ?_
  refine o_iconst X d_jdk_42_method_66_5 (w := 1) rfl (q := 6) rfl ?_
  exact o_retN X d_jdk_42_method_66_6 (by simp) (fun Sf hSf => ⟨rfl, rfl⟩) (by decide) (by decide)
set_option maxRecDepth 65536 in
set_option maxHeartbeats 40000000 in
theorem c_law {l : Launch} {Z : State} {a0 : Array Value} (hw : W a0 Z) (p0 p1 p2 p3 p4 p5 : Int32) (cs : Int32) (O2 : Sta Z Z.heap "java/lang/String" "COMPACT_STRINGS" "Z" (.int cs)) (P5 : ¬ cs = 0) :
    Con l Z EL0 x code maxLocals ret room_1 #[(.int p0), (.int p1), (.int p2), (.int p3), (.int p4), (.int p5)] Z.heap [] (fun v h' Sf => v = some (.int 1)) := by
  have hpn : plainName "com/example/loadweir/loadweir/gateway/HostPortWithPortPinLaw" = true := by first | (simp [plainName, overriddenIn]; done) | decide +kernel
  refine Con.intro (plainFor_of_name hpn) ?_
  intro p e s m below meth c T X hss
  refine Goes.cast (g' := mkF m 0 #[.val (.int p0), .val (.int p1), .val (.int p2), .val (.int p3), .val (.int p4), .val (.int p5), .unset, .unset, .unset, .unset, .unset] []) (by first | (simp [entryFrame, mkF, argsToLocals, Value.category, maxLocals]; done) | rfl) ?_
  refine o_iloadN X at_0 rfl (q := 1) rfl ?_
  refine o_iloadN X at_1 rfl (q := 2) rfl ?_
  refine o_iloadN X at_2 rfl (q := 3) rfl ?_
  refine o_iloadN X at_3 rfl (q := 4) rfl ?_
  refine o_stat X [(.int p0), (.int p1), (.int p2), (.int p3)] (y' := (⟨"com/example/loadweir/loadweir/gateway/HostPortWithPortPinLaw", "host", "(IIII)Ljava/lang/String;"⟩ : MethodName)) (c_host hw p0 p1 p2 p3 cs _ O2 P5) all0 (w0 hw) (w1 hw) (w2 hw) (w3 hw) (by decide) at_4 (rest := []) rfl rfl (lenOf pd8 rfl) rfl (by decide) (Nat.le_of_ble_eq_true rfl) (by decide) (by decide) (q := 7) rfl ?_
  intro v1 vm1 T1 h1 l1 X1 R1 q1
  obtain ⟨t1, rfl, K1, E1⟩ := q1
  show Goes p e below _ T1 (mkF m 7 #[.val (.int p0), .val (.int p1), .val (.int p2), .val (.int p3), .val (.int p4), .val (.int p5), .unset, .unset, .unset, .unset, .unset] [(.ref t1)])
  refine o_astore X1 at_7 rfl (L' := #[.val (.int p0), .val (.int p1), .val (.int p2), .val (.int p3), .val (.int p4), .val (.int p5), .val (.ref t1), .unset, .unset, .unset, .unset]) rfl (q := 9) rfl ?_
  refine o_new X1 (w30 hw) (w31 hw) (w32 hw) at_9 (by decide) (by decide) (q := 12) rfl ?_
  intro T2 h2 b2 gb2 X2 E2 R2 S2 A2 D2 g0_b2
  have f3 : Fld Z h2 b2 "com/example/loadweir/loadweir/gateway/HostPort" "host" "Ljava/lang/String;" .null := D2 (Or.inr (w43 hw)) (ty := (.object "java/lang/String")) (by decide)
  have f4 : Fld Z h2 b2 "com/example/loadweir/loadweir/gateway/HostPort" "port" "I" (.int (0 : Int32)) := D2 (Or.inr (w45 hw)) (ty := .int) (by decide)
  refine o_dup X2 at_12 rfl (q := 13) rfl ?_
  refine o_aload X2 at_13 rfl rfl (q := 15) rfl ?_
  refine o_iload X2 at_15 rfl (q := 17) rfl ?_
  refine o_spec X2 [(.ref t1), (.int p4)] (y' := (⟨"com/example/loadweir/loadweir/gateway/HostPort", "<init>", "(Ljava/lang/String;I)V"⟩ : MethodName)) (c_hp hw b2 t1 p4 _ A2 g0_b2 f3 f4) all0 rfl (w33 hw) (w34 hw) (w35 hw) (w32 hw) (by decide) at_17 (rest := [(.ref b2)]) rfl rfl (lenOf pd7 rfl) rfl (by decide) (Nat.le_of_ble_eq_true rfl) (by decide) (by decide) (q := 20) rfl ?_
  intro v5 vm5 T5 h5 l5 X5 R5 q5
  obtain ⟨rfl, K5, Fh5, Fp5⟩ := q5
  show Goes p e below _ T5 (mkF m 20 #[.val (.int p0), .val (.int p1), .val (.int p2), .val (.int p3), .val (.int p4), .val (.int p5), .val (.ref t1), .unset, .unset, .unset, .unset] [(.ref b2)])
  refine o_astore X5 at_20 rfl (L' := #[.val (.int p0), .val (.int p1), .val (.int p2), .val (.int p3), .val (.int p4), .val (.int p5), .val (.ref t1), .val (.ref b2), .unset, .unset, .unset]) rfl (q := 22) rfl ?_
  refine o_aload X5 at_22 rfl rfl (q := 24) rfl ?_
  refine o_iload X5 at_24 rfl (q := 26) rfl ?_
  have f7 := (A2.keep K5)
  refine o_virt X5 [(.int p5)] (y' := (⟨"com/example/loadweir/loadweir/gateway/HostPort", "withPort", "(I)Lcom/example/loadweir/loadweir/gateway/HostPort;"⟩ : MethodName)) f7 (c_with hw b2 t1 p5 _ Fh5) all0 (w46 hw) (w47 hw) (w49 hw) (w48 hw) (w50 hw) (w32 hw) (by decide) at_26 (rest := []) rfl rfl (lenOf pd9 rfl) rfl (by decide) (Nat.le_of_ble_eq_true rfl) (by decide) (by decide) (q := 29) rfl ?_
  intro v6 vm6 T6 h6 l6 X6 R6 q6
  obtain ⟨r6, rfl, K6, E6, Fh6, Fp6⟩ := q6
  show Goes p e below _ T6 (mkF m 29 #[.val (.int p0), .val (.int p1), .val (.int p2), .val (.int p3), .val (.int p4), .val (.int p5), .val (.ref t1), .val (.ref b2), .unset, .unset, .unset] [(.ref r6)])
  refine o_astore X6 at_29 rfl (L' := #[.val (.int p0), .val (.int p1), .val (.int p2), .val (.int p3), .val (.int p4), .val (.int p5), .val (.ref t1), .val (.ref b2), .val (.ref r6), .unset, .unset]) rfl (q := 31) rfl ?_
  refine o_aload X6 at_31 rfl rfl (q := 33) rfl ?_
  refine o_ifnonnullY X6 at_33 (by decide) (q := 38) (by decide) ?_
  refine o_aload X6 at_38 rfl rfl (q := 40) rfl ?_
  refine o_virt X6 [] (y' := (⟨"com/example/loadweir/loadweir/gateway/HostPort", "port", "()I"⟩ : MethodName)) E6 (c_portG hw r6 p5 _ Fp6) all0 (w53 hw) (w54 hw) (w56 hw) (w55 hw) (w57 hw) (w32 hw) (by decide) at_40 (rest := []) rfl rfl (lenOf pd10 rfl) rfl (by decide) (Nat.le_of_ble_eq_true rfl) (by decide) (by decide) (q := 43) rfl ?_
  intro v8 vm8 T8 h8 l8 X8 R8 q8
  obtain ⟨rfl, e8⟩ := q8
  have e8 := e8.symm
  subst e8
  show Goes p e below _ T8 (mkF m 43 #[.val (.int p0), .val (.int p1), .val (.int p2), .val (.int p3), .val (.int p4), .val (.int p5), .val (.ref t1), .val (.ref b2), .val (.ref r6), .unset, .unset] [(.int p5)])
  refine o_iload X8 at_43 rfl (q := 45) rfl ?_
  refine o_icmpN X8 at_45 (teq rfl).2 (q := 48) rfl ?_
  refine o_aload X8 at_48 rfl rfl (q := 50) rfl ?_
  have f9 := Fh6
  have f11 := E6
  refine o_virt X8 [] (y' := (⟨"com/example/loadweir/loadweir/gateway/HostPort", "host", "()Ljava/lang/String;"⟩ : MethodName)) f11 (c_hostG hw r6 t1 _ f9) all0 (w58 hw) (w59 hw) (w61 hw) (w60 hw) (w62 hw) (w32 hw) (by decide) at_50 (rest := []) rfl rfl (lenOf pd11 rfl) rfl (by decide) (Nat.le_of_ble_eq_true rfl) (by decide) (by decide) (q := 53) rfl ?_
  intro v10 vm10 T10 h10 l10 X10 R10 q10
  obtain ⟨rfl, e10⟩ := q10
  have e10 := e10.symm
  subst e10
  show Goes p e below _ T10 (mkF m 53 #[.val (.int p0), .val (.int p1), .val (.int p2), .val (.int p3), .val (.int p4), .val (.int p5), .val (.ref t1), .val (.ref b2), .val (.ref r6), .unset, .unset] [(.ref t1)])
  refine o_ifnullN X10 at_53 (q := 56) rfl ?_
  refine o_aload X10 at_56 rfl rfl (q := 58) rfl ?_
  have f12 := f9
  have f14 := f11
  refine o_virt X10 [] (y' := (⟨"com/example/loadweir/loadweir/gateway/HostPort", "host", "()Ljava/lang/String;"⟩ : MethodName)) f14 (c_hostG hw r6 t1 _ f12) all0 (w58 hw) (w59 hw) (w61 hw) (w60 hw) (w62 hw) (w32 hw) (by decide) at_58 (rest := []) rfl rfl (lenOf pd11 rfl) rfl (by decide) (Nat.le_of_ble_eq_true rfl) (by decide) (by decide) (q := 61) rfl ?_
  intro v13 vm13 T13 h13 l13 X13 R13 q13
  obtain ⟨rfl, e13⟩ := q13
  have e13 := e13.symm
  subst e13
  show Goes p e below _ T13 (mkF m 61 #[.val (.int p0), .val (.int p1), .val (.int p2), .val (.int p3), .val (.int p4), .val (.int p5), .val (.ref t1), .val (.ref b2), .val (.ref r6), .unset, .unset] [(.ref t1)])
  refine o_aload X13 at_61 rfl rfl (q := 63) rfl ?_
  have f16 := (((E1.ext E2).keep K5).keep K6)
  refine o_virt X13 [(.ref t1)] (y' := (⟨"java/lang/String", "equals", "(Ljava/lang/Object;)Z"⟩ : MethodName)) f16 (c_eqS hw t1 _) all0 (w63 hw) (w64 hw) (w66 hw) (w65 hw) (w67 hw) (w6 hw) (by decide) at_63 (rest := []) rfl rfl (lenOf pd12 rfl) rfl (by decide) (Nat.le_of_ble_eq_true rfl) (by decide) (by decide) (q := 66) rfl ?_
  intro v15 vm15 T15 h15 l15 X15 R15 q15
  obtain ⟨rfl, e15⟩ := q15
  have e15 := e15.symm
  subst e15
  show Goes p e below _ T15 (mkF m 66 #[.val (.int p0), .val (.int p1), .val (.int p2), .val (.int p3), .val (.int p4), .val (.int p5), .val (.ref t1), .val (.ref b2), .val (.ref r6), .unset, .unset] [(.int (1 : Int32))])
  refine o_ifN X15 at_66 (by decide) (q := 69) rfl ?_
  refine o_iconst X15 at_69 (w := 1) rfl (q := 70) rfl ?_
  refine o_goto X15 at_70 (by decide) (q := 74) (by decide) ?_
  refine o_istore X15 at_74 rfl (L' := #[.val (.int p0), .val (.int p1), .val (.int p2), .val (.int p3), .val (.int p4), .val (.int p5), .val (.ref t1), .val (.ref b2), .val (.ref r6), .val (.int (1 : Int32)), .unset]) rfl (q := 76) rfl ?_
  refine o_aload X15 at_76 rfl rfl (q := 78) rfl ?_
  have f17 := (Fp5.keep K6 nin0)
  have f19 := (f7.keep K6)
  refine o_virt X15 [] (y' := (⟨"com/example/loadweir/loadweir/gateway/HostPort", "port", "()I"⟩ : MethodName)) f19 (c_portG hw b2 p4 _ f17) all0 (w53 hw) (w54 hw) (w56 hw) (w55 hw) (w57 hw) (w32 hw) (by decide) at_78 (rest := []) rfl rfl (lenOf pd10 rfl) rfl (by decide) (Nat.le_of_ble_eq_true rfl) (by decide) (by decide) (q := 81) rfl ?_
  intro v18 vm18 T18 h18 l18 X18 R18 q18
  obtain ⟨rfl, e18⟩ := q18
  have e18 := e18.symm
  subst e18
  show Goes p e below _ T18 (mkF m 81 #[.val (.int p0), .val (.int p1), .val (.int p2), .val (.int p3), .val (.int p4), .val (.int p5), .val (.ref t1), .val (.ref b2), .val (.ref r6), .val (.int (1 : Int32)), .unset] [(.int p4)])
  refine o_iload X18 at_81 rfl (q := 83) rfl ?_
  refine o_icmpN X18 at_83 (teq rfl).2 (q := 86) rfl ?_
  refine o_aload X18 at_86 rfl rfl (q := 88) rfl ?_
  have f20 := (Fh5.keep K6 nin0)
  have f22 := f19
  refine o_virt X18 [] (y' := (⟨"com/example/loadweir/loadweir/gateway/HostPort", "host", "()Ljava/lang/String;"⟩ : MethodName)) f22 (c_hostG hw b2 t1 _ f20) all0 (w58 hw) (w59 hw) (w61 hw) (w60 hw) (w62 hw) (w32 hw) (by decide) at_88 (rest := []) rfl rfl (lenOf pd11 rfl) rfl (by decide) (Nat.le_of_ble_eq_true rfl) (by decide) (by decide) (q := 91) rfl ?_
  intro v21 vm21 T21 h21 l21 X21 R21 q21
  obtain ⟨rfl, e21⟩ := q21
  have e21 := e21.symm
  subst e21
  show Goes p e below _ T21 (mkF m 91 #[.val (.int p0), .val (.int p1), .val (.int p2), .val (.int p3), .val (.int p4), .val (.int p5), .val (.ref t1), .val (.ref b2), .val (.ref r6), .val (.int (1 : Int32)), .unset] [(.ref t1)])
  refine o_ifnullN X21 at_91 (q := 94) rfl ?_
  refine o_aload X21 at_94 rfl rfl (q := 96) rfl ?_
  have f23 := f20
  have f25 := f22
  refine o_virt X21 [] (y' := (⟨"com/example/loadweir/loadweir/gateway/HostPort", "host", "()Ljava/lang/String;"⟩ : MethodName)) f25 (c_hostG hw b2 t1 _ f23) all0 (w58 hw) (w59 hw) (w61 hw) (w60 hw) (w62 hw) (w32 hw) (by decide) at_96 (rest := []) rfl rfl (lenOf pd11 rfl) rfl (by decide) (Nat.le_of_ble_eq_true rfl) (by decide) (by decide) (q := 99) rfl ?_
  intro v24 vm24 T24 h24 l24 X24 R24 q24
  obtain ⟨rfl, e24⟩ := q24
  have e24 := e24.symm
  subst e24
  show Goes p e below _ T24 (mkF m 99 #[.val (.int p0), .val (.int p1), .val (.int p2), .val (.int p3), .val (.int p4), .val (.int p5), .val (.ref t1), .val (.ref b2), .val (.ref r6), .val (.int (1 : Int32)), .unset] [(.ref t1)])
  refine o_aload X24 at_99 rfl rfl (q := 101) rfl ?_
  have f27 := f16
  refine o_virt X24 [(.ref t1)] (y' := (⟨"java/lang/String", "equals", "(Ljava/lang/Object;)Z"⟩ : MethodName)) f27 (c_eqS hw t1 _) all0 (w63 hw) (w64 hw) (w66 hw) (w65 hw) (w67 hw) (w6 hw) (by decide) at_101 (rest := []) rfl rfl (lenOf pd12 rfl) rfl (by decide) (Nat.le_of_ble_eq_true rfl) (by decide) (by decide) (q := 104) rfl ?_
  intro v26 vm26 T26 h26 l26 X26 R26 q26
  obtain ⟨rfl, e26⟩ := q26
  have e26 := e26.symm
  subst e26
  show Goes p e below _ T26 (mkF m 104 #[.val (.int p0), .val (.int p1), .val (.int p2), .val (.int p3), .val (.int p4), .val (.int p5), .val (.ref t1), .val (.ref b2), .val (.ref r6), .val (.int (1 : Int32)), .unset] [(.int (1 : Int32))])
  refine o_ifN X26 at_104 (by decide) (q := 107) rfl ?_
  refine o_iconst X26 at_107 (w := 1) rfl (q := 108) rfl ?_
  refine o_goto X26 at_108 (by decide) (q := 112) (by decide) ?_
  refine o_istore X26 at_112 rfl (L' := #[.val (.int p0), .val (.int p1), .val (.int p2), .val (.int p3), .val (.int p4), .val (.int p5), .val (.ref t1), .val (.ref b2), .val (.ref r6), .val (.int (1 : Int32)), .val (.int (1 : Int32))]) rfl (q := 114) rfl ?_
  refine o_iload X26 at_114 rfl (q := 116) rfl ?_
  refine o_ifN X26 at_116 (by decide) (q := 119) rfl ?_
  refine o_iload X26 at_119 rfl (q := 121) rfl ?_
  refine o_ifN X26 at_121 (by decide) (q := 124) rfl ?_
  refine o_iconst X26 at_124 (w := 1) rfl (q := 125) rfl ?_
  refine o_goto X26 at_125 (by decide) (q := 129) (by decide) ?_
  exact o_retN X26 at_129 (by simp) (fun Sf hSf => rfl) (by decide) (by decide)
set_option maxRecDepth 65536 in
set_option maxHeartbeats 40000000 in
theorem comes_1 {Post : Tables → Env → Array Value → State → Outcome → State → Prop} (hpost : ∀ tb e args s v u, (limb_1_1.after args s (.returned v) u = true ∧ limb_1_2.after args s (.returned v) u = true ∧ True) → ReturnedEndW s (.returned v) u (Jvm.fieldLocs frame_1_writes args s ++ Jvm.arrayLocs frame_1_arrays args s ++ Jvm.staticLocs frame_1_statics s) 24 1152 → Post tb e args s (.returned v) u) :
    ArmFor flags0 classFile x code maxLocals ret World_1 tables_1 room_1 Calls_1 rest_1 Pre_1 Post := by
  intro l hfl _ _ p e ha hc hk s m args below hf hA hF happ hP
  obtain ⟨hcalls, hrest, hpre⟩ := hP
  obtain ⟨-, -, -, hnamed, -, -, -, hat⟩ := (Spec.applies_iff hf).mp happ
  obtain ⟨hg, hn⟩ := and_e (Cond.before_iff.mp (show (Jvm.Cond.and given_1 narrow_1).before args s = true from hpre))
  obtain ⟨hcount, hg0⟩ := and_e hg
  obtain ⟨ga0, hg1⟩ := and_e hg0
  obtain ⟨ga1, hg2⟩ := and_e hg1
  obtain ⟨ga2, hg3⟩ := and_e hg2
  obtain ⟨ga3, hg4⟩ := and_e hg3
  obtain ⟨ga4, hg5⟩ := and_e hg4
  obtain ⟨w0, w1, w2, w3, w4, w5, rfl⟩ : ∃ w0 w1 w2 w3 w4 w5 : Value, args = #[w0, w1, w2, w3, w4, w5] := by
    have hs : args.size = 6 := by simpa [Cond.value, given_1] using hcount
    obtain ⟨L⟩ := args
    match L, hs with
    | [w0, w1, w2, w3, w4, w5], _ => exact ⟨w0, w1, w2, w3, w4, w5, rfl⟩
  have hw : W _ s := fun d (hd : d ∈ tables_1) => atoms_spec (ws := Jvm.Cond.code x code maxLocals ret :: tables_1) hat d (List.mem_cons_of_mem _ hd)
  obtain ⟨hsets, hown0⟩ := atoms_of _ (rest_1_c_eq ▸ (show rest_1_c.before _ s = true from hrest))
  obtain ⟨i0, ei0⟩ := is_v ga0
  obtain rfl : w0 = (.int i0) := Option.some.inj ei0
  obtain ⟨i1, ei1⟩ := is_v ga1
  obtain rfl : w1 = (.int i1) := Option.some.inj ei1
  obtain ⟨i2, ei2⟩ := is_v ga2
  obtain rfl : w2 = (.int i2) := Option.some.inj ei2
  obtain ⟨i3, ei3⟩ := is_v ga3
  obtain rfl : w3 = (.int i3) := Option.some.inj ei3
  obtain ⟨i4, ei4⟩ := is_v ga4
  obtain rfl : w4 = (.int i4) := Option.some.inj ei4
  obtain ⟨i5, ei5⟩ := is_v hg5
  obtain rfl : w5 = (.int i5) := Option.some.inj ei5
  obtain ⟨zc, ezc⟩ := is_v (Cond.before_iff.mp (hsets _ (List.mem_of_getElem? (i := 1) rfl)))
  have O2 : Sta s s.heap "java/lang/String" "COMPACT_STRINGS" "Z" (.int zc) := Sta.start ezc (Or.inl (hsets _ (List.mem_of_getElem? (i := 0) rfl)))
  have P5 : ¬ (zc = (0 : Int32)) := gotF (Cond.eq_ints ezc (Term.int_eval (0))) (not_v (Cond.before_iff.mp (hsets _ (List.mem_of_getElem? (i := 2) rfl))))
  have hEW : EW s _ EL0 := (EW.cons (w86 hw) (by decide) EW.nil)
  have hhe : ∀ p ∈ EL0, Jvm.Lit.constHeld s p.1 p.2 := fun p hp => hcalls.1 p hp
  have hcw : Jvm.Lit.compactW.before _ s = true := (hsets _ (List.mem_of_getElem? (i := 2) rfl))
  have hCH : CHv s EL0 s.vm s.heap := CHv.start hEW hhe hcw (w18 hw) (w14 hw)
  obtain ⟨n, o, h1, h2, h3, v, L, rfl, ⟨hQ, hN, -⟩, -, hq⟩ := c_law (l := l) hw i0 i1 i2 i3 i4 i5 zc O2 P5 ⟨_, hEW⟩ ⟨Nat.le_refl _, fun _ _ q => q⟩ tables_1 p e ha hc hk s m _ below hf ((Spec.applies_iff_loose hf).mp happ).1 ⟨rfl, State.Warmed39.refl s, rfl, hCH, all0⟩ trivial
  subst hQ
  refine ⟨n, _, h1, h2, h3, hpost _ _ _ _ _ _ ⟨Cond.after_iff.mpr rfl, Cond.after_iff.mpr (eq_i res_at (Term.int_eval (1)) rfl), trivial⟩ ⟨hq.1, hq.2.1, hq.2.2.1, (hq.2.2.2.sift fun y hy => Or.inr (hN y hy)).mono (by decide) (by decide)⟩⟩
theorem main_1_1 : Claimed_1_1 := comes_1 fun _ _ _ _ _ _ h hF => ⟨h.1, hF⟩
theorem main_1_2 : Claimed_1_2 := comes_1 fun _ _ _ _ _ _ h hF => ⟨h.2.1, hF⟩
end Jvm.Pilot.@@N@@
namespace Jvm.Pilot.@@N@@
open Jvm Jvm.ClassFile Sem Op Lib Jvm.Free Jvm.Stand Jvm.Pilot.@@N@@.Jvm.D
/-! MADE BY PROGRAM (witnessworld.py) out of the Statement's table words and the real class files: 21 classes; the members and pool entries that the words name. The judged class is class 1, her method 2. -/
namespace start1
open Jvm.ClassFile
def u (s : String) : CpInfo := .utf8 (stringToUtf16 s)
/-- a pool by its gaps: so many unusable entries, then the entry; so many at the end -/
def gap : Nat → List CpInfo → List CpInfo
  | 0, r => r
  | n + 1, r => .unusable :: gap n r
def poolList (es : List (Nat × CpInfo)) (last : Nat) : List CpInfo := es.foldr (fun e r => gap e.1 (e.2 :: r)) (gap last [])
def pool (es : List (Nat × CpInfo)) (last : Nat) : Array CpInfo := ⟨poolList es last⟩
def fileOf (pool : Array CpInfo) (this : Nat) (attrs : Array Attribute := #[]) (ms : Array MethodInfo := #[]) (fl : Nat := 33) (sup : Nat := 0) (ifs : Array Nat := #[]) (fds : Array FieldInfo := #[]) : ClassFile where
  minorVersion := 0
  majorVersion := 65
  constantPool := pool
  accessFlags := fl
  thisClass := this
  superClass := sup
  interfaces := ifs
  fields := fds
  methods := ms
  attributes := attrs
def plain (name : String) (sup : Option ClassId) : Class where
  name := name
  kind := .ordinary
  loader := none
  accessFlags := 33
  super := sup
  interfaces := #[]
  cf := none
  fields := #[]
  methods := #[]
  instanceTypes := #[]
  staticTypes := #[]
  resolved := #[]
  callSites := []
  init := .initialized
  statics := none
  mirror := none

def pool0 : Array CpInfo := pool [(5, u "<init>"), (0, u "()V"), (1, .class_ 10), (1, u "java/lang/Object")] 113

def k0c0 : Code := { maxStack := 0, maxLocals := 1, code := object_method_1_code, exceptionTable := #[], attributes := #[] }
def k0m0 : Method := { name := "<init>", desc := "()V", sig := { parameters := [], returnType := none }, accessFlags := 1, code := some k0c0 }
/-- java/lang/Object -/
def k0 : Class := { plain "java/lang/Object" none with
  accessFlags := 33
  interfaces := #[]
  cf := some (fileOf pool0 8 #[] #[{ accessFlags := 1, nameIndex := 5, descriptorIndex := 6, attributes := #[] }] 33 0 #[] #[])
  fields := #[]
  methods := #[k0m0]
  instanceTypes := #[]
  staticTypes := #[]
  resolved := Array.replicate 124 none
  statics := none }

def pool1 : Array CpInfo := pool [(2, .class_ 4), (1, u "java/lang/Object"), (0, u "<init>"), (0, u "()V"), (0, .class_ 8), (0, u "java/lang/String"), (0, .methodref 7 10), (0, .nameAndType 5 11), (0, u "([C)V"), (0, .methodref 7 13), (0, .nameAndType 14 15), (0, u "valueOf"), (0, u "(C)Ljava/lang/String;"), (0, .methodref 17 18), (0, .class_ 19), (0, .nameAndType 20 21), (0, u "com/example/loadweir/loadweir/gateway/HostPortWithPortPinLaw"), (0, u "host"), (0, u "(IIII)Ljava/lang/String;"), (0, .class_ 23), (0, u "com/example/loadweir/loadweir/gateway/HostPort"), (0, .methodref 22 25), (0, .nameAndType 5 26), (0, u "(Ljava/lang/String;I)V"), (0, .methodref 22 28), (0, .nameAndType 29 30), (0, u "withPort"), (0, u "(I)Lcom/example/loadweir/loadweir/gateway/HostPort;"), (0, .methodref 22 32), (0, .nameAndType 33 34), (0, u "port"), (0, u "()I"), (0, .methodref 22 36), (0, .nameAndType 20 37), (0, u "()Ljava/lang/String;"), (0, .methodref 7 39), (0, .nameAndType 40 41), (0, u "equals"), (0, u "(Ljava/lang/Object;)Z"), (5, u "law"), (0, u "(IIIIII)Z")] 2

def k1m0 : Method := { name := "<init>", desc := "()V", sig := { parameters := [], returnType := none }, accessFlags := 1, code := none }
def k1c1 : Code := { maxStack := 4, maxLocals := 6, code := method_2_code, exceptionTable := #[], attributes := #[] }
def k1m1 : Method := { name := "host", desc := "(IIII)Ljava/lang/String;", sig := { parameters := [.int, .int, .int, .int], returnType := some (.object "java/lang/String") }, accessFlags := 10, code := some k1c1 }
def k1c2 : Code := { maxStack := 4, maxLocals := 11, code := code, exceptionTable := #[], attributes := #[] }
def k1m2 : Method := { name := "law", desc := "(IIIIII)Z", sig := { parameters := [.int, .int, .int, .int, .int, .int], returnType := some .boolean }, accessFlags := 9, code := some k1c2 }
/-- com/example/loadweir/loadweir/gateway/HostPortWithPortPinLaw -/
def k1 : Class := { plain "com/example/loadweir/loadweir/gateway/HostPortWithPortPinLaw" (some 0) with
  accessFlags := 49
  interfaces := #[]
  cf := some (fileOf pool1 17 #[] #[{ accessFlags := 1, nameIndex := 5, descriptorIndex := 6, attributes := #[] }, { accessFlags := 10, nameIndex := 20, descriptorIndex := 21, attributes := #[] }, { accessFlags := 9, nameIndex := 47, descriptorIndex := 48, attributes := #[] }] 49 2 #[] #[])
  fields := #[]
  methods := #[k1m0, k1m1, k1m2]
  instanceTypes := #[]
  staticTypes := #[]
  resolved := Array.replicate 51 none
  statics := none }

def pool2 : Array CpInfo := pool [(1, .class_ 2), (0, u "java/io/Serializable"), (0, .class_ 4), (0, u "java/lang/Object")] 2

/-- java/io/Serializable -/
def k2 : Class := { plain "java/io/Serializable" (some 0) with
  accessFlags := 1537
  interfaces := #[]
  cf := some (fileOf pool2 1 #[] #[] 1537 3 #[] #[])
  fields := #[]
  methods := #[]
  instanceTypes := #[]
  staticTypes := #[]
  resolved := Array.replicate 7 none
  statics := none }

def pool3 : Array CpInfo := pool [(1, .class_ 2), (0, u "java/lang/Comparable"), (0, .class_ 4), (0, u "java/lang/Object")] 7

/-- java/lang/Comparable -/
def k3 : Class := { plain "java/lang/Comparable" (some 0) with
  accessFlags := 1537
  interfaces := #[]
  cf := some (fileOf pool3 1 #[] #[] 1537 3 #[] #[])
  fields := #[]
  methods := #[]
  instanceTypes := #[]
  staticTypes := #[]
  resolved := Array.replicate 12 none
  statics := none }

def pool4 : Array CpInfo := pool [(2, .class_ 4), (1, u "java/lang/CharSequence"), (42, .class_ 48), (0, u "java/lang/CharSequence$1CodePointIterator"), (10, .class_ 60), (0, u "java/lang/CharSequence$1CharIterator"), (5, .class_ 67), (0, u "java/lang/Object")] 63

/-- java/lang/CharSequence -/
def k4 : Class := { plain "java/lang/CharSequence" (some 0) with
  accessFlags := 1537
  interfaces := #[]
  cf := some (fileOf pool4 2 #[.nestMembers #[47, 59]] #[] 1537 66 #[] #[])
  fields := #[]
  methods := #[]
  instanceTypes := #[]
  staticTypes := #[]
  resolved := Array.replicate 131 none
  statics := none }

def pool5 : Array CpInfo := pool [(1, .class_ 2), (0, u "java/lang/constant/Constable"), (0, .class_ 4), (0, u "java/lang/Object")] 6

/-- java/lang/constant/Constable -/
def k5 : Class := { plain "java/lang/constant/Constable" (some 0) with
  accessFlags := 1537
  interfaces := #[]
  cf := some (fileOf pool5 1 #[] #[] 1537 3 #[] #[])
  fields := #[]
  methods := #[]
  instanceTypes := #[]
  staticTypes := #[]
  resolved := Array.replicate 11 none
  statics := none }

def pool6 : Array CpInfo := pool [(1, .class_ 2), (0, u "java/lang/constant/ConstantDesc"), (0, .class_ 4), (0, u "java/lang/Object")] 32

/-- java/lang/constant/ConstantDesc -/
def k6 : Class := { plain "java/lang/constant/ConstantDesc" (some 0) with
  accessFlags := 1537
  interfaces := #[]
  cf := some (fileOf pool6 1 #[] #[] 1537 3 #[] #[])
  fields := #[]
  methods := #[]
  instanceTypes := #[]
  staticTypes := #[]
  resolved := Array.replicate 37 none
  statics := none }

def pool7 : Array CpInfo := pool [(1, .methodref 2 3), (0, .class_ 4), (0, .nameAndType 5 6), (0, u "java/lang/Object"), (0, u "<init>"), (0, u "()V"), (0, .string 8), (0, u ""), (0, .fieldref 10 11), (0, .class_ 12), (0, .nameAndType 13 14), (0, u "java/lang/String"), (0, u "value"), (0, u "[B"), (0, .fieldref 10 16), (0, .nameAndType 17 18), (0, u "coder"), (0, u "B"), (2, u "hash"), (0, u "I"), (2, u "hashIsZero"), (0, u "Z"), (0, .methodref 10 28), (0, .nameAndType 5 29), (0, u "([CIILjava/lang/Void;)V"), (8, .fieldref 10 39), (0, .nameAndType 40 26), (0, u "COMPACT_STRINGS"), (1, .class_ 44), (1, u "java/lang/StringUTF16"), (0, u "compress"), (1, .methodref 42 48), (0, .nameAndType 49 50), (0, u "coderFromArrayLen"), (0, u "([BI)B"), (2, u "toBytes"), (53, .class_ 109), (1, u "java/lang/StringLatin1"), (67, .methodref 42 178), (0, .nameAndType 45 179), (0, u "([CII)[B"), (29, .methodref 10 210), (0, .nameAndType 5 211), (0, u "([BB)V"), (157, u "(C)Z"), (173, u "equals"), (29, u "(Ljava/lang/Object;)Z"), (1, .class_ 576), (0, u "java/lang/CharSequence"), (22, u "CASE_INSENSITIVE_ORDER"), (0, u "Ljava/util/Comparator;"), (181, u "valueOf"), (0, u "(C)Ljava/lang/String;"), (226, u "([C)V"), (4, .methodref 107 1016), (0, .nameAndType 1017 369), (0, u "canEncode"), (0, .methodref 107 1019), (0, .nameAndType 53 1020), (0, u "(C)[B"), (80, u "serialPersistentFields"), (0, u "[Ljava/io/ObjectStreamField;"), (0, .class_ 1104), (0, u "java/lang/String$CaseInsensitiveComparator"), (1, .class_ 1107), (0, u "java/io/Serializable"), (0, .class_ 1109), (0, u "java/lang/Comparable"), (0, .class_ 1111), (0, u "java/lang/constant/Constable"), (0, .class_ 1113), (0, u "java/lang/constant/ConstantDesc"), (2, u "serialVersionUID"), (0, u "J"), (3, u "REPL"), (0, u "C"), (2, u "LATIN1"), (1, u "UTF16")] 323

def k7m0 : Method := { name := "<init>", desc := "()V", sig := { parameters := [], returnType := none }, accessFlags := 1, code := none }
def k7c1 : Code := { maxStack := 5, maxLocals := 2, code := jdk_42_method_3_code, exceptionTable := #[], attributes := #[] }
def k7m1 : Method := { name := "<init>", desc := "([C)V", sig := { parameters := [(.array .char)], returnType := none }, accessFlags := 1, code := some k7c1 }
def k7c2 : Code := { maxStack := 2, maxLocals := 3, code := jdk_42_method_66_code, exceptionTable := #[], attributes := #[] }
def k7m2 : Method := { name := "equals", desc := "(Ljava/lang/Object;)Z", sig := { parameters := [(.object "java/lang/Object")], returnType := some .boolean }, accessFlags := 1, code := some k7c2 }
def k7c3 : Code := { maxStack := 4, maxLocals := 1, code := jdk_42_method_139_code, exceptionTable := #[], attributes := #[] }
def k7m3 : Method := { name := "valueOf", desc := "(C)Ljava/lang/String;", sig := { parameters := [.char], returnType := some (.object "java/lang/String") }, accessFlags := 9, code := some k7c3 }
def k7c4 : Code := { maxStack := 4, maxLocals := 6, code := jdk_42_method_149_code, exceptionTable := #[], attributes := #[] }
def k7m4 : Method := { name := "<init>", desc := "([CIILjava/lang/Void;)V", sig := { parameters := [(.array .char), .int, .int, (.object "java/lang/Void")], returnType := none }, accessFlags := 2, code := some k7c4 }
def k7c5 : Code := { maxStack := 2, maxLocals := 3, code := jdk_42_method_151_code, exceptionTable := #[], attributes := #[] }
def k7m5 : Method := { name := "<init>", desc := "([BB)V", sig := { parameters := [(.array .byte), .byte], returnType := none }, accessFlags := 0, code := some k7c5 }
/-- java/lang/String -/
def k7 : Class := { plain "java/lang/String" (some 0) with
  accessFlags := 49
  interfaces := #[2, 3, 4, 5, 6]
  cf := some (fileOf pool7 10 #[.nestMembers #[1103]] #[{ accessFlags := 1, nameIndex := 5, descriptorIndex := 6, attributes := #[] }, { accessFlags := 1, nameIndex := 5, descriptorIndex := 1010, attributes := #[] }, { accessFlags := 1, nameIndex := 543, descriptorIndex := 573, attributes := #[] }, { accessFlags := 9, nameIndex := 782, descriptorIndex := 783, attributes := #[] }, { accessFlags := 2, nameIndex := 5, descriptorIndex := 29, attributes := #[] }, { accessFlags := 0, nameIndex := 5, descriptorIndex := 211, attributes := #[] }] 49 2 #[1106, 1108, 575, 1110, 1112] #[{ accessFlags := 18, nameIndex := 13, descriptorIndex := 14, attributes := #[] }, { accessFlags := 18, nameIndex := 17, descriptorIndex := 18, attributes := #[] }, { accessFlags := 2, nameIndex := 21, descriptorIndex := 22, attributes := #[] }, { accessFlags := 2, nameIndex := 25, descriptorIndex := 26, attributes := #[] }, { accessFlags := 26, nameIndex := 1116, descriptorIndex := 1117, attributes := #[] }, { accessFlags := 24, nameIndex := 40, descriptorIndex := 26, attributes := #[] }, { accessFlags := 26, nameIndex := 1101, descriptorIndex := 1102, attributes := #[] }, { accessFlags := 26, nameIndex := 1121, descriptorIndex := 1122, attributes := #[] }, { accessFlags := 25, nameIndex := 599, descriptorIndex := 600, attributes := #[] }, { accessFlags := 24, nameIndex := 1125, descriptorIndex := 18, attributes := #[] }, { accessFlags := 24, nameIndex := 1127, descriptorIndex := 18, attributes := #[] }])
  fields := #[{ name := "value", type := (.array .byte), accessFlags := 18, slot := 0, constantValue := 0 }, { name := "coder", type := .byte, accessFlags := 18, slot := 1, constantValue := 0 }, { name := "hash", type := .int, accessFlags := 2, slot := 2, constantValue := 0 }, { name := "hashIsZero", type := .boolean, accessFlags := 2, slot := 3, constantValue := 0 }, { name := "serialVersionUID", type := .long, accessFlags := 26, slot := 0, constantValue := 0 }, { name := "COMPACT_STRINGS", type := .boolean, accessFlags := 24, slot := 1, constantValue := 0 }, { name := "serialPersistentFields", type := (.array (.object "java/io/ObjectStreamField")), accessFlags := 26, slot := 2, constantValue := 0 }, { name := "REPL", type := .char, accessFlags := 26, slot := 3, constantValue := 0 }, { name := "CASE_INSENSITIVE_ORDER", type := (.object "java/util/Comparator"), accessFlags := 25, slot := 4, constantValue := 0 }, { name := "LATIN1", type := .byte, accessFlags := 24, slot := 5, constantValue := 0 }, { name := "UTF16", type := .byte, accessFlags := 24, slot := 6, constantValue := 0 }]
  methods := #[k7m0, k7m1, k7m2, k7m3, k7m4, k7m5]
  instanceTypes := #[(.array .byte), .byte, .int, .boolean]
  staticTypes := #[.long, .boolean, (.array (.object "java/io/ObjectStreamField")), .char, (.object "java/util/Comparator"), .byte, .byte]
  resolved := Array.replicate 1451 none
  statics := some 0 }

def pool8 : Array CpInfo := pool [(4, .class_ 6), (1, u "java/lang/Object"), (0, u "<init>"), (0, u "()V"), (5, .class_ 16), (1, u "java/lang/StringLatin1"), (73, u "canEncode"), (14, u "(C)Z"), (15, u "$assertionsDisabled"), (0, u "Z"), (98, .class_ 223), (1, u "java/lang/StringLatin1$LinesSpliterator"), (156, u "toBytes"), (1, u "(C)[B"), (7, .class_ 391), (0, u "java/lang/StringLatin1$CharsSpliterator")] 3

def k8m0 : Method := { name := "<init>", desc := "()V", sig := { parameters := [], returnType := none }, accessFlags := 0, code := none }
def k8c1 : Code := { maxStack := 2, maxLocals := 1, code := jdk_43_method_3_code, exceptionTable := #[], attributes := #[] }
def k8m1 : Method := { name := "canEncode", desc := "(C)Z", sig := { parameters := [.char], returnType := some .boolean }, accessFlags := 9, code := some k8c1 }
def k8c2 : Code := { maxStack := 4, maxLocals := 1, code := jdk_43_method_46_code, exceptionTable := #[], attributes := #[] }
def k8m2 : Method := { name := "toBytes", desc := "(C)[B", sig := { parameters := [.char], returnType := some (.array .byte) }, accessFlags := 9, code := some k8c2 }
/-- java/lang/StringLatin1 -/
def k8 : Class := { plain "java/lang/StringLatin1" (some 0) with
  accessFlags := 48
  interfaces := #[]
  cf := some (fileOf pool8 14 #[.nestMembers #[390, 221]] #[{ accessFlags := 0, nameIndex := 7, descriptorIndex := 8, attributes := #[] }, { accessFlags := 9, nameIndex := 90, descriptorIndex := 105, attributes := #[] }, { accessFlags := 9, nameIndex := 380, descriptorIndex := 382, attributes := #[] }] 48 4 #[] #[{ accessFlags := 4120, nameIndex := 121, descriptorIndex := 122, attributes := #[] }])
  fields := #[{ name := "$assertionsDisabled", type := .boolean, accessFlags := 4120, slot := 0, constantValue := 0 }]
  methods := #[k8m0, k8m1, k8m2]
  instanceTypes := #[]
  staticTypes := #[.boolean]
  resolved := Array.replicate 395 none
  statics := none }

def pool9 : Array CpInfo := pool [(1, .methodref 2 3), (0, .class_ 4), (0, .nameAndType 5 6), (0, u "java/lang/Object"), (0, u "<init>"), (0, u "()V"), (0, .class_ 8), (0, u "java/lang/Record")] 13

def k9c0 : Code := { maxStack := 1, maxLocals := 1, code := jdk_30_method_1_code, exceptionTable := #[], attributes := #[] }
def k9m0 : Method := { name := "<init>", desc := "()V", sig := { parameters := [], returnType := none }, accessFlags := 4, code := some k9c0 }
/-- java/lang/Record -/
def k9 : Class := { plain "java/lang/Record" (some 0) with
  accessFlags := 1057
  interfaces := #[]
  cf := some (fileOf pool9 7 #[] #[{ accessFlags := 4, nameIndex := 5, descriptorIndex := 6, attributes := #[] }] 1057 2 #[] #[])
  fields := #[]
  methods := #[k9m0]
  instanceTypes := #[]
  staticTypes := #[]
  resolved := Array.replicate 22 none
  statics := none }

def pool10 : Array CpInfo := pool [(1, .methodref 2 3), (0, .class_ 4), (0, .nameAndType 5 6), (0, u "java/lang/Record"), (0, u "<init>"), (0, u "()V"), (0, .fieldref 8 9), (0, .class_ 10), (0, .nameAndType 11 12), (0, u "com/example/loadweir/loadweir/gateway/HostPort"), (0, u "host"), (0, u "Ljava/lang/String;"), (0, .fieldref 8 14), (0, .nameAndType 15 16), (0, u "port"), (0, u "I"), (33, u "()I"), (38, .methodref 8 90), (0, .nameAndType 5 91), (0, u "(Ljava/lang/String;I)V"), (32, u "()Ljava/lang/String;"), (0, u "withPort"), (0, u "(I)Lcom/example/loadweir/loadweir/gateway/HostPort;")] 61

def k10c0 : Code := { maxStack := 2, maxLocals := 3, code := prog_12_method_1_code, exceptionTable := #[], attributes := #[] }
def k10m0 : Method := { name := "<init>", desc := "(Ljava/lang/String;I)V", sig := { parameters := [(.object "java/lang/String"), .int], returnType := none }, accessFlags := 1, code := some k10c0 }
def k10c1 : Code := { maxStack := 4, maxLocals := 2, code := prog_12_method_4_code, exceptionTable := #[], attributes := #[] }
def k10m1 : Method := { name := "withPort", desc := "(I)Lcom/example/loadweir/loadweir/gateway/HostPort;", sig := { parameters := [.int], returnType := some (.object "com/example/loadweir/loadweir/gateway/HostPort") }, accessFlags := 1, code := some k10c1 }
def k10c2 : Code := { maxStack := 1, maxLocals := 1, code := prog_12_method_8_code, exceptionTable := #[], attributes := #[] }
def k10m2 : Method := { name := "host", desc := "()Ljava/lang/String;", sig := { parameters := [], returnType := some (.object "java/lang/String") }, accessFlags := 1, code := some k10c2 }
def k10c3 : Code := { maxStack := 1, maxLocals := 1, code := prog_12_method_9_code, exceptionTable := #[], attributes := #[] }
def k10m3 : Method := { name := "port", desc := "()I", sig := { parameters := [], returnType := some .int }, accessFlags := 1, code := some k10c3 }
/-- com/example/loadweir/loadweir/gateway/HostPort -/
def k10 : Class := { plain "com/example/loadweir/loadweir/gateway/HostPort" (some 9) with
  accessFlags := 49
  interfaces := #[]
  cf := some (fileOf pool10 8 #[] #[{ accessFlags := 1, nameIndex := 5, descriptorIndex := 91, attributes := #[] }, { accessFlags := 1, nameIndex := 125, descriptorIndex := 126, attributes := #[] }, { accessFlags := 1, nameIndex := 11, descriptorIndex := 124, attributes := #[] }, { accessFlags := 1, nameIndex := 15, descriptorIndex := 50, attributes := #[] }] 49 2 #[] #[{ accessFlags := 18, nameIndex := 11, descriptorIndex := 12, attributes := #[] }, { accessFlags := 18, nameIndex := 15, descriptorIndex := 16, attributes := #[] }])
  fields := #[{ name := "host", type := (.object "java/lang/String"), accessFlags := 18, slot := 0, constantValue := 0 }, { name := "port", type := .int, accessFlags := 18, slot := 1, constantValue := 0 }]
  methods := #[k10m0, k10m1, k10m2, k10m3]
  instanceTypes := #[(.object "java/lang/String"), .int]
  staticTypes := #[]
  resolved := Array.replicate 188 none
  statics := none }

def pool11 : Array CpInfo := pool [(6, .class_ 8), (1, u "java/lang/Object"), (0, u "<init>"), (0, u "()V"), (1, .class_ 14), (1, u "java/lang/StringUTF16"), (31, u "$assertionsDisabled"), (0, u "Z"), (13, u "HI_BYTE_SHIFT"), (0, u "I"), (2, u "LO_BYTE_SHIFT"), (49, .methodref 12 116), (0, .nameAndType 117 118), (0, u "compress"), (0, u "([CI[BII)I"), (3, u "([CII)[B"), (138, u "coderFromArrayLen"), (0, u "([BI)B"), (106, .class_ 371), (1, u "java/lang/StringUTF16$LinesSpliterator"), (58, u "MAX_LENGTH"), (196, .class_ 628), (0, u "java/lang/StringUTF16$CodePointsSpliterator"), (0, .class_ 630), (0, u "java/lang/StringUTF16$CharsSpliterator")] 4

def k11m0 : Method := { name := "<init>", desc := "()V", sig := { parameters := [], returnType := none }, accessFlags := 0, code := none }
def k11c1 : Code := { maxStack := 2, maxLocals := 2, code := jdk_52_method_15_code, exceptionTable := #[], attributes := #[] }
def k11m1 : Method := { name := "coderFromArrayLen", desc := "([BI)B", sig := { parameters := [(.array .byte), .int], returnType := some .byte }, accessFlags := 8, code := some k11c1 }
def k11c2 : Code := { maxStack := 5, maxLocals := 6, code := jdk_52_method_16_code, exceptionTable := #[], attributes := #[] }
def k11m2 : Method := { name := "compress", desc := "([CII)[B", sig := { parameters := [(.array .char), .int, .int], returnType := some (.array .byte) }, accessFlags := 9, code := some k11c2 }
def k11c3 : Code := { maxStack := 3, maxLocals := 7, code := jdk_52_method_21_code, exceptionTable := #[], attributes := #[] }
def k11m3 : Method := { name := "compress", desc := "([CI[BII)I", sig := { parameters := [(.array .char), .int, (.array .byte), .int, .int], returnType := some .int }, accessFlags := 9, code := some k11c3 }
/-- java/lang/StringUTF16 -/
def k11 : Class := { plain "java/lang/StringUTF16" (some 0) with
  accessFlags := 48
  interfaces := #[]
  cf := some (fileOf pool11 12 #[.nestMembers #[627, 629, 369]] #[{ accessFlags := 0, nameIndex := 9, descriptorIndex := 10, attributes := #[] }, { accessFlags := 8, nameIndex := 261, descriptorIndex := 262, attributes := #[] }, { accessFlags := 9, nameIndex := 117, descriptorIndex := 122, attributes := #[] }, { accessFlags := 9, nameIndex := 117, descriptorIndex := 118, attributes := #[] }] 48 6 #[] #[{ accessFlags := 26, nameIndex := 61, descriptorIndex := 62, attributes := #[] }, { accessFlags := 26, nameIndex := 65, descriptorIndex := 62, attributes := #[] }, { accessFlags := 24, nameIndex := 430, descriptorIndex := 62, attributes := #[] }, { accessFlags := 4120, nameIndex := 46, descriptorIndex := 47, attributes := #[] }])
  fields := #[{ name := "HI_BYTE_SHIFT", type := .int, accessFlags := 26, slot := 0, constantValue := 0 }, { name := "LO_BYTE_SHIFT", type := .int, accessFlags := 26, slot := 1, constantValue := 0 }, { name := "MAX_LENGTH", type := .int, accessFlags := 24, slot := 2, constantValue := 0 }, { name := "$assertionsDisabled", type := .boolean, accessFlags := 4120, slot := 3, constantValue := 0 }]
  methods := #[k11m0, k11m1, k11m2, k11m3]
  instanceTypes := #[]
  staticTypes := #[.int, .int, .int, .boolean]
  resolved := Array.replicate 635 none
  statics := none }

def pool12 : Array CpInfo := pool [(2, .class_ 4), (1, u "java/lang/Object"), (0, u "<init>"), (0, u "()V"), (17, .class_ 26), (1, u "jdk/internal/util/Preconditions"), (28, .class_ 56), (0, u "jdk/internal/util/Preconditions$4"), (57, .class_ 115), (0, u "jdk/internal/util/Preconditions$1"), (7, u "SIOOBE_FORMATTER"), (0, u "Ljava/util/function/BiFunction;"), (0, .class_ 126), (0, u "jdk/internal/util/Preconditions$2"), (3, u "AIOOBE_FORMATTER"), (0, .class_ 132), (0, u "jdk/internal/util/Preconditions$3"), (3, u "IOOBE_FORMATTER")] 57

def k12m0 : Method := { name := "<init>", desc := "()V", sig := { parameters := [], returnType := none }, accessFlags := 1, code := none }
/-- jdk/internal/util/Preconditions -/
def k12 : Class := { plain "jdk/internal/util/Preconditions" (some 0) with
  accessFlags := 33
  interfaces := #[]
  cf := some (fileOf pool12 24 #[.nestMembers #[55, 131, 125, 114]] #[{ accessFlags := 1, nameIndex := 5, descriptorIndex := 6, attributes := #[] }] 33 2 #[] #[{ accessFlags := 25, nameIndex := 123, descriptorIndex := 124, attributes := #[] }, { accessFlags := 25, nameIndex := 130, descriptorIndex := 124, attributes := #[] }, { accessFlags := 25, nameIndex := 136, descriptorIndex := 124, attributes := #[] }])
  fields := #[{ name := "SIOOBE_FORMATTER", type := (.object "java/util/function/BiFunction"), accessFlags := 25, slot := 0, constantValue := 0 }, { name := "AIOOBE_FORMATTER", type := (.object "java/util/function/BiFunction"), accessFlags := 25, slot := 1, constantValue := 0 }, { name := "IOOBE_FORMATTER", type := (.object "java/util/function/BiFunction"), accessFlags := 25, slot := 2, constantValue := 0 }]
  methods := #[k12m0]
  instanceTypes := #[]
  staticTypes := #[(.object "java/util/function/BiFunction"), (.object "java/util/function/BiFunction"), (.object "java/util/function/BiFunction")]
  resolved := Array.replicate 194 none
  statics := some 1 }

def pool13 : Array CpInfo := pool [(9, u "<init>"), (6, .class_ 18), (1, u "java/lang/Object"), (0, u "()V"), (1, .class_ 23), (1, u "jdk/internal/util/ArraysSupport"), (0, u "LOG2_ARRAY_LONG_INDEX_SCALE"), (0, u "I"), (2, u "U"), (0, u "Ljdk/internal/misc/Unsafe;"), (8, u "BIG_ENDIAN"), (0, u "Z"), (8, u "LOG2_BYTE_BIT_SIZE"), (4, u "LOG2_ARRAY_INT_INDEX_SCALE"), (54, u "JLA"), (0, u "Ljdk/internal/access/JavaLangAccess;"), (11, u "LOG2_ARRAY_BOOLEAN_INDEX_SCALE"), (9, u "LOG2_ARRAY_BYTE_INDEX_SCALE"), (5, u "LOG2_ARRAY_CHAR_INDEX_SCALE"), (5, u "LOG2_ARRAY_SHORT_INDEX_SCALE"), (18, u "LOG2_ARRAY_FLOAT_INDEX_SCALE"), (24, u "LOG2_ARRAY_DOUBLE_INDEX_SCALE"), (89, u "T_BOOLEAN"), (2, u "T_CHAR"), (1, u "T_FLOAT"), (1, u "T_DOUBLE"), (1, u "T_BYTE"), (1, u "T_SHORT"), (1, u "T_INT"), (1, u "T_LONG"), (1, u "SOFT_MAX_ARRAY_LENGTH")] 83

def k13m0 : Method := { name := "<init>", desc := "()V", sig := { parameters := [], returnType := none }, accessFlags := 2, code := none }
/-- jdk/internal/util/ArraysSupport -/
def k13 : Class := { plain "jdk/internal/util/ArraysSupport" (some 0) with
  accessFlags := 33
  interfaces := #[]
  cf := some (fileOf pool13 21 #[] #[{ accessFlags := 2, nameIndex := 9, descriptorIndex := 19, attributes := #[] }] 33 16 #[] #[{ accessFlags := 24, nameIndex := 28, descriptorIndex := 29, attributes := #[] }, { accessFlags := 26, nameIndex := 38, descriptorIndex := 39, attributes := #[] }, { accessFlags := 25, nameIndex := 121, descriptorIndex := 25, attributes := #[] }, { accessFlags := 25, nameIndex := 131, descriptorIndex := 25, attributes := #[] }, { accessFlags := 25, nameIndex := 137, descriptorIndex := 25, attributes := #[] }, { accessFlags := 25, nameIndex := 143, descriptorIndex := 25, attributes := #[] }, { accessFlags := 25, nameIndex := 53, descriptorIndex := 25, attributes := #[] }, { accessFlags := 25, nameIndex := 24, descriptorIndex := 25, attributes := #[] }, { accessFlags := 25, nameIndex := 162, descriptorIndex := 25, attributes := #[] }, { accessFlags := 25, nameIndex := 187, descriptorIndex := 25, attributes := #[] }, { accessFlags := 26, nameIndex := 48, descriptorIndex := 25, attributes := #[] }, { accessFlags := 25, nameIndex := 277, descriptorIndex := 25, attributes := #[] }, { accessFlags := 25, nameIndex := 280, descriptorIndex := 25, attributes := #[] }, { accessFlags := 25, nameIndex := 282, descriptorIndex := 25, attributes := #[] }, { accessFlags := 25, nameIndex := 284, descriptorIndex := 25, attributes := #[] }, { accessFlags := 25, nameIndex := 286, descriptorIndex := 25, attributes := #[] }, { accessFlags := 25, nameIndex := 288, descriptorIndex := 25, attributes := #[] }, { accessFlags := 25, nameIndex := 290, descriptorIndex := 25, attributes := #[] }, { accessFlags := 25, nameIndex := 292, descriptorIndex := 25, attributes := #[] }, { accessFlags := 26, nameIndex := 108, descriptorIndex := 109, attributes := #[] }, { accessFlags := 25, nameIndex := 294, descriptorIndex := 25, attributes := #[] }])
  fields := #[{ name := "U", type := (.object "jdk/internal/misc/Unsafe"), accessFlags := 24, slot := 0, constantValue := 0 }, { name := "BIG_ENDIAN", type := .boolean, accessFlags := 26, slot := 1, constantValue := 0 }, { name := "LOG2_ARRAY_BOOLEAN_INDEX_SCALE", type := .int, accessFlags := 25, slot := 2, constantValue := 0 }, { name := "LOG2_ARRAY_BYTE_INDEX_SCALE", type := .int, accessFlags := 25, slot := 3, constantValue := 0 }, { name := "LOG2_ARRAY_CHAR_INDEX_SCALE", type := .int, accessFlags := 25, slot := 4, constantValue := 0 }, { name := "LOG2_ARRAY_SHORT_INDEX_SCALE", type := .int, accessFlags := 25, slot := 5, constantValue := 0 }, { name := "LOG2_ARRAY_INT_INDEX_SCALE", type := .int, accessFlags := 25, slot := 6, constantValue := 0 }, { name := "LOG2_ARRAY_LONG_INDEX_SCALE", type := .int, accessFlags := 25, slot := 7, constantValue := 0 }, { name := "LOG2_ARRAY_FLOAT_INDEX_SCALE", type := .int, accessFlags := 25, slot := 8, constantValue := 0 }, { name := "LOG2_ARRAY_DOUBLE_INDEX_SCALE", type := .int, accessFlags := 25, slot := 9, constantValue := 0 }, { name := "LOG2_BYTE_BIT_SIZE", type := .int, accessFlags := 26, slot := 10, constantValue := 0 }, { name := "T_BOOLEAN", type := .int, accessFlags := 25, slot := 11, constantValue := 0 }, { name := "T_CHAR", type := .int, accessFlags := 25, slot := 12, constantValue := 0 }, { name := "T_FLOAT", type := .int, accessFlags := 25, slot := 13, constantValue := 0 }, { name := "T_DOUBLE", type := .int, accessFlags := 25, slot := 14, constantValue := 0 }, { name := "T_BYTE", type := .int, accessFlags := 25, slot := 15, constantValue := 0 }, { name := "T_SHORT", type := .int, accessFlags := 25, slot := 16, constantValue := 0 }, { name := "T_INT", type := .int, accessFlags := 25, slot := 17, constantValue := 0 }, { name := "T_LONG", type := .int, accessFlags := 25, slot := 18, constantValue := 0 }, { name := "JLA", type := (.object "jdk/internal/access/JavaLangAccess"), accessFlags := 26, slot := 19, constantValue := 0 }, { name := "SOFT_MAX_ARRAY_LENGTH", type := .int, accessFlags := 25, slot := 20, constantValue := 0 }]
  methods := #[k13m0]
  instanceTypes := #[]
  staticTypes := #[(.object "jdk/internal/misc/Unsafe"), .boolean, .int, .int, .int, .int, .int, .int, .int, .int, .int, .int, .int, .int, .int, .int, .int, .int, .int, (.object "jdk/internal/access/JavaLangAccess"), .int]
  resolved := Array.replicate 378 none
  statics := none }

def pool14 : Array CpInfo := pool [(1, u "java/lang/Cloneable"), (0, .class_ 1), (0, u "java/lang/Object"), (0, .class_ 3)] 3

/-- java/lang/Cloneable -/
def k14 : Class := { plain "java/lang/Cloneable" (some 0) with
  accessFlags := 1537
  interfaces := #[]
  cf := some (fileOf pool14 2 #[] #[] 1537 4 #[] #[])
  fields := #[]
  methods := #[]
  instanceTypes := #[]
  staticTypes := #[]
  resolved := Array.replicate 8 none
  statics := none }

/-- the primitive byte -/
def k15 : Class := { plain "byte" none with kind := .primitive 'B', accessFlags := 0x411 }
/-- [B -/
def k16 : Class := { plain "[B" (some 0) with kind := .array 15 .byte, interfaces := #[14, 2], accessFlags := 1041 }

/-- the primitive char -/
def k17 : Class := { plain "char" none with kind := .primitive 'C', accessFlags := 0x411 }
/-- [C -/
def k18 : Class := { plain "[C" (some 0) with kind := .array 17 .char, interfaces := #[14, 2], accessFlags := 1041 }

/-- the primitive int -/
def k19 : Class := { plain "int" none with kind := .primitive 'I', accessFlags := 0x411 }
/-- [I -/
def k20 : Class := { plain "[I" (some 0) with kind := .array 19 .int, interfaces := #[14, 2], accessFlags := 1041 }

def heap : Heap := #[{ cls := 7, slots := #[.long 0, .int 1, .null, .int 0, .null, .int 0, .int 0], vm := .statics 7 },
  { cls := 12, slots := #[.null, .null, .null], vm := .statics 12 }]
def classes : Array Class := #[k0, k1, k2, k3, k4, k5, k6, k7, k8, k9, k10, k11, k12, k13, k14, k15, k16, k17, k18, k19, k20]
def interned : List (Array UInt16 × Addr) := []
def slotsUsed : Nat := 10
def theMethod : MethodId := ⟨1, 2⟩
def args0 : Array Value := #[.int 5, .int 6, .int 7, .int 8, .int 9, .int 10]
def aboutOver (below : List Frame) : State where
  vm := { classes := classes, interned := interned.toArray }
  heap := heap
  slotsUsed := slotsUsed
  threads := #[{ frames := .invoking theMethod args0 :: below }]
def below0 : List Frame := [.native { method := ⟨0, 0⟩, args := #[] }]
def about1 : State := aboutOver below0
def p0 : Program := .bare "" "" ""
def e0 : Env := launch0.env 0 0 0
theorem w_frames : about1.frames = Frame.invoking theMethod args0 :: below0 := rfl
set_option maxRecDepth 65536 in
theorem w_args : argsFit about1.vm theMethod args0 = true := by decide +kernel
set_option maxRecDepth 65536 in
theorem w_heap : heapFits about1 = true := by decide +kernel
set_option maxRecDepth 65536 in
theorem w_runnable : about1.curStatus? = some .runnable := by decide +kernel
set_option maxRecDepth 65536 in
theorem w_alone : about1.alone = true := by decide +kernel
set_option maxRecDepth 65536 in
theorem w_named : about1.methodNamed? x = some theMethod := by decide +kernel
set_option maxRecDepth 65536 in
theorem w_hears : about1.hears theMethod below0 = true := by decide +kernel
set_option maxRecDepth 65536 in
theorem w_ripe : about1.ripe theMethod args0 below0 = true := by decide +kernel
theorem w_running : about1.status = .running := rfl
set_option maxRecDepth 65536 in
theorem w_room : about1.hasRoom e0.platform room_1 = true :=
  launch0.hasRoom_least _ room_1 (by decide +kernel) (by decide +kernel) (by decide +kernel) (by decide +kernel) (by decide +kernel) (by decide +kernel)
theorem allAtoms_all (ts : List Jvm.Cond) (a : Array Jvm.Value) (st : Jvm.State) : (allAtoms ts).before a st = ts.all (fun c => c.before a st) := by
  induction ts with
  | nil => rfl
  | cons c t ih =>
    show (Jvm.Cond.and c (allAtoms t)).before a st = _
    rw [Jvm.Cond.before_and, ih, List.all_cons]
def words1 : List Jvm.Cond := Jvm.Cond.code x code maxLocals ret :: tables_1
/-- a 'code' word, met by the world's own term for the bytes: nothing is compared byte by byte -/
theorem code_word {y : MethodName} {bytes : ByteArray} {mx : Nat} {rt : Option FieldType} {a : Array Value} {s : State} {m : MethodId} {meth : Method} {c : Code} (h1 : s.methodNamed? y = some m) (h2 : s.vm.method? m = some meth) (h3 : meth.code = some c) (h4 : c.code = bytes)
    (h5 : (c.maxLocals == mx && c.exceptionTable.isEmpty && decide (c.maxStack ≤ mostOperands) && decide (meth.sig.returnType = rt) && !meth.locks && decide (parseMethodDescriptor y.desc = some meth.sig)) = true) : (Jvm.Cond.code y bytes mx rt).before a s = true := by
  simp only [Bool.and_eq_true, beq_iff_eq, Bool.not_eq_true', decide_eq_true_eq] at h5
  obtain ⟨⟨⟨⟨⟨g1, g2⟩, g3⟩, g4⟩, g5⟩, g6⟩ := h5
  simp [Cond.before, Cond.holds, Cond.value, h1, h2, h3, h4, g1, g2, g3, g4, g5, g6]
def isCode : Jvm.Cond → Bool
  | .code _ _ _ _ => true
  | _ => false
theorem all_split {L : List Jvm.Cond} {P : Jvm.Cond → Bool} (h1 : L.all (fun c => isCode c || P c) = true) (h2 : ∀ c ∈ L.filter isCode, P c = true) : L.all P = true := by
  refine List.all_eq_true.mpr fun c hc => ?_
  have h := List.all_eq_true.mp h1 c hc
  rcases Bool.eq_false_or_eq_true (isCode c) with hi | hi
  · exact h2 c (List.mem_filter.mpr ⟨hc, hi⟩)
  · simpa [hi] using h
set_option maxRecDepth 65536 in
theorem w_c0 : (Jvm.Cond.code x code maxLocals ret).before args0 about1 = true := code_word (m := ⟨1, 2⟩) (meth := k1m2) (c := k1c2) (by decide +kernel) rfl rfl rfl (by decide +kernel)
set_option maxRecDepth 65536 in
theorem w_c1 : (Jvm.Cond.code ({ cls := "com/example/loadweir/loadweir/gateway/HostPortWithPortPinLaw", name := "host", desc := "(IIII)Ljava/lang/String;" } : Jvm.MethodName) method_2_code (6 : Nat) (Option.some (Jvm.ClassFile.FieldType.object "java/lang/String"))).before args0 about1 = true := code_word (m := ⟨1, 1⟩) (meth := k1m1) (c := k1c1) (by decide +kernel) rfl rfl rfl (by decide +kernel)
set_option maxRecDepth 65536 in
theorem w_c2 : (Jvm.Cond.code ({ cls := "java/lang/String", name := "valueOf", desc := "(C)Ljava/lang/String;" } : Jvm.MethodName) jdk_42_method_139_code (1 : Nat) (Option.some (Jvm.ClassFile.FieldType.object "java/lang/String"))).before args0 about1 = true := code_word (m := ⟨7, 3⟩) (meth := k7m3) (c := k7c3) (by decide +kernel) rfl rfl rfl (by decide +kernel)
set_option maxRecDepth 65536 in
theorem w_c3 : (Jvm.Cond.code ({ cls := "java/lang/StringLatin1", name := "canEncode", desc := "(C)Z" } : Jvm.MethodName) jdk_43_method_3_code (1 : Nat) (Option.some Jvm.ClassFile.FieldType.boolean)).before args0 about1 = true := code_word (m := ⟨8, 1⟩) (meth := k8m1) (c := k8c1) (by decide +kernel) rfl rfl rfl (by decide +kernel)
set_option maxRecDepth 65536 in
theorem w_c4 : (Jvm.Cond.code ({ cls := "java/lang/StringLatin1", name := "toBytes", desc := "(C)[B" } : Jvm.MethodName) jdk_43_method_46_code (1 : Nat) (Option.some (Jvm.ClassFile.FieldType.array Jvm.ClassFile.FieldType.byte))).before args0 about1 = true := code_word (m := ⟨8, 2⟩) (meth := k8m2) (c := k8c2) (by decide +kernel) rfl rfl rfl (by decide +kernel)
set_option maxRecDepth 65536 in
theorem w_c5 : (Jvm.Cond.code ({ cls := "java/lang/String", name := "<init>", desc := "([BB)V" } : Jvm.MethodName) jdk_42_method_151_code (3 : Nat) (Option.none : Option Jvm.ClassFile.FieldType)).before args0 about1 = true := code_word (m := ⟨7, 5⟩) (meth := k7m5) (c := k7c5) (by decide +kernel) rfl rfl rfl (by decide +kernel)
set_option maxRecDepth 65536 in
theorem w_c6 : (Jvm.Cond.code ({ cls := "java/lang/Object", name := "<init>", desc := "()V" } : Jvm.MethodName) object_method_1_code (1 : Nat) (Option.none : Option Jvm.ClassFile.FieldType)).before args0 about1 = true := code_word (m := ⟨0, 0⟩) (meth := k0m0) (c := k0c0) (by decide +kernel) rfl rfl rfl (by decide +kernel)
set_option maxRecDepth 65536 in
theorem w_c7 : (Jvm.Cond.code ({ cls := "com/example/loadweir/loadweir/gateway/HostPort", name := "<init>", desc := "(Ljava/lang/String;I)V" } : Jvm.MethodName) prog_12_method_1_code (3 : Nat) (Option.none : Option Jvm.ClassFile.FieldType)).before args0 about1 = true := code_word (m := ⟨10, 0⟩) (meth := k10m0) (c := k10c0) (by decide +kernel) rfl rfl rfl (by decide +kernel)
set_option maxRecDepth 65536 in
theorem w_c8 : (Jvm.Cond.code ({ cls := "java/lang/Record", name := "<init>", desc := "()V" } : Jvm.MethodName) jdk_30_method_1_code (1 : Nat) (Option.none : Option Jvm.ClassFile.FieldType)).before args0 about1 = true := code_word (m := ⟨9, 0⟩) (meth := k9m0) (c := k9c0) (by decide +kernel) rfl rfl rfl (by decide +kernel)
set_option maxRecDepth 65536 in
theorem w_c9 : (Jvm.Cond.code ({ cls := "com/example/loadweir/loadweir/gateway/HostPort", name := "withPort", desc := "(I)Lcom/example/loadweir/loadweir/gateway/HostPort;" } : Jvm.MethodName) prog_12_method_4_code (2 : Nat) (Option.some (Jvm.ClassFile.FieldType.object "com/example/loadweir/loadweir/gateway/HostPort"))).before args0 about1 = true := code_word (m := ⟨10, 1⟩) (meth := k10m1) (c := k10c1) (by decide +kernel) rfl rfl rfl (by decide +kernel)
set_option maxRecDepth 65536 in
theorem w_c10 : (Jvm.Cond.code ({ cls := "com/example/loadweir/loadweir/gateway/HostPort", name := "port", desc := "()I" } : Jvm.MethodName) prog_12_method_9_code (1 : Nat) (Option.some Jvm.ClassFile.FieldType.int)).before args0 about1 = true := code_word (m := ⟨10, 3⟩) (meth := k10m3) (c := k10c3) (by decide +kernel) rfl rfl rfl (by decide +kernel)
set_option maxRecDepth 65536 in
theorem w_c11 : (Jvm.Cond.code ({ cls := "com/example/loadweir/loadweir/gateway/HostPort", name := "host", desc := "()Ljava/lang/String;" } : Jvm.MethodName) prog_12_method_8_code (1 : Nat) (Option.some (Jvm.ClassFile.FieldType.object "java/lang/String"))).before args0 about1 = true := code_word (m := ⟨10, 2⟩) (meth := k10m2) (c := k10c2) (by decide +kernel) rfl rfl rfl (by decide +kernel)
set_option maxRecDepth 65536 in
theorem w_c12 : (Jvm.Cond.code ({ cls := "java/lang/String", name := "equals", desc := "(Ljava/lang/Object;)Z" } : Jvm.MethodName) jdk_42_method_66_code (3 : Nat) (Option.some Jvm.ClassFile.FieldType.boolean)).before args0 about1 = true := code_word (m := ⟨7, 2⟩) (meth := k7m2) (c := k7c2) (by decide +kernel) rfl rfl rfl (by decide +kernel)
set_option maxRecDepth 65536 in
theorem w_c13 : (Jvm.Cond.code ({ cls := "java/lang/String", name := "<init>", desc := "([C)V" } : Jvm.MethodName) jdk_42_method_3_code (2 : Nat) (Option.none : Option Jvm.ClassFile.FieldType)).before args0 about1 = true := code_word (m := ⟨7, 1⟩) (meth := k7m1) (c := k7c1) (by decide +kernel) rfl rfl rfl (by decide +kernel)
set_option maxRecDepth 65536 in
theorem w_c14 : (Jvm.Cond.code ({ cls := "java/lang/String", name := "<init>", desc := "([CIILjava/lang/Void;)V" } : Jvm.MethodName) jdk_42_method_149_code (6 : Nat) (Option.none : Option Jvm.ClassFile.FieldType)).before args0 about1 = true := code_word (m := ⟨7, 4⟩) (meth := k7m4) (c := k7c4) (by decide +kernel) rfl rfl rfl (by decide +kernel)
set_option maxRecDepth 65536 in
theorem w_c15 : (Jvm.Cond.code ({ cls := "java/lang/StringUTF16", name := "compress", desc := "([CII)[B" } : Jvm.MethodName) jdk_52_method_16_code (6 : Nat) (Option.some (Jvm.ClassFile.FieldType.array Jvm.ClassFile.FieldType.byte))).before args0 about1 = true := code_word (m := ⟨11, 2⟩) (meth := k11m2) (c := k11c2) (by decide +kernel) rfl rfl rfl (by decide +kernel)
set_option maxRecDepth 65536 in
theorem w_c16 : (Jvm.Cond.code ({ cls := "java/lang/StringUTF16", name := "compress", desc := "([CI[BII)I" } : Jvm.MethodName) jdk_52_method_21_code (7 : Nat) (Option.some Jvm.ClassFile.FieldType.int)).before args0 about1 = true := code_word (m := ⟨11, 3⟩) (meth := k11m3) (c := k11c3) (by decide +kernel) rfl rfl rfl (by decide +kernel)
set_option maxRecDepth 65536 in
theorem w_c17 : (Jvm.Cond.code ({ cls := "java/lang/StringUTF16", name := "coderFromArrayLen", desc := "([BI)B" } : Jvm.MethodName) jdk_52_method_15_code (2 : Nat) (Option.some Jvm.ClassFile.FieldType.byte)).before args0 about1 = true := code_word (m := ⟨11, 1⟩) (meth := k11m1) (c := k11c1) (by decide +kernel) rfl rfl rfl (by decide +kernel)
def codes1 : List Jvm.Cond := [Jvm.Cond.code x code maxLocals ret, Jvm.Cond.code ({ cls := "com/example/loadweir/loadweir/gateway/HostPortWithPortPinLaw", name := "host", desc := "(IIII)Ljava/lang/String;" } : Jvm.MethodName) method_2_code (6 : Nat) (Option.some (Jvm.ClassFile.FieldType.object "java/lang/String")), Jvm.Cond.code ({ cls := "java/lang/String", name := "valueOf", desc := "(C)Ljava/lang/String;" } : Jvm.MethodName) jdk_42_method_139_code (1 : Nat) (Option.some (Jvm.ClassFile.FieldType.object "java/lang/String")), Jvm.Cond.code ({ cls := "java/lang/StringLatin1", name := "canEncode", desc := "(C)Z" } : Jvm.MethodName) jdk_43_method_3_code (1 : Nat) (Option.some Jvm.ClassFile.FieldType.boolean), Jvm.Cond.code ({ cls := "java/lang/StringLatin1", name := "toBytes", desc := "(C)[B" } : Jvm.MethodName) jdk_43_method_46_code (1 : Nat) (Option.some (Jvm.ClassFile.FieldType.array Jvm.ClassFile.FieldType.byte)), Jvm.Cond.code ({ cls := "java/lang/String", name := "<init>", desc := "([BB)V" } : Jvm.MethodName) jdk_42_method_151_code (3 : Nat) (Option.none : Option Jvm.ClassFile.FieldType), Jvm.Cond.code ({ cls := "java/lang/Object", name := "<init>", desc := "()V" } : Jvm.MethodName) object_method_1_code (1 : Nat) (Option.none : Option Jvm.ClassFile.FieldType), Jvm.Cond.code ({ cls := "com/example/loadweir/loadweir/gateway/HostPort", name := "<init>", desc := "(Ljava/lang/String;I)V" } : Jvm.MethodName) prog_12_method_1_code (3 : Nat) (Option.none : Option Jvm.ClassFile.FieldType), Jvm.Cond.code ({ cls := "java/lang/Record", name := "<init>", desc := "()V" } : Jvm.MethodName) jdk_30_method_1_code (1 : Nat) (Option.none : Option Jvm.ClassFile.FieldType), Jvm.Cond.code ({ cls := "com/example/loadweir/loadweir/gateway/HostPort", name := "withPort", desc := "(I)Lcom/example/loadweir/loadweir/gateway/HostPort;" } : Jvm.MethodName) prog_12_method_4_code (2 : Nat) (Option.some (Jvm.ClassFile.FieldType.object "com/example/loadweir/loadweir/gateway/HostPort")), Jvm.Cond.code ({ cls := "com/example/loadweir/loadweir/gateway/HostPort", name := "port", desc := "()I" } : Jvm.MethodName) prog_12_method_9_code (1 : Nat) (Option.some Jvm.ClassFile.FieldType.int), Jvm.Cond.code ({ cls := "com/example/loadweir/loadweir/gateway/HostPort", name := "host", desc := "()Ljava/lang/String;" } : Jvm.MethodName) prog_12_method_8_code (1 : Nat) (Option.some (Jvm.ClassFile.FieldType.object "java/lang/String")), Jvm.Cond.code ({ cls := "java/lang/String", name := "equals", desc := "(Ljava/lang/Object;)Z" } : Jvm.MethodName) jdk_42_method_66_code (3 : Nat) (Option.some Jvm.ClassFile.FieldType.boolean), Jvm.Cond.code ({ cls := "java/lang/String", name := "<init>", desc := "([C)V" } : Jvm.MethodName) jdk_42_method_3_code (2 : Nat) (Option.none : Option Jvm.ClassFile.FieldType), Jvm.Cond.code ({ cls := "java/lang/String", name := "<init>", desc := "([CIILjava/lang/Void;)V" } : Jvm.MethodName) jdk_42_method_149_code (6 : Nat) (Option.none : Option Jvm.ClassFile.FieldType), Jvm.Cond.code ({ cls := "java/lang/StringUTF16", name := "compress", desc := "([CII)[B" } : Jvm.MethodName) jdk_52_method_16_code (6 : Nat) (Option.some (Jvm.ClassFile.FieldType.array Jvm.ClassFile.FieldType.byte)), Jvm.Cond.code ({ cls := "java/lang/StringUTF16", name := "compress", desc := "([CI[BII)I" } : Jvm.MethodName) jdk_52_method_21_code (7 : Nat) (Option.some Jvm.ClassFile.FieldType.int), Jvm.Cond.code ({ cls := "java/lang/StringUTF16", name := "coderFromArrayLen", desc := "([BI)B" } : Jvm.MethodName) jdk_52_method_15_code (2 : Nat) (Option.some Jvm.ClassFile.FieldType.byte)]
set_option maxRecDepth 65536 in
theorem codes_eq : words1.filter isCode = codes1 := rfl
theorem w_codes : ∀ c ∈ words1.filter isCode, c.before args0 about1 = true := by
  rw [codes_eq]
  intro c hc
  simp only [codes1, List.mem_cons, List.not_mem_nil, or_false] at hc
  rcases hc with rfl | rfl | rfl | rfl | rfl | rfl | rfl | rfl | rfl | rfl | rfl | rfl | rfl | rfl | rfl | rfl | rfl | rfl
  · exact w_c0
  · exact w_c1
  · exact w_c2
  · exact w_c3
  · exact w_c4
  · exact w_c5
  · exact w_c6
  · exact w_c7
  · exact w_c8
  · exact w_c9
  · exact w_c10
  · exact w_c11
  · exact w_c12
  · exact w_c13
  · exact w_c14
  · exact w_c15
  · exact w_c16
  · exact w_c17
set_option maxRecDepth 65536 in
theorem w_t1 : (words1.take 24).all (fun c => isCode c || c.before args0 about1) = true := by decide +kernel
set_option maxRecDepth 65536 in
theorem w_t2 : ((words1.drop 24).take 24).all (fun c => isCode c || c.before args0 about1) = true := by decide +kernel
set_option maxRecDepth 65536 in
theorem w_t3 : (((words1.drop 24).drop 24).take 24).all (fun c => isCode c || c.before args0 about1) = true := by decide +kernel
set_option maxRecDepth 65536 in
theorem w_t4 : (((words1.drop 24).drop 24).drop 24).all (fun c => isCode c || c.before args0 about1) = true := by decide +kernel
theorem w_tables : (allAtoms (Jvm.Cond.code x code maxLocals ret :: tables_1)).before args0 about1 = true := by
  rw [allAtoms_all]
  show words1.all (fun c => c.before args0 about1) = true
  refine all_split ?_ w_codes
  rw [← List.take_append_drop 24 words1, List.all_append, w_t1, ← List.take_append_drop 24 (words1.drop 24), List.all_append, w_t2, ← List.take_append_drop 24 ((words1.drop 24).drop 24), List.all_append, w_t3, w_t4]
  rfl
set_option maxRecDepth 65536 in
theorem w_rest : rest_1_c.before args0 about1 = true := by decide +kernel
set_option maxRecDepth 65536 in
theorem w_case : (Jvm.Cond.and given_1 narrow_1).before args0 about1 = true := by decide +kernel
set_option maxRecDepth 65536 in
theorem w_consts : constsHeld consts_1 about1 := Jvm.Lit.constsHeldB_iff.mp (by decide +kernel)
theorem w_applies : (headSpec (Jvm.Cond.code x code maxLocals ret :: tables_1) room_1).applies x e0.platform about1 = true :=
  (Spec.applies_iff w_frames).mpr ⟨w_running, w_runnable, w_alone, w_named, w_hears, w_ripe, w_room, w_tables⟩
theorem atStart : AtStart classFile x code maxLocals ret World_1 tables_1 room_1 Calls_1 rest_1 Pre_1 launch0 p0 e0 about1 theMethod args0 below0 :=
  ⟨lists_1, trivial, launch0.admits_env _ _ _, launch0.least_env, fairChoices_fair.cas, fairChoices_fair.clock, w_frames, w_args, w_heap, w_applies, ⟨w_consts, trivial⟩, w_rest, w_case⟩
end start1
theorem witness_1 : WitnessClaimed_1 := ⟨start1.p0, start1.e0, start1.about1, start1.theMethod, start1.args0, start1.below0, start1.atStart⟩
end Jvm.Pilot.@@N@@
