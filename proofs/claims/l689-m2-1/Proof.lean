import JvmDerived
import JvmDerived.Pilot.@@N@@Statement
import JvmDerived.Pilot.@@N@@Code
set_option linter.unusedVariables false
set_option linter.unusedSimpArgs false

/- laws to paste: Road.backV (cut by pick.py; bodies as the Statement names them) -/
namespace Jvm.Pilot.@@N@@
namespace StrChars
open Jvm Sem ClassFile Op Lib Jvm.Stand Jvm.Free.XT Jvm.Free.ALB Jvm.Free.JM Jvm.Free
open Jvm.Lib.Cold (StaticIs)
/-- a char array whose places are chars -/
def Ch (a : Addr) (A : Cell) (U : State) : Prop := Arr .char a A U ∧ Typed .char A
theorem Ch.mv {a : Addr} {A : Cell} {U U' : State} (h : Ch a A U) (hal : U.vm.Alike U'.vm) (hh : U'.heap = U.heap) : Ch a A U' := ⟨h.1.mv hal hh, h.2⟩
theorem Ch.keep {a : Addr} {A : Cell} {U U' : State} (h : Ch a A U) (hal : U.vm.Alike U'.vm) (hk : U'.heap[a]? = some A) : Ch a A U' := ⟨h.1.keep hal hk, h.2⟩
/-- what place i of a char[]'s cell holds -/
def cv (A : Cell) (i : Nat) : Int32 := match A.slots[i]? with | some (.int x) => x | _ => 0
theorem Ch.get {a : Addr} {A : Cell} {U : State} (h : Ch a A U) {i : Nat} (hi : i < A.slots.size) : A.slots[i]? = some (.int (cv A i)) := by
  have e := Array.getElem?_eq_getElem hi
  have f := h.2 i _ e
  unfold cv; rw [e]
  generalize A.slots[i] = v at f
  cases v <;> simp [fits] at f ⊢
/-- the byte that i2b leaves of a char -/
def lo8 (x : Int32) : Int32 := x.toInt8.toInt32
theorem fits_lo8 (y : Int32) : fits .byte (.int (lo8 y)) = true := by
  have h1 := y.toInt8.le_toInt
  have h2 := y.toInt8.toInt_lt
  simp only [lo8, fits, Bool.and_eq_true, decide_eq_true_eq, Int32.le_iff_toInt_le, Int8.toInt_toInt32, show (-128 : Int32).toInt = -128 from by decide, show (127 : Int32).toInt = 127 from by decide]
  omega
/-- A' is A but that each place j of lo .. hi - 1 holds f j -/
def Laid (A A' : Cell) (lo hi : Nat) (f : Nat → Value) : Prop := A'.cls = A.cls ∧ A'.vm = A.vm ∧ A'.slots.size = A.slots.size ∧ ∀ i, A'.slots[i]? = if lo ≤ i ∧ i < hi then some (f i) else A.slots[i]?
theorem Laid.zero (A : Cell) (lo : Nat) (f : Nat → Value) : Laid A A lo (lo + 0) f := ⟨rfl, rfl, rfl, fun i => by rw [if_neg (by omega)]⟩
theorem Laid.step {A Ak : Cell} {lo k : Nat} {f : Nat → Value} {v : Value} (h : Laid A Ak lo k f) (hlo : lo ≤ k) (hk : k < Ak.slots.size) (hv : v = f k) : Laid A (Ak.setSlot k v) lo (k + 1) f := by
  refine ⟨h.1, h.2.1, by simpa [Cell.setSlot] using h.2.2.1, fun i => ?_⟩
  by_cases e : k = i
  · subst e; rw [Cell.slots_setSlot_self v hk, if_pos (by omega), hv]
  · rw [Cell.slots_setSlot_ne v e, h.2.2.2 i]
    by_cases q : lo ≤ i ∧ i < k
    · rw [if_pos q, if_pos (by omega)]
    · rw [if_neg q, if_neg (by omega)]
def U16 : String := "java/lang/StringUTF16"
namespace Cmp5
def yN : MethodName := ⟨"java/lang/StringUTF16", "compress", "([CI[BII)I"⟩
abbrev yB : ByteArray := jdk_52_method_21_code
theorem d0 : decode yB 0 = .ok (.iconst 0, 1) := by decide +kernel
theorem d1 : decode yB 1 = .ok (.istore 5, 2) := by decide +kernel
theorem d3 : decode yB 3 = .ok (.iload 5, 2) := by decide +kernel
theorem d5 : decode yB 5 = .ok (.iload 4, 2) := by decide +kernel
theorem d7 : decode yB 7 = .ok (.if_icmp (.ge) 37, 3) := by decide +kernel
theorem d10 : decode yB 10 = .ok (.aload_n 0, 1) := by decide +kernel
theorem d11 : decode yB 11 = .ok (.iload_n 1, 1) := by decide +kernel
theorem d12 : decode yB 12 = .ok (.caload, 1) := by decide +kernel
theorem d13 : decode yB 13 = .ok (.istore 6, 2) := by decide +kernel
theorem d15 : decode yB 15 = .ok (.iload 6, 2) := by decide +kernel
theorem d17 : decode yB 17 = .ok (.sipush 255, 3) := by decide +kernel
theorem d20 : decode yB 20 = .ok (.if_icmp (.le) 6, 3) := by decide +kernel
theorem d26 : decode yB 26 = .ok (.aload_n 2, 1) := by decide +kernel
theorem d27 : decode yB 27 = .ok (.iload_n 3, 1) := by decide +kernel
theorem d28 : decode yB 28 = .ok (.iload 6, 2) := by decide +kernel
theorem d30 : decode yB 30 = .ok (.i2b, 1) := by decide +kernel
theorem d31 : decode yB 31 = .ok (.bastore, 1) := by decide +kernel
theorem d32 : decode yB 32 = .ok (.iinc 1 1, 3) := by decide +kernel
theorem d35 : decode yB 35 = .ok (.iinc 3 1, 3) := by decide +kernel
theorem d38 : decode yB 38 = .ok (.iinc 5 1, 3) := by decide +kernel
theorem d41 : decode yB 41 = .ok (.goto (-38), 3) := by decide +kernel
theorem d44 : decode yB 44 = .ok (.iload 4, 2) := by decide +kernel
theorem d46 : decode yB 46 = .ok (.ireturn, 1) := by decide +kernel
def site : List Cond := []
def tab : Cond := tabOf yN yB 7 (some .int) site
def P (b : Addr) (A : Cell) (d : Addr) (B : Cell) (o q len : Nat) (args : Array Value) (s : State) : Prop := args = #[.ref b, .int (Int32.ofNat o), .ref d, .int (Int32.ofNat q), .int (Int32.ofNat len)] ∧ Ch b A s ∧ Arr .byte d B s ∧ b ≠ d ∧ o + len ≤ A.slots.size ∧ q + len ≤ B.slots.size ∧ ∀ i, i < len → ¬ 255 < cv A (o + i)
def E (b : Addr) (A : Cell) (d : Addr) (B : Cell) (o q len : Nat) (r : Option Value) (s u : State) : Prop := r = some (.int (Int32.ofNat len)) ∧ ∃ B', Put d B' s u ∧ Laid B B' q (q + len) (fun j => Value.int (lo8 (cv A (o + (j - q)))))
/-- no char of the range above 255: len; the places written hold each char's low byte -/
theorem law (l : Launch) (b : Addr) (A : Cell) (d : Addr) (B : Cell) (o q len : Nat) : Law l yN 5 5 0 0 yB 7 (some .int) site (P b A d B o q len) (E b A d B o q len) (copyLocs d q len) 0 0 := by
  refine Law.of_walk (plainFor_of_name (by decide +kernel)) (by decide +kernel) (by decide +kernel) (by decide) (fun _ _ h => by rw [h.1]; rfl) (fun _ U U' hal hh h => ⟨h.1, h.2.1.mv hal hh, h.2.2.1.mv hal hh, h.2.2.2⟩) (fun r U U' V V' h1 hal h2 h => ⟨h.1, h.2.elim fun B' q => ⟨B', q.1.mv h1 h2, q.2⟩⟩) ?_
  intro p e s m args below meth c s₁ X0 hexec hbytes hml hret hlk hnm hown hh0 W hP
  obtain ⟨rfl, hA, hB, hne, l1, l2, hp⟩ := hP
  have c1 : Steps p.tables e below (s₁.setTop (entryFrame m #[.ref b, .int (Int32.ofNat o), .ref d, .int (Int32.ofNat q), .int (Int32.ofNat len)] 7)) (s₁.setTop (mkF m 0 #[.val (.ref b), .val (.int (Int32.ofNat o)), .val (.ref d), .val (.int (Int32.ofNat q)), .val (.int (Int32.ofNat len)), .unset, .unset] [])) := entry rfl
  have hA0 := hA.1.mv X0.warmed.alike hh0
  have hB0 := hB.mv X0.warmed.alike hh0
  have a31 := hA.1.2.2.2
  have c2 : Steps p.tables e below (s₁.setTop (entryFrame m #[.ref b, .int (Int32.ofNat o), .ref d, .int (Int32.ofNat q), .int (Int32.ofNat len)] 7)) (s₁.setTop (mkF m 3 #[.val (.ref b), .val (.int (Int32.ofNat o)), .val (.ref d), .val (.int (Int32.ofNat q)), .val (.int (Int32.ofNat len)), .val (.int 0), .unset] [])) := c1.trans (by
    refine iconstV X0.here hexec rfl 0 (hb hbytes d0) (by decide) ?_
    refine XS.istore X0.here hexec rfl (hb hbytes d1) rfl rfl ?_
    exact Steps.refl _)
  have loop : ∀ (r i : Nat), i + r = len → ∀ (z : Slot), (z = .unset ∨ ∃ w, z = .val w ∧ w.category = 1) → ∀ (Tl : State) (Bk : Cell), Stand p l e { frames := 0, locals := 0, cells := 0, slots := 0 } s m #[.ref b, .int (Int32.ofNat o), .ref d, .int (Int32.ofNat q), .int (Int32.ofNat len)] below meth c Tl ([] ++ copyLocs d q i) 0 0 → Put d Bk s₁ Tl → Laid B Bk q (q + i) (fun j => Value.int (lo8 (cv A (o + (j - q))))) →
      Steps p.tables e below (s₁.setTop (entryFrame m #[.ref b, .int (Int32.ofNat o), .ref d, .int (Int32.ofNat q), .int (Int32.ofNat len)] 7)) (Tl.setTop (mkF m 3 #[.val (.ref b), .val (.int (Int32.ofNat (o + i))), .val (.ref d), .val (.int (Int32.ofNat (q + i))), .val (.int (Int32.ofNat len)), .val (.int (Int32.ofNat i)), z] [])) → ∃ (T' : State) (B' : Cell) (z' : Slot), Stand p l e { frames := 0, locals := 0, cells := 0, slots := 0 } s m #[.ref b, .int (Int32.ofNat o), .ref d, .int (Int32.ofNat q), .int (Int32.ofNat len)] below meth c T' ([] ++ copyLocs d q len) 0 0 ∧ Put d B' s₁ T' ∧ Laid B B' q (q + len) (fun j => Value.int (lo8 (cv A (o + (j - q))))) ∧
      Steps p.tables e below (s₁.setTop (entryFrame m #[.ref b, .int (Int32.ofNat o), .ref d, .int (Int32.ofNat q), .int (Int32.ofNat len)] 7)) (T'.setTop (mkF m 3 #[.val (.ref b), .val (.int (Int32.ofNat (o + len))), .val (.ref d), .val (.int (Int32.ofNat (q + len))), .val (.int (Int32.ofNat len)), .val (.int (Int32.ofNat len)), z'] [])) := by
    intro r
    induction r with
    | zero =>
      intro i hi z hz Tl Bk Xl pl fl cl
      have hil : i = len := by omega
      rw [hil] at Xl fl cl
      exact ⟨Tl, Bk, z, Xl, pl, fl, cl⟩
    | succ r ih =>
      intro i hi z hz Tl Bk Xl pl fl cl
      have all := X0.warmed.alike.symm.trans Xl.warmed.alike
      have hAl := hA0.keep all (pl.other hne hA0.1)
      have hBk := hB0.like all pl.1 fl.1 fl.2.1 fl.2.2.1
      have hlt : q + i < Bk.slots.size := by rw [fl.2.2.1]; omega
      have c3 : Steps p.tables e below (s₁.setTop (entryFrame m #[.ref b, .int (Int32.ofNat o), .ref d, .int (Int32.ofNat q), .int (Int32.ofNat len)] 7)) (Tl.setTop (mkF m 12 #[.val (.ref b), .val (.int (Int32.ofNat (o + i))), .val (.ref d), .val (.int (Int32.ofNat (q + i))), .val (.int (Int32.ofNat len)), .val (.int (Int32.ofNat i)), z] [.int (Int32.ofNat (o + i)), .ref b])) := cl.trans (by
        refine XS.iload Xl.here hexec rfl (hb hbytes d3) rfl ?_
        refine XS.iload Xl.here hexec rfl (hb hbytes d5) rfl ?_
        refine XS.icmpNo Xl.here hexec rfl (hb hbytes d7) rfl (ii_ge_f (lt32 (by omega) (by omega))) ?_
        refine XS.aloadN Xl.here hexec rfl (hb hbytes d10) rfl rfl ?_
        refine XS.iloadN Xl.here hexec rfl (hb hbytes d11) rfl ?_
        exact Steps.refl _)
      have c4 : Steps p.tables e below (s₁.setTop (entryFrame m #[.ref b, .int (Int32.ofNat o), .ref d, .int (Int32.ofNat q), .int (Int32.ofNat len)] 7)) (Tl.setTop (mkF m 13 #[.val (.ref b), .val (.int (Int32.ofNat (o + i))), .val (.ref d), .val (.int (Int32.ofNat (q + i))), .val (.int (Int32.ofNat len)), .val (.int (Int32.ofNat i)), z] [.int (cv A (o + i))])) := c3.trans (by
        refine Xl.aget hexec hAl rfl (hA.get (i := o + i) (by omega)) rfl rfl (hb hbytes d12) ?_
        exact Steps.refl _)
      have c5 : Steps p.tables e below (s₁.setTop (entryFrame m #[.ref b, .int (Int32.ofNat o), .ref d, .int (Int32.ofNat q), .int (Int32.ofNat len)] 7)) (Tl.setTop (mkF m 15 #[.val (.ref b), .val (.int (Int32.ofNat (o + i))), .val (.ref d), .val (.int (Int32.ofNat (q + i))), .val (.int (Int32.ofNat len)), .val (.int (Int32.ofNat i)), .val (.int (cv A (o + i)))] [])) := c4.trans (by
        refine XS.istoreS Xl.here hexec rfl (hb hbytes d13) rfl rfl hz ?_
        exact Steps.refl _)
      have c6 : Steps p.tables e below (s₁.setTop (entryFrame m #[.ref b, .int (Int32.ofNat o), .ref d, .int (Int32.ofNat q), .int (Int32.ofNat len)] 7)) (Tl.setTop (mkF m 31 #[.val (.ref b), .val (.int (Int32.ofNat (o + i))), .val (.ref d), .val (.int (Int32.ofNat (q + i))), .val (.int (Int32.ofNat len)), .val (.int (Int32.ofNat i)), .val (.int (cv A (o + i)))] [.int (lo8 (cv A (o + i))), .int (Int32.ofNat (q + i)), .ref d])) := c5.trans (by
        refine XS.iload Xl.here hexec rfl (hb hbytes d15) rfl ?_
        refine sipushV Xl.here hexec rfl 255 (hb hbytes d17) (by decide) ?_
        refine XS.icmpYes Xl.here hexec rfl (pc0 := 20) rfl (hb hbytes d20) rfl (ii_le_t (hp i (by omega))) (by decide) rfl ?_
        refine XS.aloadN Xl.here hexec rfl (hb hbytes d26) rfl rfl ?_
        refine XS.iloadN Xl.here hexec rfl (hb hbytes d27) rfl ?_
        refine XS.iload Xl.here hexec rfl (hb hbytes d28) rfl ?_
        refine i2b Xl.here hexec rfl (hb hbytes d30) rfl ?_
        exact Steps.refl _)
      obtain ⟨T7, X7, p7, st7⟩ := Xl.aput hexec hBk rfl hlt rfl (fits_lo8 (cv A (o + i))) (g := (mkF m 31 #[.val (.ref b), .val (.int (Int32.ofNat (o + i))), .val (.ref d), .val (.int (Int32.ofNat (q + i))), .val (.int (Int32.ofNat len)), .val (.int (Int32.ofNat i)), .val (.int (cv A (o + i)))] [.int (lo8 (cv A (o + i))), .int (Int32.ofNat (q + i)), .ref d])) rfl (rest := []) rfl (hb hbytes d31)
      have c8 : Steps p.tables e below (s₁.setTop (entryFrame m #[.ref b, .int (Int32.ofNat o), .ref d, .int (Int32.ofNat q), .int (Int32.ofNat len)] 7)) (T7.setTop (mkF m 32 #[.val (.ref b), .val (.int (Int32.ofNat (o + i))), .val (.ref d), .val (.int (Int32.ofNat (q + i))), .val (.int (Int32.ofNat len)), .val (.int (Int32.ofNat i)), .val (.int (cv A (o + i)))] [])) := c6.trans (st7 _ (Steps.refl _))
      have c9 : Steps p.tables e below (s₁.setTop (entryFrame m #[.ref b, .int (Int32.ofNat o), .ref d, .int (Int32.ofNat q), .int (Int32.ofNat len)] 7)) (T7.setTop (mkF m 3 #[.val (.ref b), .val (.int (Int32.ofNat (o + i) + 1)), .val (.ref d), .val (.int (Int32.ofNat (q + i) + 1)), .val (.int (Int32.ofNat len)), .val (.int (Int32.ofNat i + 1)), .val (.int (cv A (o + i)))] [])) := c8.trans (by
        refine iincV X7.here hexec rfl 1 (hb hbytes d32) (by decide) rfl rfl ?_
        refine iincV X7.here hexec rfl 1 (hb hbytes d35) (by decide) rfl rfl ?_
        refine iincV X7.here hexec rfl 1 (hb hbytes d38) (by decide) rfl rfl ?_
        refine XS.goto X7.here hexec rfl (pc0 := 41) rfl (hb hbytes d41) (by decide) rfl ?_
        exact Steps.refl _)
      have c10 : Steps p.tables e below (s₁.setTop (entryFrame m #[.ref b, .int (Int32.ofNat o), .ref d, .int (Int32.ofNat q), .int (Int32.ofNat len)] 7)) (T7.setTop (mkF m 3 #[.val (.ref b), .val (.int (Int32.ofNat (o + (i + 1)))), .val (.ref d), .val (.int (Int32.ofNat (q + (i + 1)))), .val (.int (Int32.ofNat len)), .val (.int (Int32.ofNat (i + 1))), .val (.int (cv A (o + i)))] [])) := by
        have := c9
        rw [succ32, succ32, succ32] at this
        exact this
      exact ih (i + 1) (by omega) _ (Or.inr ⟨_, rfl, rfl⟩) T7 _ (by rw [copyLocs_step, ← List.append_assoc]; exact X7) (pl.trans p7) (fl.step (by omega) hlt (by simp)) c10
  obtain ⟨T9, B9, z9, X9, p9, f9, g9⟩ := loop len 0 (by omega) .unset (Or.inl rfl) s₁ B (by simpa [copyLocs] using X0) ⟨hB0.1, fun _ _ => rfl, rfl⟩ (Laid.zero _ _ _) c2
  have c11 : Steps p.tables e below (s₁.setTop (entryFrame m #[.ref b, .int (Int32.ofNat o), .ref d, .int (Int32.ofNat q), .int (Int32.ofNat len)] 7)) (T9.setTop (mkF m 46 #[.val (.ref b), .val (.int (Int32.ofNat (o + len))), .val (.ref d), .val (.int (Int32.ofNat (q + len))), .val (.int (Int32.ofNat len)), .val (.int (Int32.ofNat len)), z9] [.int (Int32.ofNat len)])) := g9.trans (by
    refine XS.iload X9.here hexec rfl (hb hbytes d3) rfl ?_
    refine XS.iload X9.here hexec rfl (hb hbytes d5) rfl ?_
    refine XS.icmpYes X9.here hexec rfl (pc0 := 7) rfl (hb hbytes d7) rfl (ii_ge_t (nlt32 (by omega) (Nat.le_refl _))) (by decide) rfl ?_
    refine XS.iload X9.here hexec rfl (hb hbytes d44) rfl ?_
    exact Steps.refl _)
  exact ⟨T9, some (.int (Int32.ofNat len)), _, _, _, X9, by simp, rfl, rfl, (fun h => by cases h), ⟨rfl, B9, p9.from hh0, f9⟩, fun fs hl => c11.trans (X9.ireturnOut hexec hret rfl (Or.inl rfl) (hb hbytes d46) hl)⟩
end Cmp5
namespace Cmp3
def yN : MethodName := ⟨"java/lang/StringUTF16", "compress", "([CII)[B"⟩
abbrev yB : ByteArray := jdk_52_method_16_code
theorem d0 : decode yB 0 = .ok (.iload_n 2, 1) := by decide +kernel
theorem d1 : decode yB 1 = .ok (.newarray .byte, 2) := by decide +kernel
theorem d3 : decode yB 3 = .ok (.astore_n 3, 1) := by decide +kernel
theorem d4 : decode yB 4 = .ok (.aload_n 0, 1) := by decide +kernel
theorem d5 : decode yB 5 = .ok (.iload_n 1, 1) := by decide +kernel
theorem d6 : decode yB 6 = .ok (.aload_n 3, 1) := by decide +kernel
theorem d7 : decode yB 7 = .ok (.iconst 0, 1) := by decide +kernel
theorem d8 : decode yB 8 = .ok (.iload_n 2, 1) := by decide +kernel
theorem d9 : decode yB 9 = .ok (.invokestatic 115, 3) := by decide +kernel
theorem d12 : decode yB 12 = .ok (.istore 4, 2) := by decide +kernel
theorem d14 : decode yB 14 = .ok (.iload 4, 2) := by decide +kernel
theorem d16 : decode yB 16 = .ok (.iload_n 2, 1) := by decide +kernel
theorem d17 : decode yB 17 = .ok (.if_icmp (.eq) 40, 3) := by decide +kernel
theorem d57 : decode yB 57 = .ok (.aload_n 3, 1) := by decide +kernel
theorem d58 : decode yB 58 = .ok (.areturn, 1) := by decide +kernel
def site : List Cond := [.arrayClass .byte, Cmp5.tab] ++ staticW U16 115 Cmp5.yN
def tab : Cond := tabOf yN yB 6 (some (.array .byte)) site
def P (b : Addr) (A : Cell) (o len : Nat) (args : Array Value) (s : State) : Prop := args = #[.ref b, .int (Int32.ofNat o), .int (Int32.ofNat len)] ∧ Ch b A s ∧ o + len ≤ A.slots.size ∧ len ≤ 536870912 ∧ ∀ i, i < len → ¬ 255 < cv A (o + i)
def E (b : Addr) (A : Cell) (o len : Nat) (r : Option Value) (s u : State) : Prop := NewArr .byte "[B" len (fun j => .int (lo8 (cv A (o + j)))) r s u ∧ u.heap.size = s.heap.size + 1
/-- no char of the range above 255: a new byte[] of their low bytes -/
theorem law (l : Launch) (b : Addr) (A : Cell) (o len : Nat) : Law l yN 3 3 1 18 yB 6 (some (.array .byte)) site (P b A o len) (E b A o len) [] 1 len := by
  refine Law.of_walk (plainFor_of_name (by decide +kernel)) (by decide +kernel) (by decide +kernel) (by decide) (fun _ _ h => by rw [h.1]; rfl) (fun _ U U' hal hh h => ⟨h.1, h.2.1.mv hal hh, h.2.2⟩) (fun r U U' V V' h1 hal h2 h => ⟨NewArr.mv r U U' V V' h1 hal h2 h.1, by rw [h1, h2]; exact h.2⟩) ?_
  intro p e s m args below meth c s₁ X0 hexec hbytes hml hret hlk hnm hown hh0 W hP
  obtain ⟨rfl, hA, l1, l2, hp⟩ := hP
  have a31 := hA.1.2.2.2
  have c1 : Steps p.tables e below (s₁.setTop (entryFrame m #[.ref b, .int (Int32.ofNat o), .int (Int32.ofNat len)] 6)) (s₁.setTop (mkF m 0 #[.val (.ref b), .val (.int (Int32.ofNat o)), .val (.int (Int32.ofNat len)), .unset, .unset, .unset] [])) := entry rfl
  have c2 : Steps p.tables e below (s₁.setTop (entryFrame m #[.ref b, .int (Int32.ofNat o), .int (Int32.ofNat len)] 6)) (s₁.setTop (mkF m 1 #[.val (.ref b), .val (.int (Int32.ofNat o)), .val (.int (Int32.ofNat len)), .unset, .unset, .unset] [.int (Int32.ofNat len)])) := c1.trans (by
    refine XS.iloadN X0.here hexec rfl (hb hbytes d0) rfl ?_
    exact Steps.refl _)
  obtain ⟨T3, B3, X3, ba3, bs3, bv3, bh3, bf3, st3⟩ := X0.anew hexec (atype := .byte) (wk W (.arrayClass .byte)) rfl (by show len * 1 ≤ _; omega) (by omega) (g := (mkF m 1 #[.val (.ref b), .val (.int (Int32.ofNat o)), .val (.int (Int32.ofNat len)), .unset, .unset, .unset] [.int (Int32.ofNat len)])) rfl (hb hbytes d1) (rest := []) rfl (Nat.le_refl _) (by show 0 + len ≤ len; omega)
  rw [hh0] at ba3 st3
  have kp3 : XT.Kept s T3 := (XT.Kept.of_eq hh0).push bh3
  have hA3 := hA.keep X3.warmed.alike (kp3 _ _ hA.1.1)
  have hne : b ≠ s.heap.size := hA.1.ne
  have c4 : Steps p.tables e below (s₁.setTop (entryFrame m #[.ref b, .int (Int32.ofNat o), .int (Int32.ofNat len)] 6)) (T3.setTop (mkF m 3 #[.val (.ref b), .val (.int (Int32.ofNat o)), .val (.int (Int32.ofNat len)), .unset, .unset, .unset] [.ref s.heap.size])) := c2.trans (st3 _ (Steps.refl _))
  have c5 : Steps p.tables e below (s₁.setTop (entryFrame m #[.ref b, .int (Int32.ofNat o), .int (Int32.ofNat len)] 6)) (T3.setTop (mkF m 9 #[.val (.ref b), .val (.int (Int32.ofNat o)), .val (.int (Int32.ofNat len)), .val (.ref s.heap.size), .unset, .unset] [.int (Int32.ofNat len), .int 0, .ref s.heap.size, .int (Int32.ofNat o), .ref b])) := c4.trans (by
    refine XS.astoreN X3.here hexec rfl (hb hbytes d3) rfl rfl rfl ?_
    refine XS.aloadN X3.here hexec rfl (hb hbytes d4) rfl rfl ?_
    refine XS.iloadN X3.here hexec rfl (hb hbytes d5) rfl ?_
    refine XS.aloadN X3.here hexec rfl (hb hbytes d6) rfl rfl ?_
    refine iconstV X3.here hexec rfl 0 (hb hbytes d7) (by decide) ?_
    refine XS.iloadN X3.here hexec rfl (hb hbytes d8) rfl ?_
    exact Steps.refl _)
  obtain ⟨v6, T6, X6, E6, g6⟩ := X3.callS hexec (Cmp5.law l b A s.heap.size B3 o 0 len) hown (wks W (staticW U16 115 Cmp5.yN)) (wk W Cmp5.tab) (W := 0) (Nat.le_of_ble_eq_true rfl) (Nat.le_of_ble_eq_true rfl) (Nat.le_refl _) (by show 0 + len + 0 ≤ len; omega) (g := (mkF m 9 #[.val (.ref b), .val (.int (Int32.ofNat o)), .val (.int (Int32.ofNat len)), .val (.ref s.heap.size), .unset, .unset] [.int (Int32.ofNat len), .int (Int32.ofNat 0), .ref s.heap.size, .int (Int32.ofNat o), .ref b])) rfl (by rw [hml]; rfl) c5 (argsL := [.ref b, .int (Int32.ofNat o), .ref s.heap.size, .int (Int32.ofNat 0), .int (Int32.ofNat len)]) (rest := []) rfl rfl (by show 2 * 0 + 0 ≤ _; decide) (hb hbytes d9) (⟨rfl, hA3, ba3, hne, l1, by rw [bs3]; simp, hp⟩)
  obtain ⟨rfl, B6, p6, f6⟩ := E6
  have c7 : Steps p.tables e below (s₁.setTop (entryFrame m #[.ref b, .int (Int32.ofNat o), .int (Int32.ofNat len)] 6)) (T6.setTop (mkF m 12 #[.val (.ref b), .val (.int (Int32.ofNat o)), .val (.int (Int32.ofNat len)), .val (.ref s.heap.size), .unset, .unset] [.int (Int32.ofNat len)])) := g6
  have c8 : Steps p.tables e below (s₁.setTop (entryFrame m #[.ref b, .int (Int32.ofNat o), .int (Int32.ofNat len)] 6)) (T6.setTop (mkF m 58 #[.val (.ref b), .val (.int (Int32.ofNat o)), .val (.int (Int32.ofNat len)), .val (.ref s.heap.size), .val (.int (Int32.ofNat len)), .unset] [.ref s.heap.size])) := c7.trans (by
    refine XS.istore X6.here hexec rfl (hb hbytes d12) rfl rfl ?_
    refine XS.iload X6.here hexec rfl (hb hbytes d14) rfl ?_
    refine XS.iloadN X6.here hexec rfl (hb hbytes d16) rfl ?_
    refine XS.icmpYes X6.here hexec rfl (pc0 := 17) rfl (hb hbytes d17) rfl (ii_eq_t rfl) (by decide) rfl ?_
    refine XS.aloadN X6.here hexec rfl (hb hbytes d57) rfl rfl ?_
    exact Steps.refl _)
  have X8 := X6.wide (L' := []) (cells' := 1) (slots' := len) (fun x hx hlt => by
    simp only [List.nil_append, copyLocs, List.mem_map, List.mem_range] at hx
    obtain ⟨i, -, rfl⟩ := hx
    exact absurd hlt (Nat.lt_irrefl _)) (Nat.le_refl _) (by omega)
  exact ⟨T6, some (.ref s.heap.size), _, _, _, X8, rfl, rfl, rfl, (fun h => by cases h), ⟨⟨rfl, B6, ba3.like (X3.warmed.alike.symm.trans X6.warmed.alike) p6.1 f6.1 f6.2.1 f6.2.2.1, f6.2.1.trans bv3, by rw [X6.warmed.alike.findClass, f6.1]; exact bf3, by rw [f6.2.2.1, bs3]; simp, fun j hj => by rw [f6.2.2.2 j, if_pos (by omega)]; rfl, kp3.put p6 (Nat.le_refl _)⟩, by rw [p6.2.2, bh3, hh0]; simp⟩, fun fs hl => c8.trans (X8.areturnOut hexec rfl hret rfl (hb hbytes d58) hl)⟩
end Cmp3
namespace CodL
def yN : MethodName := ⟨"java/lang/StringUTF16", "coderFromArrayLen", "([BI)B"⟩
abbrev yB : ByteArray := jdk_52_method_15_code
theorem d0 : decode yB 0 = .ok (.iload_n 1, 1) := by decide +kernel
theorem d1 : decode yB 1 = .ok (.aload_n 0, 1) := by decide +kernel
theorem d2 : decode yB 2 = .ok (.arraylength, 1) := by decide +kernel
theorem d3 : decode yB 3 = .ok (.isub, 1) := by decide +kernel
theorem d4 : decode yB 4 = .ok (.bipush 31, 2) := by decide +kernel
theorem d6 : decode yB 6 = .ok (.iushr, 1) := by decide +kernel
theorem d7 : decode yB 7 = .ok (.i2b, 1) := by decide +kernel
theorem d8 : decode yB 8 = .ok (.ireturn, 1) := by decide +kernel
def site : List Cond := []
def tab : Cond := tabOf yN yB 2 (some .byte) site
def P (d : Addr) (B : Cell) (args : Array Value) (s : State) : Prop := args = #[.ref d, .int (Int32.ofNat B.slots.size)] ∧ Arr .byte d B s
def E (r : Option Value) (s u : State) : Prop := XT.PureE (some (.int 0)) r s u
/-- an array as long as the number of chars: LATIN1 -/
theorem law (l : Launch) (d : Addr) (B : Cell) : Law l yN 2 2 0 0 yB 2 (some .byte) site (P d B) E [] 0 0 := by
  refine Law.of_walk (plainFor_of_name (by decide +kernel)) (by decide +kernel) (by decide +kernel) (by decide) (fun _ _ h => by rw [h.1]; rfl) (fun _ U U' hal hh h => ⟨h.1, h.2.mv hal hh⟩) (fun r U U' V V' h1 hal h2 h => XT.PureE.mv r U U' V V' h1 hal h2 h) ?_
  intro p e s m args below meth c s₁ X0 hexec hbytes hml hret hlk hnm hown hh0 W hP
  obtain ⟨rfl, hB⟩ := hP
  have hB0 := hB.mv X0.warmed.alike hh0
  have c1 : Steps p.tables e below (s₁.setTop (entryFrame m #[.ref d, .int (Int32.ofNat B.slots.size)] 2)) (s₁.setTop (mkF m 0 #[.val (.ref d), .val (.int (Int32.ofNat B.slots.size))] [])) := entry rfl
  have c2 : Steps p.tables e below (s₁.setTop (entryFrame m #[.ref d, .int (Int32.ofNat B.slots.size)] 2)) (s₁.setTop (mkF m 2 #[.val (.ref d), .val (.int (Int32.ofNat B.slots.size))] [.ref d, .int (Int32.ofNat B.slots.size)])) := c1.trans (by
    refine XS.iloadN X0.here hexec rfl (hb hbytes d0) rfl ?_
    refine XS.aloadN X0.here hexec rfl (hb hbytes d1) rfl rfl ?_
    exact Steps.refl _)
  have c3 : Steps p.tables e below (s₁.setTop (entryFrame m #[.ref d, .int (Int32.ofNat B.slots.size)] 2)) (s₁.setTop (mkF m 8 #[.val (.ref d), .val (.int (Int32.ofNat B.slots.size))] [.int (lo8 (ushr (Int32.ofNat B.slots.size - Int32.ofNat B.slots.size) 31))])) := c2.trans (by
    refine X0.alen hexec hB0 rfl rfl (hb hbytes d2) ?_
    refine XS.isub X0.here hexec rfl (hb hbytes d3) rfl ?_
    refine bipushV X0.here hexec rfl 31 (hb hbytes d4) (by decide) ?_
    refine iushr X0.here hexec rfl (hb hbytes d6) rfl ?_
    refine i2b X0.here hexec rfl (hb hbytes d7) rfl ?_
    exact Steps.refl _)
  have e0 : lo8 (ushr (Int32.ofNat B.slots.size - Int32.ofNat B.slots.size) 31) = 0 := by rw [Int32.sub_self]; decide
  rw [e0] at c3
  exact ⟨s₁, some (.int 0), _, _, _, X0, rfl, rfl, rfl, (fun h => by cases h), ⟨rfl, hh0⟩, fun fs hl => c3.trans (X0.ireturnOut hexec hret rfl (Or.inr (Or.inr (Or.inl rfl))) (hb hbytes d8) hl)⟩
end CodL
/-- the String at a is Latin-1 over a new byte[] (the heap's one new cell): the low bytes of the len chars of A from o on; every cell but a is kept -/
def Got (a : Addr) (D : Cell) (fV fC : Field) (A : Cell) (o len : Nat) (r : Option Value) (s u : State) : Prop := r = none ∧ ∃ D' V : Cell, Blank "java/lang/String" a D' u ∧ Same D D' [fV.slot, fC.slot] ∧ D'.slots[fV.slot]? = some (.ref s.heap.size) ∧ D'.slots[fC.slot]? = some (.int 0) ∧ Arr .byte s.heap.size V u ∧ V.vm = .none ∧ u.vm.findClass "[B" = some V.cls ∧ V.slots.size = len ∧ (∀ j, j < len → V.slots[j]? = some (.int (lo8 (cv A (o + j))))) ∧ (∀ (y : Addr) (c : Cell), y ≠ a → s.heap[y]? = some c → u.heap[y]? = some c) ∧ u.heap.size = s.heap.size + 1
theorem Got.mv {a : Addr} {D A : Cell} {fV fC : Field} {o len : Nat} : ∀ r (U U' V V' : State), U'.heap = U.heap → V.vm.Alike V'.vm → V'.heap = V.heap → Got a D fV fC A o len r U V → Got a D fV fC A o len r U' V' :=
  fun r U U' V V' h1 hal h2 ⟨e0, D', X, a1, a2, a3, a4, a5, a6, a7, a8, a9, a10, a11⟩ => ⟨e0, D', X, a1.mv hal h2, a2, by rw [h1]; exact a3, a4, by rw [h1]; exact a5.mv hal h2, a6, by rw [hal.findClass]; exact a7, a8, a9, by rw [h1, h2]; exact a10, by rw [h1, h2]; exact a11⟩
namespace New4
def yN : MethodName := ⟨"java/lang/String", "<init>", "([CIILjava/lang/Void;)V"⟩
abbrev yB : ByteArray := jdk_42_method_149_code
theorem d0 : decode yB 0 = .ok (.aload_n 0, 1) := by decide +kernel
theorem d1 : decode yB 1 = .ok (.invokespecial 1, 3) := by decide +kernel
theorem d4 : decode yB 4 = .ok (.iload_n 3, 1) := by decide +kernel
theorem d5 : decode yB 5 = .ok (.ifCond (.ne) 22, 3) := by decide +kernel
theorem d27 : decode yB 27 = .ok (.getstatic 38, 3) := by decide +kernel
theorem d30 : decode yB 30 = .ok (.ifCond (.eq) 28, 3) := by decide +kernel
theorem d33 : decode yB 33 = .ok (.aload_n 1, 1) := by decide +kernel
theorem d34 : decode yB 34 = .ok (.iload_n 2, 1) := by decide +kernel
theorem d35 : decode yB 35 = .ok (.iload_n 3, 1) := by decide +kernel
theorem d36 : decode yB 36 = .ok (.invokestatic 177, 3) := by decide +kernel
theorem d39 : decode yB 39 = .ok (.astore 5, 2) := by decide +kernel
theorem d41 : decode yB 41 = .ok (.aload_n 0, 1) := by decide +kernel
theorem d42 : decode yB 42 = .ok (.aload 5, 2) := by decide +kernel
theorem d44 : decode yB 44 = .ok (.iload_n 3, 1) := by decide +kernel
theorem d45 : decode yB 45 = .ok (.invokestatic 47, 3) := by decide +kernel
theorem d48 : decode yB 48 = .ok (.putfield 15, 3) := by decide +kernel
theorem d51 : decode yB 51 = .ok (.aload_n 0, 1) := by decide +kernel
theorem d52 : decode yB 52 = .ok (.aload 5, 2) := by decide +kernel
theorem d54 : decode yB 54 = .ok (.putfield 9, 3) := by decide +kernel
theorem d57 : decode yB 57 = .ok (.return_, 1) := by decide +kernel
def site : List Cond := [.fieldLink "java/lang/String" 38 "java/lang/String" "COMPACT_STRINGS" "Z", Cmp3.tab, CodL.tab, .laysFinal "java/lang/String" "java/lang/String" "value" "[B", .fieldLink "java/lang/String" 9 "java/lang/String" "value" "[B", .laysFinal "java/lang/String" "java/lang/String" "coder" "B", .fieldLink "java/lang/String" 15 "java/lang/String" "coder" "B"] ++ objW "java/lang/String" 1 ++ staticW "java/lang/String" 177 Cmp3.yN ++ staticW "java/lang/String" 47 CodL.yN
def tab : Cond := tabOf yN yB 6 none site
def P (a : Addr) (D : Cell) (fV fC : Field) (b : Addr) (A : Cell) (z : Int32) (o len : Nat) (args : Array Value) (s : State) : Prop := args = #[.ref a, .ref b, .int (Int32.ofNat o), .int (Int32.ofNat len), .null] ∧ Blank "java/lang/String" a D s ∧ Found "java/lang/String" "value" "[B" fV s ∧ Found "java/lang/String" "coder" "B" fC s ∧ Ch b A s ∧ StaticIs s "java/lang/String" "COMPACT_STRINGS" "Z" (.int z) ∧ ¬ z = 0 ∧ 0 < len ∧ o + len ≤ A.slots.size ∧ len ≤ 536870912 ∧ ∀ i, i < len → ¬ 255 < cv A (o + i)
def E (a : Addr) (D : Cell) (fV fC : Field) (A : Cell) (o len : Nat) (r : Option Value) (s u : State) : Prop := Got a D fV fC A o len r s u
/-- len > 0, no char of the range above 255: a Latin-1 String of their low bytes -/
theorem law (l : Launch) (a : Addr) (D : Cell) (fV fC : Field) (b : Addr) (A : Cell) (z : Int32) (o len : Nat) : Law l yN 5 4 2 35 yB 6 none site (P a D fV fC b A z o len) (E a D fV fC A o len) [⟨a, fC.slot⟩, ⟨a, fV.slot⟩] 1 len := by
  refine Law.of_walk (plainFor_of_name (by decide +kernel)) (by decide +kernel) (by decide +kernel) (by decide) (fun _ _ h => by rw [h.1]; rfl) (fun _ U U' hal hh h => ⟨h.1, h.2.1.mv hal hh, h.2.2.1.al hal, h.2.2.2.1.al hal, h.2.2.2.2.1.mv hal hh, h.2.2.2.2.2.1.there hal hh, h.2.2.2.2.2.2⟩) (fun r U U' V V' h1 hal h2 h => Got.mv r U U' V V' h1 hal h2 h) ?_
  intro p e s m args below meth c s₁ X0 hexec hbytes hml hret hlk hnm hown hh0 W hP
  obtain ⟨rfl, hB, f1, f2, hA, s1, hz, l0, l1, l2, hp⟩ := hP
  have a31 := hA.1.2.2.2
  have c1 : Steps p.tables e below (s₁.setTop (entryFrame m #[.ref a, .ref b, .int (Int32.ofNat o), .int (Int32.ofNat len), .null] 6)) (s₁.setTop (mkF m 0 #[.val (.ref a), .val (.ref b), .val (.int (Int32.ofNat o)), .val (.int (Int32.ofNat len)), .val .null, .unset] [])) := entry rfl
  have c2 : Steps p.tables e below (s₁.setTop (entryFrame m #[.ref a, .ref b, .int (Int32.ofNat o), .int (Int32.ofNat len), .null] 6)) (s₁.setTop (mkF m 1 #[.val (.ref a), .val (.ref b), .val (.int (Int32.ofNat o)), .val (.int (Int32.ofNat len)), .val .null, .unset] [.ref a])) := c1.trans (by
    refine XS.aloadN X0.here hexec rfl (hb hbytes d0) rfl rfl ?_
    exact Steps.refl _)
  obtain ⟨T3, X3, q3, st3⟩ := X0.oinit hexec hown (wks W (objW "java/lang/String" 1)) (g := (mkF m 1 #[.val (.ref a), .val (.ref b), .val (.int (Int32.ofNat o)), .val (.int (Int32.ofNat len)), .val .null, .unset] [.ref a])) rfl (by rw [hml]; rfl) (rest := []) rfl (hb hbytes d1) (W := 0) (by show 2 * 0 + 0 ≤ _; decide) (Nat.le_of_ble_eq_true rfl) (Nat.le_of_ble_eq_true rfl)
  have hh3 := q3.trans hh0
  have c4 : Steps p.tables e below (s₁.setTop (entryFrame m #[.ref a, .ref b, .int (Int32.ofNat o), .int (Int32.ofNat len), .null] 6)) (T3.setTop (mkF m 27 #[.val (.ref a), .val (.ref b), .val (.int (Int32.ofNat o)), .val (.int (Int32.ofNat len)), .val .null, .unset] [])) := (c2.trans (st3 _ (Steps.refl _))).trans (by
    refine XS.iloadN X3.here hexec rfl (hb hbytes d4) rfl ?_
    refine XS.ifYes X3.here hexec rfl (pc0 := 5) rfl (hb hbytes d5) rfl (i0_ne_t (nz32 (by omega) l0)) (by decide) rfl ?_
    exact Steps.refl _)
  obtain ⟨T5, X5, q5, st5⟩ := X3.sget hexec hown (wk W (.fieldLink "java/lang/String" 38 "java/lang/String" "COMPACT_STRINGS" "Z")) s1 (fun _ _ h => by rw [hh3]; exact h) (g := (mkF m 27 #[.val (.ref a), .val (.ref b), .val (.int (Int32.ofNat o)), .val (.int (Int32.ofNat len)), .val .null, .unset] [])) rfl (hb hbytes d27)
  have hh5 := q5.trans hh3
  have c6 : Steps p.tables e below (s₁.setTop (entryFrame m #[.ref a, .ref b, .int (Int32.ofNat o), .int (Int32.ofNat len), .null] 6)) (T5.setTop (mkF m 30 #[.val (.ref a), .val (.ref b), .val (.int (Int32.ofNat o)), .val (.int (Int32.ofNat len)), .val .null, .unset] [.int z])) := c4.trans (st5 _ (Steps.refl _))
  have c7 : Steps p.tables e below (s₁.setTop (entryFrame m #[.ref a, .ref b, .int (Int32.ofNat o), .int (Int32.ofNat len), .null] 6)) (T5.setTop (mkF m 36 #[.val (.ref a), .val (.ref b), .val (.int (Int32.ofNat o)), .val (.int (Int32.ofNat len)), .val .null, .unset] [.int (Int32.ofNat len), .int (Int32.ofNat o), .ref b])) := c6.trans (by
    refine XS.ifNo X5.here hexec rfl (hb hbytes d30) rfl (i0_eq_f hz) ?_
    refine XS.aloadN X5.here hexec rfl (hb hbytes d33) rfl rfl ?_
    refine XS.iloadN X5.here hexec rfl (hb hbytes d34) rfl ?_
    refine XS.iloadN X5.here hexec rfl (hb hbytes d35) rfl ?_
    exact Steps.refl _)
  obtain ⟨v8, T8, X8, E8, g8⟩ := X5.callS hexec (Cmp3.law l b A o len) hown (wks W (staticW "java/lang/String" 177 Cmp3.yN)) (wk W Cmp3.tab) (W := 0) (Nat.le_of_ble_eq_true rfl) (Nat.le_of_ble_eq_true rfl) (Nat.le_refl _) (by show 0 + len ≤ len; omega) (g := (mkF m 36 #[.val (.ref a), .val (.ref b), .val (.int (Int32.ofNat o)), .val (.int (Int32.ofNat len)), .val .null, .unset] [.int (Int32.ofNat len), .int (Int32.ofNat o), .ref b])) rfl (by rw [hml]; rfl) c7 (argsL := [.ref b, .int (Int32.ofNat o), .int (Int32.ofNat len)]) (rest := []) rfl rfl (by show 2 * 0 + 0 ≤ _; decide) (hb hbytes d36) (⟨rfl, hA.mv X5.warmed.alike hh5, l1, l2, hp⟩)
  obtain ⟨e8, z8⟩ := E8
  obtain ⟨rfl, N, n1, n2, n3, n4, n5, n6⟩ := NewArr.mv _ T5 s _ _ hh5.symm (Vm.Alike.refl _) rfl e8
  rw [hh5] at z8
  have hB1 := hB.keep X8.warmed.alike (n6 _ _ hB.1)
  have hne : s.heap.size ≠ a := (Nat.ne_of_lt (Array.getElem?_eq_some_iff.mp hB.1).1).symm
  have c9 : Steps p.tables e below (s₁.setTop (entryFrame m #[.ref a, .ref b, .int (Int32.ofNat o), .int (Int32.ofNat len), .null] 6)) (T8.setTop (mkF m 39 #[.val (.ref a), .val (.ref b), .val (.int (Int32.ofNat o)), .val (.int (Int32.ofNat len)), .val .null, .unset] [.ref s.heap.size])) := g8
  have c10 : Steps p.tables e below (s₁.setTop (entryFrame m #[.ref a, .ref b, .int (Int32.ofNat o), .int (Int32.ofNat len), .null] 6)) (T8.setTop (mkF m 45 #[.val (.ref a), .val (.ref b), .val (.int (Int32.ofNat o)), .val (.int (Int32.ofNat len)), .val .null, .val (.ref s.heap.size)] [.int (Int32.ofNat N.slots.size), .ref s.heap.size, .ref a])) := by
    have hc : Steps p.tables e below (s₁.setTop (entryFrame m #[.ref a, .ref b, .int (Int32.ofNat o), .int (Int32.ofNat len), .null] 6)) (T8.setTop (mkF m 45 #[.val (.ref a), .val (.ref b), .val (.int (Int32.ofNat o)), .val (.int (Int32.ofNat len)), .val .null, .val (.ref s.heap.size)] [.int (Int32.ofNat len), .ref s.heap.size, .ref a])) := c9.trans (by
      refine XS.astore X8.here hexec rfl (hb hbytes d39) rfl rfl rfl ?_
      refine XS.aloadN X8.here hexec rfl (hb hbytes d41) rfl rfl ?_
      refine XS.aload X8.here hexec rfl (hb hbytes d42) rfl rfl ?_
      refine XS.iloadN X8.here hexec rfl (hb hbytes d44) rfl ?_
      exact Steps.refl _)
    rw [n4]; exact hc
  obtain ⟨v11, T11, X11, E11, g11⟩ := X8.callS hexec (CodL.law l s.heap.size N) hown (wks W (staticW "java/lang/String" 47 CodL.yN)) (wk W CodL.tab) (W := 1) (Nat.le_of_ble_eq_true rfl) (Nat.le_of_ble_eq_true rfl) (Nat.le_refl _) (by show 0 + len + 0 ≤ len; omega) (g := (mkF m 45 #[.val (.ref a), .val (.ref b), .val (.int (Int32.ofNat o)), .val (.int (Int32.ofNat len)), .val .null, .val (.ref s.heap.size)] [.int (Int32.ofNat N.slots.size), .ref s.heap.size, .ref a])) rfl (by rw [hml]; rfl) c10 (argsL := [.ref s.heap.size, .int (Int32.ofNat N.slots.size)]) (rest := [.ref a]) rfl rfl (by show 2 * 0 + (1 + 0) ≤ _; decide) (hb hbytes d45) (⟨rfl, n1⟩)
  obtain ⟨rfl, q11⟩ := E11
  have hB11 := hB1.mv (X8.warmed.alike.symm.trans X11.warmed.alike) q11
  have c12 : Steps p.tables e below (s₁.setTop (entryFrame m #[.ref a, .ref b, .int (Int32.ofNat o), .int (Int32.ofNat len), .null] 6)) (T11.setTop (mkF m 48 #[.val (.ref a), .val (.ref b), .val (.int (Int32.ofNat o)), .val (.int (Int32.ofNat len)), .val .null, .val (.ref s.heap.size)] [.int 0, .ref a])) := g11
  obtain ⟨T13, X13, p13, bl13, sl13, st13⟩ := X11.finit hexec hown (wk W (.fieldLink "java/lang/String" 15 "java/lang/String" "coder" "B")) (Or.inr ⟨_, (wk W (.laysFinal "java/lang/String" "java/lang/String" "coder" "B"))⟩) (Or.inl ⟨rfl, hnm⟩) f2 (Or.inl rfl) hB11 (t := .byte) (by decide +kernel) rfl (g := (mkF m 48 #[.val (.ref a), .val (.ref b), .val (.int (Int32.ofNat o)), .val (.int (Int32.ofNat len)), .val .null, .val (.ref s.heap.size)] [.int 0, .ref a])) rfl (rest := []) rfl (hb hbytes d48)
  have c14 : Steps p.tables e below (s₁.setTop (entryFrame m #[.ref a, .ref b, .int (Int32.ofNat o), .int (Int32.ofNat len), .null] 6)) (T13.setTop (mkF m 54 #[.val (.ref a), .val (.ref b), .val (.int (Int32.ofNat o)), .val (.int (Int32.ofNat len)), .val .null, .val (.ref s.heap.size)] [.ref s.heap.size, .ref a])) := (c12.trans (st13 _ (Steps.refl _))).trans (by
    refine XS.aloadN X13.here hexec rfl (hb hbytes d51) rfl rfl ?_
    refine XS.aload X13.here hexec rfl (hb hbytes d52) rfl rfl ?_
    exact Steps.refl _)
  obtain ⟨T15, X15, p15, bl15, sl15, st15⟩ := X13.finit hexec hown (wk W (.fieldLink "java/lang/String" 9 "java/lang/String" "value" "[B")) (Or.inr ⟨_, (wk W (.laysFinal "java/lang/String" "java/lang/String" "value" "[B"))⟩) (Or.inl ⟨rfl, hnm⟩) f1 (Or.inl rfl) bl13 (t := (.array .byte)) (by decide +kernel) rfl (g := (mkF m 54 #[.val (.ref a), .val (.ref b), .val (.int (Int32.ofNat o)), .val (.int (Int32.ofNat len)), .val .null, .val (.ref s.heap.size)] [.ref s.heap.size, .ref a])) rfl (rest := []) rfl (hb hbytes d54)
  have c16 : Steps p.tables e below (s₁.setTop (entryFrame m #[.ref a, .ref b, .int (Int32.ofNat o), .int (Int32.ofNat len), .null] 6)) (T15.setTop (mkF m 57 #[.val (.ref a), .val (.ref b), .val (.int (Int32.ofNat o)), .val (.int (Int32.ofNat len)), .val .null, .val (.ref s.heap.size)] [])) := c14.trans (st15 _ (Steps.refl _))
  have ap := apart (Or.inr ⟨_, (wk W (.laysFinal "java/lang/String" "java/lang/String" "value" "[B"))⟩) (Or.inr ⟨_, (wk W (.laysFinal "java/lang/String" "java/lang/String" "coder" "B"))⟩) f1 f2 (t₁ := .array .byte) (t₂ := .byte) (by decide +kernel) (by decide +kernel) (by decide)
  have al := X8.warmed.alike.symm.trans X15.warmed.alike
  have n7 : T11.heap[s.heap.size]? = some N := by rw [q11]; exact n1.1
  exact ⟨T15, none, _, _, _, X15, by simp, rfl, by omega, (fun _ => rfl), ⟨rfl, _, N, bl15, ((Same.refl D _).set _ (by simp)).set _ (by simp), sl15, (Cell.slots_setSlot_ne _ ap).trans sl13, n1.keep al (p15.other hne (p13.other hne n7)), n2, by rw [al.findClass]; exact n3, n4, n5, fun y c h1 h2 => p15.other h1 (p13.other h1 (by rw [q11]; exact n6 y c h2)), by rw [p15.2.2, p13.2.2, q11]; exact z8⟩, fun fs hl => c16.trans (X15.returnOut hexec hret (hb hbytes d57) hl)⟩
end New4
namespace New1
def yN : MethodName := ⟨"java/lang/String", "<init>", "([C)V"⟩
abbrev yB : ByteArray := jdk_42_method_3_code
theorem d0 : decode yB 0 = .ok (.aload_n 0, 1) := by decide +kernel
theorem d1 : decode yB 1 = .ok (.aload_n 1, 1) := by decide +kernel
theorem d2 : decode yB 2 = .ok (.iconst 0, 1) := by decide +kernel
theorem d3 : decode yB 3 = .ok (.aload_n 1, 1) := by decide +kernel
theorem d4 : decode yB 4 = .ok (.arraylength, 1) := by decide +kernel
theorem d5 : decode yB 5 = .ok (.aconst_null, 1) := by decide +kernel
theorem d6 : decode yB 6 = .ok (.invokespecial 27, 3) := by decide +kernel
theorem d9 : decode yB 9 = .ok (.return_, 1) := by decide +kernel
def site : List Cond := [New4.tab] ++ initW "java/lang/String" 27 New4.yN
def tab : Cond := tabOf yN yB 2 none site
def P (a : Addr) (D : Cell) (fV fC : Field) (b : Addr) (A : Cell) (z : Int32) (args : Array Value) (s : State) : Prop := args = #[.ref a, .ref b] ∧ Blank "java/lang/String" a D s ∧ Found "java/lang/String" "value" "[B" fV s ∧ Found "java/lang/String" "coder" "B" fC s ∧ Ch b A s ∧ StaticIs s "java/lang/String" "COMPACT_STRINGS" "Z" (.int z) ∧ ¬ z = 0 ∧ 0 < A.slots.size ∧ A.slots.size ≤ 536870912 ∧ ∀ i, i < A.slots.size → ¬ 255 < cv A i
def E (a : Addr) (D : Cell) (fV fC : Field) (A : Cell) (r : Option Value) (s u : State) : Prop := Got a D fV fC A 0 A.slots.size r s u
/-- new String(chars), not empty, no char above 255: a Latin-1 String of their low bytes -/
theorem law (l : Launch) (a : Addr) (D : Cell) (fV fC : Field) (b : Addr) (A : Cell) (z : Int32) : Law l yN 2 1 3 52 yB 2 none site (P a D fV fC b A z) (E a D fV fC A) [⟨a, fC.slot⟩, ⟨a, fV.slot⟩] 1 A.slots.size := by
  refine Law.of_walk (plainFor_of_name (by decide +kernel)) (by decide +kernel) (by decide +kernel) (by decide) (fun _ _ h => by rw [h.1]; rfl) (fun _ U U' hal hh h => ⟨h.1, h.2.1.mv hal hh, h.2.2.1.al hal, h.2.2.2.1.al hal, h.2.2.2.2.1.mv hal hh, h.2.2.2.2.2.1.there hal hh, h.2.2.2.2.2.2⟩) (fun r U U' V V' h1 hal h2 h => Got.mv r U U' V V' h1 hal h2 h) ?_
  intro p e s m args below meth c s₁ X0 hexec hbytes hml hret hlk hnm hown hh0 W hP
  obtain ⟨rfl, hB, f1, f2, hA, s1, hz, l0, l2, hp⟩ := hP
  have c1 : Steps p.tables e below (s₁.setTop (entryFrame m #[.ref a, .ref b] 2)) (s₁.setTop (mkF m 0 #[.val (.ref a), .val (.ref b)] [])) := entry rfl
  have c2 : Steps p.tables e below (s₁.setTop (entryFrame m #[.ref a, .ref b] 2)) (s₁.setTop (mkF m 6 #[.val (.ref a), .val (.ref b)] [.null, .int (Int32.ofNat A.slots.size), .int 0, .ref b, .ref a])) := c1.trans (by
    refine XS.aloadN X0.here hexec rfl (hb hbytes d0) rfl rfl ?_
    refine XS.aloadN X0.here hexec rfl (hb hbytes d1) rfl rfl ?_
    refine iconstV X0.here hexec rfl 0 (hb hbytes d2) (by decide) ?_
    refine XS.aloadN X0.here hexec rfl (hb hbytes d3) rfl rfl ?_
    refine X0.alen hexec (hA.1.mv X0.warmed.alike hh0) rfl rfl (hb hbytes d4) ?_
    refine XS.aconstNull X0.here hexec rfl (hb hbytes d5) ?_
    exact Steps.refl _)
  obtain ⟨v3, T3, X3, E3, g3⟩ := X0.callN hexec (New4.law l a D fV fC b A z 0 A.slots.size) rfl hown (wks W (initW "java/lang/String" 27 New4.yN)) (W New4.tab (by simp only [site, List.mem_cons, List.mem_append, true_or, or_true])) (W := 0) (Nat.le_of_ble_eq_true rfl) (Nat.le_of_ble_eq_true rfl) (Nat.le_refl _) (by show 0 + A.slots.size ≤ A.slots.size; omega) (g := (mkF m 6 #[.val (.ref a), .val (.ref b)] [.null, .int (Int32.ofNat A.slots.size), .int (Int32.ofNat 0), .ref b, .ref a])) rfl (by rw [hml]; rfl) c2 (argsL := [.ref b, .int (Int32.ofNat 0), .int (Int32.ofNat A.slots.size), .null]) (rest := []) rfl rfl (by show 2 * 0 + 0 ≤ _; decide) (hb hbytes d6) (⟨rfl, hB.mv X0.warmed.alike hh0, f1.al X0.warmed.alike, f2.al X0.warmed.alike, hA.mv X0.warmed.alike hh0, s1.there X0.warmed.alike hh0, hz, l0, by omega, l2, fun i hi => by rw [Nat.zero_add]; exact hp i hi⟩)
  have e0 := Got.mv _ s₁ s _ _ hh0.symm (Vm.Alike.refl _) rfl E3
  obtain rfl := e0.1
  have c4 : Steps p.tables e below (s₁.setTop (entryFrame m #[.ref a, .ref b] 2)) (T3.setTop (mkF m 9 #[.val (.ref a), .val (.ref b)] [])) := g3
  exact ⟨T3, none, _, _, _, X3, by simp, rfl, by omega, (fun _ => rfl), e0, fun fs hl => c4.trans (X3.returnOut hexec hret (hb hbytes d9) hl)⟩
theorem pays {l : Launch} {R : Room} {p : Program} {e : Env} {below : List Frame} {s : State} {sargs : Array Value} {len W : Nat} (a : Addr) (D : Cell) (fV fC : Field) (b : Addr) (A : Cell) (z : Int32) (htab : tab.before sargs s = true) (hfr : 4 ≤ R.frames) (hlo : W + 65 ≤ R.locals) :
    Back l R p e below s sargs yN len W (fun A₁ a₁ => A₁.cells + 1 ≤ R.cells ∧ A₁.slots + A.slots.size ≤ R.slots ∧ P a D fV fC b A z a₁ A₁.U) (fun A₁ _ v₁ B₁ => E a D fV fC A v₁ A₁.U B₁.U ∧ B₁.locs = A₁.locs ++ [⟨a, fC.slot⟩, ⟨a, fV.slot⟩] ∧ B₁.cells = A₁.cells + 1 ∧ B₁.slots = A₁.slots + A.slots.size) :=
  (law l a D fV fC b A z).pays htab hfr (by omega)
end New1
end StrChars
namespace StrChars.Road
open Jvm Sem ClassFile Op Lib Jvm.Stand Jvm.Free Jvm.Free.XT
open Jvm.Lib.Cold (StaticIs)
abbrev ST : String := "java/lang/String"
/-- every table word that New1's law asks, flat -/
abbrev words : List Jvm.Cond := [.code New1.yN New1.yB 2 none, .initialized ST, .methodLink ST 27 New4.yN, .instanceMethod New4.yN,
  .code New4.yN New4.yB 6 none, .fieldLink ST 38 ST "COMPACT_STRINGS" "Z", .laysFinal ST ST "value" "[B", .fieldLink ST 9 ST "value" "[B", .laysFinal ST ST "coder" "B", .fieldLink ST 15 ST "coder" "B",
  .methodLink ST 1 Lib.objectInit, .instanceMethod Lib.objectInit, .code Lib.objectInit ⟨#[0xb1]⟩ 1 none, .methodLink ST 177 Cmp3.yN, .static Cmp3.yN, .methodLink ST 47 CodL.yN, .static CodL.yN,
  .code Cmp3.yN Cmp3.yB 6 (some (.array .byte)), .initialized U16, .arrayClass .byte, .methodLink U16 115 Cmp5.yN, .static Cmp5.yN, .code Cmp5.yN Cmp5.yB 7 (some .int), .code CodL.yN CodL.yB 2 (some .byte)]
theorem tab_of {a : Array Value} {s : State} (h : ∀ w ∈ words, w.before a s = true) : New1.tab.before a s = true := by
  have h5 : Cmp5.tab.before a s = true := unparts (wk h (.code Cmp5.yN Cmp5.yB 7 (some .int))) (wks h (.initialized Cmp5.yN.cls :: Cmp5.site))
  have hc : CodL.tab.before a s = true := unparts (wk h (.code CodL.yN CodL.yB 2 (some .byte))) (wks h (.initialized CodL.yN.cls :: CodL.site))
  have q5 : ∀ w ∈ Cmp5.tab :: words, w.before a s = true := fun w hw => (List.mem_cons.mp hw).elim (fun e => e ▸ h5) (h w)
  have h3 : Cmp3.tab.before a s = true := unparts (wk q5 (.code Cmp3.yN Cmp3.yB 6 (some (.array .byte)))) (wks q5 (.initialized Cmp3.yN.cls :: Cmp3.site))
  have q3 : ∀ w ∈ Cmp3.tab :: CodL.tab :: words, w.before a s = true := fun w hw => (List.mem_cons.mp hw).elim (fun e => e ▸ h3) fun hw => (List.mem_cons.mp hw).elim (fun e => e ▸ hc) (h w)
  have h4 : New4.tab.before a s = true := unparts (wk q3 (.code New4.yN New4.yB 6 none)) (wks q3 (.initialized New4.yN.cls :: New4.site))
  have q4 : ∀ w ∈ New4.tab :: words, w.before a s = true := fun w hw => (List.mem_cons.mp hw).elim (fun e => e ▸ h4) (h w)
  exact unparts (wk q4 (.code New1.yN New1.yB 2 none)) (wks q4 (.initialized New1.yN.cls :: New1.site))
/-- the words ride from the start Z to the walk's own state -/
theorem moved {Z s : State} {a0 args : Array Value} (hZ : Z.Warmed39 s.vm) (hw : ∀ d ∈ words, d.before a0 Z = true) : ∀ d ∈ words, d.before args s = true := fun d hd => by
  have q := hw d hd
  have t : ∀ d ∈ words, d = .arrayClass .byte ∨ (d.onTables && d.keepsFace) = true := by decide +kernel
  rcases t d hd with rfl | t
  · exact RoadKit.mvA hZ q
  · exact RoadKit.mv hZ q t
/-- WHAT COMES BACK, over the tables of the start Z: h the heap at the call, h' behind it -/
def Q (Z : State) (x : Addr) (A : Cell) (h : Heap) (v : Option Value) (h' : Heap) (L : List Loc) : Prop := v = none ∧ (∀ y ∈ L, y.base = x) ∧ RoadKit.Keep h h' [x] ∧ h'.size = h.size + 1 ∧ RoadKit.Exa Z h' x ST ∧ RoadKit.Fld Z h' x ST "value" "[B" (.ref h.size) ∧ RoadKit.Fld Z h' x ST "coder" "B" (.int 0) ∧
  (∃ V : Cell, RoadKit.Arr Z h' h.size V .byte ∧ V.vm = .none ∧ Z.vm.findClass "[B" = some V.cls ∧ V.slots.size = A.slots.size ∧ ∀ j, j < A.slots.size → V.slots[j]? = some (.int (lo8 (cv A j)))) ∧
  ∀ (O n d : String) (w : Value), RoadKit.Fld Z h x O n d w → RoadKit.slotOf Z O n d ≠ RoadKit.slotOf Z ST "value" "[B" → RoadKit.slotOf Z O n d ≠ RoadKit.slotOf Z ST "coder" "B" → RoadKit.Fld Z h' x O n d w
/-- **new String(chars) AT A CALL, IN THE ROAD'S FORM**: for specialBack behind newO: x the fresh String, b the char[] with the cell A -/
theorem back {p : Program} {l : Launch} {e : Env} {R : Room} {s : State} {args : Array Value} {below : List Frame} {len W : Nat} {Z : State} {a0 : Array Value} {h : Heap} (hZ : Z.Warmed39 s.vm) (hw : ∀ d ∈ words, d.before a0 Z = true) {kI : Nat} (wi : (Jvm.Cond.instantiable ST kI).before a0 Z = true)
    {x b : Addr} {A : Cell} {z : Int32} {v0 c0 : Value} (E : RoadKit.Exa Z h x ST) (V : RoadKit.Fld Z h x ST "value" "[B" v0) (C : RoadKit.Fld Z h x ST "coder" "B" c0) (K : RoadKit.Arr Z h b A .char) (hty : Typed .char A) (S : RoadKit.Sta Z h ST "COMPACT_STRINGS" "Z" (.int z)) (hz : ¬ z = 0)
    (l0 : 0 < A.slots.size) (l2 : A.slots.size ≤ 536870912) (hp : ∀ i, i < A.slots.size → ¬ 255 < cv A i) (hfr : 4 ≤ R.frames) (hlo : W + 65 ≤ R.locals) :
    Back l R p e below s args New1.yN len W (fun P a => a = #[.ref x, .ref b] ∧ P.U.heap = h ∧ P.cells + 1 ≤ R.cells ∧ P.slots + A.slots.size ≤ R.slots)
      (fun P _ v B => ∃ L, Q Z x A h v B.U.heap L ∧ B.locs = P.locs ++ L ∧ B.cells = P.cells + 1 ∧ B.slots = P.slots + A.slots.size) := by
  intro m meth c P g ig mk a X hg hsize hdg hW hn hp'
  obtain ⟨rfl, rfl, r1, r2⟩ := hp'
  have al : Z.vm.Alike P.U.vm := hZ.alike.trans X.warmed.alike
  obtain ⟨D, cfV, kV, iV, fV, hD, gV, stV, knV, obV, asV, slV⟩ := id V
  obtain ⟨D', cfC, kC, iC, fC, hD', gC, stC, -, -, asC, slC⟩ := id C
  cases hD.symm.trans hD'
  obtain ⟨D2, kD, e1, e2, e3, e4, e5⟩ := id E
  cases hD.symm.trans e1
  obtain ⟨c2, k2, i1, i2, i3, -⟩ := Cond.instantiable_spec wi
  cases e2.symm.trans i1
  cases e3.symm.trans i2
  obtain ⟨kU, u1, u2⟩ := al.2.2 _ _ e3
  have hB : Blank ST x D P.U := ⟨hD, ⟨knV, fun q hq => by rw [hq] at obV; cases obV⟩, by rw [al.findClass]; exact e2, kU, u1, by rw [u2]; exact i3, by rw [u2]; exact e5 i3⟩
  have F1 : Found ST "value" "[B" fV P.U := ⟨SBG.found_only al ⟨cfV, kV, iV, gV⟩, stV⟩
  have F2 : Found ST "coder" "B" fC P.U := ⟨SBG.found_only al ⟨cfC, kC, iC, gC⟩, stC⟩
  have hA : Ch b A P.U := ⟨⟨K.1, State.isArrayOf_alike al K.2.1, K.2.2, by omega⟩, hty⟩
  have hS : StaticIs P.U ST "COMPACT_STRINGS" "Z" (.int z) := by
    obtain ⟨cfS, iS, kS, fS, st, cS, t1, t2, t3, t4, t5, t6, t7⟩ := S
    exact StaticIs.there (s := { Z with heap := P.U.heap }) ⟨cfS, iS, kS, fS, st, cS, t1, t2, t3, t4, t5, (fun q => by rw [q] at t6; cases t6), t7⟩ al rfl
  obtain ⟨v, B, X', ⟨⟨hv, E', V', q1, q2, q3, q4, q5, q6, q7, q8, q9, q10, q11⟩, hl, hc, hs⟩, st⟩ := New1.pays x D fV fC b A z (tab_of (moved hZ hw)) hfr hlo m meth c P g ig mk _ X hg hsize hdg hW hn ⟨r1, r2, rfl, hB, F1, F2, hA, hS, hz, l0, l2, hp⟩
  have al' : Z.vm.Alike B.U.vm := hZ.alike.trans X'.warmed.alike
  have hsz : E'.slots.size = D.slots.size := by
    obtain ⟨-, -, -, kB, w1, w2, w3⟩ := q1
    obtain ⟨kB', y1, y2⟩ := al'.2.2 _ _ e3
    rw [q2.2.1] at w1
    cases w1.symm.trans y1
    rw [w3, e5 i3, y2]
  refine ⟨v, B, X', ⟨_, ⟨hv, ?_, ⟨by omega, fun y cy hy hn' => q10 y cy (by simpa using hn') hy, fun y cy hy => ?_⟩, q11, ⟨E', _, q1.1, by rw [q2.2.1]; exact e2, by rw [q2.2.1]; exact e3, by rw [q2.1]; exact obV, fun _ => by rw [hsz]; exact e5 i3⟩,
    ⟨E', cfV, kV, iV, fV, q1.1, gV, stV, by rw [q2.1]; exact knV, by rw [q2.1]; exact obV, by rw [q2.2.1]; exact asV, q3⟩, ⟨E', cfC, kC, iC, fC, q1.1, gC, stC, by rw [q2.1]; exact knV, by rw [q2.1]; exact obV, by rw [q2.2.1]; exact asC, q4⟩,
    ⟨V', ⟨q5.1, State.isArrayOf_alike al'.symm q5.2.1, q5.2.2.1⟩, q6, by rw [← al'.findClass]; exact q7, q8, fun j hj => by have := q9 j hj; rwa [Nat.zero_add] at this⟩, fun O n d w F n1 n2 => ?_⟩, hl, hc, hs⟩, st⟩
  · intro y hy
    simp only [List.mem_cons, List.not_mem_nil, or_false] at hy
    rcases hy with rfl | rfl <;> rfl
  · by_cases q : y = x
    · subst q
      cases hD.symm.trans hy
      exact ⟨E', q1.1, q2.2.1, q2.1, hsz⟩
    · exact ⟨cy, q10 y cy q hy, rfl, rfl, rfl⟩
  · obtain ⟨D3, cf, k, i, f, g1, g2, g3, g4, g5, g6, g7⟩ := F
    cases hD.symm.trans g1
    simp only [RoadKit.slotOf, g2, gV, gC, Option.map_some, Option.getD_some] at n1 n2
    exact ⟨E', cf, k, i, f, q1.1, g2, g3, by rw [q2.1]; exact g4, by rw [q2.1]; exact g5, by rw [q2.2.1]; exact g6, by rw [q2.2.2 f.slot (by simp [n1, n2])]; exact g7⟩
end StrChars.Road
namespace StrChars.Road
open Jvm Sem ClassFile Op Lib Jvm.Stand Jvm.Free Jvm.Free.XT
/-- WHAT COMES BACK, the byte[] as a list of values -/
def QA (Z : State) (x : Addr) (zn : Int32) (cs : List Int32) (h : Heap) (v : Option Value) (h' : Heap) (L : List Loc) : Prop := v = none ∧ (∀ y ∈ L, y.base = x) ∧ RoadKit.Keep h h' [x] ∧ h'.size = h.size + 1 ∧ RoadKit.Exa Z h' x ST ∧ RoadKit.Fld Z h' x ST "value" "[B" (.ref h.size) ∧ RoadKit.Fld Z h' x ST "coder" "B" (.int 0) ∧
  (∃ kb, Z.vm.findClass "[B" = some kb ∧ RoadKit.Arv Z h' h.size kb .byte zn (cs.map fun c => .int (lo8 c)) (.int 0)) ∧
  ∀ (O n d : String) (w : Value), RoadKit.Fld Z h x O n d w → RoadKit.slotOf Z O n d ≠ RoadKit.slotOf Z ST "value" "[B" → RoadKit.slotOf Z O n d ≠ RoadKit.slotOf Z ST "coder" "B" → RoadKit.Fld Z h' x O n d w
/-- **new String(chars) AT A CALL, THE ARRAYS AS LISTS**: the char[] at b holds cs, not empty, no char above 255 -/
theorem backArv {p : Program} {l : Launch} {e : Env} {R : Room} {s : State} {args : Array Value} {below : List Frame} {len W : Nat} {Z : State} {a0 : Array Value} {h : Heap} (hZ : Z.Warmed39 s.vm) (hw : ∀ d ∈ words, d.before a0 Z = true) {kI : Nat} (wi : (Jvm.Cond.instantiable ST kI).before a0 Z = true)
    {x b : Addr} {k : ClassId} {zn z : Int32} {cs : List Int32} {dv v0 c0 : Value} (E : RoadKit.Exa Z h x ST) (V : RoadKit.Fld Z h x ST "value" "[B" v0) (C : RoadKit.Fld Z h x ST "coder" "B" c0) (K : RoadKit.Arv Z h b k .char zn (cs.map Value.int) dv) (S : RoadKit.Sta Z h ST "COMPACT_STRINGS" "Z" (.int z)) (hz : ¬ z = 0)
    (hlen : zn.toNatClampNeg = cs.length) (h0 : 0 < cs.length) (hbig : cs.length ≤ 536870912) (hall : ∀ c ∈ cs, ¬ 255 < c) (hfr : 4 ≤ R.frames) (hlo : W + 65 ≤ R.locals) :
    Back l R p e below s args New1.yN len W (fun P a => a = #[.ref x, .ref b] ∧ P.U.heap = h ∧ P.cells + 1 ≤ R.cells ∧ P.slots + cs.length ≤ R.slots)
      (fun P _ v B => ∃ L, QA Z x zn cs h v B.U.heap L ∧ B.locs = P.locs ++ L ∧ B.cells = P.cells + 1 ∧ B.slots = P.slots + cs.length) := by
  obtain ⟨A, K1, K2, K3, K4, K5, K6⟩ := K
  have e : A.slots.size = cs.length := K3.trans hlen
  have hat : ∀ (i : Nat) (hi : i < cs.length), A.slots[i]? = some (.int cs[i]) := fun i hi => by rw [K5 i (by omega)]; simp [List.getD_eq_getElem?_getD, hi]
  have hcv : ∀ (i : Nat) (hi : i < cs.length), cv A i = cs[i] := fun i hi => by unfold cv; rw [hat i hi]
  have hty : Typed .char A := fun i v hv => by
    have hi : i < A.slots.size := (Array.getElem?_eq_some_iff.mp hv).1
    have q := K5 i hi
    rw [hv] at q
    rw [Option.some.inj q]
    exact K6 i hi
  refine Back.mono (back hZ hw wi E V C K1 hty S hz (by omega) (by omega) (fun i hi => by rw [hcv i (by omega)]; exact hall _ (List.getElem_mem _)) hfr hlo) (fun P a hp => ⟨hp.1, hp.2.1, hp.2.2.1, by rw [e]; exact hp.2.2.2⟩) (fun P a v B hp hq => ?_)
  obtain ⟨L, ⟨q1, q2, q3, q4, q5, q6, q7, ⟨V', v1, v2, v3, v4, v5⟩, q9⟩, hl, hc, hs⟩ := hq
  refine ⟨L, ⟨q1, q2, q3, q4, q5, q6, q7, ⟨V'.cls, v3, V', v1, rfl, by rw [v4, e, hlen], K4, fun i hi => ?_, fun i hi => ?_⟩, q9⟩, hl, hc, by rw [hs, e]⟩
  · have hi' : i < cs.length := by omega
    rw [v5 i (by omega), hcv i hi']; simp [List.getD_eq_getElem?_getD, hi']
  · have hi' : i < cs.length := by omega
    simp only [List.getD_eq_getElem?_getD, List.getElem?_map, List.getElem?_eq_getElem hi', Option.map_some, Option.getD_some]
    exact fits_lo8 _
end StrChars.Road
namespace StrChars.Road
open Jvm Sem ClassFile Op Lib Jvm.Stand Jvm.Free Jvm.Free.XT
/-- WHAT COMES BACK, in the writer's own shape -/
def QV (Z : State) (x : Addr) (N : Int32) (bs : List Int32) (h : Heap) (n0 : Nat) (v : Option Value) (h' : Heap) (L : List Loc) : Prop := v = none ∧ RoadKit.Fr n0 L ∧ RoadKit.Keep h h' [x] ∧ RoadKit.Exa Z h' x ST ∧ RoadKit.Fld Z h' x ST "coder" "B" (.int 0) ∧
  ∃ (t : Addr) (kb : ClassId), n0 ≤ t ∧ h.size ≤ t ∧ ¬ t = x ∧ RoadKit.Fld Z h' x ST "value" "[B" (.ref t) ∧ RoadKit.Arv Z h' t kb .byte N (bs.map Value.int) (.int 0)
/-- **new String(chars) AT A CALL, FOR THE WRITER**: a char[] of n known ints, each 0 to 255 -/
theorem backV {p : Program} {l : Launch} {e : Env} {R : Room} {s : State} {args : Array Value} {below : List Frame} {len W : Nat} {Z : State} {a0 : Array Value} {h : Heap} (hZ : Z.Warmed39 s.vm) (hw : ∀ d ∈ words, d.before a0 Z = true) {kI : Nat} (wi : (Jvm.Cond.instantiable ST kI).before a0 Z = true)
    {x b : Addr} {kC : ClassId} {cs bs : List Int32} {d v0 c0 : Value} {z N : Int32} {n n0 : Nat} (hx0 : n0 ≤ x) (hh0 : n0 ≤ h.size) (E : RoadKit.Exa Z h x ST) (V : RoadKit.Fld Z h x ST "value" "[B" v0) (C : RoadKit.Fld Z h x ST "coder" "B" c0) (K : RoadKit.Arv Z h b kC .char N (cs.map Value.int) d) (S : RoadKit.Sta Z h ST "COMPACT_STRINGS" "Z" (.int z)) (hz : ¬ z = 0)
    (hn : cs.length = n) (hN : N = Int32.ofNat n) (l0 : 0 < n) (l2 : n ≤ 4000) (hp : ∀ c ∈ cs, ¬ c < 0 ∧ ¬ (255 : Int32) < c) (hb : bs = cs.map (fun c => c.toInt8.toInt32)) (hfr : 4 ≤ R.frames) (hlo : W + 65 ≤ R.locals) :
    Back l R p e below s args (⟨"java/lang/String", "<init>", "([C)V"⟩ : MethodName) len W (fun P a => a = #[.ref x, .ref b] ∧ P.U.heap = h ∧ P.cells + 1 ≤ R.cells ∧ P.slots + n ≤ R.slots)
      (fun P _ v B => ∃ L, QV Z x N bs h n0 v B.U.heap L ∧ B.locs = P.locs ++ L ∧ B.cells = P.cells + 1 ∧ B.slots = P.slots + n) := by
  subst hn hN hb
  refine Back.mono (backArv hZ hw wi E V C K S hz (n32 (by omega)) l0 (by omega) (fun c hc => (hp c hc).2) hfr hlo) (fun P a hp => hp) (fun P a v B hp hq => ?_)
  obtain ⟨L, ⟨q1, q2, q3, q4, q5, q6, q7, ⟨kb, v1, v2⟩, q9⟩, hl, hc, hs⟩ := hq
  exact ⟨L, ⟨q1, fun y hy => by rw [q2 y hy]; exact hx0, q3, q5, q7, h.size, kb, hh0, Nat.le_refl _, Nat.ne_of_gt E.lt, q6, by rw [List.map_map]; exact v2⟩, hl, hc, hs⟩
end StrChars.Road
end Jvm.Pilot.@@N@@

namespace Jvm.Pilot.@@N@@
open Jvm Jvm.ClassFile Sem Op Lib Jvm.Free Jvm.Stand Jvm.LawKit Jvm.RoadKit Bundle Jvm.Pilot.@@N@@.Jvm.D
section OwnKit
/-- where a walk stands: the library's Stand, and what stays the same throughout -/
def On (l : Launch) (Z : State) (p : Program) (e : Env) (R : Room) (s : State) (m : MethodId) (args : Array Value) (below : List Frame) (meth : Method) (c : Code) (y : MethodName) (code : ByteArray) (maxL : Nat) (ret : Option FieldType) (T : State) (h : Heap) (locs : List Loc) (cells slots : Nat) : Prop :=
  Stand p l e R s m args below meth c T locs cells slots ∧ (p.tables.exec = Jvm.exec ∧ c.code = code ∧ Z.Warmed39 s.vm ∧ s.vm.findClass y.cls = some m.cls ∧ meth.sig.returnType = ret ∧ meth.locks = false ∧ meth.name = y.name ∧ c.maxLocals = maxL) ∧ T.heap = h ∧ Fr Z.heap.size locs ∧ Ext Z.heap h
/-- the run from here ends as F says -/
def Goes (p : Program) (e : Env) (below : List Frame) (F : State → Outcome → Prop) (T : State) (g : JFrame) : Prop :=
  ∃ s₂ o, Steps p.tables e below (T.setTop g) s₂ ∧ s₂.status = .running ∧ Ended s₂ below o ∧ F s₂ o
def FinQ (Z s : State) (Q : Option Value → Heap → Prop) (rc rs : Nat) (s₂ : State) (o : Outcome) : Prop :=
  ∃ v L, o = .returned v ∧ (Q v s₂.heap ∧ Fr Z.heap.size L ∧ Ext Z.heap s₂.heap) ∧ FrameEnd s o s₂ L rc rs
/-- a method's contract: called with these arguments on this heap it returns, and Q holds -/
def Con (l : Launch) (Z : State) (y : MethodName) (code : ByteArray) (maxL : Nat) (ret : Option FieldType) (rm : Room) (as : Array Value) (h : Heap) (Q : Option Value → Heap → Prop) : Prop :=
  Ext Z.heap h → ∀ ws : List Jvm.Cond, MetFree l y (head1 (Jvm.Cond.code y code maxL ret :: ws) rm) (fun a U => a = as ∧ Z.Warmed39 U.vm ∧ U.heap = h) (fun _ _ _ _ _ => True) (fun _ U o U' => ∃ v L, o = .returned v ∧ (Q v U'.heap ∧ Fr Z.heap.size L ∧ Ext Z.heap U'.heap) ∧ FrameEnd U o U' L rm.cells rm.slots)
theorem Goes.step {p : Program} {e : Env} {below : List Frame} {F : State → Outcome → Prop} {T T' : State} {g g' : JFrame} (st : ∀ t, Steps p.tables e below (T'.setTop g') t → Steps p.tables e below (T.setTop g) t) (k : Goes p e below F T' g') : Goes p e below F T g := by
  obtain ⟨s₂, o, h1, h2⟩ := k
  exact ⟨s₂, o, st _ h1, h2⟩
theorem Goes.cast {p : Program} {e : Env} {below : List Frame} {F : State → Outcome → Prop} {T : State} {g g' : JFrame} (q : g = g') (k : Goes p e below F T g') : Goes p e below F T g := q ▸ k
theorem Goes.mono {p : Program} {e : Env} {below : List Frame} {F F' : State → Outcome → Prop} {T : State} {g : JFrame} (q : ∀ s o, F s o → F' s o) (k : Goes p e below F T g) : Goes p e below F' T g := by
  obtain ⟨s₂, o, h1, h2, h3, h4⟩ := k
  exact ⟨s₂, o, h1, h2, h3, q _ _ h4⟩
variable {l : Launch} {Z : State} {p : Program} {e : Env} {R : Room} {s : State} {m : MethodId} {args : Array Value} {below : List Frame} {meth : Method} {c : Code} {y : MethodName} {code : ByteArray} {maxL : Nat} {ret : Option FieldType} {T : State} {h : Heap} {locs : List Loc} {cells slots : Nat} {F : State → Outcome → Prop} {pc : Nat} {L L' : Array Slot} {S : List Value} {a0 : Array Value}
theorem Con.intro {rm : Room} {as : Array Value} {Q : Option Value → Heap → Prop} (hp : plainFor y = true)
    (body : ∀ (p : Program) (e : Env) (s : State) (m : MethodId) (below : List Frame) (meth : Method) (c : Code) (T : State), On l Z p e rm s m as below meth c y code maxL ret T h [] 0 0 → Goes p e below (FinQ Z s Q rm.cells rm.slots) T (entryFrame m as maxL)) : Con l Z y code maxL ret rm as h Q := by
  intro hE ws
  refine MetFree.of_bodySF hp hisR ?_
  intro p e s m args below meth c s₁ Bd hml0 hP hK
  obtain ⟨rfl, hZ, hh⟩ := hP
  have hnm := (name_of_methodNamed Bd.named Bd.method).1
  obtain ⟨s₂, o, k1, k2, k3, k4⟩ := body p e s m below meth c s₁ ⟨Stand.of_body Bd, ⟨Bd.exec, Bd.bytes, hZ, findClass_of_methodNamed Bd.named, Bd.returns, Bd.notSynchronized, hnm, hml0⟩, by rw [← hh, Bd.state]; rfl, Fr.nil _, hE⟩
  exact ⟨s₂, o, k1, k2, k3, k4⟩
theorem Con.mono {rm : Room} {as : Array Value} {Q Q' : Option Value → Heap → Prop} (hC : Con l Z y code maxL ret rm as h Q) (hq : ∀ v h', Q v h' → Q' v h') : Con l Z y code maxL ret rm as h Q' := by
  intro hE ws p e ha hc hk s m args below hf happ hP hK
  obtain ⟨n, o, h1, h2, h3, v, L, h4, ⟨h5, h6⟩, h7⟩ := hC hE ws p e ha hc hk s m args below hf happ hP hK
  exact ⟨n, o, h1, h2, h3, v, L, h4, ⟨hq _ _ h5, h6⟩, h7⟩
theorem On.size (X : On l Z p e R s m args below meth c y code maxL ret T h locs cells slots) : Z.heap.size ≤ h.size := X.2.2.2.2.1
theorem On.ext (X : On l Z p e R s m args below meth c y code maxL ret T h locs cells slots) : Ext Z.heap h := X.2.2.2.2
theorem On.sta (X : On l Z p e R s m args below meth c y code maxL ret T h locs cells slots) {C n d : String} {v : Value} (S : Sta Z Z.heap C n d v) : Sta Z h C n d v := S.ext X.ext
theorem ext_wr {Z : State} {h h' : Heap} {a : Addr} {sl : Nat} {v : Value} (E : Ext Z.heap h) (W : Wr h h' a sl v) (q : Z.heap.size ≤ a) : Ext Z.heap h' := (Old.wr (Z := Z) (n0 := Z.heap.size) ⟨rfl, E⟩ W q).2
theorem ext_keep {Z : State} {h h' : Heap} {ws : List Addr} (E : Ext Z.heap h) (K : Keep h h' ws) (q : ∀ x ∈ ws, Z.heap.size ≤ x) : Ext Z.heap h' := (Old.keep (Z := Z) (n0 := Z.heap.size) ⟨rfl, E⟩ K q).2
theorem ext_trans {h h' h'' : Heap} (E : Ext h h') (E' : Ext h' h'') : Ext h h'' := ⟨Nat.le_trans E.1 E'.1, fun a c q => E'.2 a c (E.2 a c q)⟩
theorem keep_ext {h h' : Heap} (E : Ext h h') : Keep h h' [] := (Keep.refl h []).ext E
theorem ext_of_keep {h h' : Heap} (K : Keep h h' []) : Ext h h' := ⟨K.1, fun a c q => K.2.1 a c q nin0⟩
theorem On.later (X : On l Z p e R s m args below meth c y code maxL ret T h locs cells slots) {T' : State} {h' : Heap} {locs' : List Loc} {cells' slots' : Nat} (X' : Stand p l e R s m args below meth c T' locs' cells' slots') (e' : T'.heap = h') (N' : Fr Z.heap.size locs') (E' : Ext Z.heap h') : On l Z p e R s m args below meth c y code maxL ret T' h' locs' cells' slots' := ⟨X', X.2.1, e', N', E'⟩
theorem On.alike (X : On l Z p e R s m args below meth c y code maxL ret T h locs cells slots) : Z.vm.Alike s.vm := X.2.1.2.2.1.alike
theorem o_iload (X : On l Z p e R s m args below meth c y code maxL ret T h locs cells slots) {k : Nat} {v : Int32} {q : Nat} (hd : decode code pc = .ok (.iload k, 2)) (hl : L[k]? = some (.val (.int v))) (hp : pc + 2 = q) (K : Goes p e below F T (mkF m q L (.int v :: S))) : Goes p e below F T (mkF m pc L S) := by
  subst hp
  exact Goes.step (fun _ k => XS.iload X.1.here X.2.1.1 (g := mkF m pc L S) rfl (hb X.2.1.2.1 hd) hl k) K
theorem o_iloadN (X : On l Z p e R s m args below meth c y code maxL ret T h locs cells slots) {k : Fin 4} {v : Int32} {q : Nat} (hd : decode code pc = .ok (.iload_n k, 1)) (hl : L[k.val]? = some (.val (.int v))) (hp : pc + 1 = q) (K : Goes p e below F T (mkF m q L (.int v :: S))) : Goes p e below F T (mkF m pc L S) := by
  subst hp
  exact Goes.step (fun _ k => XS.iloadN X.1.here X.2.1.1 (g := mkF m pc L S) rfl (hb X.2.1.2.1 hd) hl k) K
theorem o_lload (X : On l Z p e R s m args below meth c y code maxL ret T h locs cells slots) {k : Nat} {v : Int64} {q : Nat} (hd : decode code pc = .ok (.lload k, 2)) (hl : L[k]? = some (.val (.long v))) (hp : pc + 2 = q) (K : Goes p e below F T (mkF m q L (.long v :: S))) : Goes p e below F T (mkF m pc L S) := by
  subst hp
  exact Goes.step (fun _ k => XS.lload X.1.here X.2.1.1 (g := mkF m pc L S) rfl (hb X.2.1.2.1 hd) hl k) K
theorem o_lloadN (X : On l Z p e R s m args below meth c y code maxL ret T h locs cells slots) {k : Fin 4} {v : Int64} {q : Nat} (hd : decode code pc = .ok (.lload_n k, 1)) (hl : L[k.val]? = some (.val (.long v))) (hp : pc + 1 = q) (K : Goes p e below F T (mkF m q L (.long v :: S))) : Goes p e below F T (mkF m pc L S) := by
  subst hp
  exact Goes.step (fun _ k => XS.lloadN X.1.here X.2.1.1 (g := mkF m pc L S) rfl (hb X.2.1.2.1 hd) hl k) K
theorem o_aload (X : On l Z p e R s m args below meth c y code maxL ret T h locs cells slots) {k : Nat} {v : Value} {q : Nat} (hd : decode code pc = .ok (.aload k, 2)) (hl : L[k]? = some (.val v)) (hv : v.isRef = true) (hp : pc + 2 = q) (K : Goes p e below F T (mkF m q L (v :: S))) : Goes p e below F T (mkF m pc L S) := by
  subst hp
  exact Goes.step (fun _ k => XS.aload X.1.here X.2.1.1 (g := mkF m pc L S) rfl (hb X.2.1.2.1 hd) hl hv k) K
theorem o_aloadN (X : On l Z p e R s m args below meth c y code maxL ret T h locs cells slots) {k : Fin 4} {v : Value} {q : Nat} (hd : decode code pc = .ok (.aload_n k, 1)) (hl : L[k.val]? = some (.val v)) (hv : v.isRef = true) (hp : pc + 1 = q) (K : Goes p e below F T (mkF m q L (v :: S))) : Goes p e below F T (mkF m pc L S) := by
  subst hp
  exact Goes.step (fun _ k => XS.aloadN X.1.here X.2.1.1 (g := mkF m pc L S) rfl (hb X.2.1.2.1 hd) hl hv k) K
theorem o_istore (X : On l Z p e R s m args below meth c y code maxL ret T h locs cells slots) {k : Nat} {x z : Int32} {q : Nat} (hd : decode code pc = .ok (.istore k, 2)) (hz : x = z) (hl : storeLocals L k (.int z) = some L') (hp : pc + 2 = q) (K : Goes p e below F T (mkF m q L' S)) : Goes p e below F T (mkF m pc L (.int x :: S)) := by
  subst hz hp
  exact Goes.step (fun _ k => XS.istore X.1.here X.2.1.1 (g := mkF m pc L (.int x :: S)) rfl (hb X.2.1.2.1 hd) rfl hl k) K
theorem o_istoreN (X : On l Z p e R s m args below meth c y code maxL ret T h locs cells slots) {k : Fin 4} {x z : Int32} {q : Nat} (hd : decode code pc = .ok (.istore_n k, 1)) (hz : x = z) (hl : storeLocals L k.val (.int z) = some L') (hp : pc + 1 = q) (K : Goes p e below F T (mkF m q L' S)) : Goes p e below F T (mkF m pc L (.int x :: S)) := by
  subst hz hp
  exact Goes.step (fun _ k => XS.istoreN X.1.here X.2.1.1 (g := mkF m pc L (.int x :: S)) rfl (hb X.2.1.2.1 hd) rfl hl k) K
theorem o_lstore (X : On l Z p e R s m args below meth c y code maxL ret T h locs cells slots) {k : Nat} {x z : Int64} {q : Nat} (hd : decode code pc = .ok (.lstore k, 2)) (hz : x = z) (hl : storeLocals L k (.long z) = some L') (hp : pc + 2 = q) (K : Goes p e below F T (mkF m q L' S)) : Goes p e below F T (mkF m pc L (.long x :: S)) := by
  subst hz hp
  exact Goes.step (fun _ k => XS.lstore X.1.here X.2.1.1 (g := mkF m pc L (.long x :: S)) rfl (hb X.2.1.2.1 hd) rfl hl k) K
theorem o_lstoreN (X : On l Z p e R s m args below meth c y code maxL ret T h locs cells slots) {k : Fin 4} {x z : Int64} {q : Nat} (hd : decode code pc = .ok (.lstore_n k, 1)) (hz : x = z) (hl : storeLocals L k.val (.long z) = some L') (hp : pc + 1 = q) (K : Goes p e below F T (mkF m q L' S)) : Goes p e below F T (mkF m pc L (.long x :: S)) := by
  subst hz hp
  exact Goes.step (fun _ k => XS.lstoreN X.1.here X.2.1.1 (g := mkF m pc L (.long x :: S)) rfl (hb X.2.1.2.1 hd) rfl hl k) K
theorem o_astore (X : On l Z p e R s m args below meth c y code maxL ret T h locs cells slots) {k : Nat} {x : Value} {q : Nat} (hd : decode code pc = .ok (.astore k, 2)) (hv : x.isRef = true) (hl : storeLocals L k x = some L') (hp : pc + 2 = q) (K : Goes p e below F T (mkF m q L' S)) : Goes p e below F T (mkF m pc L (x :: S)) := by
  subst hp
  exact Goes.step (fun _ k => XS.astore X.1.here X.2.1.1 (g := mkF m pc L (x :: S)) rfl (hb X.2.1.2.1 hd) rfl hv hl k) K
theorem o_astoreN (X : On l Z p e R s m args below meth c y code maxL ret T h locs cells slots) {k : Fin 4} {x : Value} {q : Nat} (hd : decode code pc = .ok (.astore_n k, 1)) (hv : x.isRef = true) (hl : storeLocals L k.val x = some L') (hp : pc + 1 = q) (K : Goes p e below F T (mkF m q L' S)) : Goes p e below F T (mkF m pc L (x :: S)) := by
  subst hp
  exact Goes.step (fun _ k => XS.astoreN X.1.here X.2.1.1 (g := mkF m pc L (x :: S)) rfl (hb X.2.1.2.1 hd) rfl hv hl k) K
theorem o_iconst (X : On l Z p e R s m args below meth c y code maxL ret T h locs cells slots) {i : Int} {w : Int32} {q : Nat} (hd : decode code pc = .ok (.iconst i, 1)) (hw : Int32.ofInt i = w) (hp : pc + 1 = q) (K : Goes p e below F T (mkF m q L (.int w :: S))) : Goes p e below F T (mkF m pc L S) := by
  subst hw hp
  exact Goes.step (fun _ k => XS.iconst X.1.here X.2.1.1 (g := mkF m pc L S) rfl (hb X.2.1.2.1 hd) k) K
theorem o_bipush (X : On l Z p e R s m args below meth c y code maxL ret T h locs cells slots) {i : Int} {w : Int32} {q : Nat} (hd : decode code pc = .ok (.bipush i, 2)) (hw : (Int8.ofInt i).toInt32 = w) (hp : pc + 2 = q) (K : Goes p e below F T (mkF m q L (.int w :: S))) : Goes p e below F T (mkF m pc L S) := by
  subst hw hp
  exact Goes.step (fun _ k => XS.bipush X.1.here X.2.1.1 (g := mkF m pc L S) rfl (hb X.2.1.2.1 hd) k) K
theorem o_sipush (X : On l Z p e R s m args below meth c y code maxL ret T h locs cells slots) {i : Int} {w : Int32} {q : Nat} (hd : decode code pc = .ok (.sipush i, 3)) (hw : (Int16.ofInt i).toInt32 = w) (hp : pc + 3 = q) (K : Goes p e below F T (mkF m q L (.int w :: S))) : Goes p e below F T (mkF m pc L S) := by
  subst hw hp
  exact Goes.step (fun _ k => XS.sipush X.1.here X.2.1.1 (g := mkF m pc L S) rfl (hb X.2.1.2.1 hd) k) K
theorem o_lconst (X : On l Z p e R s m args below meth c y code maxL ret T h locs cells slots) {i : Fin 2} {w : Int64} {q : Nat} (hd : decode code pc = .ok (.lconst i, 1)) (hw : Int64.ofNat i = w) (hp : pc + 1 = q) (K : Goes p e below F T (mkF m q L (.long w :: S))) : Goes p e below F T (mkF m pc L S) := by
  subst hw hp
  exact Goes.step (fun _ k => XS.lconst X.1.here X.2.1.1 (g := mkF m pc L S) rfl (hb X.2.1.2.1 hd) k) K
theorem o_null (X : On l Z p e R s m args below meth c y code maxL ret T h locs cells slots)  {q : Nat} (hd : decode code pc = .ok (.aconst_null, 1)) (hp : pc + 1 = q) (K : Goes p e below F T (mkF m q L (.null :: S))) : Goes p e below F T (mkF m pc L S) := by
  subst hp
  exact Goes.step (fun _ k => XS.aconstNull X.1.here X.2.1.1 (g := mkF m pc L S) rfl (hb X.2.1.2.1 hd)  k) K
theorem o_iadd (X : On l Z p e R s m args below meth c y code maxL ret T h locs cells slots) {x : Int32} {z : Int32} {w : Int32} {q : Nat} (hd : decode code pc = .ok (.iadd, 1)) (hw : x + z = w) (hp : pc + 1 = q) (K : Goes p e below F T (mkF m q L (.int w :: S))) : Goes p e below F T (mkF m pc L (.int z :: .int x :: S)) := by
  subst hw hp
  exact Goes.step (fun _ k => XS.iadd X.1.here X.2.1.1 (g := mkF m pc L (.int z :: .int x :: S)) rfl (hb X.2.1.2.1 hd) rfl  k) K
theorem o_isub (X : On l Z p e R s m args below meth c y code maxL ret T h locs cells slots) {x : Int32} {z : Int32} {w : Int32} {q : Nat} (hd : decode code pc = .ok (.isub, 1)) (hw : x - z = w) (hp : pc + 1 = q) (K : Goes p e below F T (mkF m q L (.int w :: S))) : Goes p e below F T (mkF m pc L (.int z :: .int x :: S)) := by
  subst hw hp
  exact Goes.step (fun _ k => XS.isub X.1.here X.2.1.1 (g := mkF m pc L (.int z :: .int x :: S)) rfl (hb X.2.1.2.1 hd) rfl  k) K
theorem o_imul (X : On l Z p e R s m args below meth c y code maxL ret T h locs cells slots) {x : Int32} {z : Int32} {w : Int32} {q : Nat} (hd : decode code pc = .ok (.imul, 1)) (hw : x * z = w) (hp : pc + 1 = q) (K : Goes p e below F T (mkF m q L (.int w :: S))) : Goes p e below F T (mkF m pc L (.int z :: .int x :: S)) := by
  subst hw hp
  exact Goes.step (fun _ k => XS.imul X.1.here X.2.1.1 (g := mkF m pc L (.int z :: .int x :: S)) rfl (hb X.2.1.2.1 hd) rfl  k) K
theorem o_iand (X : On l Z p e R s m args below meth c y code maxL ret T h locs cells slots) {x : Int32} {z : Int32} {w : Int32} {q : Nat} (hd : decode code pc = .ok (.iand, 1)) (hw : x &&& z = w) (hp : pc + 1 = q) (K : Goes p e below F T (mkF m q L (.int w :: S))) : Goes p e below F T (mkF m pc L (.int z :: .int x :: S)) := by
  subst hw hp
  exact Goes.step (fun _ k => XS.iand X.1.here X.2.1.1 (g := mkF m pc L (.int z :: .int x :: S)) rfl (hb X.2.1.2.1 hd) rfl  k) K
theorem o_ior (X : On l Z p e R s m args below meth c y code maxL ret T h locs cells slots) {x : Int32} {z : Int32} {w : Int32} {q : Nat} (hd : decode code pc = .ok (.ior, 1)) (hw : x ||| z = w) (hp : pc + 1 = q) (K : Goes p e below F T (mkF m q L (.int w :: S))) : Goes p e below F T (mkF m pc L (.int z :: .int x :: S)) := by
  subst hw hp
  exact Goes.step (fun _ k => XS.ior X.1.here X.2.1.1 (g := mkF m pc L (.int z :: .int x :: S)) rfl (hb X.2.1.2.1 hd) rfl  k) K
theorem o_ixor (X : On l Z p e R s m args below meth c y code maxL ret T h locs cells slots) {x : Int32} {z : Int32} {w : Int32} {q : Nat} (hd : decode code pc = .ok (.ixor, 1)) (hw : x ^^^ z = w) (hp : pc + 1 = q) (K : Goes p e below F T (mkF m q L (.int w :: S))) : Goes p e below F T (mkF m pc L (.int z :: .int x :: S)) := by
  subst hw hp
  exact Goes.step (fun _ k => XS.ixor X.1.here X.2.1.1 (g := mkF m pc L (.int z :: .int x :: S)) rfl (hb X.2.1.2.1 hd) rfl  k) K
theorem o_ishl (X : On l Z p e R s m args below meth c y code maxL ret T h locs cells slots) {x : Int32} {z : Int32} {w : Int32} {q : Nat} (hd : decode code pc = .ok (.ishl, 1)) (hw : x <<< (z &&& 31) = w) (hp : pc + 1 = q) (K : Goes p e below F T (mkF m q L (.int w :: S))) : Goes p e below F T (mkF m pc L (.int z :: .int x :: S)) := by
  subst hw hp
  exact Goes.step (fun _ k => XS.ishl X.1.here X.2.1.1 (g := mkF m pc L (.int z :: .int x :: S)) rfl (hb X.2.1.2.1 hd) rfl  k) K
theorem o_ishr (X : On l Z p e R s m args below meth c y code maxL ret T h locs cells slots) {x : Int32} {z : Int32} {w : Int32} {q : Nat} (hd : decode code pc = .ok (.ishr, 1)) (hw : x >>> (z &&& 31) = w) (hp : pc + 1 = q) (K : Goes p e below F T (mkF m q L (.int w :: S))) : Goes p e below F T (mkF m pc L (.int z :: .int x :: S)) := by
  subst hw hp
  exact Goes.step (fun _ k => XS.ishr X.1.here X.2.1.1 (g := mkF m pc L (.int z :: .int x :: S)) rfl (hb X.2.1.2.1 hd) rfl  k) K
theorem o_iushr (X : On l Z p e R s m args below meth c y code maxL ret T h locs cells slots) {x : Int32} {z : Int32} {w : Int32} {q : Nat} (hd : decode code pc = .ok (.iushr, 1)) (hw : (x.toUInt32 >>> (z &&& 31).toUInt32).toInt32 = w) (hp : pc + 1 = q) (K : Goes p e below F T (mkF m q L (.int w :: S))) : Goes p e below F T (mkF m pc L (.int z :: .int x :: S)) := by
  subst hw hp
  exact Goes.step (fun _ k => XS.iushr X.1.here X.2.1.1 (g := mkF m pc L (.int z :: .int x :: S)) rfl (hb X.2.1.2.1 hd) rfl  k) K
theorem o_ladd (X : On l Z p e R s m args below meth c y code maxL ret T h locs cells slots) {x : Int64} {z : Int64} {w : Int64} {q : Nat} (hd : decode code pc = .ok (.ladd, 1)) (hw : x + z = w) (hp : pc + 1 = q) (K : Goes p e below F T (mkF m q L (.long w :: S))) : Goes p e below F T (mkF m pc L (.long z :: .long x :: S)) := by
  subst hw hp
  exact Goes.step (fun _ k => XS.ladd X.1.here X.2.1.1 (g := mkF m pc L (.long z :: .long x :: S)) rfl (hb X.2.1.2.1 hd) rfl  k) K
theorem o_lsub (X : On l Z p e R s m args below meth c y code maxL ret T h locs cells slots) {x : Int64} {z : Int64} {w : Int64} {q : Nat} (hd : decode code pc = .ok (.lsub, 1)) (hw : x - z = w) (hp : pc + 1 = q) (K : Goes p e below F T (mkF m q L (.long w :: S))) : Goes p e below F T (mkF m pc L (.long z :: .long x :: S)) := by
  subst hw hp
  exact Goes.step (fun _ k => XS.lsub X.1.here X.2.1.1 (g := mkF m pc L (.long z :: .long x :: S)) rfl (hb X.2.1.2.1 hd) rfl  k) K
theorem o_lmul (X : On l Z p e R s m args below meth c y code maxL ret T h locs cells slots) {x : Int64} {z : Int64} {w : Int64} {q : Nat} (hd : decode code pc = .ok (.lmul, 1)) (hw : x * z = w) (hp : pc + 1 = q) (K : Goes p e below F T (mkF m q L (.long w :: S))) : Goes p e below F T (mkF m pc L (.long z :: .long x :: S)) := by
  subst hw hp
  exact Goes.step (fun _ k => XS.lmul X.1.here X.2.1.1 (g := mkF m pc L (.long z :: .long x :: S)) rfl (hb X.2.1.2.1 hd) rfl  k) K
theorem o_land (X : On l Z p e R s m args below meth c y code maxL ret T h locs cells slots) {x : Int64} {z : Int64} {w : Int64} {q : Nat} (hd : decode code pc = .ok (.land, 1)) (hw : x &&& z = w) (hp : pc + 1 = q) (K : Goes p e below F T (mkF m q L (.long w :: S))) : Goes p e below F T (mkF m pc L (.long z :: .long x :: S)) := by
  subst hw hp
  exact Goes.step (fun _ k => XS.land X.1.here X.2.1.1 (g := mkF m pc L (.long z :: .long x :: S)) rfl (hb X.2.1.2.1 hd) rfl  k) K
theorem o_lor (X : On l Z p e R s m args below meth c y code maxL ret T h locs cells slots) {x : Int64} {z : Int64} {w : Int64} {q : Nat} (hd : decode code pc = .ok (.lor, 1)) (hw : x ||| z = w) (hp : pc + 1 = q) (K : Goes p e below F T (mkF m q L (.long w :: S))) : Goes p e below F T (mkF m pc L (.long z :: .long x :: S)) := by
  subst hw hp
  exact Goes.step (fun _ k => XS.lor X.1.here X.2.1.1 (g := mkF m pc L (.long z :: .long x :: S)) rfl (hb X.2.1.2.1 hd) rfl  k) K
theorem o_lxor (X : On l Z p e R s m args below meth c y code maxL ret T h locs cells slots) {x : Int64} {z : Int64} {w : Int64} {q : Nat} (hd : decode code pc = .ok (.lxor, 1)) (hw : x ^^^ z = w) (hp : pc + 1 = q) (K : Goes p e below F T (mkF m q L (.long w :: S))) : Goes p e below F T (mkF m pc L (.long z :: .long x :: S)) := by
  subst hw hp
  exact Goes.step (fun _ k => XS.lxor X.1.here X.2.1.1 (g := mkF m pc L (.long z :: .long x :: S)) rfl (hb X.2.1.2.1 hd) rfl  k) K
theorem o_lshl (X : On l Z p e R s m args below meth c y code maxL ret T h locs cells slots) {x : Int64} {z : Int32} {w : Int64} {q : Nat} (hd : decode code pc = .ok (.lshl, 1)) (hw : x <<< (z &&& 0x3f).toInt64 = w) (hp : pc + 1 = q) (K : Goes p e below F T (mkF m q L (.long w :: S))) : Goes p e below F T (mkF m pc L (.int z :: .long x :: S)) := by
  subst hw hp
  exact Goes.step (fun _ k => XS.lshl X.1.here X.2.1.1 (g := mkF m pc L (.int z :: .long x :: S)) rfl (hb X.2.1.2.1 hd) rfl  k) K
theorem o_lshr (X : On l Z p e R s m args below meth c y code maxL ret T h locs cells slots) {x : Int64} {z : Int32} {w : Int64} {q : Nat} (hd : decode code pc = .ok (.lshr, 1)) (hw : x >>> (z &&& 0x3f).toInt64 = w) (hp : pc + 1 = q) (K : Goes p e below F T (mkF m q L (.long w :: S))) : Goes p e below F T (mkF m pc L (.int z :: .long x :: S)) := by
  subst hw hp
  exact Goes.step (fun _ k => XS.lshr X.1.here X.2.1.1 (g := mkF m pc L (.int z :: .long x :: S)) rfl (hb X.2.1.2.1 hd) rfl  k) K
theorem o_lushr (X : On l Z p e R s m args below meth c y code maxL ret T h locs cells slots) {x : Int64} {z : Int32} {w : Int64} {q : Nat} (hd : decode code pc = .ok (.lushr, 1)) (hw : (x.toUInt64 >>> (z &&& 0x3f).toInt64.toUInt64).toInt64 = w) (hp : pc + 1 = q) (K : Goes p e below F T (mkF m q L (.long w :: S))) : Goes p e below F T (mkF m pc L (.int z :: .long x :: S)) := by
  subst hw hp
  exact Goes.step (fun _ k => XS.lushr X.1.here X.2.1.1 (g := mkF m pc L (.int z :: .long x :: S)) rfl (hb X.2.1.2.1 hd) rfl  k) K
theorem o_idiv (X : On l Z p e R s m args below meth c y code maxL ret T h locs cells slots) {x : Int32} {z : Int32} {w : Int32} {q : Nat} (hd : decode code pc = .ok (.idiv, 1)) (hn : z ≠ 0) (hw : x / z = w) (hp : pc + 1 = q) (K : Goes p e below F T (mkF m q L (.int w :: S))) : Goes p e below F T (mkF m pc L (.int z :: .int x :: S)) := by
  subst hw hp
  exact Goes.step (fun _ k => XS.idiv X.1.here X.2.1.1 (g := mkF m pc L (.int z :: .int x :: S)) rfl (hb X.2.1.2.1 hd) rfl hn k) K
theorem o_irem (X : On l Z p e R s m args below meth c y code maxL ret T h locs cells slots) {x : Int32} {z : Int32} {w : Int32} {q : Nat} (hd : decode code pc = .ok (.irem, 1)) (hn : z ≠ 0) (hw : x % z = w) (hp : pc + 1 = q) (K : Goes p e below F T (mkF m q L (.int w :: S))) : Goes p e below F T (mkF m pc L (.int z :: .int x :: S)) := by
  subst hw hp
  exact Goes.step (fun _ k => iremM (g := mkF m pc L (.int z :: .int x :: S)) X.1 X.2.1.1 rfl (hb X.2.1.2.1 hd) rfl hn k) K
theorem o_lcmp (X : On l Z p e R s m args below meth c y code maxL ret T h locs cells slots) {x : Int64} {z : Int64} {w : Int32} {q : Nat} (hd : decode code pc = .ok (.lcmp, 1)) (hw : lcmpW x z = w) (hp : pc + 1 = q) (K : Goes p e below F T (mkF m q L (.int w :: S))) : Goes p e below F T (mkF m pc L (.long z :: .long x :: S)) := by
  subst hw hp
  exact Goes.step (fun _ k => XS.lcmp X.1.here X.2.1.1 (g := mkF m pc L (.long z :: .long x :: S)) rfl (hb X.2.1.2.1 hd) rfl  k) K
theorem o_ineg (X : On l Z p e R s m args below meth c y code maxL ret T h locs cells slots) {x : Int32} {w : Int32} {q : Nat} (hd : decode code pc = .ok (.ineg, 1)) (hw : -x = w) (hp : pc + 1 = q) (K : Goes p e below F T (mkF m q L (.int w :: S))) : Goes p e below F T (mkF m pc L (.int x :: S)) := by
  subst hw hp
  exact Goes.step (fun _ k => XS.ineg X.1.here X.2.1.1 (g := mkF m pc L (.int x :: S)) rfl (hb X.2.1.2.1 hd) rfl k) K
theorem o_lneg (X : On l Z p e R s m args below meth c y code maxL ret T h locs cells slots) {x : Int64} {w : Int64} {q : Nat} (hd : decode code pc = .ok (.lneg, 1)) (hw : -x = w) (hp : pc + 1 = q) (K : Goes p e below F T (mkF m q L (.long w :: S))) : Goes p e below F T (mkF m pc L (.long x :: S)) := by
  subst hw hp
  exact Goes.step (fun _ k => XS.lneg X.1.here X.2.1.1 (g := mkF m pc L (.long x :: S)) rfl (hb X.2.1.2.1 hd) rfl k) K
theorem o_i2l (X : On l Z p e R s m args below meth c y code maxL ret T h locs cells slots) {x : Int32} {w : Int64} {q : Nat} (hd : decode code pc = .ok (.i2l, 1)) (hw : x.toInt64 = w) (hp : pc + 1 = q) (K : Goes p e below F T (mkF m q L (.long w :: S))) : Goes p e below F T (mkF m pc L (.int x :: S)) := by
  subst hw hp
  exact Goes.step (fun _ k => XS.i2l X.1.here X.2.1.1 (g := mkF m pc L (.int x :: S)) rfl (hb X.2.1.2.1 hd) rfl k) K
theorem o_l2i (X : On l Z p e R s m args below meth c y code maxL ret T h locs cells slots) {x : Int64} {w : Int32} {q : Nat} (hd : decode code pc = .ok (.l2i, 1)) (hw : x.toInt32 = w) (hp : pc + 1 = q) (K : Goes p e below F T (mkF m q L (.int w :: S))) : Goes p e below F T (mkF m pc L (.long x :: S)) := by
  subst hw hp
  exact Goes.step (fun _ k => XS.l2i X.1.here X.2.1.1 (g := mkF m pc L (.long x :: S)) rfl (hb X.2.1.2.1 hd) rfl k) K
theorem o_i2b (X : On l Z p e R s m args below meth c y code maxL ret T h locs cells slots) {x : Int32} {w : Int32} {q : Nat} (hd : decode code pc = .ok (.i2b, 1)) (hw : x.toInt8.toInt32 = w) (hp : pc + 1 = q) (K : Goes p e below F T (mkF m q L (.int w :: S))) : Goes p e below F T (mkF m pc L (.int x :: S)) := by
  subst hw hp
  exact Goes.step (fun _ k => XS.i2b X.1.here X.2.1.1 (g := mkF m pc L (.int x :: S)) rfl (hb X.2.1.2.1 hd) rfl k) K
theorem o_i2c (X : On l Z p e R s m args below meth c y code maxL ret T h locs cells slots) {x : Int32} {w : Int32} {q : Nat} (hd : decode code pc = .ok (.i2c, 1)) (hw : x.toUInt32.toUInt16.toUInt32.toInt32 = w) (hp : pc + 1 = q) (K : Goes p e below F T (mkF m q L (.int w :: S))) : Goes p e below F T (mkF m pc L (.int x :: S)) := by
  subst hw hp
  exact Goes.step (fun _ k => XS.i2c X.1.here X.2.1.1 (g := mkF m pc L (.int x :: S)) rfl (hb X.2.1.2.1 hd) rfl k) K
theorem o_i2s (X : On l Z p e R s m args below meth c y code maxL ret T h locs cells slots) {x : Int32} {w : Int32} {q : Nat} (hd : decode code pc = .ok (.i2s, 1)) (hw : x.toInt16.toInt32 = w) (hp : pc + 1 = q) (K : Goes p e below F T (mkF m q L (.int w :: S))) : Goes p e below F T (mkF m pc L (.int x :: S)) := by
  subst hw hp
  exact Goes.step (fun _ k => XS.i2s X.1.here X.2.1.1 (g := mkF m pc L (.int x :: S)) rfl (hb X.2.1.2.1 hd) rfl k) K
theorem o_dup (X : On l Z p e R s m args below meth c y code maxL ret T h locs cells slots) {x : Value} {q : Nat} (hd : decode code pc = .ok (.dup, 1)) (hc : x.category = 1) (hp : pc + 1 = q) (K : Goes p e below F T (mkF m q L (x :: x :: S))) : Goes p e below F T (mkF m pc L (x :: S)) := by
  subst hp
  exact Goes.step (fun _ k => XS.dup X.1.here X.2.1.1 (g := mkF m pc L (x :: S)) rfl (hb X.2.1.2.1 hd) rfl hc k) K
theorem o_pop (X : On l Z p e R s m args below meth c y code maxL ret T h locs cells slots) {x : Value} {q : Nat} (hd : decode code pc = .ok (.pop, 1)) (hc : x.category = 1) (hp : pc + 1 = q) (K : Goes p e below F T (mkF m q L S)) : Goes p e below F T (mkF m pc L (x :: S)) := by
  subst hp
  exact Goes.step (fun _ k => XS.pop X.1.here X.2.1.1 (g := mkF m pc L (x :: S)) rfl (hb X.2.1.2.1 hd) rfl hc k) K
theorem o_dupX1 (X : On l Z p e R s m args below meth c y code maxL ret T h locs cells slots) {x z : Value} {q : Nat} (hd : decode code pc = .ok (.dup_x1, 1)) (hc : x.category = 1) (hc' : z.category = 1) (hp : pc + 1 = q) (K : Goes p e below F T (mkF m q L (x :: z :: x :: S))) : Goes p e below F T (mkF m pc L (x :: z :: S)) := by
  subst hp
  exact Goes.step (fun _ k => XS.dupX1 X.1.here X.2.1.1 (g := mkF m pc L (x :: z :: S)) rfl (hb X.2.1.2.1 hd) rfl hc hc' k) K
theorem o_dup2 (X : On l Z p e R s m args below meth c y code maxL ret T h locs cells slots) {x z : Value} {q : Nat} (hd : decode code pc = .ok (.dup2, 1)) (hc : x.category = 1) (hc' : z.category = 1) (hp : pc + 1 = q) (K : Goes p e below F T (mkF m q L (x :: z :: x :: z :: S))) : Goes p e below F T (mkF m pc L (x :: z :: S)) := by
  subst hp
  exact Goes.step (fun _ k => Jvm.Free.XT.dup2 X.1.here X.2.1.1 (g := mkF m pc L (x :: z :: S)) rfl (hb X.2.1.2.1 hd) rfl hc hc' k) K
theorem o_iinc (X : On l Z p e R s m args below meth c y code maxL ret T h locs cells slots) {k : Nat} {i : Int} {x z : Int32} {q : Nat} (hd : decode code pc = .ok (.iinc k i, 3)) (hl : L[k]? = some (.val (.int x))) (hz : x + Int32.ofInt i = z) (hl' : storeLocals L k (.int z) = some L') (hp : pc + 3 = q) (K : Goes p e below F T (mkF m q L' S)) : Goes p e below F T (mkF m pc L S) := by
  subst hz hp
  exact Goes.step (fun _ k => XS.iinc X.1.here X.2.1.1 (g := mkF m pc L S) rfl (hb X.2.1.2.1 hd) hl hl' k) K
theorem o_goto (X : On l Z p e R s m args below meth c y code maxL ret T h locs cells slots) {i : Int} {q : Nat} (hd : decode code pc = .ok (.goto i, 3)) (ho : 0 ≤ (pc : Int) + i) (hp : ((pc : Int) + i).toNat = q) (K : Goes p e below F T (mkF m q L S)) : Goes p e below F T (mkF m pc L S) := Goes.step (fun _ k => XS.goto X.1.here X.2.1.1 (g := mkF m pc L S) (pc0 := pc) rfl rfl (hb X.2.1.2.1 hd) ho hp k) K
theorem o_ifY (X : On l Z p e R s m args below meth c y code maxL ret T h locs cells slots) {cd : ClassFile.Cond} {i : Int} {x : Int32} {q : Nat} (hd : decode code pc = .ok (.ifCond cd i, 3)) (hc : if_icmp.holds cd x 0 = true) (ho : 0 ≤ (pc : Int) + i) (hp : ((pc : Int) + i).toNat = q) (K : Goes p e below F T (mkF m q L S)) : Goes p e below F T (mkF m pc L (.int x :: S)) := Goes.step (fun _ k => XS.ifYes X.1.here X.2.1.1 (g := mkF m pc L (.int x :: S)) rfl (pc0 := pc) rfl (hb X.2.1.2.1 hd) rfl ((if0 _ _).trans hc) ho hp k) K
theorem o_ifN (X : On l Z p e R s m args below meth c y code maxL ret T h locs cells slots) {cd : ClassFile.Cond} {i : Int} {x : Int32} {q : Nat} (hd : decode code pc = .ok (.ifCond cd i, 3)) (hc : if_icmp.holds cd x 0 = false) (hp : pc + 3 = q) (K : Goes p e below F T (mkF m q L S)) : Goes p e below F T (mkF m pc L (.int x :: S)) := by
  subst hp
  exact Goes.step (fun _ k => XS.ifNo X.1.here X.2.1.1 (g := mkF m pc L (.int x :: S)) rfl (hb X.2.1.2.1 hd) rfl ((if0 _ _).trans hc) k) K
theorem o_icmpY (X : On l Z p e R s m args below meth c y code maxL ret T h locs cells slots) {cd : ClassFile.Cond} {i : Int} {x z : Int32} {q : Nat} (hd : decode code pc = .ok (.if_icmp cd i, 3)) (hc : if_icmp.holds cd x z = true) (ho : 0 ≤ (pc : Int) + i) (hp : ((pc : Int) + i).toNat = q) (K : Goes p e below F T (mkF m q L S)) : Goes p e below F T (mkF m pc L (.int z :: .int x :: S)) := Goes.step (fun _ k => XS.icmpYes X.1.here X.2.1.1 (g := mkF m pc L (.int z :: .int x :: S)) rfl (pc0 := pc) rfl (hb X.2.1.2.1 hd) rfl hc ho hp k) K
theorem o_icmpN (X : On l Z p e R s m args below meth c y code maxL ret T h locs cells slots) {cd : ClassFile.Cond} {i : Int} {x z : Int32} {q : Nat} (hd : decode code pc = .ok (.if_icmp cd i, 3)) (hc : if_icmp.holds cd x z = false) (hp : pc + 3 = q) (K : Goes p e below F T (mkF m q L S)) : Goes p e below F T (mkF m pc L (.int z :: .int x :: S)) := by
  subst hp
  exact Goes.step (fun _ k => XS.icmpNo X.1.here X.2.1.1 (g := mkF m pc L (.int z :: .int x :: S)) rfl (hb X.2.1.2.1 hd) rfl hc k) K
theorem o_ifnullY (X : On l Z p e R s m args below meth c y code maxL ret T h locs cells slots) {i : Int} {q : Nat} (hd : decode code pc = .ok (.ifnull i, 3)) (ho : 0 ≤ (pc : Int) + i) (hp : ((pc : Int) + i).toNat = q) (K : Goes p e below F T (mkF m q L S)) : Goes p e below F T (mkF m pc L (.null :: S)) := Goes.step (fun _ k => XS.ifnullYes X.1.here X.2.1.1 (g := mkF m pc L (.null :: S)) rfl (pc0 := pc) rfl (hb X.2.1.2.1 hd) rfl ho hp k) K
theorem o_ifnullN (X : On l Z p e R s m args below meth c y code maxL ret T h locs cells slots) {i : Int} {q : Nat} {b : Addr} (hd : decode code pc = .ok (.ifnull i, 3)) (hp : pc + 3 = q) (K : Goes p e below F T (mkF m q L S)) : Goes p e below F T (mkF m pc L ((.ref b) :: S)) := by
  subst hp
  exact Goes.step (fun _ k => XS.ifnullNo X.1.here X.2.1.1 (g := mkF m pc L ((.ref b) :: S)) rfl (hb X.2.1.2.1 hd) rfl k) K
theorem o_ifnonnullY (X : On l Z p e R s m args below meth c y code maxL ret T h locs cells slots) {i : Int} {q : Nat} {b : Addr} (hd : decode code pc = .ok (.ifnonnull i, 3)) (ho : 0 ≤ (pc : Int) + i) (hp : ((pc : Int) + i).toNat = q) (K : Goes p e below F T (mkF m q L S)) : Goes p e below F T (mkF m pc L ((.ref b) :: S)) := Goes.step (fun _ k => XS.ifnonnullYes X.1.here X.2.1.1 (g := mkF m pc L ((.ref b) :: S)) rfl (pc0 := pc) rfl (hb X.2.1.2.1 hd) rfl ho hp k) K
theorem o_ifnonnullN (X : On l Z p e R s m args below meth c y code maxL ret T h locs cells slots) {i : Int} {q : Nat} (hd : decode code pc = .ok (.ifnonnull i, 3)) (hp : pc + 3 = q) (K : Goes p e below F T (mkF m q L S)) : Goes p e below F T (mkF m pc L (.null :: S)) := by
  subst hp
  exact Goes.step (fun _ k => XS.ifnonnullNo X.1.here X.2.1.1 (g := mkF m pc L (.null :: S)) rfl (hb X.2.1.2.1 hd) rfl k) K
theorem o_acmp (X : On l Z p e R s m args below meth c y code maxL ret T h locs cells slots) {cd : ACond} {i : Int} {x z : Value} {q : Nat} {same : Bool} (hd : decode code pc = .ok (.if_acmp cd i, 3)) (h1 : x.isRef = true) (h2 : z.isRef = true) (hq : decide (x = z) = same) (ho : 0 ≤ (pc : Int) + i) (hp : q = if acV cd same = true then ((pc : Int) + i).toNat else pc + 3) (K : Goes p e below F T (mkF m q L S)) : Goes p e below F T (mkF m pc L (z :: x :: S)) := Goes.step (fun _ k => Jvm.RoadKit.acmp (g := mkF m pc L (z :: x :: S)) X.1 X.2.1.1 rfl h1 h2 (pc0 := pc) rfl (hb X.2.1.2.1 hd) rfl hq ho hp k) K
theorem o_ldcI (X : On l Z p e R s m args below meth c y code maxL ret T h locs cells slots) {index : Nat} {v : Int32} {q : Nat} (w : (Jvm.Cond.constant y.cls index v).before a0 Z = true) (hd : decode code pc = .ok (.ldc index, 2)) (hp : pc + 2 = q) (K : Goes p e below F T (mkF m q L (.int v :: S))) : Goes p e below F T (mkF m pc L S) := by
  subst hp
  exact Goes.step (X.1.ldcInt X.2.1.1 X.2.1.2.2.2.1 (mvT X.2.1.2.2.1 w) (g := mkF m pc L S) rfl (hb X.2.1.2.1 hd)) K
theorem o_ldcJ (X : On l Z p e R s m args below meth c y code maxL ret T h locs cells slots) {index : Nat} {v : Int64} {q : Nat} (w : (Jvm.Cond.constantLong y.cls index v).before a0 Z = true) (hd : decode code pc = .ok (.ldc2_w index, 3)) (hp : pc + 3 = q) (K : Goes p e below F T (mkF m q L (.long v :: S))) : Goes p e below F T (mkF m pc L S) := by
  subst hp
  exact Goes.step (X.1.ldc2Long X.2.1.1 X.2.1.2.2.2.1 (mvT X.2.1.2.2.1 w) (g := mkF m pc L S) rfl (hb X.2.1.2.1 hd)) K
theorem o_new (X : On l Z p e R s m args below meth c y code maxL ret T h locs cells slots) {C : String} {index n q : Nat} (w : (Jvm.Cond.classLink y.cls index C).before a0 Z = true) (wi : (Jvm.Cond.instantiable C n).before a0 Z = true) (wz : (Jvm.Cond.initialized C).before a0 Z = true) (hd : decode code pc = .ok (.new index, 3)) (hc : cells + 1 ≤ R.cells) (hl : slots + n ≤ R.slots) (hp : pc + 3 = q)
    (K : ∀ (T' : State) (h' : Heap) (a : Addr), a = h.size → On l Z p e R s m args below meth c y code maxL ret T' h' locs (cells + 1) (slots + n) → Ext h h' → Exa Z h' a C → (∀ {O nm d : String} {ty : FieldType}, Laid Z a0 C O nm d → parseFieldDescriptor d = some ty → Fld Z h' a O nm d (defaultValue ty)) → Z.heap.size ≤ a → Goes p e below F T' (mkF m q L (.ref a :: S))) : Goes p e below F T (mkF m pc L S) := by
  subst hp
  obtain ⟨X1, C1, e1, N1, E1⟩ := X
  obtain ⟨T', h', X', e', E', A', D', -, st⟩ := newO X1 C1.1 C1.2.2.1 C1.2.2.2.1 w wi wz e1 (g := mkF m pc L S) rfl (hb C1.2.1 hd) hc hl
  exact Goes.step st (K T' h' h.size rfl ⟨X', C1, e', N1, ext_trans E1 E'⟩ E' A' D' E1.1)
theorem o_newarr (X : On l Z p e R s m args below meth c y code maxL ret T h locs cells slots) {aty : ArrayType} {n : Int32} {cap q : Nat} (N : Nat) (w : (Jvm.Cond.arrayClass (newarray.typeOf aty)).before a0 Z = true) (hd : decode code pc = .ok (.newarray aty, 2)) (hn : ¬ n < 0) (hcap : n.toNatClampNeg ≤ cap) (hb8 : cap * 8 ≤ 536870912) (hc : cells + 1 ≤ R.cells) (hl : slots + cap ≤ R.slots) (hp : pc + 2 = q)
    (K : ∀ (T' : State) (h' : Heap) (a : Addr) (k : ClassId), a = h.size → On l Z p e R s m args below meth c y code maxL ret T' h' locs (cells + 1) (slots + cap) → Ext h h' → Arv Z h' a k (newarray.typeOf aty) n (List.replicate N (defaultValue (newarray.typeOf aty))) (defaultValue (newarray.typeOf aty)) → Z.heap.size ≤ a → Goes p e below F T' (mkF m q L (.ref a :: S))) : Goes p e below F T (mkF m pc L (.int n :: S)) := by
  subst hp
  obtain ⟨X1, C1, e1, N1, E1⟩ := X
  obtain ⟨T', h', k, X', e', E', A', st⟩ := newP X1 C1.1 C1.2.2.1 w e1 (g := mkF m pc L (.int n :: S)) rfl (hb C1.2.1 hd) rfl hn hcap hb8 hc hl
  exact Goes.step st (K T' h' h.size k rfl ⟨X', C1, e', N1, ext_trans E1 E'⟩ E' ((Arv.new A' hn).pad (pad_rep [] _ N)) E1.1)
theorem o_getF (X : On l Z p e R s m args below meth c y code maxL ret T h locs cells slots) {R0 O n d host : String} {index q : Nat} {a : Addr} {v : Value} (Fx : Fld Z h a O n d v) (w : (Jvm.Cond.fieldLink y.cls index R0 n d).before a0 Z = true ∨ (Jvm.Cond.fieldLinkNest y.cls index R0 n d host).before a0 Z = true) (via : Via Z R0 O n d) (hd : decode code pc = .ok (.getfield index, 3)) (hp : pc + 3 = q)
    (K : ∀ T' : State, On l Z p e R s m args below meth c y code maxL ret T' h locs cells slots → Goes p e below F T' (mkF m q L (v :: S))) : Goes p e below F T (mkF m pc L (.ref a :: S)) := by
  subst hp
  obtain ⟨X1, C1, e1, N1, E1⟩ := X
  obtain ⟨T', X', e', st⟩ := getF X1 C1.1 C1.2.2.1 C1.2.2.2.1 w via e1 Fx (g := mkF m pc L (.ref a :: S)) rfl rfl (hb C1.2.1 hd)
  exact Goes.step st (K T' ⟨X', C1, e', N1, E1⟩)
theorem o_getS (X : On l Z p e R s m args below meth c y code maxL ret T h locs cells slots) {R0 O n d host : String} {index q : Nat} {v : Value} (Fx : Sta Z Z.heap O n d v) (w : (Jvm.Cond.fieldLink y.cls index R0 n d).before a0 Z = true ∨ (Jvm.Cond.fieldLinkNest y.cls index R0 n d host).before a0 Z = true) (via : Via Z R0 O n d) (hd : decode code pc = .ok (.getstatic index, 3)) (hp : pc + 3 = q)
    (K : ∀ T' : State, On l Z p e R s m args below meth c y code maxL ret T' h locs cells slots → Goes p e below F T' (mkF m q L (v :: S))) : Goes p e below F T (mkF m pc L S) := by
  subst hp
  obtain ⟨X1, C1, e1, N1, E1⟩ := X
  obtain ⟨T', X', e', st⟩ := getS2 X1 C1.1 C1.2.2.1 C1.2.2.2.1 w via e1 (Fx.ext E1) (g := mkF m pc L S) rfl (hb C1.2.1 hd)
  exact Goes.step st (K T' ⟨X', C1, e', N1, E1⟩)
theorem o_putF (X : On l Z p e R s m args below meth c y code maxL ret T h locs cells slots) {R0 O n d host C : String} {index kk q : Nat} {ty : FieldType} {a : Addr} {v old : Value} (Fx : Fld Z h a O n d old) (E : Exa Z h a C) (ha : Z.heap.size ≤ a) (w : (Jvm.Cond.fieldLink y.cls index R0 n d).before a0 Z = true ∨ (Jvm.Cond.fieldLinkNest y.cls index R0 n d host).before a0 Z = true) (via : Via Z R0 O n d)
    (Lw : (Jvm.Cond.lays C O n d).before a0 Z = true ∨ ((Jvm.Cond.laysFinal C O n d).before a0 Z = true ∧ y.cls = O ∧ y.name = "<init>")) (wi : (Jvm.Cond.instantiable C kk).before a0 Z = true) (hty : parseFieldDescriptor d = some ty) (hn : narrow ty v = v) (hf : fits ty v = true) (hd : decode code pc = .ok (.putfield index, 3)) (hp : pc + 3 = q)
    (K : ∀ (T' : State) (h' : Heap) (locs' : List Loc), On l Z p e R s m args below meth c y code maxL ret T' h' locs' cells slots → Wr h h' a (Jvm.RoadKit.slotOf Z O n d) v → Fld Z h' a O n d v → Goes p e below F T' (mkF m q L S)) : Goes p e below F T (mkF m pc L (v :: .ref a :: S)) := by
  subst hp
  obtain ⟨X1, C1, e1, N1, E1⟩ := X
  obtain ⟨T', h', X', e', W', st⟩ := putF X1 C1.1 C1.2.2.1 C1.2.2.2.1 w via e1 Fx E (Lw.imp_right fun q => ⟨q.1, q.2.1, C1.2.2.2.2.2.2.1.trans q.2.2⟩) wi hty hn hf (g := mkF m pc L (v :: .ref a :: S)) rfl rfl (hb C1.2.1 hd)
  exact Goes.step st (K T' h' _ ⟨X', C1, e', Fr.snoc X' N1 ha, ext_wr E1 W' ha⟩ W' (Fx.same W'))
theorem o_len (X : On l Z p e R s m args below meth c y code maxL ret T h locs cells slots) {a : Addr} {k : ClassId} {ty : FieldType} {n : Int32} {vs : List Value} {dv : Value} {q : Nat} (A : Arv Z h a k ty n vs dv) (hd : decode code pc = .ok (.arraylength, 1)) (hp : pc + 1 = q) (K : Goes p e below F T (mkF m q L (.int n :: S))) : Goes p e below F T (mkF m pc L (.ref a :: S)) := by
  subst hp
  obtain ⟨X1, C1, e1, N1, E1⟩ := X
  obtain ⟨cl, Ar, -, Sz, Nn, -⟩ := A
  refine Goes.step (X1.arraylength C1.1 (by rw [e1]; exact Ar.1) (State.isArrayOf_alike C1.2.2.1.alike Ar.2.1) (g := mkF m pc L (.ref a :: S)) rfl rfl (hb C1.2.1 hd)) ?_
  rw [len_of Sz Nn]
  exact K
theorem o_iaload (X : On l Z p e R s m args below meth c y code maxL ret T h locs cells slots) {a : Addr} {k : ClassId} {n j : Int32} {vs : List Value} {dv v : Value} {q : Nat} (A : Arv Z h a k .int n vs dv) (hj : ¬ j < 0 ∧ j < n) (hv : vs.getD j.toNatClampNeg dv = v) (hd : decode code pc = .ok (.iaload, 1)) (hp : pc + 1 = q) (K : Goes p e below F T (mkF m q L (v :: S))) : Goes p e below F T (mkF m pc L (.int j :: .ref a :: S)) := by
  subst hp
  obtain ⟨X1, C1, e1, N1, E1⟩ := X
  obtain ⟨cl, Ar, -, Sz, Nn, H, -⟩ := A
  have hin := inb_of Sz hj
  exact Goes.step (X1.iaload C1.1 (j := j) (v := v) (by rw [e1]; exact Ar.1) (State.isArrayOf_alike C1.2.2.1.alike Ar.2.1) Ar.2.2 hin (H.at hin hv) (g := mkF m pc L (.int j :: .ref a :: S)) rfl rfl (hb C1.2.1 hd)) K
theorem o_laload (X : On l Z p e R s m args below meth c y code maxL ret T h locs cells slots) {a : Addr} {k : ClassId} {n j : Int32} {vs : List Value} {dv v : Value} {q : Nat} (A : Arv Z h a k .long n vs dv) (hj : ¬ j < 0 ∧ j < n) (hv : vs.getD j.toNatClampNeg dv = v) (hd : decode code pc = .ok (.laload, 1)) (hp : pc + 1 = q) (K : Goes p e below F T (mkF m q L (v :: S))) : Goes p e below F T (mkF m pc L (.int j :: .ref a :: S)) := by
  subst hp
  obtain ⟨X1, C1, e1, N1, E1⟩ := X
  obtain ⟨cl, Ar, -, Sz, Nn, H, -⟩ := A
  have hin := inb_of Sz hj
  exact Goes.step (X1.laload C1.1 (j := j) (v := v) (by rw [e1]; exact Ar.1) (State.isArrayOf_alike C1.2.2.1.alike Ar.2.1) Ar.2.2 hin (H.at hin hv) (g := mkF m pc L (.int j :: .ref a :: S)) rfl rfl (hb C1.2.1 hd)) K
theorem o_caload (X : On l Z p e R s m args below meth c y code maxL ret T h locs cells slots) {a : Addr} {k : ClassId} {n j : Int32} {vs : List Value} {dv v : Value} {q : Nat} (A : Arv Z h a k .char n vs dv) (hj : ¬ j < 0 ∧ j < n) (hv : vs.getD j.toNatClampNeg dv = v) (hd : decode code pc = .ok (.caload, 1)) (hp : pc + 1 = q) (K : Goes p e below F T (mkF m q L (v :: S))) : Goes p e below F T (mkF m pc L (.int j :: .ref a :: S)) := by
  subst hp
  obtain ⟨X1, C1, e1, N1, E1⟩ := X
  obtain ⟨cl, Ar, -, Sz, Nn, H, -⟩ := A
  have hin := inb_of Sz hj
  exact Goes.step (X1.caload C1.1 (j := j) (v := v) (by rw [e1]; exact Ar.1) (State.isArrayOf_alike C1.2.2.1.alike Ar.2.1) Ar.2.2 hin (H.at hin hv) (g := mkF m pc L (.int j :: .ref a :: S)) rfl rfl (hb C1.2.1 hd)) K
theorem o_baload (X : On l Z p e R s m args below meth c y code maxL ret T h locs cells slots) {a : Addr} {k : ClassId} {n j : Int32} {vs : List Value} {dv v : Value} {q : Nat} (A : Arv Z h a k .byte n vs dv) (hj : ¬ j < 0 ∧ j < n) (hv : vs.getD j.toNatClampNeg dv = v) (hd : decode code pc = .ok (.baload, 1)) (hp : pc + 1 = q) (K : Goes p e below F T (mkF m q L (v :: S))) : Goes p e below F T (mkF m pc L (.int j :: .ref a :: S)) := by
  subst hp
  obtain ⟨X1, C1, e1, N1, E1⟩ := X
  obtain ⟨cl, Ar, -, Sz, Nn, H, -⟩ := A
  have hin := inb_of Sz hj
  exact Goes.step (X1.baloadBytes C1.1 (j := j) (v := v) (by rw [e1]; exact Ar.1) (State.isArrayOf_alike C1.2.2.1.alike Ar.2.1) Ar.2.2 hin (H.at hin hv) (g := mkF m pc L (.int j :: .ref a :: S)) rfl rfl (hb C1.2.1 hd)) K
theorem o_aaload (X : On l Z p e R s m args below meth c y code maxL ret T h locs cells slots) {a : Addr} {k : ClassId} {ty : FieldType} {n j : Int32} {vs : List Value} {dv v : Value} {q : Nat} (A : Arv Z h a k ty n vs dv) (hty : ty.isReference = true) (hj : ¬ j < 0 ∧ j < n) (hv : vs.getD j.toNatClampNeg dv = v) (hd : decode code pc = .ok (.aaload, 1)) (hp : pc + 1 = q) (K : Goes p e below F T (mkF m q L (v :: S))) : Goes p e below F T (mkF m pc L (.int j :: .ref a :: S)) := by
  subst hp
  obtain ⟨X1, C1, e1, N1, E1⟩ := X
  obtain ⟨cl, Ar, -, Sz, Nn, H, -⟩ := A
  have hin := inb_of Sz hj
  exact Goes.step (X1.aaload C1.1 (j := j) (v := v) (by rw [e1]; exact Ar.1) (State.isArrayOf_alike C1.2.2.1.alike Ar.2.1) hty Ar.2.2 hin (H.at hin hv) (g := mkF m pc L (.int j :: .ref a :: S)) rfl rfl (hb C1.2.1 hd)) K
theorem o_iastore (X : On l Z p e R s m args below meth c y code maxL ret T h locs cells slots) {a : Addr} {k : ClassId} {n j : Int32} {x : Int32} {v : Value} {vs : List Value} {dv : Value} {q : Nat} (i : Nat) (A : Arv Z h a k .int n vs dv) (ha : Z.heap.size ≤ a) (hj : ¬ j < 0 ∧ j < n) (hi : j.toNatClampNeg = i) (hlt : i < vs.length) (hv : (.int x : Value) = v) (hd : decode code pc = .ok (.iastore, 1)) (hp : pc + 1 = q)
    (K : ∀ (T' : State) (h' : Heap) (locs' : List Loc), On l Z p e R s m args below meth c y code maxL ret T' h' locs' cells slots → Wr h h' a i v → Arv Z h' a k .int n (vs.set i v) dv → Goes p e below F T' (mkF m q L S)) : Goes p e below F T (mkF m pc L (.int x :: .int j :: .ref a :: S)) := by
  subst hp hv
  obtain ⟨X1, C1, e1, N1, E1⟩ := X
  obtain ⟨cl, Ar, q1, Sz, Nn, H, G⟩ := A
  obtain ⟨T', h', X', e', W', st⟩ := stI X1 C1.1 C1.2.2.1 e1 Ar (j := j) (inb_of Sz hj) (g := mkF m pc L (.int x :: .int j :: .ref a :: S)) rfl rfl (hb C1.2.1 hd)
  exact Goes.step st (K T' h' _ ⟨X', C1, e', Fr.snoc X' N1 ha, ext_wr E1 W' ha⟩ (hi ▸ W') (Arv.set Ar q1 Sz Nn H G rfl W' i hi hlt))
theorem o_lastore (X : On l Z p e R s m args below meth c y code maxL ret T h locs cells slots) {a : Addr} {k : ClassId} {n j : Int32} {x : Int64} {v : Value} {vs : List Value} {dv : Value} {q : Nat} (i : Nat) (A : Arv Z h a k .long n vs dv) (ha : Z.heap.size ≤ a) (hj : ¬ j < 0 ∧ j < n) (hi : j.toNatClampNeg = i) (hlt : i < vs.length) (hv : (.long x : Value) = v) (hd : decode code pc = .ok (.lastore, 1)) (hp : pc + 1 = q)
    (K : ∀ (T' : State) (h' : Heap) (locs' : List Loc), On l Z p e R s m args below meth c y code maxL ret T' h' locs' cells slots → Wr h h' a i v → Arv Z h' a k .long n (vs.set i v) dv → Goes p e below F T' (mkF m q L S)) : Goes p e below F T (mkF m pc L (.long x :: .int j :: .ref a :: S)) := by
  subst hp hv
  obtain ⟨X1, C1, e1, N1, E1⟩ := X
  obtain ⟨cl, Ar, q1, Sz, Nn, H, G⟩ := A
  obtain ⟨T', h', X', e', W', st⟩ := stJ X1 C1.1 C1.2.2.1 e1 Ar (j := j) (inb_of Sz hj) (g := mkF m pc L (.long x :: .int j :: .ref a :: S)) rfl rfl (hb C1.2.1 hd)
  exact Goes.step st (K T' h' _ ⟨X', C1, e', Fr.snoc X' N1 ha, ext_wr E1 W' ha⟩ (hi ▸ W') (Arv.set Ar q1 Sz Nn H G rfl W' i hi hlt))
theorem o_castore (X : On l Z p e R s m args below meth c y code maxL ret T h locs cells slots) {a : Addr} {k : ClassId} {n j : Int32} {x : Int32} {v : Value} {vs : List Value} {dv : Value} {q : Nat} (i : Nat) (A : Arv Z h a k .char n vs dv) (ha : Z.heap.size ≤ a) (hj : ¬ j < 0 ∧ j < n) (hi : j.toNatClampNeg = i) (hlt : i < vs.length) (hv : (.int (nar .char x) : Value) = v) (hd : decode code pc = .ok (.castore, 1)) (hp : pc + 1 = q)
    (K : ∀ (T' : State) (h' : Heap) (locs' : List Loc), On l Z p e R s m args below meth c y code maxL ret T' h' locs' cells slots → Wr h h' a i v → Arv Z h' a k .char n (vs.set i v) dv → Goes p e below F T' (mkF m q L S)) : Goes p e below F T (mkF m pc L (.int x :: .int j :: .ref a :: S)) := by
  subst hp hv
  obtain ⟨X1, C1, e1, N1, E1⟩ := X
  obtain ⟨cl, Ar, q1, Sz, Nn, H, G⟩ := A
  obtain ⟨T', h', X', e', W', st⟩ := stC X1 C1.1 C1.2.2.1 e1 Ar (j := j) (inb_of Sz hj) (g := mkF m pc L (.int x :: .int j :: .ref a :: S)) rfl rfl (hb C1.2.1 hd)
  exact Goes.step st (K T' h' _ ⟨X', C1, e', Fr.snoc X' N1 ha, ext_wr E1 W' ha⟩ (hi ▸ W') (Arv.set Ar q1 Sz Nn H G (fits_nar_char x) W' i hi hlt))
theorem o_bastore (X : On l Z p e R s m args below meth c y code maxL ret T h locs cells slots) {a : Addr} {k : ClassId} {n j : Int32} {x : Int32} {v : Value} {vs : List Value} {dv : Value} {q : Nat} (i : Nat) (A : Arv Z h a k .byte n vs dv) (ha : Z.heap.size ≤ a) (hj : ¬ j < 0 ∧ j < n) (hi : j.toNatClampNeg = i) (hlt : i < vs.length) (hv : (.int (nar .byte x) : Value) = v) (hd : decode code pc = .ok (.bastore, 1)) (hp : pc + 1 = q)
    (K : ∀ (T' : State) (h' : Heap) (locs' : List Loc), On l Z p e R s m args below meth c y code maxL ret T' h' locs' cells slots → Wr h h' a i v → Arv Z h' a k .byte n (vs.set i v) dv → Goes p e below F T' (mkF m q L S)) : Goes p e below F T (mkF m pc L (.int x :: .int j :: .ref a :: S)) := by
  subst hp hv
  obtain ⟨X1, C1, e1, N1, E1⟩ := X
  obtain ⟨cl, Ar, q1, Sz, Nn, H, G⟩ := A
  obtain ⟨T', h', X', e', W', st⟩ := stB X1 C1.1 C1.2.2.1 e1 Ar (j := j) (inb_of Sz hj) (g := mkF m pc L (.int x :: .int j :: .ref a :: S)) rfl rfl (hb C1.2.1 hd)
  exact Goes.step st (K T' h' _ ⟨X', C1, e', Fr.snoc X' N1 ha, ext_wr E1 W' ha⟩ (hi ▸ W') (Arv.set Ar q1 Sz Nn H G (fits_nar_byte x) W' i hi hlt))
theorem o_ret (X : On l Z p e R s m args below meth c y code maxL none T h locs cells slots) {Q : Option Value → Heap → Prop} {rc rs : Nat} (hd : decode code pc = .ok (.return_, 1)) (hQ : Q none h) (hc : cells ≤ rc) (hs : slots ≤ rs) : Goes p e below (FinQ Z s Q rc rs) T (mkF m pc L []) := by
  obtain ⟨X1, C1, e1, N1, E1⟩ := X
  obtain ⟨fs, hr, hrun, hended, hW, hsame⟩ := X1.leave (v := none) (fun _ => rfl) C1.2.2.2.2.2.1
  refine ⟨_, _, X1.returnOut C1.1 C1.2.2.2.2.1 (hb C1.2.1 hd) hr, hrun, hended, _, _, rfl, ⟨?_, N1, ?_⟩, ⟨_, rfl⟩, hW, hsame.mono hc hs⟩
  · show Q none T.heap
    rw [e1]; exact hQ
  · show Ext Z.heap T.heap
    rw [e1]; exact E1
theorem o_retI (X : On l Z p e R s m args below meth c y code maxL (some .int) T h locs cells slots) {Q : Option Value → Heap → Prop} {rc rs : Nat} {z : Int32} (hd : decode code pc = .ok (.ireturn, 1)) (hQ : Q (some (.int z)) h) (hc : cells ≤ rc) (hs : slots ≤ rs) : Goes p e below (FinQ Z s Q rc rs) T (mkF m pc L (.int z :: S)) := by
  obtain ⟨X1, C1, e1, N1, E1⟩ := X
  obtain ⟨fs, hr, hrun, hended, hW, hsame⟩ := X1.leave (v := some (.int z)) (fun h => by rw [C1.2.2.2.2.1] at h; cases h) C1.2.2.2.2.2.1
  refine ⟨_, _, retOut X1 C1.1 C1.2.2.2.2.1 rfl (Or.inl ⟨rfl, Or.inl rfl, z, rfl⟩) (hb C1.2.1 hd) hr, hrun, hended, _, _, rfl, ⟨?_, N1, ?_⟩, ⟨_, rfl⟩, hW, hsame.mono hc hs⟩
  · show Q _ T.heap
    rw [e1]; exact hQ
  · show Ext Z.heap T.heap
    rw [e1]; exact E1
theorem o_retN {t : FieldType} (X : On l Z p e R s m args below meth c y code maxL (some t) T h locs cells slots) {Q : Option Value → Heap → Prop} {rc rs : Nat} {z : Int32} (hd : decode code pc = .ok (.ireturn, 1)) (ht : t = .boolean ∨ t = .byte ∨ t = .char ∨ t = .short) (hQ : Q (some (.int (nar t z))) h) (hc : cells ≤ rc) (hs : slots ≤ rs) : Goes p e below (FinQ Z s Q rc rs) T (mkF m pc L (.int z :: S)) := by
  obtain ⟨X1, C1, e1, N1, E1⟩ := X
  obtain ⟨fs, hr, hrun, hended, hW, hsame⟩ := X1.leave (v := some (.int (nar t z))) (fun h => by rw [C1.2.2.2.2.1] at h; cases h) C1.2.2.2.2.2.1
  refine ⟨_, _, retN X1 C1.1 C1.2.2.2.2.1 ht (hb C1.2.1 hd) hr, hrun, hended, _, _, rfl, ⟨?_, N1, ?_⟩, ⟨_, rfl⟩, hW, hsame.mono hc hs⟩
  · show Q _ T.heap
    rw [e1]; exact hQ
  · show Ext Z.heap T.heap
    rw [e1]; exact E1
theorem o_retR {t : FieldType} (X : On l Z p e R s m args below meth c y code maxL (some t) T h locs cells slots) {Q : Option Value → Heap → Prop} {rc rs : Nat} {v : Value} (hd : decode code pc = .ok (.areturn, 1)) (ht : t.isReference = true) (hv : v.isRef = true) (hn : narrow t v = v) (hQ : Q (some v) h) (hc : cells ≤ rc) (hs : slots ≤ rs) : Goes p e below (FinQ Z s Q rc rs) T (mkF m pc L (v :: S)) := by
  obtain ⟨X1, C1, e1, N1, E1⟩ := X
  obtain ⟨fs, hr, hrun, hended, hW, hsame⟩ := X1.leave (v := some v) (fun h => by rw [C1.2.2.2.2.1] at h; cases h) C1.2.2.2.2.2.1
  refine ⟨_, _, retOut X1 C1.1 C1.2.2.2.2.1 hn (Or.inr (Or.inr (Or.inr (Or.inr ⟨rfl, ht, hv⟩)))) (hb C1.2.1 hd) hr, hrun, hended, _, _, rfl, ⟨?_, N1, ?_⟩, ⟨_, rfl⟩, hW, hsame.mono hc hs⟩
  · show Q _ T.heap
    rw [e1]; exact hQ
  · show Ext Z.heap T.heap
    rw [e1]; exact E1
theorem o_retJ (X : On l Z p e R s m args below meth c y code maxL (some .long) T h locs cells slots) {Q : Option Value → Heap → Prop} {rc rs : Nat} {z : Int64} (hd : decode code pc = .ok (.lreturn, 1)) (hQ : Q (some (.long z)) h) (hc : cells ≤ rc) (hs : slots ≤ rs) : Goes p e below (FinQ Z s Q rc rs) T (mkF m pc L (.long z :: S)) := by
  obtain ⟨X1, C1, e1, N1, E1⟩ := X
  obtain ⟨fs, hr, hrun, hended, hW, hsame⟩ := X1.leave (v := some (.long z)) (fun h => by rw [C1.2.2.2.2.1] at h; cases h) C1.2.2.2.2.2.1
  refine ⟨_, _, retOut X1 C1.1 C1.2.2.2.2.1 rfl (Or.inr (Or.inl ⟨rfl, rfl, z, rfl⟩)) (hb C1.2.1 hd) hr, hrun, hended, _, _, rfl, ⟨?_, N1, ?_⟩, ⟨_, rfl⟩, hW, hsame.mono hc hs⟩
  · show Q _ T.heap
    rw [e1]; exact hQ
  · show Ext Z.heap T.heap
    rw [e1]; exact E1
theorem o_initO (X : On l Z p e R s m args below meth c y code maxL ret T h locs cells slots) {idx q : Nat} {a : Addr} (w1 : (Jvm.Cond.methodLink y.cls idx Lib.objectInit).before a0 Z = true) (w2 : (Jvm.Cond.instanceMethod Lib.objectInit).before a0 Z = true) (w3 : (Jvm.Cond.code Lib.objectInit ⟨#[0xb1]⟩ 1 none).before a0 Z = true) (hd : decode code pc = .ok (.invokespecial idx, 3)) (hL : L.size = maxL) (hf : 1 ≤ R.frames) (hl : (S.map fun v => v.category).sum + 12 ≤ R.locals) (hp : pc + 3 = q)
    (K : ∀ T' : State, On l Z p e R s m args below meth c y code maxL ret T' h locs cells slots → Goes p e below F T' (mkF m q L S)) : Goes p e below F T (mkF m pc L (.ref a :: S)) := by
  subst hp
  obtain ⟨X1, C1, e1, N1, E1⟩ := X
  obtain ⟨T', X', e', st⟩ := initO X1 C1.1 C1.2.2.1 C1.2.2.2.1 w1 w2 w3 e1 (g := mkF m pc L (.ref a :: S)) rfl (hL.trans C1.2.2.2.2.2.2.2.symm) rfl (hb C1.2.1 hd) hf (W := (S.map fun v => v.category).sum) (by show 2 * 0 + _ ≤ _; omega) hl
  exact Goes.step st (K T' ⟨X', C1, e', N1, E1⟩)
/-- a call that some Back pays: what its Post says of the heap behind -/
theorem o_specB (X : On l Z p e R s m args below meth c y code maxL ret T h locs cells slots) {y' : MethodName} {index W q : Nat} {bytes : ByteArray} {maxL' : Nat} {Q : Option Value → Heap → List Loc → Prop} {rc rs : Nat} {as : Array Value} (argsL : List Value) {a : Addr} {rest : List Value}
    (hK : Back l R p e below s args y' 3 W (fun A b => b = as ∧ A.U.heap = h ∧ A.cells + rc ≤ R.cells ∧ A.slots + rs ≤ R.slots) (fun A _ v B => ∃ L, Q v B.U.heap L ∧ B.locs = A.locs ++ L ∧ B.cells = A.cells + rc ∧ B.slots = A.slots + rs))
    (hq : ∀ v h' L, Q v h' L → Fr Z.heap.size L ∧ Ext Z.heap h')
    (hy1 : y'.name = "<init>") (w1 : (Jvm.Cond.methodLink y.cls index y').before a0 Z = true) (w2 : (Jvm.Cond.instanceMethod y').before a0 Z = true) (w3 : (Jvm.Cond.code y' bytes maxL' none).before a0 Z = true) (hy : y'.cls ≠ "java/lang/invoke/MethodHandle" ∧ y'.cls ≠ "java/lang/invoke/VarHandle")
    (hd : decode code pc = .ok (.invokespecial index, 3)) (has : (.ref a :: argsL).toArray = as) (hL : L.size = maxL) (hlen : ∀ sig, parseMethodDescriptor y'.desc = some sig → argsL.length = sig.parameters.length) (hS : S = argsL.reverse ++ .ref a :: rest) (hW : (rest.map fun v => v.category).sum ≤ W) (hc : cells + rc ≤ R.cells) (hs : slots + rs ≤ R.slots) (hp : pc + 3 = q)
    (K : ∀ (v : Option Value) (T' : State) (h' : Heap) (L' locs' : List Loc), On l Z p e R s m args below meth c y code maxL ret T' h' locs' (cells + rc) (slots + rs) → Q v h' L' → Goes p e below F T' (mkF m q L (v.toList ++ rest))) : Goes p e below F T (mkF m pc L S) := by
  subst hp hS has
  obtain ⟨X1, C1, e1, N1, E1⟩ := X
  obtain ⟨v, vm1, ⟨T', L1, k1, n1⟩, -, X', ⟨Lc, hQ, e2, e3, e4⟩, st⟩ := X1.specialBack C1.1 hy1 C1.2.2.2.1 (mvT C1.2.2.1 w1) (mvT C1.2.2.1 w2) (mvT C1.2.2.1 w3) hy hK (g := mkF m pc L (argsL.reverse ++ .ref a :: rest)) rfl (hL.trans C1.2.2.2.2.2.2.2.symm) (Steps.refl _) hlen rfl (by show 2 * 0 + _ ≤ _; omega) (hb C1.2.1 hd) (fun _ _ => ⟨rfl, e1, hc, hs⟩)
  dsimp only [Pt.U, Pt.locs, Pt.cells, Pt.slots] at X' hQ e2 e3 e4 st
  subst e2 e3 e4
  obtain ⟨f1, f2⟩ := hq _ _ _ hQ
  exact Goes.step (fun _ k => st.trans k) (K v T' T'.heap Lc _ ⟨X', C1, rfl, Fr.app N1 f1, f2⟩ hQ)
theorem o_virtB (X : On l Z p e R s m args below meth c y code maxL ret T h locs cells slots) {C : String} {y' : MethodName} {index W q : Nat} {Q : Option Value → Heap → List Loc → Prop} {rc rs : Nat} {as : Array Value} (argsL : List Value) {a : Addr} {rest : List Value} (E : Exa Z h a C)
    (hK : Back l R p e below s args y' 3 W (fun A b => b = as ∧ A.U.heap = h ∧ A.cells + rc ≤ R.cells ∧ A.slots + rs ≤ R.slots) (fun A _ v B => ∃ L, Q v B.U.heap L ∧ B.locs = A.locs ++ L ∧ B.cells = A.cells + rc ∧ B.slots = A.slots + rs))
    (hq : ∀ v h' L, Q v h' L → Fr Z.heap.size L ∧ Ext Z.heap h')
    (w1 : (Jvm.Cond.methodLink y.cls index y').before a0 Z = true) (w2 : (Jvm.Cond.declares y').before a0 Z = true) (w3 : (Jvm.Cond.selects C y' y').before a0 Z = true) (w4 : (Jvm.Cond.instanceMethod y').before a0 Z = true) (hy : y'.cls ≠ "java/lang/invoke/MethodHandle" ∧ y'.cls ≠ "java/lang/invoke/VarHandle")
    (hd : decode code pc = .ok (.invokevirtual index, 3)) (has : (.ref a :: argsL).toArray = as) (hL : L.size = maxL) (hlen : ∀ sig, parseMethodDescriptor y'.desc = some sig → argsL.length = sig.parameters.length) (hS : S = argsL.reverse ++ .ref a :: rest) (hW : (rest.map fun v => v.category).sum ≤ W) (hc : cells + rc ≤ R.cells) (hs : slots + rs ≤ R.slots) (hp : pc + 3 = q)
    (K : ∀ (v : Option Value) (T' : State) (h' : Heap) (L' locs' : List Loc), On l Z p e R s m args below meth c y code maxL ret T' h' locs' (cells + rc) (slots + rs) → Q v h' L' → Goes p e below F T' (mkF m q L (v.toList ++ rest))) : Goes p e below F T (mkF m pc L S) := by
  subst hp hS has
  obtain ⟨X1, C1, e1, N1, E1⟩ := X
  obtain ⟨cB, kB, q1, q2, q3⟩ := isOf C1.2.2.1 e1 E
  obtain ⟨v, vm1, ⟨T', L1, k1, n1⟩, -, X', ⟨Lc, hQ, e2, e3, e4⟩, st⟩ := X1.virtualBack C1.1 (y := y') (z := y') C1.2.2.2.1 (mvT C1.2.2.1 w1) (mvT C1.2.2.1 w2) (notFace_of_selects (args := #[]) (mvT C1.2.2.1 w3)) (mvT C1.2.2.1 w3) (mvT C1.2.2.1 w4) hy hK q1 q3 (g := mkF m pc L (argsL.reverse ++ .ref a :: rest)) rfl (hL.trans C1.2.2.2.2.2.2.2.symm) (Steps.refl _) hlen rfl (by show 2 * 0 + _ ≤ _; omega) (hb C1.2.1 hd) (fun _ _ => ⟨rfl, e1, hc, hs⟩)
  dsimp only [Pt.U, Pt.locs, Pt.cells, Pt.slots] at X' hQ e2 e3 e4 st
  subst e2 e3 e4
  obtain ⟨f1, f2⟩ := hq _ _ _ hQ
  exact Goes.step (fun _ k => st.trans k) (K v T' T'.heap Lc _ ⟨X', C1, rfl, Fr.app N1 f1, f2⟩ hQ)
theorem o_statB (X : On l Z p e R s m args below meth c y code maxL ret T h locs cells slots) {y' : MethodName} {index W q : Nat} {bytes : ByteArray} {maxL' : Nat} {ret' : Option FieldType} {Q : Option Value → Heap → List Loc → Prop} {rc rs : Nat} {as : Array Value} (argsL : List Value) {rest : List Value}
    (hK : Back l R p e below s args y' 3 W (fun A b => b = as ∧ A.U.heap = h ∧ A.cells + rc ≤ R.cells ∧ A.slots + rs ≤ R.slots) (fun A _ v B => ∃ L, Q v B.U.heap L ∧ B.locs = A.locs ++ L ∧ B.cells = A.cells + rc ∧ B.slots = A.slots + rs))
    (hq : ∀ v h' L, Q v h' L → Fr Z.heap.size L ∧ Ext Z.heap h')
    (w1 : (Jvm.Cond.methodLink y.cls index y').before a0 Z = true) (w2 : (Jvm.Cond.static y').before a0 Z = true) (w3 : (Jvm.Cond.initialized y'.cls).before a0 Z = true) (w4 : (Jvm.Cond.code y' bytes maxL' ret').before a0 Z = true) (hy : y'.cls ≠ "java/lang/invoke/MethodHandle" ∧ y'.cls ≠ "java/lang/invoke/VarHandle")
    (hd : decode code pc = .ok (.invokestatic index, 3)) (has : argsL.toArray = as) (hL : L.size = maxL) (hlen : ∀ sig, parseMethodDescriptor y'.desc = some sig → argsL.length = sig.parameters.length) (hS : S = argsL.reverse ++ rest) (hW : (rest.map fun v => v.category).sum ≤ W) (hc : cells + rc ≤ R.cells) (hs : slots + rs ≤ R.slots) (hp : pc + 3 = q)
    (K : ∀ (v : Option Value) (T' : State) (h' : Heap) (L' locs' : List Loc), On l Z p e R s m args below meth c y code maxL ret T' h' locs' (cells + rc) (slots + rs) → Q v h' L' → Goes p e below F T' (mkF m q L (v.toList ++ rest))) : Goes p e below F T (mkF m pc L S) := by
  subst hp hS has
  obtain ⟨X1, C1, e1, N1, E1⟩ := X
  obtain ⟨v, vm1, ⟨T', L1, k1, n1⟩, -, X', ⟨Lc, hQ, e2, e3, e4⟩, st⟩ := Jvm.LawKit.callS X1 C1.1 C1.2.2.2.1 (mvT C1.2.2.1 w1) (mvT C1.2.2.1 w2) (mvT C1.2.2.1 w3) (mvT C1.2.2.1 w4) hy hK (g := mkF m pc L (argsL.reverse ++ rest)) rfl (hL.trans C1.2.2.2.2.2.2.2.symm) hlen rfl (by show 2 * 0 + _ ≤ _; omega) (hb C1.2.1 hd) (fun _ _ => ⟨rfl, e1, hc, hs⟩)
  dsimp only [Pt.U, Pt.locs, Pt.cells, Pt.slots] at X' hQ e2 e3 e4 st
  subst e2 e3 e4
  obtain ⟨f1, f2⟩ := hq _ _ _ hQ
  exact Goes.step st (K v T' T'.heap Lc _ ⟨X', C1, rfl, Fr.app N1 f1, f2⟩ hQ)
/-- a contract as a Back -/
theorem Con.back {y' : MethodName} {bytes : ByteArray} {maxL' : Nat} {ret' : Option FieldType} {rm : Room} {as : Array Value} {Q : Option Value → Heap → Prop} {len W : Nat} (X : On l Z p e R s m args below meth c y code maxL ret T h locs cells slots) (hC : Con l Z y' bytes maxL' ret' rm as h Q) (w4 : (Jvm.Cond.code y' bytes maxL' ret').before a0 Z = true) (w3 : (Jvm.Cond.initialized y'.cls).before a0 Z = true) (hf : rm.frames + 1 ≤ R.frames) (hl : W + (maxL' + 11) + rm.locals ≤ R.locals) :
    Back l R p e below s args y' len W (fun A b => b = as ∧ A.U.heap = h ∧ A.cells + rm.cells ≤ R.cells ∧ A.slots + rm.slots ≤ R.slots) (fun A _ v B => ∃ L, (Q v B.U.heap ∧ Fr Z.heap.size L ∧ Ext Z.heap B.U.heap) ∧ B.locs = A.locs ++ L ∧ B.cells = A.cells + rm.cells ∧ B.slots = A.slots + rm.slots) :=
  backOf (Q := fun v h' L => Q v h' ∧ Fr Z.heap.size L ∧ Ext Z.heap h') (hC X.ext []) X.2.1.2.2.1 w4 w3 hf hl
theorem o_spec (X : On l Z p e R s m args below meth c y code maxL ret T h locs cells slots) {y' : MethodName} {index q : Nat} {bytes : ByteArray} {maxL' : Nat} {rm : Room} {as : Array Value} {Q : Option Value → Heap → Prop} (argsL : List Value) {a : Addr} {rest : List Value} (hC : Con l Z y' bytes maxL' none rm as h Q)
    (hy1 : y'.name = "<init>") (w1 : (Jvm.Cond.methodLink y.cls index y').before a0 Z = true) (w2 : (Jvm.Cond.instanceMethod y').before a0 Z = true) (w3 : (Jvm.Cond.code y' bytes maxL' none).before a0 Z = true) (w4 : (Jvm.Cond.initialized y'.cls).before a0 Z = true) (hy : y'.cls ≠ "java/lang/invoke/MethodHandle" ∧ y'.cls ≠ "java/lang/invoke/VarHandle")
    (hd : decode code pc = .ok (.invokespecial index, 3)) (has : (.ref a :: argsL).toArray = as) (hL : L.size = maxL) (hlen : ∀ sig, parseMethodDescriptor y'.desc = some sig → argsL.length = sig.parameters.length) (hS : S = argsL.reverse ++ .ref a :: rest) (hf : rm.frames + 1 ≤ R.frames) (hl : (rest.map fun v => v.category).sum + (maxL' + 11) + rm.locals ≤ R.locals) (hc : cells + rm.cells ≤ R.cells) (hs : slots + rm.slots ≤ R.slots) (hp : pc + 3 = q)
    (K : ∀ (v : Option Value) (T' : State) (h' : Heap) (locs' : List Loc), On l Z p e R s m args below meth c y code maxL ret T' h' locs' (cells + rm.cells) (slots + rm.slots) → Q v h' → Goes p e below F T' (mkF m q L (v.toList ++ rest))) : Goes p e below F T (mkF m pc L S) :=
  o_specB X argsL (Q := fun v h' L => Q v h' ∧ Fr Z.heap.size L ∧ Ext Z.heap h') (Con.back X hC w3 w4 hf hl) (fun _ _ _ q => q.2) hy1 w1 w2 w3 hy hd has hL hlen hS (Nat.le_refl _) hc hs hp (fun v T' h' L' locs' X' hQ => K v T' h' locs' X' hQ.1)
theorem o_virt (X : On l Z p e R s m args below meth c y code maxL ret T h locs cells slots) {C : String} {y' : MethodName} {index q : Nat} {bytes : ByteArray} {maxL' : Nat} {ret' : Option FieldType} {rm : Room} {as : Array Value} {Q : Option Value → Heap → Prop} (argsL : List Value) {a : Addr} {rest : List Value} (E : Exa Z h a C) (hC : Con l Z y' bytes maxL' ret' rm as h Q)
    (w1 : (Jvm.Cond.methodLink y.cls index y').before a0 Z = true) (w2 : (Jvm.Cond.declares y').before a0 Z = true) (w3 : (Jvm.Cond.selects C y' y').before a0 Z = true) (w4 : (Jvm.Cond.instanceMethod y').before a0 Z = true) (w5 : (Jvm.Cond.code y' bytes maxL' ret').before a0 Z = true) (w6 : (Jvm.Cond.initialized y'.cls).before a0 Z = true) (hy : y'.cls ≠ "java/lang/invoke/MethodHandle" ∧ y'.cls ≠ "java/lang/invoke/VarHandle")
    (hd : decode code pc = .ok (.invokevirtual index, 3)) (has : (.ref a :: argsL).toArray = as) (hL : L.size = maxL) (hlen : ∀ sig, parseMethodDescriptor y'.desc = some sig → argsL.length = sig.parameters.length) (hS : S = argsL.reverse ++ .ref a :: rest) (hf : rm.frames + 1 ≤ R.frames) (hl : (rest.map fun v => v.category).sum + (maxL' + 11) + rm.locals ≤ R.locals) (hc : cells + rm.cells ≤ R.cells) (hs : slots + rm.slots ≤ R.slots) (hp : pc + 3 = q)
    (K : ∀ (v : Option Value) (T' : State) (h' : Heap) (locs' : List Loc), On l Z p e R s m args below meth c y code maxL ret T' h' locs' (cells + rm.cells) (slots + rm.slots) → Q v h' → Goes p e below F T' (mkF m q L (v.toList ++ rest))) : Goes p e below F T (mkF m pc L S) :=
  o_virtB X argsL (Q := fun v h' L => Q v h' ∧ Fr Z.heap.size L ∧ Ext Z.heap h') E (Con.back X hC w5 w6 hf hl) (fun _ _ _ q => q.2) w1 w2 w3 w4 hy hd has hL hlen hS (Nat.le_refl _) hc hs hp (fun v T' h' L' locs' X' hQ => K v T' h' locs' X' hQ.1)
theorem o_stat (X : On l Z p e R s m args below meth c y code maxL ret T h locs cells slots) {y' : MethodName} {index q : Nat} {bytes : ByteArray} {maxL' : Nat} {ret' : Option FieldType} {rm : Room} {as : Array Value} {Q : Option Value → Heap → Prop} (argsL : List Value) {rest : List Value} (hC : Con l Z y' bytes maxL' ret' rm as h Q)
    (w1 : (Jvm.Cond.methodLink y.cls index y').before a0 Z = true) (w2 : (Jvm.Cond.static y').before a0 Z = true) (w3 : (Jvm.Cond.initialized y'.cls).before a0 Z = true) (w4 : (Jvm.Cond.code y' bytes maxL' ret').before a0 Z = true) (hy : y'.cls ≠ "java/lang/invoke/MethodHandle" ∧ y'.cls ≠ "java/lang/invoke/VarHandle")
    (hd : decode code pc = .ok (.invokestatic index, 3)) (has : argsL.toArray = as) (hL : L.size = maxL) (hlen : ∀ sig, parseMethodDescriptor y'.desc = some sig → argsL.length = sig.parameters.length) (hS : S = argsL.reverse ++ rest) (hf : rm.frames + 1 ≤ R.frames) (hl : (rest.map fun v => v.category).sum + (maxL' + 11) + rm.locals ≤ R.locals) (hc : cells + rm.cells ≤ R.cells) (hs : slots + rm.slots ≤ R.slots) (hp : pc + 3 = q)
    (K : ∀ (v : Option Value) (T' : State) (h' : Heap) (locs' : List Loc), On l Z p e R s m args below meth c y code maxL ret T' h' locs' (cells + rm.cells) (slots + rm.slots) → Q v h' → Goes p e below F T' (mkF m q L (v.toList ++ rest))) : Goes p e below F T (mkF m pc L S) :=
  o_statB X argsL (Q := fun v h' L => Q v h' ∧ Fr Z.heap.size L ∧ Ext Z.heap h') (Con.back X hC w4 w3 hf hl) (fun _ _ _ q => q.2) w1 w2 w3 w4 hy hd has hL hlen hS (Nat.le_refl _) hc hs hp (fun v T' h' L' locs' X' hQ => K v T' h' locs' X' hQ.1)
end OwnKit
end Jvm.Pilot.@@N@@

namespace Jvm.Pilot.@@N@@
open Jvm Jvm.ClassFile Sem Op Lib Jvm.Free Jvm.Stand Jvm.LawKit Jvm.RoadKit Bundle Jvm.Pilot.@@N@@.Jvm.D
section OwnStr
/-- a Latin-1 String: the object a, its byte[] b, its chars cs -/
def LS (Z : State) (h : Heap) (a b : Addr) (kb : ClassId) (cs : List Int32) : Prop := Exa Z h a "java/lang/String" ∧ Fld Z h a "java/lang/String" "coder" "B" (.int 0) ∧ Fld Z h a "java/lang/String" "value" "[B" (.ref b) ∧ Arv Z h b kb .byte (Int32.ofNat cs.length) ((cs.map fun c => c.toInt8.toInt32).map Value.int) (.int 0) ∧ (∀ c ∈ cs, ¬ c < 0 ∧ ¬ (255 : Int32) < c) ∧ cs.length ≤ 4000
theorem LS.ext {Z : State} {h h' : Heap} {a b : Addr} {kb : ClassId} {cs : List Int32} (H : LS Z h a b kb cs) (E : Ext h h') : LS Z h' a b kb cs := ⟨H.1.ext E, H.2.1.ext E, H.2.2.1.ext E, H.2.2.2.1.ext E, H.2.2.2.2⟩
theorem LS.keep {Z : State} {h h' : Heap} {a b : Addr} {kb : ClassId} {cs : List Int32} {ws : List Addr} (H : LS Z h a b kb cs) (K : Keep h h' ws) (n1 : a ∉ ws) (n2 : b ∉ ws) : LS Z h' a b kb cs := ⟨H.1.keep K, H.2.1.keep K n1, H.2.2.1.keep K n1, H.2.2.2.1.keep K n2, H.2.2.2.2⟩
theorem LS.other {Z : State} {h h' : Heap} {a b x : Addr} {sl : Nat} {v : Value} {kb : ClassId} {cs : List Int32} (H : LS Z h a b kb cs) (W : Wr h h' x sl v) (n1 : a ≠ x) (n2 : b ≠ x) : LS Z h' a b kb cs := ⟨H.1.wr W, H.2.1.other W (Or.inl n1), H.2.2.1.other W (Or.inl n1), H.2.2.2.1.other W n2, H.2.2.2.2⟩
theorem LS.lt {Z : State} {h : Heap} {a b : Addr} {kb : ClassId} {cs : List Int32} (H : LS Z h a b kb cs) : a < h.size := H.1.lt
theorem LS.up {Z : State} {h : Heap} {a b : Addr} {kb : ClassId} {cs : List Int32} (H : LS Z h a b kb cs) : ∀ c ∈ cs, ¬ c < 0 ∧ ¬ (65535 : Int32) < c := fun c hc => ⟨(H.2.2.2.2.1 c hc).1, fun q => (H.2.2.2.2.1 c hc).2 (by rw [Int32.lt_iff_toInt_lt] at q ⊢; have e1 : (65535 : Int32).toInt = 65535 := rfl; have e2 : (255 : Int32).toInt = 255 := rfl; omega)⟩
variable {l : Launch} {Z : State} {p : Program} {e : Env} {R : Room} {s : State} {m : MethodId} {args : Array Value} {below : List Frame} {meth : Method} {c : Code} {y : MethodName} {code : ByteArray} {maxL : Nat} {ret : Option FieldType} {T : State} {h : Heap} {locs : List Loc} {cells slots : Nat} {F : State → Outcome → Prop} {pc : Nat} {L L' : Array Slot} {S : List Value} {a0 : Array Value}
/-- new String(char[]) -/
theorem o_newStr (X : On l Z p e R s m args below meth c y code maxL ret T h locs cells slots) {a ar : Addr} {kc : ClassId} {cs : List Int32} {z N : Int32} {dv : Value} {index q n : Nat} (E : Exa Z h a "java/lang/String") (V : Fld Z h a "java/lang/String" "value" "[B" .null) (C : Fld Z h a "java/lang/String" "coder" "B" (.int 0)) (A : Arv Z h ar kc .char N (cs.map Value.int) dv) (ha : Z.heap.size ≤ a) (O2 : Sta Z Z.heap "java/lang/String" "COMPACT_STRINGS" "Z" (.int z)) (P5 : ¬ z = 0) (hws : ∀ d ∈ StrChars.Road.words, d.before a0 Z = true) (wi : (Jvm.Cond.instantiable "java/lang/String" 4).before a0 Z = true)
    (hn : cs.length = n) (hN : N = Int32.ofNat n) (l0 : 0 < n) (l2 : n ≤ 4000) (hlat : ∀ c ∈ cs, ¬ c < 0 ∧ ¬ (255 : Int32) < c)
    (w1 : (Jvm.Cond.methodLink y.cls index ⟨"java/lang/String", "<init>", "([C)V"⟩).before a0 Z = true) (w2 : (Jvm.Cond.instanceMethod ⟨"java/lang/String", "<init>", "([C)V"⟩).before a0 Z = true) {bytes : ByteArray} {maxL' : Nat} (w3 : (Jvm.Cond.code ⟨"java/lang/String", "<init>", "([C)V"⟩ bytes maxL' none).before a0 Z = true)
    (hd : decode code pc = .ok (.invokespecial index, 3)) (hL : L.size = maxL) (hf : 4 ≤ R.frames) (hlo : (S.map fun v => v.category).sum + 65 ≤ R.locals) (hc : cells + 1 ≤ R.cells) (hs : slots + n ≤ R.slots) (hp : pc + 3 = q)
    (K : ∀ (T' : State) (h' : Heap) (locs' : List Loc) (b : Addr) (kb : ClassId), On l Z p e R s m args below meth c y code maxL ret T' h' locs' (cells + 1) (slots + n) → Keep h h' [a] → h.size ≤ b → LS Z h' a b kb cs → Goes p e below F T' (mkF m q L S)) : Goes p e below F T (mkF m pc L (.ref ar :: .ref a :: S)) := by
  refine o_specB X [.ref ar] (rest := S) (Q := fun v h' L => StrChars.Road.QV Z a N (cs.map fun c => c.toInt8.toInt32) h Z.heap.size v h' L) (StrChars.Road.backV (W := (S.map fun v => v.category).sum) X.2.1.2.2.1 hws (kI := 4) wi ha X.size E V C A (X.sta O2) P5 hn hN l0 l2 hlat rfl hf hlo) (fun v h' L q => ⟨q.2.1, ext_keep X.ext q.2.2.1 (allS ha all0)⟩) rfl w1 w2 w3 (by decide) hd rfl hL (fun sig q => ?_) rfl (Nat.le_refl _) hc hs hp (fun v T' h' L' locs' X' q => ?_)
  · exact lenOf (by decide +kernel : parseMethodDescriptor "([C)V" = some ⟨[(.array .char)], none⟩) rfl sig q
  · obtain ⟨rfl, -, K', E', C', t, kb, -, g2, -, V', A'⟩ := q
    subst hn hN
    exact K T' h' locs' t kb X' K' g2 ⟨E', C', V', A', hlat, l2⟩
end OwnStr
end Jvm.Pilot.@@N@@

namespace Jvm.Pilot.@@N@@
open Jvm Jvm.ClassFile Sem Op Lib Jvm.Free Jvm.Stand Jvm.LawKit Jvm.RoadKit Bundle Jvm.Pilot.@@N@@.Jvm.D
section OwnCol
variable {l : Launch} {Z : State} {p : Program} {e : Env} {R : Room} {s : State} {m : MethodId} {args : Array Value} {below : List Frame} {meth : Method} {c : Code} {y : MethodName} {code : ByteArray} {maxL : Nat} {ret : Option FieldType} {T : State} {h : Heap} {locs : List Loc} {cells slots : Nat} {F : State → Outcome → Prop} {pc : Nat} {L L' : Array Slot} {S : List Value} {a0 : Array Value}
theorem o_anew (X : On l Z p e R s m args below meth c y code maxL ret T h locs cells slots) {C ad : String} {index : Nat} {n : Int32} {cap q : Nat} (N : Nat) (w1 : (Jvm.Cond.classLink y.cls index C).before a0 Z = true) (w2 : (Jvm.Cond.arrayOver (.object C)).before a0 Z = true) (had : "[" ++ (FieldType.object C).toString = ad) (hd : decode code pc = .ok (.anewarray index, 3)) (hn : ¬ n < 0) (hcap : n.toNatClampNeg ≤ cap) (hb8 : cap * 8 ≤ 536870912) (hc : cells + 1 ≤ R.cells) (hl : slots + cap ≤ R.slots) (hp : pc + 3 = q)
    (K : ∀ (T' : State) (h' : Heap) (a : Addr) (k : ClassId), a = h.size → On l Z p e R s m args below meth c y code maxL ret T' h' locs (cells + 1) (slots + cap) → Ext h h' → Arv Z h' a k (.object C) n (List.replicate N .null) .null → Exa Z h' a ad → Ovr Z k C → Z.heap.size ≤ a → Goes p e below F T' (mkF m q L (.ref a :: S))) : Goes p e below F T (mkF m pc L (.int n :: S)) := by
  subst hp
  obtain ⟨T', h', k, X', e', E', A', Ex, O', st⟩ := newRE X.1 X.2.1.1 (show Z.Warmed39 s.vm from X.2.1.2.2.1) X.2.1.2.2.2.1 w1 w2 X.2.2.1 (g := mkF m pc L (.int n :: S)) rfl (hb X.2.1.2.1 hd) rfl hn hcap hb8 hc hl had
  exact Goes.step st (K T' h' h.size k rfl (X.later X' e' X.2.2.2.1 (ext_trans X.ext E')) E' ((Arv.new A' hn).pad (pad_rep [] _ N)) Ex O' X.size)
theorem o_aastore (X : On l Z p e R s m args below meth c y code maxL ret T h locs cells slots) {a : Addr} {k : ClassId} {ty : FieldType} {n j : Int32} {v : Value} {vs : List Value} {dv : Value} {q : Nat} (i : Nat) (A : Arv Z h a k ty n vs dv) (ha : Z.heap.size ≤ a) (hty : ty.isReference = true) (hfit : fits ty v = true) (Sx : Sto Z h a v) (hj : ¬ j < 0 ∧ j < n) (hi : j.toNatClampNeg = i) (hlt : i < vs.length) (hd : decode code pc = .ok (.aastore, 1)) (hp : pc + 1 = q)
    (K : ∀ (T' : State) (h' : Heap) (locs' : List Loc), On l Z p e R s m args below meth c y code maxL ret T' h' locs' cells slots → Wr h h' a i v → Arv Z h' a k ty n (vs.set i v) dv → Goes p e below F T' (mkF m q L S)) : Goes p e below F T (mkF m pc L (v :: .int j :: .ref a :: S)) := by
  subst hp
  obtain ⟨cl, Ar, q1, Sz, Nn, H, G⟩ := A
  obtain ⟨T', h', X', e', W', st⟩ := stR X.1 X.2.1.1 (show Z.Warmed39 s.vm from X.2.1.2.2.1) X.2.2.1 Ar (j := j) (inb_of Sz hj) hty Sx (g := mkF m pc L (v :: .int j :: .ref a :: S)) rfl rfl (hb X.2.1.2.1 hd)
  exact Goes.step st (K T' h' _ (X.later X' e' (Fr.snoc X' X.2.2.2.1 ha) (ext_wr X.ext W' ha)) (hi ▸ W') (Arv.set Ar q1 Sz Nn H G hfit W' i hi hlt))
theorem sto_of {Z : State} {h : Heap} {a x : Addr} {k : ClassId} {ty : FieldType} {C D : String} {n : Int32} {vs : List Value} {dv : Value} {a0 : Array Value} (A : Arv Z h a k ty n vs dv) (O : Ovr Z k C) (E : Exa Z h x D) (w : (Jvm.Cond.castable D C).before a0 Z = true) : Sto Z h a (.ref x) := by
  obtain ⟨cl, Ar, q1, -⟩ := A
  exact Sto.ofV Ar q1 O (Ins.of_exa E w)
theorem o_cast (X : On l Z p e R s m args below meth c y code maxL ret T h locs cells slots) {K' : String} {index q : Nat} {a : Addr} (I : Ins Z h a K' true) (w : (Jvm.Cond.classLink y.cls index K').before a0 Z = true) (hd : decode code pc = .ok (.checkcast index, 3)) (hp : pc + 3 = q)
    (K : ∀ T' : State, On l Z p e R s m args below meth c y code maxL ret T' h locs cells slots → Goes p e below F T' (mkF m q L (.ref a :: S))) : Goes p e below F T (mkF m pc L (.ref a :: S)) := by
  subst hp
  obtain ⟨T', X', e', st⟩ := castY X.1 X.2.1.1 (show Z.Warmed39 s.vm from X.2.1.2.2.1) X.2.1.2.2.2.1 w X.2.2.1 I (g := mkF m pc L (.ref a :: S)) rfl rfl (hb X.2.1.2.1 hd)
  exact Goes.step st (K T' (X.later X' e' X.2.2.2.1 X.ext))
theorem o_instY (X : On l Z p e R s m args below meth c y code maxL ret T h locs cells slots) {K' : String} {index q : Nat} {a : Addr} (I : Ins Z h a K' true) (w : (Jvm.Cond.classLink y.cls index K').before a0 Z = true) (hd : decode code pc = .ok (.instanceof index, 3)) (hp : pc + 3 = q)
    (K : ∀ T' : State, On l Z p e R s m args below meth c y code maxL ret T' h locs cells slots → Goes p e below F T' (mkF m q L (.int 1 :: S))) : Goes p e below F T (mkF m pc L (.ref a :: S)) := by
  subst hp
  obtain ⟨T', X', e', st⟩ := instY X.1 X.2.1.1 (show Z.Warmed39 s.vm from X.2.1.2.2.1) X.2.1.2.2.2.1 w X.2.2.1 I (g := mkF m pc L (.ref a :: S)) rfl rfl (hb X.2.1.2.1 hd)
  exact Goes.step st (K T' (X.later X' e' X.2.2.2.1 X.ext))
theorem o_instNo (X : On l Z p e R s m args below meth c y code maxL ret T h locs cells slots) {C K' : String} {index q : Nat} {a : Addr} (E : Exa Z h a C) (N : ∃ c t, Z.vm.findClass C = some c ∧ Z.vm.findClass K' = some t ∧ Z.vm.assignable c t = false) (w : (Jvm.Cond.classLink y.cls index K').before a0 Z = true) (hd : decode code pc = .ok (.instanceof index, 3)) (hp : pc + 3 = q)
    (K : ∀ T' : State, On l Z p e R s m args below meth c y code maxL ret T' h locs cells slots → Goes p e below F T' (mkF m q L (.int 0 :: S))) : Goes p e below F T (mkF m pc L (.ref a :: S)) := by
  subst hp
  obtain ⟨T', X', e', st⟩ := instNo X.1 X.2.1.1 (show Z.Warmed39 s.vm from X.2.1.2.2.1) X.2.1.2.2.2.1 w X.2.2.1 E N (g := mkF m pc L (.ref a :: S)) rfl rfl (hb X.2.1.2.1 hd)
  exact Goes.step st (K T' (X.later X' e' X.2.2.2.1 X.ext))
/-- C's chain of superclasses does not meet the class K, which can be made -/
theorem ns_root {Z : State} {a0 : Array Value} {O K : String} {n : Nat} (w : (Jvm.Cond.noSuperclass O).before a0 Z = true) (wk : (Jvm.Cond.instantiable K n).before a0 Z = true) (hn : O ≠ K) : NS Z O K := by
  obtain ⟨c, k, h1, h2, h3, -, -⟩ := Cond.noSuperclass_spec w
  obtain ⟨t, kt, g1, -⟩ := Cond.instantiable_spec wk
  have ne := ids_ne h1 g1 hn
  refine ⟨c, t, h1, g1, fun fuel => ?_⟩
  cases fuel with
  | zero => rfl
  | succ f => simp [Vm.isSubclassAux, ne, h2, h3]
theorem ns_no {Z : State} {a0 : Array Value} {C S K : String} {n : Nat} (w : (Jvm.Cond.superclass C S).before a0 Z = true) (wk : (Jvm.Cond.instantiable K n).before a0 Z = true) (N : NS Z C K) (hn : C ≠ K) : ∃ c t, Z.vm.findClass C = some c ∧ Z.vm.findClass K = some t ∧ Z.vm.assignable c t = false := by
  obtain ⟨c, t, h0, g0, n3⟩ := N
  obtain ⟨p, k, kp, h1, h2, h3, h4, h5, -, h7⟩ := Cond.superclass_spec h0 w
  obtain ⟨t', kt, g1, g2, g3, g4, -⟩ := Cond.instantiable_spec wk
  cases g0.symm.trans g1
  have ne := ids_ne h0 g0 hn
  have g5 : kt.isInterface = false := by
    cases q : kt.isInterface
    · rfl
    · rw [q] at g4; simp at g4
  refine ⟨c, t, h0, g0, ?_⟩
  show Z.vm.assignableAux (255 + 1) c t = false
  simp [Vm.assignableAux, ne, h2, g2, h5, g3, g5, Vm.isSubclass, n3]
theorem o_ldcM (X : On l Z p e R s m args below meth c y code maxL ret T h locs cells slots) {C : String} {index q : Nat} {mr : Addr} (M : Mir Z C mr) (w : (Jvm.Cond.classLink y.cls index C).before a0 Z = true) (hd : decode code pc = .ok (.ldc index, 2)) (hp : pc + 2 = q)
    (K : ∀ T' : State, On l Z p e R s m args below meth c y code maxL ret T' h locs cells slots → Goes p e below F T' (mkF m q L (.ref mr :: S))) : Goes p e below F T (mkF m pc L S) := by
  subst hp
  obtain ⟨c0, k0, m1, m2, m3, -⟩ := M
  obtain ⟨k', q1, ek⟩ := (show Z.Warmed39 s.vm from X.2.1.2.2.1).alike.2.2 _ _ m2
  have hm : k'.mirror = some mr := by rw [ek]; exact m3
  obtain ⟨vm', X', st⟩ := X.1.ldcMirror X.2.1.1 X.2.1.2.2.2.1 (mvT (s := s) X.2.1.2.2.1 w) (a := mr) (by
    have q2 : s.vm.findClass C = some c0 := by rw [(show Z.Warmed39 s.vm from X.2.1.2.2.1).alike.findClass]; exact m1
    simp only [Term.eval, q2, Option.bind_eq_bind, Option.bind_some, q1, hm, Option.pure_def]) (g := mkF m pc L S) rfl (hb X.2.1.2.1 hd)
  have e' : (T.setVm vm').heap = h := X.2.2.1
  exact Goes.step st (K _ (X.later X' e' X.2.2.2.1 X.ext))
theorem o_gcls (X : On l Z p e R s m args below meth c y code maxL ret T h locs cells slots) {C : String} {index q : Nat} {a mr : Addr} (E : Exa Z h a C) (M : Mir Z C mr) (w1 : (Jvm.Cond.methodLink y.cls index ⟨"java/lang/Object", "getClass", "()Ljava/lang/Class;"⟩).before a0 Z = true) (w2 : (Jvm.Cond.declares ⟨"java/lang/Object", "getClass", "()Ljava/lang/Class;"⟩).before a0 Z = true) (w3 : (Jvm.Cond.noSuperclass "java/lang/Object").before a0 Z = true) (w4 : (Jvm.Cond.selects C ⟨"java/lang/Object", "getClass", "()Ljava/lang/Class;"⟩ ⟨"java/lang/Object", "getClass", "()Ljava/lang/Class;"⟩).before a0 Z = true) (w5 : (Jvm.Cond.instanceMethod ⟨"java/lang/Object", "getClass", "()Ljava/lang/Class;"⟩).before a0 Z = true) (w6 : (Jvm.Cond.native ⟨"java/lang/Object", "getClass", "()Ljava/lang/Class;"⟩).before a0 Z = true)
    (hd : decode code pc = .ok (.invokevirtual index, 3)) (hL : L.size = maxL) (hf : 1 ≤ R.frames) (hl : (S.map fun v => v.category).sum + (nativeFrameWords "java/lang/Object" "getClass" 1 + 11) ≤ R.locals) (hp : pc + 3 = q)
    (K : ∀ T' : State, On l Z p e R s m args below meth c y code maxL ret T' h locs cells slots → Goes p e below F T' (mkF m q L (.ref mr :: S))) : Goes p e below F T (mkF m pc L (.ref a :: S)) := by
  subst hp
  obtain ⟨T', X', e', st⟩ := gcls X.1 X.2.1.1 (show Z.Warmed39 s.vm from X.2.1.2.2.1) X.2.1.2.2.2.1 w1 w2 w3 w4 w5 w6 X.2.2.1 E M (g := mkF m pc L (.ref a :: S)) rfl (hL.trans X.2.1.2.2.2.2.2.2.2.symm) rfl (hb X.2.1.2.1 hd) hf (W := (S.map fun v => v.category).sum) (by show 2 * 0 + _ ≤ _; omega) hl
  exact Goes.step st (K T' (X.later X' e' X.2.2.2.1 X.ext))
theorem o_copy (X : On l Z p e R s m args below meth c y code maxL ret T h locs cells slots) {index q : Nat} {a b : Addr} {k k' : ClassId} {ty ty' : FieldType} {z z' sp dp nn : Int32} {vs vd us vs' : List Value} {dv dd : Value} (A : Arv Z h a k ty z vs dv) (B : Arv Z h b k' ty' z' vd dd) (hty : (ty = ty' ∧ refKind ty = false) ∨ (refKind ty = true ∧ refKind ty' = true ∧ StoL Z h b us)) (hgb : Z.heap.size ≤ b)
    (h1 : ¬ sp < 0) (h2 : ¬ dp < 0) (h3 : ¬ nn < 0) (h4 : sp.toNatClampNeg + nn.toNatClampNeg ≤ z.toNatClampNeg) (h5 : dp.toNatClampNeg + nn.toNatClampNeg ≤ z'.toNatClampNeg) (hus : us = (List.range nn.toNatClampNeg).map fun i => vs.getD (sp.toNatClampNeg + i) dv) (hlv : dp.toNatClampNeg + nn.toNatClampNeg ≤ vd.length) (hvs : vd.take dp.toNatClampNeg ++ us ++ vd.drop (dp.toNatClampNeg + nn.toNatClampNeg) = vs')
    (w1 : (Jvm.Cond.methodLink y.cls index Jvm.Stand.acN).before a0 Z = true) (w2 : (Jvm.Cond.native Jvm.Stand.acN).before a0 Z = true) (w3 : (Jvm.Cond.static Jvm.Stand.acN).before a0 Z = true) (w4 : (Jvm.Cond.initialized "java/lang/System").before a0 Z = true)
    (hd : decode code pc = .ok (.invokestatic index, 3)) (hL : L.size = maxL) (hf : 1 ≤ R.frames) (hl : (S.map fun v => v.category).sum + (nativeFrameWords "java/lang/System" "arraycopy" 5 + 11) ≤ R.locals) (hp : pc + 3 = q)
    (K : ∀ (T' : State) (h' : Heap) (locs' : List Loc), On l Z p e R s m args below meth c y code maxL ret T' h' locs' cells slots → Keep h h' [b] → Arv Z h' b k' ty' z' vs' dd → Goes p e below F T' (mkF m q L S)) : Goes p e below F T (mkF m pc L (.int nn :: .int dp :: .ref b :: .int sp :: .ref a :: S)) := by
  subst hp hvs
  obtain ⟨T', h', Lc, X', e', N', K', A', st⟩ := cpA X.1 X.2.1.1 (show Z.Warmed39 s.vm from X.2.1.2.2.1) X.2.1.2.2.2.1 w1 w2 w3 w4 X.2.2.1 A B hty h1 h2 h3 h4 h5 hus hlv X.2.2.2.1 hgb (g := mkF m pc L (.int nn :: .int dp :: .ref b :: .int sp :: .ref a :: S)) rfl (hL.trans X.2.1.2.2.2.2.2.2.2.symm) rfl (hb X.2.1.2.1 hd) hf (W := (S.map fun v => v.category).sum) (by show 2 * 0 + _ ≤ _; omega) hl
  exact Goes.step st (K T' h' Lc (X.later X' e' N' (ext_keep X.ext K' (allS hgb all0))) K' A')
theorem o_tsw (X : On l Z p e R s m args below meth c y code maxL ret T h locs cells slots) {dflt low high : Int} {offs : Array Int} {len : Nat} {i : Int} {x : Int32} {q : Nat} (hd : decode code pc = .ok (.tableswitch dflt low high offs, len)) (h1 : low ≤ x.toInt) (h2 : x.toInt ≤ high) (hi : offs[(x.toInt - low).toNat]? = some i) (ho : 0 ≤ (pc : Int) + i) (hp : ((pc : Int) + i).toNat = q) (K : Goes p e below F T (mkF m q L S)) : Goes p e below F T (mkF m pc L (.int x :: S)) :=
  Goes.step (fun _ k => Jvm.Free.XS.tswIn X.1.here X.2.1.1 (g := mkF m pc L (.int x :: S)) rfl (pc0 := pc) rfl (hb X.2.1.2.1 hd) rfl (fun q => q.elim (fun r => by omega) (fun r => by omega)) hi ho hp k) K
theorem o_tswD (X : On l Z p e R s m args below meth c y code maxL ret T h locs cells slots) {dflt low high : Int} {offs : Array Int} {len : Nat} {x : Int32} {q : Nat} (hd : decode code pc = .ok (.tableswitch dflt low high offs, len)) (h1 : x.toInt < low ∨ high < x.toInt) (ho : 0 ≤ (pc : Int) + dflt) (hp : ((pc : Int) + dflt).toNat = q) (K : Goes p e below F T (mkF m q L S)) : Goes p e below F T (mkF m pc L (.int x :: S)) :=
  Goes.step (fun _ k => Jvm.Free.XS.tswOut X.1.here X.2.1.1 (g := mkF m pc L (.int x :: S)) rfl (pc0 := pc) rfl (hb X.2.1.2.1 hd) rfl h1 ho hp k) K
theorem o_iface (X : On l Z p e R s m args below meth c y code maxL ret T h locs cells slots) {C : String} {xi y' : MethodName} {index count q : Nat} {bytes : ByteArray} {maxL' : Nat} {ret' : Option FieldType} {rm : Room} {as : Array Value} {Q : Option Value → Heap → Prop} (argsL : List Value) {a : Addr} {rest : List Value} (E : Exa Z h a C) (hC : Con l Z y' bytes maxL' ret' rm as h Q)
    (w1 : (Jvm.Cond.methodLink y.cls index xi).before a0 Z = true) (w2 : (Jvm.Cond.declares xi).before a0 Z = true) (w3 : (Jvm.Cond.interfaceMethod xi.cls xi.cls xi.name xi.desc).before a0 Z = true) (w4 : (Jvm.Cond.selects C xi y').before a0 Z = true) (w5 : (Jvm.Cond.instanceMethod y').before a0 Z = true) (w6 : (Jvm.Cond.publicMethod y').before a0 Z = true) (w7 : (Jvm.Cond.unhidden C xi.name xi.desc).before a0 Z = true) (w8 : (Jvm.Cond.castable C xi.cls).before a0 Z = true) (w9 : (Jvm.Cond.code y' bytes maxL' ret').before a0 Z = true) (w10 : (Jvm.Cond.initialized y'.cls).before a0 Z = true) (hy : xi.cls ≠ "java/lang/invoke/MethodHandle" ∧ xi.cls ≠ "java/lang/invoke/VarHandle")
    (hd : decode code pc = .ok (.invokeinterface index count, 5)) (has : (.ref a :: argsL).toArray = as) (hL : L.size = maxL) (hlen : ∀ sig, parseMethodDescriptor xi.desc = some sig → argsL.length = sig.parameters.length) (hS : S = argsL.reverse ++ .ref a :: rest) (hf : rm.frames + 1 ≤ R.frames) (hl : (rest.map fun v => v.category).sum + (maxL' + 11) + rm.locals ≤ R.locals) (hc : cells + rm.cells ≤ R.cells) (hs : slots + rm.slots ≤ R.slots) (hp : pc + 5 = q)
    (K : ∀ (v : Option Value) (T' : State) (h' : Heap) (locs' : List Loc), On l Z p e R s m args below meth c y code maxL ret T' h' locs' (cells + rm.cells) (slots + rm.slots) → Q v h' → Goes p e below F T' (mkF m q L (v.toList ++ rest))) : Goes p e below F T (mkF m pc L S) := by
  subst hp hS has
  obtain ⟨cB, kB, q1, q2, q3⟩ := isOf (show Z.Warmed39 s.vm from X.2.1.2.2.1) X.2.2.1 E
  obtain ⟨v, vm1, ⟨T', L1, k1, n1⟩, -, X', ⟨Lc, hQ, e2, e3, e4⟩, st⟩ := X.1.interfaceBack X.2.1.1 (xi := xi) (y := y') X.2.1.2.2.2.1 (mvT (s := s) X.2.1.2.2.1 w1) (mvT (s := s) X.2.1.2.2.1 w2) (mvT (s := s) X.2.1.2.2.1 w3 (by simp [Cond.onTables, Cond.keepsFace, Cond.keeps, Cond.steady, Cond.faceAtom]; exact hy)) (mvT (s := s) X.2.1.2.2.1 w4) (mvT (s := s) X.2.1.2.2.1 w5) (mvT (s := s) X.2.1.2.2.1 w6) (mvT (s := s) X.2.1.2.2.1 w7) (mvT (s := s) X.2.1.2.2.1 w8) hy (Con.back X hC w9 w10 hf hl) q1 q2 q3 (g := mkF m pc L (argsL.reverse ++ .ref a :: rest)) rfl (hL.trans X.2.1.2.2.2.2.2.2.2.symm) (Steps.refl _) hlen rfl (by show 2 * 0 + _ ≤ _; omega) (hb X.2.1.2.1 hd) (fun _ _ => ⟨rfl, X.2.2.1, hc, hs⟩)
  dsimp only [Pt.U, Pt.locs, Pt.cells, Pt.slots] at X' hQ e2 e3 e4 st
  subst e2 e3 e4
  exact Goes.step (fun _ k => st.trans k) (K v T' T'.heap _ (X.later X' rfl (Fr.app X.2.2.2.1 hQ.2.1) hQ.2.2) hQ.1)
theorem o_priv (X : On l Z p e R s m args below meth c y code maxL ret T h locs cells slots) {D : String} {y' : MethodName} {index q : Nat} {bytes : ByteArray} {maxL' : Nat} {ret' : Option FieldType} {rm : Room} {as : Array Value} {Q : Option Value → Heap → Prop} (argsL : List Value) {a : Addr} {rest : List Value} (E : Exa Z h a D) (hC : Con l Z y' bytes maxL' ret' rm as h Q)
    (w1 : (Jvm.Cond.methodLink y.cls index y').before a0 Z = true) (w2 : (Jvm.Cond.instanceMethod y').before a0 Z = true) (w3 : (Jvm.Cond.selects y'.cls y' y').before a0 Z = true) (w4 : (Jvm.Cond.privateMethod y').before a0 Z = true) (w5 : (Jvm.Cond.code y' bytes maxL' ret').before a0 Z = true) (w6 : (Jvm.Cond.initialized y'.cls).before a0 Z = true) (hy : y'.cls ≠ "java/lang/invoke/MethodHandle" ∧ y'.cls ≠ "java/lang/invoke/VarHandle")
    (hd : decode code pc = .ok (.invokevirtual index, 3)) (has : (.ref a :: argsL).toArray = as) (hL : L.size = maxL) (hlen : ∀ sig, parseMethodDescriptor y'.desc = some sig → argsL.length = sig.parameters.length) (hS : S = argsL.reverse ++ .ref a :: rest) (hf : rm.frames + 1 ≤ R.frames) (hl : (rest.map fun v => v.category).sum + (maxL' + 11) + rm.locals ≤ R.locals) (hc : cells + rm.cells ≤ R.cells) (hs : slots + rm.slots ≤ R.slots) (hp : pc + 3 = q)
    (K : ∀ (v : Option Value) (T' : State) (h' : Heap) (locs' : List Loc), On l Z p e R s m args below meth c y code maxL ret T' h' locs' (cells + rm.cells) (slots + rm.slots) → Q v h' → Goes p e below F T' (mkF m q L (v.toList ++ rest))) : Goes p e below F T (mkF m pc L S) := by
  subst hp hS has
  obtain ⟨cl, hcl, hst⟩ := E.cell
  obtain ⟨v, vm1, ⟨T', L1, k1, n1⟩, -, X', ⟨Lc, hQ, e2, e3, e4⟩, st⟩ := X.1.privateBack X.2.1.1 (y := y') X.2.1.2.2.2.1 (mvT (s := s) X.2.1.2.2.1 w1) (mvT (s := s) X.2.1.2.2.1 w2) (mvT (s := s) X.2.1.2.2.1 w3) (Cond.privateMethod_at (mvP (show Z.Warmed39 s.vm from X.2.1.2.2.1) w4 (args := #[]))) (mvT (s := s) X.2.1.2.2.1 w5) hy (Con.back X hC w5 w6 hf hl) (g := mkF m pc L (argsL.reverse ++ .ref a :: rest)) rfl (hL.trans X.2.1.2.2.2.2.2.2.2.symm) (Steps.refl _) (a := a) (cell := cl) (by rw [X.2.2.1]; exact hcl) hst hlen rfl (by show 2 * 0 + _ ≤ _; omega) (hb X.2.1.2.1 hd) (fun _ _ => ⟨rfl, X.2.2.1, hc, hs⟩)
  dsimp only [Pt.U, Pt.locs, Pt.cells, Pt.slots] at X' hQ e2 e3 e4 st
  subst e2 e3 e4
  exact Goes.step (fun _ k => st.trans k) (K v T' T'.heap _ (X.later X' rfl (Fr.app X.2.2.2.1 hQ.2.1) hQ.2.2) hQ.1)
theorem o_specN (X : On l Z p e R s m args below meth c y code maxL ret T h locs cells slots) {host : String} {y' : MethodName} {index q : Nat} {bytes : ByteArray} {maxL' : Nat} {rm : Room} {as : Array Value} {Q : Option Value → Heap → Prop} (argsL : List Value) {a : Addr} {rest : List Value} (hC : Con l Z y' bytes maxL' none rm as h Q)
    (hy1 : y'.name = "<init>") (w1 : (Jvm.Cond.methodLinkNest y.cls index y' host).before a0 Z = true) (w2 : (Jvm.Cond.instanceMethod y').before a0 Z = true) (w3 : (Jvm.Cond.code y' bytes maxL' none).before a0 Z = true) (w4 : (Jvm.Cond.initialized y'.cls).before a0 Z = true) (hy : y'.cls ≠ "java/lang/invoke/MethodHandle" ∧ y'.cls ≠ "java/lang/invoke/VarHandle")
    (hd : decode code pc = .ok (.invokespecial index, 3)) (has : (.ref a :: argsL).toArray = as) (hL : L.size = maxL) (hlen : ∀ sig, parseMethodDescriptor y'.desc = some sig → argsL.length = sig.parameters.length) (hS : S = argsL.reverse ++ .ref a :: rest) (hf : rm.frames + 1 ≤ R.frames) (hl : (rest.map fun v => v.category).sum + (maxL' + 11) + rm.locals ≤ R.locals) (hc : cells + rm.cells ≤ R.cells) (hs : slots + rm.slots ≤ R.slots) (hp : pc + 3 = q)
    (K : ∀ (v : Option Value) (T' : State) (h' : Heap) (locs' : List Loc), On l Z p e R s m args below meth c y code maxL ret T' h' locs' (cells + rm.cells) (slots + rm.slots) → Q v h' → Goes p e below F T' (mkF m q L (v.toList ++ rest))) : Goes p e below F T (mkF m pc L S) := by
  subst hp hS has
  obtain ⟨v, vm1, ⟨T', L1, k1, n1⟩, -, X', ⟨Lc, hQ, e2, e3, e4⟩, st⟩ := X.1.specialBackNest X.2.1.1 hy1 X.2.1.2.2.2.1 ((Cond.methodLinkNest_wide (show Z.Warmed39 s.vm from X.2.1.2.2.1) w1 :)) (mvT (s := s) X.2.1.2.2.1 w2) (mvT (s := s) X.2.1.2.2.1 w3) hy (Con.back X hC w3 w4 hf hl) (g := mkF m pc L (argsL.reverse ++ .ref a :: rest)) rfl (hL.trans X.2.1.2.2.2.2.2.2.2.symm) (Steps.refl _) hlen rfl (by show 2 * 0 + _ ≤ _; omega) (hb X.2.1.2.1 hd) (fun _ _ => ⟨rfl, X.2.2.1, hc, hs⟩)
  dsimp only [Pt.U, Pt.locs, Pt.cells, Pt.slots] at X' hQ e2 e3 e4 st
  subst e2 e3 e4
  exact Goes.step (fun _ k => st.trans k) (K v T' T'.heap _ (X.later X' rfl (Fr.app X.2.2.2.1 hQ.2.1) hQ.2.2) hQ.1)
/-- a private method's word for its own class, from the word for a subclass -/
theorem sel_up {Z : State} {a0 : Array Value} {C : String} {y : MethodName} (w1 : (Jvm.Cond.selects C y y).before a0 Z = true) (w2 : (Jvm.Cond.instanceMethod y).before a0 Z = true) (w3 : (Jvm.Cond.privateMethod y).before a0 Z = true) (hy : y.cls ≠ "java/lang/invoke/MethodHandle" ∧ y.cls ≠ "java/lang/invoke/VarHandle") : (Jvm.Cond.selects y.cls y y).before a0 Z = true := by
  obtain ⟨mk, methM, hn, hm, -, -⟩ := Cond.instanceMethod_spec w2
  obtain ⟨c, r, m, q1, q2, q3, q4, kk, q5, q6⟩ := Cond.selects_spec w1
  cases hn.symm.trans q3
  have hf := State.methodFound?_of_named hn hy
  have hc := findClass_of_methodNamed hn
  have hs : selectMethod {} Z.vm mk.cls mk = .method mk := selectMethod_private hm (Cond.privateMethod_at w3 mk methM hn hm)
  simp [Cond.before, Cond.holds, Cond.value, hc, hf, hn, hs, q5, q6]
/-- a method of a class (no interface, by another word) is the one its own class finds -/
theorem same_up {Z : State} {a0 : Array Value} {C : String} {y z : MethodName} (w1 : (Jvm.Cond.selects C z z).before a0 Z = true) (w2 : (Jvm.Cond.instanceMethod y).before a0 Z = true) (hz : z.cls = y.cls) (hy : y.cls ≠ "java/lang/invoke/MethodHandle" ∧ y.cls ≠ "java/lang/invoke/VarHandle") : (Jvm.Cond.sameMethod y.cls y.cls y.name y.desc).before a0 Z = true := by
  obtain ⟨mk, methM, hn, hm, -, -⟩ := Cond.instanceMethod_spec w2
  obtain ⟨c, r, m, q1, q2, q3, q4, kk, q5, q6⟩ := Cond.selects_spec w1
  have hf := State.methodFound?_of_named hn hy
  have hc := findClass_of_methodNamed hn
  have hc2 := findClass_of_methodNamed q3
  rw [hz, hc] at hc2
  have e := Option.some.inj hc2
  rw [← e] at q5
  simp [Cond.before, Cond.holds, Cond.value, hc, hf, show Z.methodNamed? ⟨y.cls, y.name, y.desc⟩ = some mk from hn, q5, q6]
theorem o_super (X : On l Z p e R s m args below meth c y code maxL ret T h locs cells slots) {D : String} {y' : MethodName} {index q : Nat} {bytes : ByteArray} {maxL' : Nat} {ret' : Option FieldType} {rm : Room} {as : Array Value} {Q : Option Value → Heap → Prop} (argsL : List Value) {a : Addr} {rest : List Value} (E : Exa Z h a D) (hC : Con l Z y' bytes maxL' ret' rm as h Q)
    (w1 : (Jvm.Cond.methodLink y.cls index y').before a0 Z = true) (w2 : (Jvm.Cond.sameMethod y'.cls y'.cls y'.name y'.desc).before a0 Z = true) (w3 : (Jvm.Cond.instanceMethod y').before a0 Z = true) (w4 : (Jvm.Cond.superclass y.cls y'.cls).before a0 Z = true) (hn : y'.name ≠ "<init>") (w5 : (Jvm.Cond.code y' bytes maxL' ret').before a0 Z = true) (w6 : (Jvm.Cond.initialized y'.cls).before a0 Z = true)
    (hd : decode code pc = .ok (.invokespecial index, 3)) (has : (.ref a :: argsL).toArray = as) (hL : L.size = maxL) (hlen : ∀ sig, parseMethodDescriptor y'.desc = some sig → argsL.length = sig.parameters.length) (hS : S = argsL.reverse ++ .ref a :: rest) (hf : rm.frames + 1 ≤ R.frames) (hl : (rest.map fun v => v.category).sum + (maxL' + 11) + rm.locals ≤ R.locals) (hc : cells + rm.cells ≤ R.cells) (hs : slots + rm.slots ≤ R.slots) (hp : pc + 3 = q)
    (K : ∀ (v : Option Value) (T' : State) (h' : Heap) (locs' : List Loc), On l Z p e R s m args below meth c y code maxL ret T' h' locs' (cells + rm.cells) (slots + rm.slots) → Q v h' → Goes p e below F T' (mkF m q L (v.toList ++ rest))) : Goes p e below F T (mkF m pc L S) := by
  subst hp hS has
  obtain ⟨v, vm1, ⟨T', L1, k1, n1⟩, -, X', ⟨Lc, hQ, e2, e3, e4⟩, st⟩ := superBack X.1 X.2.1.1 (show Z.Warmed39 s.vm from X.2.1.2.2.1) X.2.1.2.2.2.1 w1 w2 w3 w4 hn (Con.back X hC w5 w6 hf hl) X.2.2.1 (Ins.self E) (g := mkF m pc L (argsL.reverse ++ .ref a :: rest)) rfl (hL.trans X.2.1.2.2.2.2.2.2.2.symm) w5 hlen rfl (by show 2 * 0 + _ ≤ _; omega) (hb X.2.1.2.1 hd) (fun _ _ => ⟨rfl, X.2.2.1, hc, hs⟩)
  dsimp only [Pt.U, Pt.locs, Pt.cells, Pt.slots] at X' hQ e2 e3 e4 st
  subst e2 e3 e4
  exact Goes.step (fun _ k => st.trans k) (K v T' T'.heap _ (X.later X' rfl (Fr.app X.2.2.2.1 hQ.2.1) hQ.2.2) hQ.1)
theorem o_virt2 (X : On l Z p e R s m args below meth c y code maxL ret T h locs cells slots) {C : String} {z' y' : MethodName} {index q : Nat} {bytes : ByteArray} {maxL' : Nat} {ret' : Option FieldType} {rm : Room} {as : Array Value} {Q : Option Value → Heap → Prop} (argsL : List Value) {a : Addr} {rest : List Value} (E : Exa Z h a C) (hC : Con l Z y' bytes maxL' ret' rm as h Q)
    (w1 : (Jvm.Cond.methodLink y.cls index z').before a0 Z = true) (w2 : (Jvm.Cond.declares z').before a0 Z = true) (w3 : (Jvm.Cond.selects C z' y').before a0 Z = true) {D : String} {u : MethodName} (wn : (Jvm.Cond.selects D u u).before a0 Z = true) (hu : u.cls = z'.cls) (w4 : (Jvm.Cond.instanceMethod y').before a0 Z = true) (w5 : (Jvm.Cond.code y' bytes maxL' ret').before a0 Z = true) (w6 : (Jvm.Cond.initialized y'.cls).before a0 Z = true) (hy : z'.cls ≠ "java/lang/invoke/MethodHandle" ∧ z'.cls ≠ "java/lang/invoke/VarHandle")
    (hd : decode code pc = .ok (.invokevirtual index, 3)) (has : (.ref a :: argsL).toArray = as) (hL : L.size = maxL) (hlen : ∀ sig, parseMethodDescriptor z'.desc = some sig → argsL.length = sig.parameters.length) (hS : S = argsL.reverse ++ .ref a :: rest) (hf : rm.frames + 1 ≤ R.frames) (hl : (rest.map fun v => v.category).sum + (maxL' + 11) + rm.locals ≤ R.locals) (hc : cells + rm.cells ≤ R.cells) (hs : slots + rm.slots ≤ R.slots) (hp : pc + 3 = q)
    (K : ∀ (v : Option Value) (T' : State) (h' : Heap) (locs' : List Loc), On l Z p e R s m args below meth c y code maxL ret T' h' locs' (cells + rm.cells) (slots + rm.slots) → Q v h' → Goes p e below F T' (mkF m q L (v.toList ++ rest))) : Goes p e below F T (mkF m pc L S) := by
  subst hp hS has
  obtain ⟨cB, kB, q1, q2, q3⟩ := isOf (show Z.Warmed39 s.vm from X.2.1.2.2.1) X.2.2.1 E
  have hnf : NotFace s z' := by
    intro r0 h0
    obtain ⟨c2, r2, m2, -, -, u3, -, kP, hkP, hkPi⟩ := Cond.selects_spec (mvT (args := #[]) (s := s) X.2.1.2.2.1 wn)
    have e1 := findClass_of_methodNamed h0
    have e2 := findClass_of_methodNamed u3
    rw [hu, e1] at e2
    rw [Option.some.inj e2]
    exact ⟨kP, hkP, hkPi⟩
  obtain ⟨v, vm1, ⟨T', L1, k1, n1⟩, -, X', ⟨Lc, hQ, e2, e3, e4⟩, st⟩ := X.1.virtualBack X.2.1.1 (y := z') (z := y') X.2.1.2.2.2.1 (mvT (s := s) X.2.1.2.2.1 w1) (mvT (s := s) X.2.1.2.2.1 w2) hnf (mvT (s := s) X.2.1.2.2.1 w3) (mvT (s := s) X.2.1.2.2.1 w4) hy (Con.back X hC w5 w6 hf hl) q1 q3 (g := mkF m pc L (argsL.reverse ++ .ref a :: rest)) rfl (hL.trans X.2.1.2.2.2.2.2.2.2.symm) (Steps.refl _) hlen rfl (by show 2 * 0 + _ ≤ _; omega) (hb X.2.1.2.1 hd) (fun _ _ => ⟨rfl, X.2.2.1, hc, hs⟩)
  dsimp only [Pt.U, Pt.locs, Pt.cells, Pt.slots] at X' hQ e2 e3 e4 st
  subst e2 e3 e4
  exact Goes.step (fun _ k => st.trans k) (K v T' T'.heap _ (X.later X' rfl (Fr.app X.2.2.2.1 hQ.2.1) hQ.2.2) hQ.1)
end OwnCol
end Jvm.Pilot.@@N@@

namespace Jvm.Pilot.@@N@@
open Jvm Jvm.ClassFile Sem Op Lib Jvm.Free Jvm.Stand Jvm.LawKit Jvm.RoadKit Bundle Jvm.Pilot.@@N@@.Jvm.D
def W (a0 : Array Value) (Z : State) : Prop := ∀ d ∈ tables_1, d.before a0 Z = true
theorem w0 {a0 : Array Value} {Z : State} (hw : W a0 Z) : (Jvm.Cond.constant "com/example/tolerant_workflows/tolerantworkflows/engine/JobFirstPinLaw" (7 : Nat) (2147483647 : Int32)).before a0 Z = true := hw _ (List.mem_of_getElem? (i := 0) rfl)
theorem w1 {a0 : Array Value} {Z : State} (hw : W a0 Z) : (Jvm.Cond.arrayClass Jvm.ClassFile.FieldType.char).before a0 Z = true := hw _ (List.mem_of_getElem? (i := 1) rfl)
theorem w2 {a0 : Array Value} {Z : State} (hw : W a0 Z) : (Jvm.Cond.classLink "com/example/tolerant_workflows/tolerantworkflows/engine/JobFirstPinLaw" (8 : Nat) "com/example/tolerant_workflows/tolerantworkflows/model/Task").before a0 Z = true := hw _ (List.mem_of_getElem? (i := 2) rfl)
theorem w3 {a0 : Array Value} {Z : State} (hw : W a0 Z) : (Jvm.Cond.instantiable "com/example/tolerant_workflows/tolerantworkflows/model/Task" (6 : Nat)).before a0 Z = true := hw _ (List.mem_of_getElem? (i := 3) rfl)
theorem w4 {a0 : Array Value} {Z : State} (hw : W a0 Z) : (Jvm.Cond.initialized "com/example/tolerant_workflows/tolerantworkflows/model/Task").before a0 Z = true := hw _ (List.mem_of_getElem? (i := 4) rfl)
theorem w5 {a0 : Array Value} {Z : State} (hw : W a0 Z) : (Jvm.Cond.classLink "com/example/tolerant_workflows/tolerantworkflows/engine/JobFirstPinLaw" (10 : Nat) "java/lang/String").before a0 Z = true := hw _ (List.mem_of_getElem? (i := 5) rfl)
theorem w6 {a0 : Array Value} {Z : State} (hw : W a0 Z) : (Jvm.Cond.instantiable "java/lang/String" (4 : Nat)).before a0 Z = true := hw _ (List.mem_of_getElem? (i := 6) rfl)
theorem w7 {a0 : Array Value} {Z : State} (hw : W a0 Z) : (Jvm.Cond.initialized "java/lang/String").before a0 Z = true := hw _ (List.mem_of_getElem? (i := 7) rfl)
theorem w8 {a0 : Array Value} {Z : State} (hw : W a0 Z) : (Jvm.Cond.methodLink "com/example/tolerant_workflows/tolerantworkflows/engine/JobFirstPinLaw" (12 : Nat) ({ cls := "java/lang/String", name := "<init>", desc := "([C)V" } : Jvm.MethodName)).before a0 Z = true := hw _ (List.mem_of_getElem? (i := 8) rfl)
theorem w9 {a0 : Array Value} {Z : State} (hw : W a0 Z) : (Jvm.Cond.instanceMethod ({ cls := "java/lang/String", name := "<init>", desc := "([C)V" } : Jvm.MethodName)).before a0 Z = true := hw _ (List.mem_of_getElem? (i := 9) rfl)
theorem w10 {a0 : Array Value} {Z : State} (hw : W a0 Z) : (Jvm.Cond.code ({ cls := "java/lang/String", name := "<init>", desc := "([C)V" } : Jvm.MethodName) jdk_42_method_3_code (2 : Nat) (Option.none : Option Jvm.ClassFile.FieldType)).before a0 Z = true := hw _ (List.mem_of_getElem? (i := 10) rfl)
theorem w16 {a0 : Array Value} {Z : State} (hw : W a0 Z) : (Jvm.Cond.instanceMethod ({ cls := "java/lang/Object", name := "<init>", desc := "()V" } : Jvm.MethodName)).before a0 Z = true := hw _ (List.mem_of_getElem? (i := 16) rfl)
theorem w17 {a0 : Array Value} {Z : State} (hw : W a0 Z) : (Jvm.Cond.code ({ cls := "java/lang/Object", name := "<init>", desc := "()V" } : Jvm.MethodName) object_method_1_code (1 : Nat) (Option.none : Option Jvm.ClassFile.FieldType)).before a0 Z = true := hw _ (List.mem_of_getElem? (i := 17) rfl)
theorem w31 {a0 : Array Value} {Z : State} (hw : W a0 Z) : (Jvm.Cond.laysFinal "java/lang/String" "java/lang/String" "coder" "B").before a0 Z = true := hw _ (List.mem_of_getElem? (i := 31) rfl)
theorem w33 {a0 : Array Value} {Z : State} (hw : W a0 Z) : (Jvm.Cond.laysFinal "java/lang/String" "java/lang/String" "value" "[B").before a0 Z = true := hw _ (List.mem_of_getElem? (i := 33) rfl)
theorem w34 {a0 : Array Value} {Z : State} (hw : W a0 Z) : (Jvm.Cond.methodLink "com/example/tolerant_workflows/tolerantworkflows/engine/JobFirstPinLaw" (15 : Nat) ({ cls := "com/example/tolerant_workflows/tolerantworkflows/model/Task", name := "<init>", desc := "(Ljava/lang/String;ILjava/time/Duration;Ljava/util/Optional;Ljava/util/List;Ljava/util/List;)V" } : Jvm.MethodName)).before a0 Z = true := hw _ (List.mem_of_getElem? (i := 34) rfl)
theorem w35 {a0 : Array Value} {Z : State} (hw : W a0 Z) : (Jvm.Cond.instanceMethod ({ cls := "com/example/tolerant_workflows/tolerantworkflows/model/Task", name := "<init>", desc := "(Ljava/lang/String;ILjava/time/Duration;Ljava/util/Optional;Ljava/util/List;Ljava/util/List;)V" } : Jvm.MethodName)).before a0 Z = true := hw _ (List.mem_of_getElem? (i := 35) rfl)
theorem w36 {a0 : Array Value} {Z : State} (hw : W a0 Z) : (Jvm.Cond.code ({ cls := "com/example/tolerant_workflows/tolerantworkflows/model/Task", name := "<init>", desc := "(Ljava/lang/String;ILjava/time/Duration;Ljava/util/Optional;Ljava/util/List;Ljava/util/List;)V" } : Jvm.MethodName) prog_61_method_1_code (7 : Nat) (Option.none : Option Jvm.ClassFile.FieldType)).before a0 Z = true := hw _ (List.mem_of_getElem? (i := 36) rfl)
theorem w37 {a0 : Array Value} {Z : State} (hw : W a0 Z) : (Jvm.Cond.methodLink "com/example/tolerant_workflows/tolerantworkflows/model/Task" (1 : Nat) ({ cls := "java/lang/Record", name := "<init>", desc := "()V" } : Jvm.MethodName)).before a0 Z = true := hw _ (List.mem_of_getElem? (i := 37) rfl)
theorem w38 {a0 : Array Value} {Z : State} (hw : W a0 Z) : (Jvm.Cond.instanceMethod ({ cls := "java/lang/Record", name := "<init>", desc := "()V" } : Jvm.MethodName)).before a0 Z = true := hw _ (List.mem_of_getElem? (i := 38) rfl)
theorem w40 {a0 : Array Value} {Z : State} (hw : W a0 Z) : (Jvm.Cond.initialized "java/lang/Record").before a0 Z = true := hw _ (List.mem_of_getElem? (i := 40) rfl)
theorem w41 {a0 : Array Value} {Z : State} (hw : W a0 Z) : (Jvm.Cond.code ({ cls := "java/lang/Record", name := "<init>", desc := "()V" } : Jvm.MethodName) jdk_30_method_1_code (1 : Nat) (Option.none : Option Jvm.ClassFile.FieldType)).before a0 Z = true := hw _ (List.mem_of_getElem? (i := 41) rfl)
theorem w42 {a0 : Array Value} {Z : State} (hw : W a0 Z) : (Jvm.Cond.methodLink "java/lang/Record" (1 : Nat) ({ cls := "java/lang/Object", name := "<init>", desc := "()V" } : Jvm.MethodName)).before a0 Z = true := hw _ (List.mem_of_getElem? (i := 42) rfl)
theorem w43 {a0 : Array Value} {Z : State} (hw : W a0 Z) : (Jvm.Cond.fieldLink "com/example/tolerant_workflows/tolerantworkflows/model/Task" (7 : Nat) "com/example/tolerant_workflows/tolerantworkflows/model/Task" "id" "Ljava/lang/String;").before a0 Z = true := hw _ (List.mem_of_getElem? (i := 43) rfl)
theorem w44 {a0 : Array Value} {Z : State} (hw : W a0 Z) : (Jvm.Cond.laysFinal "com/example/tolerant_workflows/tolerantworkflows/model/Task" "com/example/tolerant_workflows/tolerantworkflows/model/Task" "id" "Ljava/lang/String;").before a0 Z = true := hw _ (List.mem_of_getElem? (i := 44) rfl)
theorem w45 {a0 : Array Value} {Z : State} (hw : W a0 Z) : (Jvm.Cond.fieldLink "com/example/tolerant_workflows/tolerantworkflows/model/Task" (13 : Nat) "com/example/tolerant_workflows/tolerantworkflows/model/Task" "index" "I").before a0 Z = true := hw _ (List.mem_of_getElem? (i := 45) rfl)
theorem w46 {a0 : Array Value} {Z : State} (hw : W a0 Z) : (Jvm.Cond.laysFinal "com/example/tolerant_workflows/tolerantworkflows/model/Task" "com/example/tolerant_workflows/tolerantworkflows/model/Task" "index" "I").before a0 Z = true := hw _ (List.mem_of_getElem? (i := 46) rfl)
theorem w47 {a0 : Array Value} {Z : State} (hw : W a0 Z) : (Jvm.Cond.fieldLink "com/example/tolerant_workflows/tolerantworkflows/model/Task" (17 : Nat) "com/example/tolerant_workflows/tolerantworkflows/model/Task" "runtime" "Ljava/time/Duration;").before a0 Z = true := hw _ (List.mem_of_getElem? (i := 47) rfl)
theorem w48 {a0 : Array Value} {Z : State} (hw : W a0 Z) : (Jvm.Cond.laysFinal "com/example/tolerant_workflows/tolerantworkflows/model/Task" "com/example/tolerant_workflows/tolerantworkflows/model/Task" "runtime" "Ljava/time/Duration;").before a0 Z = true := hw _ (List.mem_of_getElem? (i := 48) rfl)
theorem w49 {a0 : Array Value} {Z : State} (hw : W a0 Z) : (Jvm.Cond.fieldLink "com/example/tolerant_workflows/tolerantworkflows/model/Task" (21 : Nat) "com/example/tolerant_workflows/tolerantworkflows/model/Task" "command" "Ljava/util/Optional;").before a0 Z = true := hw _ (List.mem_of_getElem? (i := 49) rfl)
theorem w50 {a0 : Array Value} {Z : State} (hw : W a0 Z) : (Jvm.Cond.laysFinal "com/example/tolerant_workflows/tolerantworkflows/model/Task" "com/example/tolerant_workflows/tolerantworkflows/model/Task" "command" "Ljava/util/Optional;").before a0 Z = true := hw _ (List.mem_of_getElem? (i := 50) rfl)
theorem w51 {a0 : Array Value} {Z : State} (hw : W a0 Z) : (Jvm.Cond.fieldLink "com/example/tolerant_workflows/tolerantworkflows/model/Task" (25 : Nat) "com/example/tolerant_workflows/tolerantworkflows/model/Task" "parents" "Ljava/util/List;").before a0 Z = true := hw _ (List.mem_of_getElem? (i := 51) rfl)
theorem w52 {a0 : Array Value} {Z : State} (hw : W a0 Z) : (Jvm.Cond.laysFinal "com/example/tolerant_workflows/tolerantworkflows/model/Task" "com/example/tolerant_workflows/tolerantworkflows/model/Task" "parents" "Ljava/util/List;").before a0 Z = true := hw _ (List.mem_of_getElem? (i := 52) rfl)
theorem w53 {a0 : Array Value} {Z : State} (hw : W a0 Z) : (Jvm.Cond.fieldLink "com/example/tolerant_workflows/tolerantworkflows/model/Task" (29 : Nat) "com/example/tolerant_workflows/tolerantworkflows/model/Task" "children" "Ljava/util/List;").before a0 Z = true := hw _ (List.mem_of_getElem? (i := 53) rfl)
theorem w54 {a0 : Array Value} {Z : State} (hw : W a0 Z) : (Jvm.Cond.laysFinal "com/example/tolerant_workflows/tolerantworkflows/model/Task" "com/example/tolerant_workflows/tolerantworkflows/model/Task" "children" "Ljava/util/List;").before a0 Z = true := hw _ (List.mem_of_getElem? (i := 54) rfl)
theorem w55 {a0 : Array Value} {Z : State} (hw : W a0 Z) : (Jvm.Cond.classLink "com/example/tolerant_workflows/tolerantworkflows/engine/JobFirstPinLaw" (18 : Nat) "java/util/ArrayList").before a0 Z = true := hw _ (List.mem_of_getElem? (i := 55) rfl)
theorem w56 {a0 : Array Value} {Z : State} (hw : W a0 Z) : (Jvm.Cond.instantiable "java/util/ArrayList" (3 : Nat)).before a0 Z = true := hw _ (List.mem_of_getElem? (i := 56) rfl)
theorem w57 {a0 : Array Value} {Z : State} (hw : W a0 Z) : (Jvm.Cond.initialized "java/util/ArrayList").before a0 Z = true := hw _ (List.mem_of_getElem? (i := 57) rfl)
theorem w58 {a0 : Array Value} {Z : State} (hw : W a0 Z) : (Jvm.Cond.methodLink "com/example/tolerant_workflows/tolerantworkflows/engine/JobFirstPinLaw" (20 : Nat) ({ cls := "java/util/ArrayList", name := "<init>", desc := "()V" } : Jvm.MethodName)).before a0 Z = true := hw _ (List.mem_of_getElem? (i := 58) rfl)
theorem w59 {a0 : Array Value} {Z : State} (hw : W a0 Z) : (Jvm.Cond.instanceMethod ({ cls := "java/util/ArrayList", name := "<init>", desc := "()V" } : Jvm.MethodName)).before a0 Z = true := hw _ (List.mem_of_getElem? (i := 59) rfl)
theorem w60 {a0 : Array Value} {Z : State} (hw : W a0 Z) : (Jvm.Cond.code ({ cls := "java/util/ArrayList", name := "<init>", desc := "()V" } : Jvm.MethodName) jdk_38_method_2_code (1 : Nat) (Option.none : Option Jvm.ClassFile.FieldType)).before a0 Z = true := hw _ (List.mem_of_getElem? (i := 60) rfl)
theorem w61 {a0 : Array Value} {Z : State} (hw : W a0 Z) : (Jvm.Cond.methodLink "java/util/ArrayList" (1 : Nat) ({ cls := "java/util/AbstractList", name := "<init>", desc := "()V" } : Jvm.MethodName)).before a0 Z = true := hw _ (List.mem_of_getElem? (i := 61) rfl)
theorem w62 {a0 : Array Value} {Z : State} (hw : W a0 Z) : (Jvm.Cond.instanceMethod ({ cls := "java/util/AbstractList", name := "<init>", desc := "()V" } : Jvm.MethodName)).before a0 Z = true := hw _ (List.mem_of_getElem? (i := 62) rfl)
theorem w65 {a0 : Array Value} {Z : State} (hw : W a0 Z) : (Jvm.Cond.initialized "java/util/AbstractList").before a0 Z = true := hw _ (List.mem_of_getElem? (i := 65) rfl)
theorem w66 {a0 : Array Value} {Z : State} (hw : W a0 Z) : (Jvm.Cond.code ({ cls := "java/util/AbstractList", name := "<init>", desc := "()V" } : Jvm.MethodName) jdk_39_method_1_code (1 : Nat) (Option.none : Option Jvm.ClassFile.FieldType)).before a0 Z = true := hw _ (List.mem_of_getElem? (i := 66) rfl)
theorem w67 {a0 : Array Value} {Z : State} (hw : W a0 Z) : (Jvm.Cond.methodLink "java/util/AbstractList" (1 : Nat) ({ cls := "java/util/AbstractCollection", name := "<init>", desc := "()V" } : Jvm.MethodName)).before a0 Z = true := hw _ (List.mem_of_getElem? (i := 67) rfl)
theorem w68 {a0 : Array Value} {Z : State} (hw : W a0 Z) : (Jvm.Cond.instanceMethod ({ cls := "java/util/AbstractCollection", name := "<init>", desc := "()V" } : Jvm.MethodName)).before a0 Z = true := hw _ (List.mem_of_getElem? (i := 68) rfl)
theorem w71 {a0 : Array Value} {Z : State} (hw : W a0 Z) : (Jvm.Cond.initialized "java/util/AbstractCollection").before a0 Z = true := hw _ (List.mem_of_getElem? (i := 71) rfl)
theorem w72 {a0 : Array Value} {Z : State} (hw : W a0 Z) : (Jvm.Cond.code ({ cls := "java/util/AbstractCollection", name := "<init>", desc := "()V" } : Jvm.MethodName) jdk_22_method_1_code (1 : Nat) (Option.none : Option Jvm.ClassFile.FieldType)).before a0 Z = true := hw _ (List.mem_of_getElem? (i := 72) rfl)
theorem w73 {a0 : Array Value} {Z : State} (hw : W a0 Z) : (Jvm.Cond.methodLink "java/util/AbstractCollection" (1 : Nat) ({ cls := "java/lang/Object", name := "<init>", desc := "()V" } : Jvm.MethodName)).before a0 Z = true := hw _ (List.mem_of_getElem? (i := 73) rfl)
theorem w74 {a0 : Array Value} {Z : State} (hw : W a0 Z) : (Jvm.Cond.fieldLink "java/util/AbstractList" (7 : Nat) "java/util/AbstractList" "modCount" "I").before a0 Z = true := hw _ (List.mem_of_getElem? (i := 74) rfl)
theorem w75 {a0 : Array Value} {Z : State} (hw : W a0 Z) : (Jvm.Cond.lays "java/util/ArrayList" "java/util/AbstractList" "modCount" "I").before a0 Z = true := hw _ (List.mem_of_getElem? (i := 75) rfl)
theorem w76 {a0 : Array Value} {Z : State} (hw : W a0 Z) : (Jvm.Cond.fieldLink "java/util/ArrayList" (39 : Nat) "java/util/ArrayList" "DEFAULTCAPACITY_EMPTY_ELEMENTDATA" "[Ljava/lang/Object;").before a0 Z = true := hw _ (List.mem_of_getElem? (i := 76) rfl)
theorem w77 {a0 : Array Value} {Z : State} (hw : W a0 Z) : (Jvm.Cond.fieldLink "java/util/ArrayList" (9 : Nat) "java/util/ArrayList" "elementData" "[Ljava/lang/Object;").before a0 Z = true := hw _ (List.mem_of_getElem? (i := 77) rfl)
theorem w78 {a0 : Array Value} {Z : State} (hw : W a0 Z) : (Jvm.Cond.lays "java/util/ArrayList" "java/util/ArrayList" "elementData" "[Ljava/lang/Object;").before a0 Z = true := hw _ (List.mem_of_getElem? (i := 78) rfl)
theorem w79 {a0 : Array Value} {Z : State} (hw : W a0 Z) : (Jvm.Cond.methodLink "com/example/tolerant_workflows/tolerantworkflows/engine/JobFirstPinLaw" (21 : Nat) ({ cls := "java/util/List", name := "add", desc := "(Ljava/lang/Object;)Z" } : Jvm.MethodName)).before a0 Z = true := hw _ (List.mem_of_getElem? (i := 79) rfl)
theorem w80 {a0 : Array Value} {Z : State} (hw : W a0 Z) : (Jvm.Cond.declares ({ cls := "java/util/List", name := "add", desc := "(Ljava/lang/Object;)Z" } : Jvm.MethodName)).before a0 Z = true := hw _ (List.mem_of_getElem? (i := 80) rfl)
theorem w81 {a0 : Array Value} {Z : State} (hw : W a0 Z) : (Jvm.Cond.interfaceMethod "java/util/List" "java/util/List" "add" "(Ljava/lang/Object;)Z").before a0 Z = true := hw _ (List.mem_of_getElem? (i := 81) rfl)
theorem w82 {a0 : Array Value} {Z : State} (hw : W a0 Z) : (Jvm.Cond.selects "java/util/ArrayList" ({ cls := "java/util/List", name := "add", desc := "(Ljava/lang/Object;)Z" } : Jvm.MethodName) ({ cls := "java/util/ArrayList", name := "add", desc := "(Ljava/lang/Object;)Z" } : Jvm.MethodName)).before a0 Z = true := hw _ (List.mem_of_getElem? (i := 82) rfl)
theorem w83 {a0 : Array Value} {Z : State} (hw : W a0 Z) : (Jvm.Cond.instanceMethod ({ cls := "java/util/ArrayList", name := "add", desc := "(Ljava/lang/Object;)Z" } : Jvm.MethodName)).before a0 Z = true := hw _ (List.mem_of_getElem? (i := 83) rfl)
theorem w84 {a0 : Array Value} {Z : State} (hw : W a0 Z) : (Jvm.Cond.publicMethod ({ cls := "java/util/ArrayList", name := "add", desc := "(Ljava/lang/Object;)Z" } : Jvm.MethodName)).before a0 Z = true := hw _ (List.mem_of_getElem? (i := 84) rfl)
theorem w85 {a0 : Array Value} {Z : State} (hw : W a0 Z) : (Jvm.Cond.unhidden "java/util/ArrayList" "add" "(Ljava/lang/Object;)Z").before a0 Z = true := hw _ (List.mem_of_getElem? (i := 85) rfl)
theorem w86 {a0 : Array Value} {Z : State} (hw : W a0 Z) : (Jvm.Cond.castable "java/util/ArrayList" "java/util/List").before a0 Z = true := hw _ (List.mem_of_getElem? (i := 86) rfl)
theorem w87 {a0 : Array Value} {Z : State} (hw : W a0 Z) : (Jvm.Cond.code ({ cls := "java/util/ArrayList", name := "add", desc := "(Ljava/lang/Object;)Z" } : Jvm.MethodName) jdk_38_method_25_code (2 : Nat) (Option.some Jvm.ClassFile.FieldType.boolean)).before a0 Z = true := hw _ (List.mem_of_getElem? (i := 87) rfl)
theorem w88 {a0 : Array Value} {Z : State} (hw : W a0 Z) : (Jvm.Cond.fieldLink "java/util/ArrayList" (63 : Nat) "java/util/ArrayList" "modCount" "I").before a0 Z = true := hw _ (List.mem_of_getElem? (i := 88) rfl)
theorem w89 {a0 : Array Value} {Z : State} (hw : W a0 Z) : (Jvm.Cond.sameField "java/util/ArrayList" "java/util/AbstractList" "modCount" "I").before a0 Z = true := hw _ (List.mem_of_getElem? (i := 89) rfl)
theorem w90 {a0 : Array Value} {Z : State} (hw : W a0 Z) : (Jvm.Cond.fieldLink "java/util/ArrayList" (48 : Nat) "java/util/ArrayList" "size" "I").before a0 Z = true := hw _ (List.mem_of_getElem? (i := 90) rfl)
theorem w91 {a0 : Array Value} {Z : State} (hw : W a0 Z) : (Jvm.Cond.lays "java/util/ArrayList" "java/util/ArrayList" "size" "I").before a0 Z = true := hw _ (List.mem_of_getElem? (i := 91) rfl)
theorem w92 {a0 : Array Value} {Z : State} (hw : W a0 Z) : (Jvm.Cond.methodLink "java/util/ArrayList" (131 : Nat) ({ cls := "java/util/ArrayList", name := "add", desc := "(Ljava/lang/Object;[Ljava/lang/Object;I)V" } : Jvm.MethodName)).before a0 Z = true := hw _ (List.mem_of_getElem? (i := 92) rfl)
theorem w93 {a0 : Array Value} {Z : State} (hw : W a0 Z) : (Jvm.Cond.instanceMethod ({ cls := "java/util/ArrayList", name := "add", desc := "(Ljava/lang/Object;[Ljava/lang/Object;I)V" } : Jvm.MethodName)).before a0 Z = true := hw _ (List.mem_of_getElem? (i := 93) rfl)
theorem w94 {a0 : Array Value} {Z : State} (hw : W a0 Z) : (Jvm.Cond.privateMethod ({ cls := "java/util/ArrayList", name := "add", desc := "(Ljava/lang/Object;[Ljava/lang/Object;I)V" } : Jvm.MethodName)).before a0 Z = true := hw _ (List.mem_of_getElem? (i := 94) rfl)
theorem w95 {a0 : Array Value} {Z : State} (hw : W a0 Z) : (Jvm.Cond.selects "java/util/ArrayList" ({ cls := "java/util/ArrayList", name := "add", desc := "(Ljava/lang/Object;[Ljava/lang/Object;I)V" } : Jvm.MethodName) ({ cls := "java/util/ArrayList", name := "add", desc := "(Ljava/lang/Object;[Ljava/lang/Object;I)V" } : Jvm.MethodName)).before a0 Z = true := hw _ (List.mem_of_getElem? (i := 95) rfl)
theorem w96 {a0 : Array Value} {Z : State} (hw : W a0 Z) : (Jvm.Cond.code ({ cls := "java/util/ArrayList", name := "add", desc := "(Ljava/lang/Object;[Ljava/lang/Object;I)V" } : Jvm.MethodName) jdk_38_method_24_code (4 : Nat) (Option.none : Option Jvm.ClassFile.FieldType)).before a0 Z = true := hw _ (List.mem_of_getElem? (i := 96) rfl)
theorem w97 {a0 : Array Value} {Z : State} (hw : W a0 Z) : (Jvm.Cond.methodLink "java/util/ArrayList" (129 : Nat) ({ cls := "java/util/ArrayList", name := "grow", desc := "()[Ljava/lang/Object;" } : Jvm.MethodName)).before a0 Z = true := hw _ (List.mem_of_getElem? (i := 97) rfl)
theorem w98 {a0 : Array Value} {Z : State} (hw : W a0 Z) : (Jvm.Cond.instanceMethod ({ cls := "java/util/ArrayList", name := "grow", desc := "()[Ljava/lang/Object;" } : Jvm.MethodName)).before a0 Z = true := hw _ (List.mem_of_getElem? (i := 98) rfl)
theorem w99 {a0 : Array Value} {Z : State} (hw : W a0 Z) : (Jvm.Cond.privateMethod ({ cls := "java/util/ArrayList", name := "grow", desc := "()[Ljava/lang/Object;" } : Jvm.MethodName)).before a0 Z = true := hw _ (List.mem_of_getElem? (i := 99) rfl)
theorem w100 {a0 : Array Value} {Z : State} (hw : W a0 Z) : (Jvm.Cond.selects "java/util/ArrayList" ({ cls := "java/util/ArrayList", name := "grow", desc := "()[Ljava/lang/Object;" } : Jvm.MethodName) ({ cls := "java/util/ArrayList", name := "grow", desc := "()[Ljava/lang/Object;" } : Jvm.MethodName)).before a0 Z = true := hw _ (List.mem_of_getElem? (i := 100) rfl)
theorem w101 {a0 : Array Value} {Z : State} (hw : W a0 Z) : (Jvm.Cond.code ({ cls := "java/util/ArrayList", name := "grow", desc := "()[Ljava/lang/Object;" } : Jvm.MethodName) jdk_38_method_7_code (1 : Nat) (Option.some (Jvm.ClassFile.FieldType.array (Jvm.ClassFile.FieldType.object "java/lang/Object")))).before a0 Z = true := hw _ (List.mem_of_getElem? (i := 101) rfl)
theorem w102 {a0 : Array Value} {Z : State} (hw : W a0 Z) : (Jvm.Cond.methodLink "java/util/ArrayList" (69 : Nat) ({ cls := "java/util/ArrayList", name := "grow", desc := "(I)[Ljava/lang/Object;" } : Jvm.MethodName)).before a0 Z = true := hw _ (List.mem_of_getElem? (i := 102) rfl)
theorem w103 {a0 : Array Value} {Z : State} (hw : W a0 Z) : (Jvm.Cond.instanceMethod ({ cls := "java/util/ArrayList", name := "grow", desc := "(I)[Ljava/lang/Object;" } : Jvm.MethodName)).before a0 Z = true := hw _ (List.mem_of_getElem? (i := 103) rfl)
theorem w104 {a0 : Array Value} {Z : State} (hw : W a0 Z) : (Jvm.Cond.privateMethod ({ cls := "java/util/ArrayList", name := "grow", desc := "(I)[Ljava/lang/Object;" } : Jvm.MethodName)).before a0 Z = true := hw _ (List.mem_of_getElem? (i := 104) rfl)
theorem w105 {a0 : Array Value} {Z : State} (hw : W a0 Z) : (Jvm.Cond.selects "java/util/ArrayList" ({ cls := "java/util/ArrayList", name := "grow", desc := "(I)[Ljava/lang/Object;" } : Jvm.MethodName) ({ cls := "java/util/ArrayList", name := "grow", desc := "(I)[Ljava/lang/Object;" } : Jvm.MethodName)).before a0 Z = true := hw _ (List.mem_of_getElem? (i := 105) rfl)
theorem w106 {a0 : Array Value} {Z : State} (hw : W a0 Z) : (Jvm.Cond.code ({ cls := "java/util/ArrayList", name := "grow", desc := "(I)[Ljava/lang/Object;" } : Jvm.MethodName) jdk_38_method_6_code (4 : Nat) (Option.some (Jvm.ClassFile.FieldType.array (Jvm.ClassFile.FieldType.object "java/lang/Object")))).before a0 Z = true := hw _ (List.mem_of_getElem? (i := 106) rfl)
theorem w107 {a0 : Array Value} {Z : State} (hw : W a0 Z) : (Jvm.Cond.methodLink "java/util/ArrayList" (79 : Nat) ({ cls := "java/lang/Math", name := "max", desc := "(II)I" } : Jvm.MethodName)).before a0 Z = true := hw _ (List.mem_of_getElem? (i := 107) rfl)
theorem w108 {a0 : Array Value} {Z : State} (hw : W a0 Z) : (Jvm.Cond.static ({ cls := "java/lang/Math", name := "max", desc := "(II)I" } : Jvm.MethodName)).before a0 Z = true := hw _ (List.mem_of_getElem? (i := 108) rfl)
theorem w109 {a0 : Array Value} {Z : State} (hw : W a0 Z) : (Jvm.Cond.initialized "java/lang/Math").before a0 Z = true := hw _ (List.mem_of_getElem? (i := 109) rfl)
theorem w110 {a0 : Array Value} {Z : State} (hw : W a0 Z) : (Jvm.Cond.code ({ cls := "java/lang/Math", name := "max", desc := "(II)I" } : Jvm.MethodName) jdk_29_method_65_code (2 : Nat) (Option.some Jvm.ClassFile.FieldType.int)).before a0 Z = true := hw _ (List.mem_of_getElem? (i := 110) rfl)
theorem w111 {a0 : Array Value} {Z : State} (hw : W a0 Z) : (Jvm.Cond.classLink "java/util/ArrayList" (7 : Nat) "java/lang/Object").before a0 Z = true := hw _ (List.mem_of_getElem? (i := 111) rfl)
theorem w112 {a0 : Array Value} {Z : State} (hw : W a0 Z) : (Jvm.Cond.arrayOver (Jvm.ClassFile.FieldType.object "java/lang/Object")).before a0 Z = true := hw _ (List.mem_of_getElem? (i := 112) rfl)
theorem w113 {a0 : Array Value} {Z : State} (hw : W a0 Z) : (Jvm.Cond.castable "com/example/tolerant_workflows/tolerantworkflows/model/Task" "java/lang/Object").before a0 Z = true := hw _ (List.mem_of_getElem? (i := 113) rfl)
theorem w114 {a0 : Array Value} {Z : State} (hw : W a0 Z) : (Jvm.Cond.classLink "com/example/tolerant_workflows/tolerantworkflows/engine/JobFirstPinLaw" (27 : Nat) "com/example/tolerant_workflows/tolerantworkflows/engine/Job").before a0 Z = true := hw _ (List.mem_of_getElem? (i := 114) rfl)
theorem w115 {a0 : Array Value} {Z : State} (hw : W a0 Z) : (Jvm.Cond.instantiable "com/example/tolerant_workflows/tolerantworkflows/engine/Job" (1 : Nat)).before a0 Z = true := hw _ (List.mem_of_getElem? (i := 115) rfl)
theorem w116 {a0 : Array Value} {Z : State} (hw : W a0 Z) : (Jvm.Cond.initialized "com/example/tolerant_workflows/tolerantworkflows/engine/Job").before a0 Z = true := hw _ (List.mem_of_getElem? (i := 116) rfl)
theorem w117 {a0 : Array Value} {Z : State} (hw : W a0 Z) : (Jvm.Cond.methodLink "com/example/tolerant_workflows/tolerantworkflows/engine/JobFirstPinLaw" (29 : Nat) ({ cls := "com/example/tolerant_workflows/tolerantworkflows/engine/Job", name := "<init>", desc := "(Ljava/util/List;)V" } : Jvm.MethodName)).before a0 Z = true := hw _ (List.mem_of_getElem? (i := 117) rfl)
theorem w118 {a0 : Array Value} {Z : State} (hw : W a0 Z) : (Jvm.Cond.instanceMethod ({ cls := "com/example/tolerant_workflows/tolerantworkflows/engine/Job", name := "<init>", desc := "(Ljava/util/List;)V" } : Jvm.MethodName)).before a0 Z = true := hw _ (List.mem_of_getElem? (i := 118) rfl)
theorem w119 {a0 : Array Value} {Z : State} (hw : W a0 Z) : (Jvm.Cond.code ({ cls := "com/example/tolerant_workflows/tolerantworkflows/engine/Job", name := "<init>", desc := "(Ljava/util/List;)V" } : Jvm.MethodName) prog_4_method_1_code (2 : Nat) (Option.none : Option Jvm.ClassFile.FieldType)).before a0 Z = true := hw _ (List.mem_of_getElem? (i := 119) rfl)
theorem w120 {a0 : Array Value} {Z : State} (hw : W a0 Z) : (Jvm.Cond.methodLink "com/example/tolerant_workflows/tolerantworkflows/engine/Job" (1 : Nat) ({ cls := "java/lang/Record", name := "<init>", desc := "()V" } : Jvm.MethodName)).before a0 Z = true := hw _ (List.mem_of_getElem? (i := 120) rfl)
theorem w121 {a0 : Array Value} {Z : State} (hw : W a0 Z) : (Jvm.Cond.methodLink "com/example/tolerant_workflows/tolerantworkflows/engine/Job" (7 : Nat) ({ cls := "java/util/List", name := "isEmpty", desc := "()Z" } : Jvm.MethodName)).before a0 Z = true := hw _ (List.mem_of_getElem? (i := 121) rfl)
theorem w122 {a0 : Array Value} {Z : State} (hw : W a0 Z) : (Jvm.Cond.declares ({ cls := "java/util/List", name := "isEmpty", desc := "()Z" } : Jvm.MethodName)).before a0 Z = true := hw _ (List.mem_of_getElem? (i := 122) rfl)
theorem w123 {a0 : Array Value} {Z : State} (hw : W a0 Z) : (Jvm.Cond.interfaceMethod "java/util/List" "java/util/List" "isEmpty" "()Z").before a0 Z = true := hw _ (List.mem_of_getElem? (i := 123) rfl)
theorem w124 {a0 : Array Value} {Z : State} (hw : W a0 Z) : (Jvm.Cond.selects "java/util/ArrayList" ({ cls := "java/util/List", name := "isEmpty", desc := "()Z" } : Jvm.MethodName) ({ cls := "java/util/ArrayList", name := "isEmpty", desc := "()Z" } : Jvm.MethodName)).before a0 Z = true := hw _ (List.mem_of_getElem? (i := 124) rfl)
theorem w125 {a0 : Array Value} {Z : State} (hw : W a0 Z) : (Jvm.Cond.instanceMethod ({ cls := "java/util/ArrayList", name := "isEmpty", desc := "()Z" } : Jvm.MethodName)).before a0 Z = true := hw _ (List.mem_of_getElem? (i := 125) rfl)
theorem w126 {a0 : Array Value} {Z : State} (hw : W a0 Z) : (Jvm.Cond.publicMethod ({ cls := "java/util/ArrayList", name := "isEmpty", desc := "()Z" } : Jvm.MethodName)).before a0 Z = true := hw _ (List.mem_of_getElem? (i := 126) rfl)
theorem w127 {a0 : Array Value} {Z : State} (hw : W a0 Z) : (Jvm.Cond.unhidden "java/util/ArrayList" "isEmpty" "()Z").before a0 Z = true := hw _ (List.mem_of_getElem? (i := 127) rfl)
theorem w128 {a0 : Array Value} {Z : State} (hw : W a0 Z) : (Jvm.Cond.code ({ cls := "java/util/ArrayList", name := "isEmpty", desc := "()Z" } : Jvm.MethodName) jdk_38_method_9_code (1 : Nat) (Option.some Jvm.ClassFile.FieldType.boolean)).before a0 Z = true := hw _ (List.mem_of_getElem? (i := 128) rfl)
theorem w129 {a0 : Array Value} {Z : State} (hw : W a0 Z) : (Jvm.Cond.methodLink "com/example/tolerant_workflows/tolerantworkflows/engine/Job" (20 : Nat) ({ cls := "java/util/List", name := "copyOf", desc := "(Ljava/util/Collection;)Ljava/util/List;" } : Jvm.MethodName)).before a0 Z = true := hw _ (List.mem_of_getElem? (i := 129) rfl)
theorem w130 {a0 : Array Value} {Z : State} (hw : W a0 Z) : (Jvm.Cond.static ({ cls := "java/util/List", name := "copyOf", desc := "(Ljava/util/Collection;)Ljava/util/List;" } : Jvm.MethodName)).before a0 Z = true := hw _ (List.mem_of_getElem? (i := 130) rfl)
theorem w131 {a0 : Array Value} {Z : State} (hw : W a0 Z) : (Jvm.Cond.initialized "java/util/List").before a0 Z = true := hw _ (List.mem_of_getElem? (i := 131) rfl)
theorem w132 {a0 : Array Value} {Z : State} (hw : W a0 Z) : (Jvm.Cond.code ({ cls := "java/util/List", name := "copyOf", desc := "(Ljava/util/Collection;)Ljava/util/List;" } : Jvm.MethodName) jdk_40_method_48_code (1 : Nat) (Option.some (Jvm.ClassFile.FieldType.object "java/util/List"))).before a0 Z = true := hw _ (List.mem_of_getElem? (i := 132) rfl)
theorem w133 {a0 : Array Value} {Z : State} (hw : W a0 Z) : (Jvm.Cond.methodLink "java/util/List" (112 : Nat) ({ cls := "java/util/ImmutableCollections", name := "listCopy", desc := "(Ljava/util/Collection;)Ljava/util/List;" } : Jvm.MethodName)).before a0 Z = true := hw _ (List.mem_of_getElem? (i := 133) rfl)
theorem w134 {a0 : Array Value} {Z : State} (hw : W a0 Z) : (Jvm.Cond.static ({ cls := "java/util/ImmutableCollections", name := "listCopy", desc := "(Ljava/util/Collection;)Ljava/util/List;" } : Jvm.MethodName)).before a0 Z = true := hw _ (List.mem_of_getElem? (i := 134) rfl)
theorem w135 {a0 : Array Value} {Z : State} (hw : W a0 Z) : (Jvm.Cond.initialized "java/util/ImmutableCollections").before a0 Z = true := hw _ (List.mem_of_getElem? (i := 135) rfl)
theorem w136 {a0 : Array Value} {Z : State} (hw : W a0 Z) : (Jvm.Cond.code ({ cls := "java/util/ImmutableCollections", name := "listCopy", desc := "(Ljava/util/Collection;)Ljava/util/List;" } : Jvm.MethodName) jdk_56_method_3_code (2 : Nat) (Option.some (Jvm.ClassFile.FieldType.object "java/util/List"))).before a0 Z = true := hw _ (List.mem_of_getElem? (i := 136) rfl)
theorem w137 {a0 : Array Value} {Z : State} (hw : W a0 Z) : (Jvm.Cond.classLink "java/util/ImmutableCollections" (10 : Nat) "java/util/ImmutableCollections$List12").before a0 Z = true := hw _ (List.mem_of_getElem? (i := 137) rfl)
theorem w138 {a0 : Array Value} {Z : State} (hw : W a0 Z) : (Jvm.Cond.superclass "java/util/ArrayList" "java/util/AbstractList").before a0 Z = true := hw _ (List.mem_of_getElem? (i := 138) rfl)
theorem w139 {a0 : Array Value} {Z : State} (hw : W a0 Z) : (Jvm.Cond.superclass "java/util/AbstractList" "java/util/AbstractCollection").before a0 Z = true := hw _ (List.mem_of_getElem? (i := 139) rfl)
theorem w140 {a0 : Array Value} {Z : State} (hw : W a0 Z) : (Jvm.Cond.superclass "java/util/AbstractCollection" "java/lang/Object").before a0 Z = true := hw _ (List.mem_of_getElem? (i := 140) rfl)
theorem w141 {a0 : Array Value} {Z : State} (hw : W a0 Z) : (Jvm.Cond.noSuperclass "java/lang/Object").before a0 Z = true := hw _ (List.mem_of_getElem? (i := 141) rfl)
theorem w142 {a0 : Array Value} {Z : State} (hw : W a0 Z) : (Jvm.Cond.classLink "java/util/ImmutableCollections" (12 : Nat) "java/util/ImmutableCollections$ListN").before a0 Z = true := hw _ (List.mem_of_getElem? (i := 142) rfl)
theorem w143 {a0 : Array Value} {Z : State} (hw : W a0 Z) : (Jvm.Cond.methodLink "java/util/ImmutableCollections" (20 : Nat) ({ cls := "java/util/Collection", name := "isEmpty", desc := "()Z" } : Jvm.MethodName)).before a0 Z = true := hw _ (List.mem_of_getElem? (i := 143) rfl)
theorem w144 {a0 : Array Value} {Z : State} (hw : W a0 Z) : (Jvm.Cond.declares ({ cls := "java/util/Collection", name := "isEmpty", desc := "()Z" } : Jvm.MethodName)).before a0 Z = true := hw _ (List.mem_of_getElem? (i := 144) rfl)
theorem w145 {a0 : Array Value} {Z : State} (hw : W a0 Z) : (Jvm.Cond.interfaceMethod "java/util/Collection" "java/util/Collection" "isEmpty" "()Z").before a0 Z = true := hw _ (List.mem_of_getElem? (i := 145) rfl)
theorem w146 {a0 : Array Value} {Z : State} (hw : W a0 Z) : (Jvm.Cond.selects "java/util/ArrayList" ({ cls := "java/util/Collection", name := "isEmpty", desc := "()Z" } : Jvm.MethodName) ({ cls := "java/util/ArrayList", name := "isEmpty", desc := "()Z" } : Jvm.MethodName)).before a0 Z = true := hw _ (List.mem_of_getElem? (i := 146) rfl)
theorem w147 {a0 : Array Value} {Z : State} (hw : W a0 Z) : (Jvm.Cond.castable "java/util/ArrayList" "java/util/Collection").before a0 Z = true := hw _ (List.mem_of_getElem? (i := 147) rfl)
theorem w148 {a0 : Array Value} {Z : State} (hw : W a0 Z) : (Jvm.Cond.methodLink "java/util/ImmutableCollections" (30 : Nat) ({ cls := "java/util/Collection", name := "toArray", desc := "()[Ljava/lang/Object;" } : Jvm.MethodName)).before a0 Z = true := hw _ (List.mem_of_getElem? (i := 148) rfl)
theorem w149 {a0 : Array Value} {Z : State} (hw : W a0 Z) : (Jvm.Cond.declares ({ cls := "java/util/Collection", name := "toArray", desc := "()[Ljava/lang/Object;" } : Jvm.MethodName)).before a0 Z = true := hw _ (List.mem_of_getElem? (i := 149) rfl)
theorem w150 {a0 : Array Value} {Z : State} (hw : W a0 Z) : (Jvm.Cond.interfaceMethod "java/util/Collection" "java/util/Collection" "toArray" "()[Ljava/lang/Object;").before a0 Z = true := hw _ (List.mem_of_getElem? (i := 150) rfl)
theorem w151 {a0 : Array Value} {Z : State} (hw : W a0 Z) : (Jvm.Cond.selects "java/util/ArrayList" ({ cls := "java/util/Collection", name := "toArray", desc := "()[Ljava/lang/Object;" } : Jvm.MethodName) ({ cls := "java/util/ArrayList", name := "toArray", desc := "()[Ljava/lang/Object;" } : Jvm.MethodName)).before a0 Z = true := hw _ (List.mem_of_getElem? (i := 151) rfl)
theorem w152 {a0 : Array Value} {Z : State} (hw : W a0 Z) : (Jvm.Cond.instanceMethod ({ cls := "java/util/ArrayList", name := "toArray", desc := "()[Ljava/lang/Object;" } : Jvm.MethodName)).before a0 Z = true := hw _ (List.mem_of_getElem? (i := 152) rfl)
theorem w153 {a0 : Array Value} {Z : State} (hw : W a0 Z) : (Jvm.Cond.publicMethod ({ cls := "java/util/ArrayList", name := "toArray", desc := "()[Ljava/lang/Object;" } : Jvm.MethodName)).before a0 Z = true := hw _ (List.mem_of_getElem? (i := 153) rfl)
theorem w154 {a0 : Array Value} {Z : State} (hw : W a0 Z) : (Jvm.Cond.unhidden "java/util/ArrayList" "toArray" "()[Ljava/lang/Object;").before a0 Z = true := hw _ (List.mem_of_getElem? (i := 154) rfl)
theorem w155 {a0 : Array Value} {Z : State} (hw : W a0 Z) : (Jvm.Cond.code ({ cls := "java/util/ArrayList", name := "toArray", desc := "()[Ljava/lang/Object;" } : Jvm.MethodName) jdk_38_method_16_code (1 : Nat) (Option.some (Jvm.ClassFile.FieldType.array (Jvm.ClassFile.FieldType.object "java/lang/Object")))).before a0 Z = true := hw _ (List.mem_of_getElem? (i := 155) rfl)
theorem w156 {a0 : Array Value} {Z : State} (hw : W a0 Z) : (Jvm.Cond.methodLink "java/util/ArrayList" (66 : Nat) ({ cls := "java/util/Arrays", name := "copyOf", desc := "([Ljava/lang/Object;I)[Ljava/lang/Object;" } : Jvm.MethodName)).before a0 Z = true := hw _ (List.mem_of_getElem? (i := 156) rfl)
theorem w157 {a0 : Array Value} {Z : State} (hw : W a0 Z) : (Jvm.Cond.static ({ cls := "java/util/Arrays", name := "copyOf", desc := "([Ljava/lang/Object;I)[Ljava/lang/Object;" } : Jvm.MethodName)).before a0 Z = true := hw _ (List.mem_of_getElem? (i := 157) rfl)
theorem w158 {a0 : Array Value} {Z : State} (hw : W a0 Z) : (Jvm.Cond.initialized "java/util/Arrays").before a0 Z = true := hw _ (List.mem_of_getElem? (i := 158) rfl)
theorem w159 {a0 : Array Value} {Z : State} (hw : W a0 Z) : (Jvm.Cond.code ({ cls := "java/util/Arrays", name := "copyOf", desc := "([Ljava/lang/Object;I)[Ljava/lang/Object;" } : Jvm.MethodName) jdk_65_method_119_code (2 : Nat) (Option.some (Jvm.ClassFile.FieldType.array (Jvm.ClassFile.FieldType.object "java/lang/Object")))).before a0 Z = true := hw _ (List.mem_of_getElem? (i := 159) rfl)
theorem w160 {a0 : Array Value} {Z : State} (hw : W a0 Z) : (Jvm.Cond.methodLink "java/util/Arrays" (86 : Nat) ({ cls := "java/lang/Object", name := "getClass", desc := "()Ljava/lang/Class;" } : Jvm.MethodName)).before a0 Z = true := hw _ (List.mem_of_getElem? (i := 160) rfl)
theorem w161 {a0 : Array Value} {Z : State} (hw : W a0 Z) : (Jvm.Cond.declares ({ cls := "java/lang/Object", name := "getClass", desc := "()Ljava/lang/Class;" } : Jvm.MethodName)).before a0 Z = true := hw _ (List.mem_of_getElem? (i := 161) rfl)
theorem w162 {a0 : Array Value} {Z : State} (hw : W a0 Z) : (Jvm.Cond.instanceMethod ({ cls := "java/lang/Object", name := "getClass", desc := "()Ljava/lang/Class;" } : Jvm.MethodName)).before a0 Z = true := hw _ (List.mem_of_getElem? (i := 162) rfl)
theorem w163 {a0 : Array Value} {Z : State} (hw : W a0 Z) : (Jvm.Cond.selects "[Ljava/lang/Object;" ({ cls := "java/lang/Object", name := "getClass", desc := "()Ljava/lang/Class;" } : Jvm.MethodName) ({ cls := "java/lang/Object", name := "getClass", desc := "()Ljava/lang/Class;" } : Jvm.MethodName)).before a0 Z = true := hw _ (List.mem_of_getElem? (i := 163) rfl)
theorem w164 {a0 : Array Value} {Z : State} (hw : W a0 Z) : (Jvm.Cond.native ({ cls := "java/lang/Object", name := "getClass", desc := "()Ljava/lang/Class;" } : Jvm.MethodName)).before a0 Z = true := hw _ (List.mem_of_getElem? (i := 164) rfl)
theorem w166 {a0 : Array Value} {Z : State} (hw : W a0 Z) : (Jvm.Cond.methodLink "java/util/Arrays" (300 : Nat) ({ cls := "java/util/Arrays", name := "copyOf", desc := "([Ljava/lang/Object;ILjava/lang/Class;)[Ljava/lang/Object;" } : Jvm.MethodName)).before a0 Z = true := hw _ (List.mem_of_getElem? (i := 166) rfl)
theorem w167 {a0 : Array Value} {Z : State} (hw : W a0 Z) : (Jvm.Cond.static ({ cls := "java/util/Arrays", name := "copyOf", desc := "([Ljava/lang/Object;ILjava/lang/Class;)[Ljava/lang/Object;" } : Jvm.MethodName)).before a0 Z = true := hw _ (List.mem_of_getElem? (i := 167) rfl)
theorem w168 {a0 : Array Value} {Z : State} (hw : W a0 Z) : (Jvm.Cond.code ({ cls := "java/util/Arrays", name := "copyOf", desc := "([Ljava/lang/Object;ILjava/lang/Class;)[Ljava/lang/Object;" } : Jvm.MethodName) jdk_65_method_120_code (4 : Nat) (Option.some (Jvm.ClassFile.FieldType.array (Jvm.ClassFile.FieldType.object "java/lang/Object")))).before a0 Z = true := hw _ (List.mem_of_getElem? (i := 168) rfl)
theorem w169 {a0 : Array Value} {Z : State} (hw : W a0 Z) : (Jvm.Cond.classLink "java/util/Arrays" (110 : Nat) "[Ljava/lang/Object;").before a0 Z = true := hw _ (List.mem_of_getElem? (i := 169) rfl)
theorem w170 {a0 : Array Value} {Z : State} (hw : W a0 Z) : (Jvm.Cond.classLink "java/util/Arrays" (2 : Nat) "java/lang/Object").before a0 Z = true := hw _ (List.mem_of_getElem? (i := 170) rfl)
theorem w171 {a0 : Array Value} {Z : State} (hw : W a0 Z) : (Jvm.Cond.methodLink "java/util/Arrays" (304 : Nat) ({ cls := "java/lang/Math", name := "min", desc := "(II)I" } : Jvm.MethodName)).before a0 Z = true := hw _ (List.mem_of_getElem? (i := 171) rfl)
theorem w172 {a0 : Array Value} {Z : State} (hw : W a0 Z) : (Jvm.Cond.static ({ cls := "java/lang/Math", name := "min", desc := "(II)I" } : Jvm.MethodName)).before a0 Z = true := hw _ (List.mem_of_getElem? (i := 172) rfl)
theorem w173 {a0 : Array Value} {Z : State} (hw : W a0 Z) : (Jvm.Cond.code ({ cls := "java/lang/Math", name := "min", desc := "(II)I" } : Jvm.MethodName) jdk_29_method_69_code (2 : Nat) (Option.some Jvm.ClassFile.FieldType.int)).before a0 Z = true := hw _ (List.mem_of_getElem? (i := 173) rfl)
theorem w174 {a0 : Array Value} {Z : State} (hw : W a0 Z) : (Jvm.Cond.methodLink "java/util/Arrays" (150 : Nat) ({ cls := "java/lang/System", name := "arraycopy", desc := "(Ljava/lang/Object;ILjava/lang/Object;II)V" } : Jvm.MethodName)).before a0 Z = true := hw _ (List.mem_of_getElem? (i := 174) rfl)
theorem w175 {a0 : Array Value} {Z : State} (hw : W a0 Z) : (Jvm.Cond.static ({ cls := "java/lang/System", name := "arraycopy", desc := "(Ljava/lang/Object;ILjava/lang/Object;II)V" } : Jvm.MethodName)).before a0 Z = true := hw _ (List.mem_of_getElem? (i := 175) rfl)
theorem w176 {a0 : Array Value} {Z : State} (hw : W a0 Z) : (Jvm.Cond.initialized "java/lang/System").before a0 Z = true := hw _ (List.mem_of_getElem? (i := 176) rfl)
theorem w177 {a0 : Array Value} {Z : State} (hw : W a0 Z) : (Jvm.Cond.native ({ cls := "java/lang/System", name := "arraycopy", desc := "(Ljava/lang/Object;ILjava/lang/Object;II)V" } : Jvm.MethodName)).before a0 Z = true := hw _ (List.mem_of_getElem? (i := 177) rfl)
theorem w178 {a0 : Array Value} {Z : State} (hw : W a0 Z) : (Jvm.Cond.methodLink "java/util/ImmutableCollections" (34 : Nat) ({ cls := "java/util/List", name := "of", desc := "([Ljava/lang/Object;)Ljava/util/List;" } : Jvm.MethodName)).before a0 Z = true := hw _ (List.mem_of_getElem? (i := 178) rfl)
theorem w179 {a0 : Array Value} {Z : State} (hw : W a0 Z) : (Jvm.Cond.static ({ cls := "java/util/List", name := "of", desc := "([Ljava/lang/Object;)Ljava/util/List;" } : Jvm.MethodName)).before a0 Z = true := hw _ (List.mem_of_getElem? (i := 179) rfl)
theorem w180 {a0 : Array Value} {Z : State} (hw : W a0 Z) : (Jvm.Cond.code ({ cls := "java/util/List", name := "of", desc := "([Ljava/lang/Object;)Ljava/util/List;" } : Jvm.MethodName) jdk_40_method_47_code (2 : Nat) (Option.some (Jvm.ClassFile.FieldType.object "java/util/List"))).before a0 Z = true := hw _ (List.mem_of_getElem? (i := 180) rfl)
theorem w181 {a0 : Array Value} {Z : State} (hw : W a0 Z) : (Jvm.Cond.classLink "java/util/List" (96 : Nat) "java/util/ImmutableCollections$List12").before a0 Z = true := hw _ (List.mem_of_getElem? (i := 181) rfl)
theorem w182 {a0 : Array Value} {Z : State} (hw : W a0 Z) : (Jvm.Cond.instantiable "java/util/ImmutableCollections$List12" (2 : Nat)).before a0 Z = true := hw _ (List.mem_of_getElem? (i := 182) rfl)
theorem w183 {a0 : Array Value} {Z : State} (hw : W a0 Z) : (Jvm.Cond.initialized "java/util/ImmutableCollections$List12").before a0 Z = true := hw _ (List.mem_of_getElem? (i := 183) rfl)
theorem w184 {a0 : Array Value} {Z : State} (hw : W a0 Z) : (Jvm.Cond.methodLink "java/util/List" (100 : Nat) ({ cls := "java/util/ImmutableCollections$List12", name := "<init>", desc := "(Ljava/lang/Object;Ljava/lang/Object;)V" } : Jvm.MethodName)).before a0 Z = true := hw _ (List.mem_of_getElem? (i := 184) rfl)
theorem w185 {a0 : Array Value} {Z : State} (hw : W a0 Z) : (Jvm.Cond.instanceMethod ({ cls := "java/util/ImmutableCollections$List12", name := "<init>", desc := "(Ljava/lang/Object;Ljava/lang/Object;)V" } : Jvm.MethodName)).before a0 Z = true := hw _ (List.mem_of_getElem? (i := 185) rfl)
theorem w187 {a0 : Array Value} {Z : State} (hw : W a0 Z) : (Jvm.Cond.code ({ cls := "java/util/ImmutableCollections$List12", name := "<init>", desc := "(Ljava/lang/Object;Ljava/lang/Object;)V" } : Jvm.MethodName) jdk_44_method_2_code (3 : Nat) (Option.none : Option Jvm.ClassFile.FieldType)).before a0 Z = true := hw _ (List.mem_of_getElem? (i := 187) rfl)
theorem w188 {a0 : Array Value} {Z : State} (hw : W a0 Z) : (Jvm.Cond.methodLink "java/util/ImmutableCollections$List12" (1 : Nat) ({ cls := "java/util/ImmutableCollections$AbstractImmutableList", name := "<init>", desc := "()V" } : Jvm.MethodName)).before a0 Z = true := hw _ (List.mem_of_getElem? (i := 188) rfl)
theorem w189 {a0 : Array Value} {Z : State} (hw : W a0 Z) : (Jvm.Cond.instanceMethod ({ cls := "java/util/ImmutableCollections$AbstractImmutableList", name := "<init>", desc := "()V" } : Jvm.MethodName)).before a0 Z = true := hw _ (List.mem_of_getElem? (i := 189) rfl)
theorem w192 {a0 : Array Value} {Z : State} (hw : W a0 Z) : (Jvm.Cond.initialized "java/util/ImmutableCollections$AbstractImmutableList").before a0 Z = true := hw _ (List.mem_of_getElem? (i := 192) rfl)
theorem w193 {a0 : Array Value} {Z : State} (hw : W a0 Z) : (Jvm.Cond.code ({ cls := "java/util/ImmutableCollections$AbstractImmutableList", name := "<init>", desc := "()V" } : Jvm.MethodName) jdk_46_method_1_code (1 : Nat) (Option.none : Option Jvm.ClassFile.FieldType)).before a0 Z = true := hw _ (List.mem_of_getElem? (i := 193) rfl)
theorem w194 {a0 : Array Value} {Z : State} (hw : W a0 Z) : (Jvm.Cond.methodLink "java/util/ImmutableCollections$AbstractImmutableList" (1 : Nat) ({ cls := "java/util/ImmutableCollections$AbstractImmutableCollection", name := "<init>", desc := "()V" } : Jvm.MethodName)).before a0 Z = true := hw _ (List.mem_of_getElem? (i := 194) rfl)
theorem w195 {a0 : Array Value} {Z : State} (hw : W a0 Z) : (Jvm.Cond.instanceMethod ({ cls := "java/util/ImmutableCollections$AbstractImmutableCollection", name := "<init>", desc := "()V" } : Jvm.MethodName)).before a0 Z = true := hw _ (List.mem_of_getElem? (i := 195) rfl)
theorem w198 {a0 : Array Value} {Z : State} (hw : W a0 Z) : (Jvm.Cond.initialized "java/util/ImmutableCollections$AbstractImmutableCollection").before a0 Z = true := hw _ (List.mem_of_getElem? (i := 198) rfl)
theorem w199 {a0 : Array Value} {Z : State} (hw : W a0 Z) : (Jvm.Cond.code ({ cls := "java/util/ImmutableCollections$AbstractImmutableCollection", name := "<init>", desc := "()V" } : Jvm.MethodName) jdk_47_method_1_code (1 : Nat) (Option.none : Option Jvm.ClassFile.FieldType)).before a0 Z = true := hw _ (List.mem_of_getElem? (i := 199) rfl)
theorem w200 {a0 : Array Value} {Z : State} (hw : W a0 Z) : (Jvm.Cond.methodLink "java/util/ImmutableCollections$AbstractImmutableCollection" (1 : Nat) ({ cls := "java/util/AbstractCollection", name := "<init>", desc := "()V" } : Jvm.MethodName)).before a0 Z = true := hw _ (List.mem_of_getElem? (i := 200) rfl)
theorem w202 {a0 : Array Value} {Z : State} (hw : W a0 Z) : (Jvm.Cond.methodLink "java/util/ImmutableCollections$List12" (7 : Nat) ({ cls := "java/util/Objects", name := "requireNonNull", desc := "(Ljava/lang/Object;)Ljava/lang/Object;" } : Jvm.MethodName)).before a0 Z = true := hw _ (List.mem_of_getElem? (i := 202) rfl)
theorem w203 {a0 : Array Value} {Z : State} (hw : W a0 Z) : (Jvm.Cond.static ({ cls := "java/util/Objects", name := "requireNonNull", desc := "(Ljava/lang/Object;)Ljava/lang/Object;" } : Jvm.MethodName)).before a0 Z = true := hw _ (List.mem_of_getElem? (i := 203) rfl)
theorem w204 {a0 : Array Value} {Z : State} (hw : W a0 Z) : (Jvm.Cond.initialized "java/util/Objects").before a0 Z = true := hw _ (List.mem_of_getElem? (i := 204) rfl)
theorem w205 {a0 : Array Value} {Z : State} (hw : W a0 Z) : (Jvm.Cond.code ({ cls := "java/util/Objects", name := "requireNonNull", desc := "(Ljava/lang/Object;)Ljava/lang/Object;" } : Jvm.MethodName) jdk_31_method_10_code (1 : Nat) (Option.some (Jvm.ClassFile.FieldType.object "java/lang/Object"))).before a0 Z = true := hw _ (List.mem_of_getElem? (i := 205) rfl)
theorem w206 {a0 : Array Value} {Z : State} (hw : W a0 Z) : (Jvm.Cond.fieldLink "java/util/ImmutableCollections$List12" (13 : Nat) "java/util/ImmutableCollections$List12" "e0" "Ljava/lang/Object;").before a0 Z = true := hw _ (List.mem_of_getElem? (i := 206) rfl)
theorem w207 {a0 : Array Value} {Z : State} (hw : W a0 Z) : (Jvm.Cond.laysFinal "java/util/ImmutableCollections$List12" "java/util/ImmutableCollections$List12" "e0" "Ljava/lang/Object;").before a0 Z = true := hw _ (List.mem_of_getElem? (i := 207) rfl)
theorem w208 {a0 : Array Value} {Z : State} (hw : W a0 Z) : (Jvm.Cond.fieldLink "java/util/ImmutableCollections$List12" (24 : Nat) "java/util/ImmutableCollections$List12" "e1" "Ljava/lang/Object;").before a0 Z = true := hw _ (List.mem_of_getElem? (i := 208) rfl)
theorem w209 {a0 : Array Value} {Z : State} (hw : W a0 Z) : (Jvm.Cond.laysFinal "java/util/ImmutableCollections$List12" "java/util/ImmutableCollections$List12" "e1" "Ljava/lang/Object;").before a0 Z = true := hw _ (List.mem_of_getElem? (i := 209) rfl)
theorem w210 {a0 : Array Value} {Z : State} (hw : W a0 Z) : (Jvm.Cond.fieldLink "com/example/tolerant_workflows/tolerantworkflows/engine/Job" (24 : Nat) "com/example/tolerant_workflows/tolerantworkflows/engine/Job" "tasks" "Ljava/util/List;").before a0 Z = true := hw _ (List.mem_of_getElem? (i := 210) rfl)
theorem w211 {a0 : Array Value} {Z : State} (hw : W a0 Z) : (Jvm.Cond.laysFinal "com/example/tolerant_workflows/tolerantworkflows/engine/Job" "com/example/tolerant_workflows/tolerantworkflows/engine/Job" "tasks" "Ljava/util/List;").before a0 Z = true := hw _ (List.mem_of_getElem? (i := 211) rfl)
theorem w212 {a0 : Array Value} {Z : State} (hw : W a0 Z) : (Jvm.Cond.methodLink "com/example/tolerant_workflows/tolerantworkflows/engine/JobFirstPinLaw" (32 : Nat) ({ cls := "com/example/tolerant_workflows/tolerantworkflows/engine/Job", name := "first", desc := "()Lcom/example/tolerant_workflows/tolerantworkflows/model/Task;" } : Jvm.MethodName)).before a0 Z = true := hw _ (List.mem_of_getElem? (i := 212) rfl)
theorem w213 {a0 : Array Value} {Z : State} (hw : W a0 Z) : (Jvm.Cond.declares ({ cls := "com/example/tolerant_workflows/tolerantworkflows/engine/Job", name := "first", desc := "()Lcom/example/tolerant_workflows/tolerantworkflows/model/Task;" } : Jvm.MethodName)).before a0 Z = true := hw _ (List.mem_of_getElem? (i := 213) rfl)
theorem w214 {a0 : Array Value} {Z : State} (hw : W a0 Z) : (Jvm.Cond.instanceMethod ({ cls := "com/example/tolerant_workflows/tolerantworkflows/engine/Job", name := "first", desc := "()Lcom/example/tolerant_workflows/tolerantworkflows/model/Task;" } : Jvm.MethodName)).before a0 Z = true := hw _ (List.mem_of_getElem? (i := 214) rfl)
theorem w215 {a0 : Array Value} {Z : State} (hw : W a0 Z) : (Jvm.Cond.selects "com/example/tolerant_workflows/tolerantworkflows/engine/Job" ({ cls := "com/example/tolerant_workflows/tolerantworkflows/engine/Job", name := "first", desc := "()Lcom/example/tolerant_workflows/tolerantworkflows/model/Task;" } : Jvm.MethodName) ({ cls := "com/example/tolerant_workflows/tolerantworkflows/engine/Job", name := "first", desc := "()Lcom/example/tolerant_workflows/tolerantworkflows/model/Task;" } : Jvm.MethodName)).before a0 Z = true := hw _ (List.mem_of_getElem? (i := 215) rfl)
theorem w216 {a0 : Array Value} {Z : State} (hw : W a0 Z) : (Jvm.Cond.code ({ cls := "com/example/tolerant_workflows/tolerantworkflows/engine/Job", name := "first", desc := "()Lcom/example/tolerant_workflows/tolerantworkflows/model/Task;" } : Jvm.MethodName) prog_4_method_2_code (1 : Nat) (Option.some (Jvm.ClassFile.FieldType.object "com/example/tolerant_workflows/tolerantworkflows/model/Task"))).before a0 Z = true := hw _ (List.mem_of_getElem? (i := 216) rfl)
theorem w217 {a0 : Array Value} {Z : State} (hw : W a0 Z) : (Jvm.Cond.methodLink "com/example/tolerant_workflows/tolerantworkflows/engine/Job" (30 : Nat) ({ cls := "java/util/List", name := "get", desc := "(I)Ljava/lang/Object;" } : Jvm.MethodName)).before a0 Z = true := hw _ (List.mem_of_getElem? (i := 217) rfl)
theorem w218 {a0 : Array Value} {Z : State} (hw : W a0 Z) : (Jvm.Cond.declares ({ cls := "java/util/List", name := "get", desc := "(I)Ljava/lang/Object;" } : Jvm.MethodName)).before a0 Z = true := hw _ (List.mem_of_getElem? (i := 218) rfl)
theorem w219 {a0 : Array Value} {Z : State} (hw : W a0 Z) : (Jvm.Cond.interfaceMethod "java/util/List" "java/util/List" "get" "(I)Ljava/lang/Object;").before a0 Z = true := hw _ (List.mem_of_getElem? (i := 219) rfl)
theorem w220 {a0 : Array Value} {Z : State} (hw : W a0 Z) : (Jvm.Cond.selects "java/util/ImmutableCollections$List12" ({ cls := "java/util/List", name := "get", desc := "(I)Ljava/lang/Object;" } : Jvm.MethodName) ({ cls := "java/util/ImmutableCollections$List12", name := "get", desc := "(I)Ljava/lang/Object;" } : Jvm.MethodName)).before a0 Z = true := hw _ (List.mem_of_getElem? (i := 220) rfl)
theorem w221 {a0 : Array Value} {Z : State} (hw : W a0 Z) : (Jvm.Cond.instanceMethod ({ cls := "java/util/ImmutableCollections$List12", name := "get", desc := "(I)Ljava/lang/Object;" } : Jvm.MethodName)).before a0 Z = true := hw _ (List.mem_of_getElem? (i := 221) rfl)
theorem w222 {a0 : Array Value} {Z : State} (hw : W a0 Z) : (Jvm.Cond.publicMethod ({ cls := "java/util/ImmutableCollections$List12", name := "get", desc := "(I)Ljava/lang/Object;" } : Jvm.MethodName)).before a0 Z = true := hw _ (List.mem_of_getElem? (i := 222) rfl)
theorem w223 {a0 : Array Value} {Z : State} (hw : W a0 Z) : (Jvm.Cond.unhidden "java/util/ImmutableCollections$List12" "get" "(I)Ljava/lang/Object;").before a0 Z = true := hw _ (List.mem_of_getElem? (i := 223) rfl)
theorem w224 {a0 : Array Value} {Z : State} (hw : W a0 Z) : (Jvm.Cond.castable "java/util/ImmutableCollections$List12" "java/util/List").before a0 Z = true := hw _ (List.mem_of_getElem? (i := 224) rfl)
theorem w225 {a0 : Array Value} {Z : State} (hw : W a0 Z) : (Jvm.Cond.code ({ cls := "java/util/ImmutableCollections$List12", name := "get", desc := "(I)Ljava/lang/Object;" } : Jvm.MethodName) jdk_44_method_5_code (2 : Nat) (Option.some (Jvm.ClassFile.FieldType.object "java/lang/Object"))).before a0 Z = true := hw _ (List.mem_of_getElem? (i := 225) rfl)
theorem w226 {a0 : Array Value} {Z : State} (hw : W a0 Z) : (Jvm.Cond.classLink "com/example/tolerant_workflows/tolerantworkflows/engine/Job" (34 : Nat) "com/example/tolerant_workflows/tolerantworkflows/model/Task").before a0 Z = true := hw _ (List.mem_of_getElem? (i := 226) rfl)
theorem w228 {a0 : Array Value} {Z : State} (hw : W a0 Z) : (Jvm.Cond.methodLink "com/example/tolerant_workflows/tolerantworkflows/engine/JobFirstPinLaw" (36 : Nat) ({ cls := "com/example/tolerant_workflows/tolerantworkflows/model/Task", name := "index", desc := "()I" } : Jvm.MethodName)).before a0 Z = true := hw _ (List.mem_of_getElem? (i := 228) rfl)
theorem w229 {a0 : Array Value} {Z : State} (hw : W a0 Z) : (Jvm.Cond.declares ({ cls := "com/example/tolerant_workflows/tolerantworkflows/model/Task", name := "index", desc := "()I" } : Jvm.MethodName)).before a0 Z = true := hw _ (List.mem_of_getElem? (i := 229) rfl)
theorem w230 {a0 : Array Value} {Z : State} (hw : W a0 Z) : (Jvm.Cond.instanceMethod ({ cls := "com/example/tolerant_workflows/tolerantworkflows/model/Task", name := "index", desc := "()I" } : Jvm.MethodName)).before a0 Z = true := hw _ (List.mem_of_getElem? (i := 230) rfl)
theorem w231 {a0 : Array Value} {Z : State} (hw : W a0 Z) : (Jvm.Cond.selects "com/example/tolerant_workflows/tolerantworkflows/model/Task" ({ cls := "com/example/tolerant_workflows/tolerantworkflows/model/Task", name := "index", desc := "()I" } : Jvm.MethodName) ({ cls := "com/example/tolerant_workflows/tolerantworkflows/model/Task", name := "index", desc := "()I" } : Jvm.MethodName)).before a0 Z = true := hw _ (List.mem_of_getElem? (i := 231) rfl)
theorem w232 {a0 : Array Value} {Z : State} (hw : W a0 Z) : (Jvm.Cond.code ({ cls := "com/example/tolerant_workflows/tolerantworkflows/model/Task", name := "index", desc := "()I" } : Jvm.MethodName) prog_61_method_7_code (1 : Nat) (Option.some Jvm.ClassFile.FieldType.int)).before a0 Z = true := hw _ (List.mem_of_getElem? (i := 232) rfl)
theorem w233 {a0 : Array Value} {Z : State} (hw : W a0 Z) : (Jvm.Cond.methodLink "java/util/List" (109 : Nat) ({ cls := "java/util/ImmutableCollections", name := "listFromArray", desc := "([Ljava/lang/Object;)Ljava/util/List;" } : Jvm.MethodName)).before a0 Z = true := hw _ (List.mem_of_getElem? (i := 233) rfl)
theorem w234 {a0 : Array Value} {Z : State} (hw : W a0 Z) : (Jvm.Cond.static ({ cls := "java/util/ImmutableCollections", name := "listFromArray", desc := "([Ljava/lang/Object;)Ljava/util/List;" } : Jvm.MethodName)).before a0 Z = true := hw _ (List.mem_of_getElem? (i := 234) rfl)
theorem w235 {a0 : Array Value} {Z : State} (hw : W a0 Z) : (Jvm.Cond.code ({ cls := "java/util/ImmutableCollections", name := "listFromArray", desc := "([Ljava/lang/Object;)Ljava/util/List;" } : Jvm.MethodName) jdk_56_method_4_code (3 : Nat) (Option.some (Jvm.ClassFile.FieldType.object "java/util/List"))).before a0 Z = true := hw _ (List.mem_of_getElem? (i := 235) rfl)
theorem w236 {a0 : Array Value} {Z : State} (hw : W a0 Z) : (Jvm.Cond.classLink "java/util/ImmutableCollections" (2 : Nat) "java/lang/Object").before a0 Z = true := hw _ (List.mem_of_getElem? (i := 236) rfl)
theorem w237 {a0 : Array Value} {Z : State} (hw : W a0 Z) : (Jvm.Cond.methodLink "java/util/ImmutableCollections" (37 : Nat) ({ cls := "java/util/Objects", name := "requireNonNull", desc := "(Ljava/lang/Object;)Ljava/lang/Object;" } : Jvm.MethodName)).before a0 Z = true := hw _ (List.mem_of_getElem? (i := 237) rfl)
theorem w238 {a0 : Array Value} {Z : State} (hw : W a0 Z) : (Jvm.Cond.instantiable "java/util/ImmutableCollections$ListN" (2 : Nat)).before a0 Z = true := hw _ (List.mem_of_getElem? (i := 238) rfl)
theorem w239 {a0 : Array Value} {Z : State} (hw : W a0 Z) : (Jvm.Cond.initialized "java/util/ImmutableCollections$ListN").before a0 Z = true := hw _ (List.mem_of_getElem? (i := 239) rfl)
theorem w240 {a0 : Array Value} {Z : State} (hw : W a0 Z) : (Jvm.Cond.methodLinkNest "java/util/ImmutableCollections" (43 : Nat) ({ cls := "java/util/ImmutableCollections$ListN", name := "<init>", desc := "([Ljava/lang/Object;Z)V" } : Jvm.MethodName) "java/util/ImmutableCollections").before a0 Z = true := hw _ (List.mem_of_getElem? (i := 240) rfl)
theorem w241 {a0 : Array Value} {Z : State} (hw : W a0 Z) : (Jvm.Cond.instanceMethod ({ cls := "java/util/ImmutableCollections$ListN", name := "<init>", desc := "([Ljava/lang/Object;Z)V" } : Jvm.MethodName)).before a0 Z = true := hw _ (List.mem_of_getElem? (i := 241) rfl)
theorem w243 {a0 : Array Value} {Z : State} (hw : W a0 Z) : (Jvm.Cond.code ({ cls := "java/util/ImmutableCollections$ListN", name := "<init>", desc := "([Ljava/lang/Object;Z)V" } : Jvm.MethodName) jdk_45_method_1_code (3 : Nat) (Option.none : Option Jvm.ClassFile.FieldType)).before a0 Z = true := hw _ (List.mem_of_getElem? (i := 243) rfl)
theorem w244 {a0 : Array Value} {Z : State} (hw : W a0 Z) : (Jvm.Cond.methodLink "java/util/ImmutableCollections$ListN" (1 : Nat) ({ cls := "java/util/ImmutableCollections$AbstractImmutableList", name := "<init>", desc := "()V" } : Jvm.MethodName)).before a0 Z = true := hw _ (List.mem_of_getElem? (i := 244) rfl)
theorem w248 {a0 : Array Value} {Z : State} (hw : W a0 Z) : (Jvm.Cond.fieldLink "java/util/ImmutableCollections$ListN" (7 : Nat) "java/util/ImmutableCollections$ListN" "elements" "[Ljava/lang/Object;").before a0 Z = true := hw _ (List.mem_of_getElem? (i := 248) rfl)
theorem w249 {a0 : Array Value} {Z : State} (hw : W a0 Z) : (Jvm.Cond.laysFinal "java/util/ImmutableCollections$ListN" "java/util/ImmutableCollections$ListN" "elements" "[Ljava/lang/Object;").before a0 Z = true := hw _ (List.mem_of_getElem? (i := 249) rfl)
theorem w250 {a0 : Array Value} {Z : State} (hw : W a0 Z) : (Jvm.Cond.fieldLink "java/util/ImmutableCollections$ListN" (13 : Nat) "java/util/ImmutableCollections$ListN" "allowNulls" "Z").before a0 Z = true := hw _ (List.mem_of_getElem? (i := 250) rfl)
theorem w251 {a0 : Array Value} {Z : State} (hw : W a0 Z) : (Jvm.Cond.laysFinal "java/util/ImmutableCollections$ListN" "java/util/ImmutableCollections$ListN" "allowNulls" "Z").before a0 Z = true := hw _ (List.mem_of_getElem? (i := 251) rfl)
theorem w252 {a0 : Array Value} {Z : State} (hw : W a0 Z) : (Jvm.Cond.selects "java/util/ImmutableCollections$ListN" ({ cls := "java/util/List", name := "get", desc := "(I)Ljava/lang/Object;" } : Jvm.MethodName) ({ cls := "java/util/ImmutableCollections$ListN", name := "get", desc := "(I)Ljava/lang/Object;" } : Jvm.MethodName)).before a0 Z = true := hw _ (List.mem_of_getElem? (i := 252) rfl)
theorem w253 {a0 : Array Value} {Z : State} (hw : W a0 Z) : (Jvm.Cond.instanceMethod ({ cls := "java/util/ImmutableCollections$ListN", name := "get", desc := "(I)Ljava/lang/Object;" } : Jvm.MethodName)).before a0 Z = true := hw _ (List.mem_of_getElem? (i := 253) rfl)
theorem w254 {a0 : Array Value} {Z : State} (hw : W a0 Z) : (Jvm.Cond.publicMethod ({ cls := "java/util/ImmutableCollections$ListN", name := "get", desc := "(I)Ljava/lang/Object;" } : Jvm.MethodName)).before a0 Z = true := hw _ (List.mem_of_getElem? (i := 254) rfl)
theorem w255 {a0 : Array Value} {Z : State} (hw : W a0 Z) : (Jvm.Cond.unhidden "java/util/ImmutableCollections$ListN" "get" "(I)Ljava/lang/Object;").before a0 Z = true := hw _ (List.mem_of_getElem? (i := 255) rfl)
theorem w256 {a0 : Array Value} {Z : State} (hw : W a0 Z) : (Jvm.Cond.castable "java/util/ImmutableCollections$ListN" "java/util/List").before a0 Z = true := hw _ (List.mem_of_getElem? (i := 256) rfl)
theorem w257 {a0 : Array Value} {Z : State} (hw : W a0 Z) : (Jvm.Cond.code ({ cls := "java/util/ImmutableCollections$ListN", name := "get", desc := "(I)Ljava/lang/Object;" } : Jvm.MethodName) jdk_45_method_4_code (2 : Nat) (Option.some (Jvm.ClassFile.FieldType.object "java/lang/Object"))).before a0 Z = true := hw _ (List.mem_of_getElem? (i := 257) rfl)
theorem w258 {a0 : Array Value} {Z : State} (hw : W a0 Z) : (Jvm.Cond.methodLink "java/util/List" (98 : Nat) ({ cls := "java/util/ImmutableCollections$List12", name := "<init>", desc := "(Ljava/lang/Object;)V" } : Jvm.MethodName)).before a0 Z = true := hw _ (List.mem_of_getElem? (i := 258) rfl)
theorem w259 {a0 : Array Value} {Z : State} (hw : W a0 Z) : (Jvm.Cond.instanceMethod ({ cls := "java/util/ImmutableCollections$List12", name := "<init>", desc := "(Ljava/lang/Object;)V" } : Jvm.MethodName)).before a0 Z = true := hw _ (List.mem_of_getElem? (i := 259) rfl)
theorem w260 {a0 : Array Value} {Z : State} (hw : W a0 Z) : (Jvm.Cond.code ({ cls := "java/util/ImmutableCollections$List12", name := "<init>", desc := "(Ljava/lang/Object;)V" } : Jvm.MethodName) jdk_44_method_1_code (2 : Nat) (Option.none : Option Jvm.ClassFile.FieldType)).before a0 Z = true := hw _ (List.mem_of_getElem? (i := 260) rfl)
theorem w261 {a0 : Array Value} {Z : State} (hw : W a0 Z) : (Jvm.Cond.fieldLinkNest "java/util/ImmutableCollections$List12" (19 : Nat) "java/util/ImmutableCollections" "EMPTY" "Ljava/lang/Object;" "java/util/ImmutableCollections").before a0 Z = true := hw _ (List.mem_of_getElem? (i := 261) rfl)
theorem d_jdk_30_method_1_0 : decode jdk_30_method_1_code 0 = .ok (.aload_n 0, 1) := by decide +kernel
theorem d_jdk_30_method_1_1 : decode jdk_30_method_1_code 1 = .ok (.invokespecial 1, 3) := by decide +kernel
theorem d_jdk_30_method_1_4 : decode jdk_30_method_1_code 4 = .ok (.return_, 1) := by decide +kernel
theorem d_jdk_22_method_1_0 : decode jdk_22_method_1_code 0 = .ok (.aload_n 0, 1) := by decide +kernel
theorem d_jdk_22_method_1_1 : decode jdk_22_method_1_code 1 = .ok (.invokespecial 1, 3) := by decide +kernel
theorem d_jdk_22_method_1_4 : decode jdk_22_method_1_code 4 = .ok (.return_, 1) := by decide +kernel
theorem d_jdk_47_method_1_0 : decode jdk_47_method_1_code 0 = .ok (.aload_n 0, 1) := by decide +kernel
theorem d_jdk_47_method_1_1 : decode jdk_47_method_1_code 1 = .ok (.invokespecial 1, 3) := by decide +kernel
theorem d_jdk_47_method_1_4 : decode jdk_47_method_1_code 4 = .ok (.return_, 1) := by decide +kernel
theorem d_jdk_46_method_1_0 : decode jdk_46_method_1_code 0 = .ok (.aload_n 0, 1) := by decide +kernel
theorem d_jdk_46_method_1_1 : decode jdk_46_method_1_code 1 = .ok (.invokespecial 1, 3) := by decide +kernel
theorem d_jdk_46_method_1_4 : decode jdk_46_method_1_code 4 = .ok (.return_, 1) := by decide +kernel
theorem d_jdk_31_method_10_0 : decode jdk_31_method_10_code 0 = .ok (.aload_n 0, 1) := by decide +kernel
theorem d_jdk_31_method_10_1 : decode jdk_31_method_10_code 1 = .ok (.ifnonnull 11, 3) := by decide +kernel
theorem d_jdk_31_method_10_12 : decode jdk_31_method_10_code 12 = .ok (.aload_n 0, 1) := by decide +kernel
theorem d_jdk_31_method_10_13 : decode jdk_31_method_10_code 13 = .ok (.areturn, 1) := by decide +kernel
theorem d_prog_61_method_1_0 : decode prog_61_method_1_code 0 = .ok (.aload_n 0, 1) := by decide +kernel
theorem d_prog_61_method_1_1 : decode prog_61_method_1_code 1 = .ok (.invokespecial 1, 3) := by decide +kernel
theorem d_prog_61_method_1_4 : decode prog_61_method_1_code 4 = .ok (.aload_n 0, 1) := by decide +kernel
theorem d_prog_61_method_1_5 : decode prog_61_method_1_code 5 = .ok (.aload_n 1, 1) := by decide +kernel
theorem d_prog_61_method_1_6 : decode prog_61_method_1_code 6 = .ok (.putfield 7, 3) := by decide +kernel
theorem d_prog_61_method_1_9 : decode prog_61_method_1_code 9 = .ok (.aload_n 0, 1) := by decide +kernel
theorem d_prog_61_method_1_10 : decode prog_61_method_1_code 10 = .ok (.iload_n 2, 1) := by decide +kernel
theorem d_prog_61_method_1_11 : decode prog_61_method_1_code 11 = .ok (.putfield 13, 3) := by decide +kernel
theorem d_prog_61_method_1_14 : decode prog_61_method_1_code 14 = .ok (.aload_n 0, 1) := by decide +kernel
theorem d_prog_61_method_1_15 : decode prog_61_method_1_code 15 = .ok (.aload_n 3, 1) := by decide +kernel
theorem d_prog_61_method_1_16 : decode prog_61_method_1_code 16 = .ok (.putfield 17, 3) := by decide +kernel
theorem d_prog_61_method_1_19 : decode prog_61_method_1_code 19 = .ok (.aload_n 0, 1) := by decide +kernel
theorem d_prog_61_method_1_20 : decode prog_61_method_1_code 20 = .ok (.aload 4, 2) := by decide +kernel
theorem d_prog_61_method_1_22 : decode prog_61_method_1_code 22 = .ok (.putfield 21, 3) := by decide +kernel
theorem d_prog_61_method_1_25 : decode prog_61_method_1_code 25 = .ok (.aload_n 0, 1) := by decide +kernel
theorem d_prog_61_method_1_26 : decode prog_61_method_1_code 26 = .ok (.aload 5, 2) := by decide +kernel
theorem d_prog_61_method_1_28 : decode prog_61_method_1_code 28 = .ok (.putfield 25, 3) := by decide +kernel
theorem d_prog_61_method_1_31 : decode prog_61_method_1_code 31 = .ok (.aload_n 0, 1) := by decide +kernel
theorem d_prog_61_method_1_32 : decode prog_61_method_1_code 32 = .ok (.aload 6, 2) := by decide +kernel
theorem d_prog_61_method_1_34 : decode prog_61_method_1_code 34 = .ok (.putfield 29, 3) := by decide +kernel
theorem d_prog_61_method_1_37 : decode prog_61_method_1_code 37 = .ok (.return_, 1) := by decide +kernel
theorem d_prog_61_method_7_0 : decode prog_61_method_7_code 0 = .ok (.aload_n 0, 1) := by decide +kernel
theorem d_prog_61_method_7_1 : decode prog_61_method_7_code 1 = .ok (.getfield 13, 3) := by decide +kernel
theorem d_prog_61_method_7_4 : decode prog_61_method_7_code 4 = .ok (.ireturn, 1) := by decide +kernel
theorem d_jdk_39_method_1_0 : decode jdk_39_method_1_code 0 = .ok (.aload_n 0, 1) := by decide +kernel
theorem d_jdk_39_method_1_1 : decode jdk_39_method_1_code 1 = .ok (.invokespecial 1, 3) := by decide +kernel
theorem d_jdk_39_method_1_4 : decode jdk_39_method_1_code 4 = .ok (.aload_n 0, 1) := by decide +kernel
theorem d_jdk_39_method_1_5 : decode jdk_39_method_1_code 5 = .ok (.iconst 0, 1) := by decide +kernel
theorem d_jdk_39_method_1_6 : decode jdk_39_method_1_code 6 = .ok (.putfield 7, 3) := by decide +kernel
theorem d_jdk_39_method_1_9 : decode jdk_39_method_1_code 9 = .ok (.return_, 1) := by decide +kernel
theorem d_jdk_38_method_2_0 : decode jdk_38_method_2_code 0 = .ok (.aload_n 0, 1) := by decide +kernel
theorem d_jdk_38_method_2_1 : decode jdk_38_method_2_code 1 = .ok (.invokespecial 1, 3) := by decide +kernel
theorem d_jdk_38_method_2_4 : decode jdk_38_method_2_code 4 = .ok (.aload_n 0, 1) := by decide +kernel
theorem d_jdk_38_method_2_5 : decode jdk_38_method_2_code 5 = .ok (.getstatic 39, 3) := by decide +kernel
theorem d_jdk_38_method_2_8 : decode jdk_38_method_2_code 8 = .ok (.putfield 9, 3) := by decide +kernel
theorem d_jdk_38_method_2_11 : decode jdk_38_method_2_code 11 = .ok (.return_, 1) := by decide +kernel
theorem d_jdk_29_method_65_0 : decode jdk_29_method_65_code 0 = .ok (.iload_n 0, 1) := by decide +kernel
theorem d_jdk_29_method_65_1 : decode jdk_29_method_65_code 1 = .ok (.iload_n 1, 1) := by decide +kernel
theorem d_jdk_29_method_65_2 : decode jdk_29_method_65_code 2 = .ok (.if_icmp .lt 7, 3) := by decide +kernel
theorem d_jdk_29_method_65_5 : decode jdk_29_method_65_code 5 = .ok (.iload_n 0, 1) := by decide +kernel
theorem d_jdk_29_method_65_6 : decode jdk_29_method_65_code 6 = .ok (.goto 4, 3) := by decide +kernel
theorem d_jdk_29_method_65_10 : decode jdk_29_method_65_code 10 = .ok (.ireturn, 1) := by decide +kernel
theorem d_jdk_38_method_6_0 : decode jdk_38_method_6_code 0 = .ok (.aload_n 0, 1) := by decide +kernel
theorem d_jdk_38_method_6_1 : decode jdk_38_method_6_code 1 = .ok (.getfield 9, 3) := by decide +kernel
theorem d_jdk_38_method_6_4 : decode jdk_38_method_6_code 4 = .ok (.arraylength, 1) := by decide +kernel
theorem d_jdk_38_method_6_5 : decode jdk_38_method_6_code 5 = .ok (.istore_n 2, 1) := by decide +kernel
theorem d_jdk_38_method_6_6 : decode jdk_38_method_6_code 6 = .ok (.iload_n 2, 1) := by decide +kernel
theorem d_jdk_38_method_6_7 : decode jdk_38_method_6_code 7 = .ok (.ifCond .gt 13, 3) := by decide +kernel
theorem d_jdk_38_method_6_10 : decode jdk_38_method_6_code 10 = .ok (.aload_n 0, 1) := by decide +kernel
theorem d_jdk_38_method_6_11 : decode jdk_38_method_6_code 11 = .ok (.getfield 9, 3) := by decide +kernel
theorem d_jdk_38_method_6_14 : decode jdk_38_method_6_code 14 = .ok (.getstatic 39, 3) := by decide +kernel
theorem d_jdk_38_method_6_17 : decode jdk_38_method_6_code 17 = .ok (.if_acmp .eq 28, 3) := by decide +kernel
theorem d_jdk_38_method_6_45 : decode jdk_38_method_6_code 45 = .ok (.aload_n 0, 1) := by decide +kernel
theorem d_jdk_38_method_6_46 : decode jdk_38_method_6_code 46 = .ok (.bipush 10, 2) := by decide +kernel
theorem d_jdk_38_method_6_48 : decode jdk_38_method_6_code 48 = .ok (.iload_n 1, 1) := by decide +kernel
theorem d_jdk_38_method_6_49 : decode jdk_38_method_6_code 49 = .ok (.invokestatic 79, 3) := by decide +kernel
theorem d_jdk_38_method_6_52 : decode jdk_38_method_6_code 52 = .ok (.anewarray 7, 3) := by decide +kernel
theorem d_jdk_38_method_6_55 : decode jdk_38_method_6_code 55 = .ok (.dup_x1, 1) := by decide +kernel
theorem d_jdk_38_method_6_56 : decode jdk_38_method_6_code 56 = .ok (.putfield 9, 3) := by decide +kernel
theorem d_jdk_38_method_6_59 : decode jdk_38_method_6_code 59 = .ok (.areturn, 1) := by decide +kernel
theorem d_jdk_38_method_7_0 : decode jdk_38_method_7_code 0 = .ok (.aload_n 0, 1) := by decide +kernel
theorem d_jdk_38_method_7_1 : decode jdk_38_method_7_code 1 = .ok (.aload_n 0, 1) := by decide +kernel
theorem d_jdk_38_method_7_2 : decode jdk_38_method_7_code 2 = .ok (.getfield 48, 3) := by decide +kernel
theorem d_jdk_38_method_7_5 : decode jdk_38_method_7_code 5 = .ok (.iconst 1, 1) := by decide +kernel
theorem d_jdk_38_method_7_6 : decode jdk_38_method_7_code 6 = .ok (.iadd, 1) := by decide +kernel
theorem d_jdk_38_method_7_7 : decode jdk_38_method_7_code 7 = .ok (.invokevirtual 69, 3) := by decide +kernel
theorem d_jdk_38_method_7_10 : decode jdk_38_method_7_code 10 = .ok (.areturn, 1) := by decide +kernel
theorem d_jdk_38_method_24_0 : decode jdk_38_method_24_code 0 = .ok (.iload_n 3, 1) := by decide +kernel
theorem d_jdk_38_method_24_1 : decode jdk_38_method_24_code 1 = .ok (.aload_n 2, 1) := by decide +kernel
theorem d_jdk_38_method_24_2 : decode jdk_38_method_24_code 2 = .ok (.arraylength, 1) := by decide +kernel
theorem d_jdk_38_method_24_3 : decode jdk_38_method_24_code 3 = .ok (.if_icmp .ne 8, 3) := by decide +kernel
theorem d_jdk_38_method_24_6 : decode jdk_38_method_24_code 6 = .ok (.aload_n 0, 1) := by decide +kernel
theorem d_jdk_38_method_24_7 : decode jdk_38_method_24_code 7 = .ok (.invokevirtual 129, 3) := by decide +kernel
theorem d_jdk_38_method_24_10 : decode jdk_38_method_24_code 10 = .ok (.astore_n 2, 1) := by decide +kernel
theorem d_jdk_38_method_24_11 : decode jdk_38_method_24_code 11 = .ok (.aload_n 2, 1) := by decide +kernel
theorem d_jdk_38_method_24_12 : decode jdk_38_method_24_code 12 = .ok (.iload_n 3, 1) := by decide +kernel
theorem d_jdk_38_method_24_13 : decode jdk_38_method_24_code 13 = .ok (.aload_n 1, 1) := by decide +kernel
theorem d_jdk_38_method_24_14 : decode jdk_38_method_24_code 14 = .ok (.aastore, 1) := by decide +kernel
theorem d_jdk_38_method_24_15 : decode jdk_38_method_24_code 15 = .ok (.aload_n 0, 1) := by decide +kernel
theorem d_jdk_38_method_24_16 : decode jdk_38_method_24_code 16 = .ok (.iload_n 3, 1) := by decide +kernel
theorem d_jdk_38_method_24_17 : decode jdk_38_method_24_code 17 = .ok (.iconst 1, 1) := by decide +kernel
theorem d_jdk_38_method_24_18 : decode jdk_38_method_24_code 18 = .ok (.iadd, 1) := by decide +kernel
theorem d_jdk_38_method_24_19 : decode jdk_38_method_24_code 19 = .ok (.putfield 48, 3) := by decide +kernel
theorem d_jdk_38_method_24_22 : decode jdk_38_method_24_code 22 = .ok (.return_, 1) := by decide +kernel
theorem d_jdk_38_method_25_0 : decode jdk_38_method_25_code 0 = .ok (.aload_n 0, 1) := by decide +kernel
theorem d_jdk_38_method_25_1 : decode jdk_38_method_25_code 1 = .ok (.dup, 1) := by decide +kernel
theorem d_jdk_38_method_25_2 : decode jdk_38_method_25_code 2 = .ok (.getfield 63, 3) := by decide +kernel
theorem d_jdk_38_method_25_5 : decode jdk_38_method_25_code 5 = .ok (.iconst 1, 1) := by decide +kernel
theorem d_jdk_38_method_25_6 : decode jdk_38_method_25_code 6 = .ok (.iadd, 1) := by decide +kernel
theorem d_jdk_38_method_25_7 : decode jdk_38_method_25_code 7 = .ok (.putfield 63, 3) := by decide +kernel
theorem d_jdk_38_method_25_10 : decode jdk_38_method_25_code 10 = .ok (.aload_n 0, 1) := by decide +kernel
theorem d_jdk_38_method_25_11 : decode jdk_38_method_25_code 11 = .ok (.aload_n 1, 1) := by decide +kernel
theorem d_jdk_38_method_25_12 : decode jdk_38_method_25_code 12 = .ok (.aload_n 0, 1) := by decide +kernel
theorem d_jdk_38_method_25_13 : decode jdk_38_method_25_code 13 = .ok (.getfield 9, 3) := by decide +kernel
theorem d_jdk_38_method_25_16 : decode jdk_38_method_25_code 16 = .ok (.aload_n 0, 1) := by decide +kernel
theorem d_jdk_38_method_25_17 : decode jdk_38_method_25_code 17 = .ok (.getfield 48, 3) := by decide +kernel
theorem d_jdk_38_method_25_20 : decode jdk_38_method_25_code 20 = .ok (.invokevirtual 131, 3) := by decide +kernel
theorem d_jdk_38_method_25_23 : decode jdk_38_method_25_code 23 = .ok (.iconst 1, 1) := by decide +kernel
theorem d_jdk_38_method_25_24 : decode jdk_38_method_25_code 24 = .ok (.ireturn, 1) := by decide +kernel
theorem d_jdk_44_method_1_0 : decode jdk_44_method_1_code 0 = .ok (.aload_n 0, 1) := by decide +kernel
theorem d_jdk_44_method_1_1 : decode jdk_44_method_1_code 1 = .ok (.invokespecial 1, 3) := by decide +kernel
theorem d_jdk_44_method_1_4 : decode jdk_44_method_1_code 4 = .ok (.aload_n 0, 1) := by decide +kernel
theorem d_jdk_44_method_1_5 : decode jdk_44_method_1_code 5 = .ok (.aload_n 1, 1) := by decide +kernel
theorem d_jdk_44_method_1_6 : decode jdk_44_method_1_code 6 = .ok (.invokestatic 7, 3) := by decide +kernel
theorem d_jdk_44_method_1_9 : decode jdk_44_method_1_code 9 = .ok (.putfield 13, 3) := by decide +kernel
theorem d_jdk_44_method_1_12 : decode jdk_44_method_1_code 12 = .ok (.aload_n 0, 1) := by decide +kernel
theorem d_jdk_44_method_1_13 : decode jdk_44_method_1_code 13 = .ok (.getstatic 19, 3) := by decide +kernel
theorem d_jdk_44_method_1_16 : decode jdk_44_method_1_code 16 = .ok (.putfield 24, 3) := by decide +kernel
theorem d_jdk_44_method_1_19 : decode jdk_44_method_1_code 19 = .ok (.return_, 1) := by decide +kernel
theorem d_jdk_44_method_2_0 : decode jdk_44_method_2_code 0 = .ok (.aload_n 0, 1) := by decide +kernel
theorem d_jdk_44_method_2_1 : decode jdk_44_method_2_code 1 = .ok (.invokespecial 1, 3) := by decide +kernel
theorem d_jdk_44_method_2_4 : decode jdk_44_method_2_code 4 = .ok (.aload_n 0, 1) := by decide +kernel
theorem d_jdk_44_method_2_5 : decode jdk_44_method_2_code 5 = .ok (.aload_n 1, 1) := by decide +kernel
theorem d_jdk_44_method_2_6 : decode jdk_44_method_2_code 6 = .ok (.invokestatic 7, 3) := by decide +kernel
theorem d_jdk_44_method_2_9 : decode jdk_44_method_2_code 9 = .ok (.putfield 13, 3) := by decide +kernel
theorem d_jdk_44_method_2_12 : decode jdk_44_method_2_code 12 = .ok (.aload_n 0, 1) := by decide +kernel
theorem d_jdk_44_method_2_13 : decode jdk_44_method_2_code 13 = .ok (.aload_n 2, 1) := by decide +kernel
theorem d_jdk_44_method_2_14 : decode jdk_44_method_2_code 14 = .ok (.invokestatic 7, 3) := by decide +kernel
theorem d_jdk_44_method_2_17 : decode jdk_44_method_2_code 17 = .ok (.putfield 24, 3) := by decide +kernel
theorem d_jdk_44_method_2_20 : decode jdk_44_method_2_code 20 = .ok (.return_, 1) := by decide +kernel
theorem d_jdk_45_method_1_0 : decode jdk_45_method_1_code 0 = .ok (.aload_n 0, 1) := by decide +kernel
theorem d_jdk_45_method_1_1 : decode jdk_45_method_1_code 1 = .ok (.invokespecial 1, 3) := by decide +kernel
theorem d_jdk_45_method_1_4 : decode jdk_45_method_1_code 4 = .ok (.aload_n 0, 1) := by decide +kernel
theorem d_jdk_45_method_1_5 : decode jdk_45_method_1_code 5 = .ok (.aload_n 1, 1) := by decide +kernel
theorem d_jdk_45_method_1_6 : decode jdk_45_method_1_code 6 = .ok (.putfield 7, 3) := by decide +kernel
theorem d_jdk_45_method_1_9 : decode jdk_45_method_1_code 9 = .ok (.aload_n 0, 1) := by decide +kernel
theorem d_jdk_45_method_1_10 : decode jdk_45_method_1_code 10 = .ok (.iload_n 2, 1) := by decide +kernel
theorem d_jdk_45_method_1_11 : decode jdk_45_method_1_code 11 = .ok (.putfield 13, 3) := by decide +kernel
theorem d_jdk_45_method_1_14 : decode jdk_45_method_1_code 14 = .ok (.return_, 1) := by decide +kernel
theorem d_jdk_38_method_9_0 : decode jdk_38_method_9_code 0 = .ok (.aload_n 0, 1) := by decide +kernel
theorem d_jdk_38_method_9_1 : decode jdk_38_method_9_code 1 = .ok (.getfield 48, 3) := by decide +kernel
theorem d_jdk_38_method_9_4 : decode jdk_38_method_9_code 4 = .ok (.ifCond .ne 7, 3) := by decide +kernel
theorem d_jdk_38_method_9_11 : decode jdk_38_method_9_code 11 = .ok (.iconst 0, 1) := by decide +kernel
theorem d_jdk_38_method_9_12 : decode jdk_38_method_9_code 12 = .ok (.ireturn, 1) := by decide +kernel
theorem d_jdk_29_method_69_0 : decode jdk_29_method_69_code 0 = .ok (.iload_n 0, 1) := by decide +kernel
theorem d_jdk_29_method_69_1 : decode jdk_29_method_69_code 1 = .ok (.iload_n 1, 1) := by decide +kernel
theorem d_jdk_29_method_69_2 : decode jdk_29_method_69_code 2 = .ok (.if_icmp .gt 7, 3) := by decide +kernel
theorem d_jdk_29_method_69_9 : decode jdk_29_method_69_code 9 = .ok (.iload_n 1, 1) := by decide +kernel
theorem d_jdk_29_method_69_10 : decode jdk_29_method_69_code 10 = .ok (.ireturn, 1) := by decide +kernel
theorem d_jdk_65_method_120_0 : decode jdk_65_method_120_code 0 = .ok (.aload_n 2, 1) := by decide +kernel
theorem d_jdk_65_method_120_1 : decode jdk_65_method_120_code 1 = .ok (.ldc 110, 2) := by decide +kernel
theorem d_jdk_65_method_120_3 : decode jdk_65_method_120_code 3 = .ok (.if_acmp .ne 10, 3) := by decide +kernel
theorem d_jdk_65_method_120_6 : decode jdk_65_method_120_code 6 = .ok (.iload_n 1, 1) := by decide +kernel
theorem d_jdk_65_method_120_7 : decode jdk_65_method_120_code 7 = .ok (.anewarray 2, 3) := by decide +kernel
theorem d_jdk_65_method_120_10 : decode jdk_65_method_120_code 10 = .ok (.goto 14, 3) := by decide +kernel
theorem d_jdk_65_method_120_24 : decode jdk_65_method_120_code 24 = .ok (.astore_n 3, 1) := by decide +kernel
theorem d_jdk_65_method_120_25 : decode jdk_65_method_120_code 25 = .ok (.aload_n 0, 1) := by decide +kernel
theorem d_jdk_65_method_120_26 : decode jdk_65_method_120_code 26 = .ok (.iconst 0, 1) := by decide +kernel
theorem d_jdk_65_method_120_27 : decode jdk_65_method_120_code 27 = .ok (.aload_n 3, 1) := by decide +kernel
theorem d_jdk_65_method_120_28 : decode jdk_65_method_120_code 28 = .ok (.iconst 0, 1) := by decide +kernel
theorem d_jdk_65_method_120_29 : decode jdk_65_method_120_code 29 = .ok (.aload_n 0, 1) := by decide +kernel
theorem d_jdk_65_method_120_30 : decode jdk_65_method_120_code 30 = .ok (.arraylength, 1) := by decide +kernel
theorem d_jdk_65_method_120_31 : decode jdk_65_method_120_code 31 = .ok (.iload_n 1, 1) := by decide +kernel
theorem d_jdk_65_method_120_32 : decode jdk_65_method_120_code 32 = .ok (.invokestatic 304, 3) := by decide +kernel
theorem d_jdk_65_method_120_35 : decode jdk_65_method_120_code 35 = .ok (.invokestatic 150, 3) := by decide +kernel
theorem d_jdk_65_method_120_38 : decode jdk_65_method_120_code 38 = .ok (.aload_n 3, 1) := by decide +kernel
theorem d_jdk_65_method_120_39 : decode jdk_65_method_120_code 39 = .ok (.areturn, 1) := by decide +kernel
theorem d_jdk_65_method_119_0 : decode jdk_65_method_119_code 0 = .ok (.aload_n 0, 1) := by decide +kernel
theorem d_jdk_65_method_119_1 : decode jdk_65_method_119_code 1 = .ok (.iload_n 1, 1) := by decide +kernel
theorem d_jdk_65_method_119_2 : decode jdk_65_method_119_code 2 = .ok (.aload_n 0, 1) := by decide +kernel
theorem d_jdk_65_method_119_3 : decode jdk_65_method_119_code 3 = .ok (.invokevirtual 86, 3) := by decide +kernel
theorem d_jdk_65_method_119_6 : decode jdk_65_method_119_code 6 = .ok (.invokestatic 300, 3) := by decide +kernel
theorem d_jdk_65_method_119_9 : decode jdk_65_method_119_code 9 = .ok (.areturn, 1) := by decide +kernel
theorem d_jdk_38_method_16_0 : decode jdk_38_method_16_code 0 = .ok (.aload_n 0, 1) := by decide +kernel
theorem d_jdk_38_method_16_1 : decode jdk_38_method_16_code 1 = .ok (.getfield 9, 3) := by decide +kernel
theorem d_jdk_38_method_16_4 : decode jdk_38_method_16_code 4 = .ok (.aload_n 0, 1) := by decide +kernel
theorem d_jdk_38_method_16_5 : decode jdk_38_method_16_code 5 = .ok (.getfield 48, 3) := by decide +kernel
theorem d_jdk_38_method_16_8 : decode jdk_38_method_16_code 8 = .ok (.invokestatic 66, 3) := by decide +kernel
theorem d_jdk_38_method_16_11 : decode jdk_38_method_16_code 11 = .ok (.areturn, 1) := by decide +kernel
theorem d_jdk_40_method_47_0 : decode jdk_40_method_47_code 0 = .ok (.aload_n 0, 1) := by decide +kernel
theorem d_jdk_40_method_47_1 : decode jdk_40_method_47_code 1 = .ok (.arraylength, 1) := by decide +kernel
theorem d_jdk_40_method_47_2 : decode jdk_40_method_47_code 2 = .ok (.tableswitch 57 0 2 #[26, 32, 43], 26) := by decide +kernel
theorem d_jdk_40_method_47_34 : decode jdk_40_method_47_code 34 = .ok (.new 96, 3) := by decide +kernel
theorem d_jdk_40_method_47_37 : decode jdk_40_method_47_code 37 = .ok (.dup, 1) := by decide +kernel
theorem d_jdk_40_method_47_38 : decode jdk_40_method_47_code 38 = .ok (.aload_n 0, 1) := by decide +kernel
theorem d_jdk_40_method_47_39 : decode jdk_40_method_47_code 39 = .ok (.iconst 0, 1) := by decide +kernel
theorem d_jdk_40_method_47_40 : decode jdk_40_method_47_code 40 = .ok (.aaload, 1) := by decide +kernel
theorem d_jdk_40_method_47_41 : decode jdk_40_method_47_code 41 = .ok (.invokespecial 98, 3) := by decide +kernel
theorem d_jdk_40_method_47_44 : decode jdk_40_method_47_code 44 = .ok (.areturn, 1) := by decide +kernel
theorem d_jdk_56_method_3_0 : decode jdk_56_method_3_code 0 = .ok (.aload_n 0, 1) := by decide +kernel
theorem d_jdk_56_method_3_1 : decode jdk_56_method_3_code 1 = .ok (.instanceof 10, 3) := by decide +kernel
theorem d_jdk_56_method_3_4 : decode jdk_56_method_3_code 4 = .ok (.ifCond .ne 22, 3) := by decide +kernel
theorem d_jdk_56_method_3_7 : decode jdk_56_method_3_code 7 = .ok (.aload_n 0, 1) := by decide +kernel
theorem d_jdk_56_method_3_8 : decode jdk_56_method_3_code 8 = .ok (.instanceof 12, 3) := by decide +kernel
theorem d_jdk_56_method_3_11 : decode jdk_56_method_3_code 11 = .ok (.ifCond .eq 20, 3) := by decide +kernel
theorem d_jdk_56_method_3_31 : decode jdk_56_method_3_code 31 = .ok (.aload_n 0, 1) := by decide +kernel
theorem d_jdk_56_method_3_32 : decode jdk_56_method_3_code 32 = .ok (.invokeinterface 20 1, 5) := by decide +kernel
theorem d_jdk_56_method_3_37 : decode jdk_56_method_3_code 37 = .ok (.ifCond .eq 7, 3) := by decide +kernel
theorem d_jdk_56_method_3_44 : decode jdk_56_method_3_code 44 = .ok (.aload_n 0, 1) := by decide +kernel
theorem d_jdk_56_method_3_45 : decode jdk_56_method_3_code 45 = .ok (.invokeinterface 30 1, 5) := by decide +kernel
theorem d_jdk_56_method_3_50 : decode jdk_56_method_3_code 50 = .ok (.invokestatic 34, 3) := by decide +kernel
theorem d_jdk_56_method_3_53 : decode jdk_56_method_3_code 53 = .ok (.areturn, 1) := by decide +kernel
theorem d_jdk_40_method_48_0 : decode jdk_40_method_48_code 0 = .ok (.aload_n 0, 1) := by decide +kernel
theorem d_jdk_40_method_48_1 : decode jdk_40_method_48_code 1 = .ok (.invokestatic 112, 3) := by decide +kernel
theorem d_jdk_40_method_48_4 : decode jdk_40_method_48_code 4 = .ok (.areturn, 1) := by decide +kernel
theorem d_jdk_44_method_5_0 : decode jdk_44_method_5_code 0 = .ok (.iload_n 1, 1) := by decide +kernel
theorem d_jdk_44_method_5_1 : decode jdk_44_method_5_code 1 = .ok (.ifCond .ne 8, 3) := by decide +kernel
theorem d_jdk_44_method_5_4 : decode jdk_44_method_5_code 4 = .ok (.aload_n 0, 1) := by decide +kernel
theorem d_jdk_44_method_5_5 : decode jdk_44_method_5_code 5 = .ok (.getfield 13, 3) := by decide +kernel
theorem d_jdk_44_method_5_8 : decode jdk_44_method_5_code 8 = .ok (.areturn, 1) := by decide +kernel
theorem d_jdk_40_method_47_45 : decode jdk_40_method_47_code 45 = .ok (.new 96, 3) := by decide +kernel
theorem d_jdk_40_method_47_48 : decode jdk_40_method_47_code 48 = .ok (.dup, 1) := by decide +kernel
theorem d_jdk_40_method_47_49 : decode jdk_40_method_47_code 49 = .ok (.aload_n 0, 1) := by decide +kernel
theorem d_jdk_40_method_47_50 : decode jdk_40_method_47_code 50 = .ok (.iconst 0, 1) := by decide +kernel
theorem d_jdk_40_method_47_51 : decode jdk_40_method_47_code 51 = .ok (.aaload, 1) := by decide +kernel
theorem d_jdk_40_method_47_52 : decode jdk_40_method_47_code 52 = .ok (.aload_n 0, 1) := by decide +kernel
theorem d_jdk_40_method_47_53 : decode jdk_40_method_47_code 53 = .ok (.iconst 1, 1) := by decide +kernel
theorem d_jdk_40_method_47_54 : decode jdk_40_method_47_code 54 = .ok (.aaload, 1) := by decide +kernel
theorem d_jdk_40_method_47_55 : decode jdk_40_method_47_code 55 = .ok (.invokespecial 100, 3) := by decide +kernel
theorem d_jdk_40_method_47_58 : decode jdk_40_method_47_code 58 = .ok (.areturn, 1) := by decide +kernel
theorem d_jdk_56_method_4_0 : decode jdk_56_method_4_code 0 = .ok (.aload_n 0, 1) := by decide +kernel
theorem d_jdk_56_method_4_1 : decode jdk_56_method_4_code 1 = .ok (.arraylength, 1) := by decide +kernel
theorem d_jdk_56_method_4_2 : decode jdk_56_method_4_code 2 = .ok (.anewarray 2, 3) := by decide +kernel
theorem d_jdk_56_method_4_5 : decode jdk_56_method_4_code 5 = .ok (.astore_n 1, 1) := by decide +kernel
theorem d_jdk_56_method_4_6 : decode jdk_56_method_4_code 6 = .ok (.iconst 0, 1) := by decide +kernel
theorem d_jdk_56_method_4_7 : decode jdk_56_method_4_code 7 = .ok (.istore_n 2, 1) := by decide +kernel
theorem d_jdk_56_method_4_8 : decode jdk_56_method_4_code 8 = .ok (.iload_n 2, 1) := by decide +kernel
theorem d_jdk_56_method_4_9 : decode jdk_56_method_4_code 9 = .ok (.aload_n 0, 1) := by decide +kernel
theorem d_jdk_56_method_4_10 : decode jdk_56_method_4_code 10 = .ok (.arraylength, 1) := by decide +kernel
theorem d_jdk_56_method_4_11 : decode jdk_56_method_4_code 11 = .ok (.if_icmp .ge 18, 3) := by decide +kernel
theorem d_jdk_56_method_4_14 : decode jdk_56_method_4_code 14 = .ok (.aload_n 1, 1) := by decide +kernel
theorem d_jdk_56_method_4_15 : decode jdk_56_method_4_code 15 = .ok (.iload_n 2, 1) := by decide +kernel
theorem d_jdk_56_method_4_16 : decode jdk_56_method_4_code 16 = .ok (.aload_n 0, 1) := by decide +kernel
theorem d_jdk_56_method_4_17 : decode jdk_56_method_4_code 17 = .ok (.iload_n 2, 1) := by decide +kernel
theorem d_jdk_56_method_4_18 : decode jdk_56_method_4_code 18 = .ok (.aaload, 1) := by decide +kernel
theorem d_jdk_56_method_4_19 : decode jdk_56_method_4_code 19 = .ok (.invokestatic 37, 3) := by decide +kernel
theorem d_jdk_56_method_4_22 : decode jdk_56_method_4_code 22 = .ok (.aastore, 1) := by decide +kernel
theorem d_jdk_56_method_4_23 : decode jdk_56_method_4_code 23 = .ok (.iinc 2 1, 3) := by decide +kernel
theorem d_jdk_56_method_4_26 : decode jdk_56_method_4_code 26 = .ok (.goto (-18), 3) := by decide +kernel
theorem d_jdk_56_method_4_29 : decode jdk_56_method_4_code 29 = .ok (.new 12, 3) := by decide +kernel
theorem d_jdk_56_method_4_32 : decode jdk_56_method_4_code 32 = .ok (.dup, 1) := by decide +kernel
theorem d_jdk_56_method_4_33 : decode jdk_56_method_4_code 33 = .ok (.aload_n 1, 1) := by decide +kernel
theorem d_jdk_56_method_4_34 : decode jdk_56_method_4_code 34 = .ok (.iconst 0, 1) := by decide +kernel
theorem d_jdk_56_method_4_35 : decode jdk_56_method_4_code 35 = .ok (.invokespecial 43, 3) := by decide +kernel
theorem d_jdk_56_method_4_38 : decode jdk_56_method_4_code 38 = .ok (.areturn, 1) := by decide +kernel
theorem d_jdk_40_method_47_59 : decode jdk_40_method_47_code 59 = .ok (.aload_n 0, 1) := by decide +kernel
theorem d_jdk_40_method_47_60 : decode jdk_40_method_47_code 60 = .ok (.invokestatic 109, 3) := by decide +kernel
theorem d_jdk_40_method_47_63 : decode jdk_40_method_47_code 63 = .ok (.areturn, 1) := by decide +kernel
theorem d_jdk_45_method_4_0 : decode jdk_45_method_4_code 0 = .ok (.aload_n 0, 1) := by decide +kernel
theorem d_jdk_45_method_4_1 : decode jdk_45_method_4_code 1 = .ok (.getfield 7, 3) := by decide +kernel
theorem d_jdk_45_method_4_4 : decode jdk_45_method_4_code 4 = .ok (.iload_n 1, 1) := by decide +kernel
theorem d_jdk_45_method_4_5 : decode jdk_45_method_4_code 5 = .ok (.aaload, 1) := by decide +kernel
theorem d_jdk_45_method_4_6 : decode jdk_45_method_4_code 6 = .ok (.areturn, 1) := by decide +kernel
theorem d_prog_4_method_1_0 : decode prog_4_method_1_code 0 = .ok (.aload_n 0, 1) := by decide +kernel
theorem d_prog_4_method_1_1 : decode prog_4_method_1_code 1 = .ok (.invokespecial 1, 3) := by decide +kernel
theorem d_prog_4_method_1_4 : decode prog_4_method_1_code 4 = .ok (.aload_n 1, 1) := by decide +kernel
theorem d_prog_4_method_1_5 : decode prog_4_method_1_code 5 = .ok (.invokeinterface 7 1, 5) := by decide +kernel
theorem d_prog_4_method_1_10 : decode prog_4_method_1_code 10 = .ok (.ifCond .eq 13, 3) := by decide +kernel
theorem d_prog_4_method_1_23 : decode prog_4_method_1_code 23 = .ok (.aload_n 1, 1) := by decide +kernel
theorem d_prog_4_method_1_24 : decode prog_4_method_1_code 24 = .ok (.invokestatic 20, 3) := by decide +kernel
theorem d_prog_4_method_1_27 : decode prog_4_method_1_code 27 = .ok (.astore_n 1, 1) := by decide +kernel
theorem d_prog_4_method_1_28 : decode prog_4_method_1_code 28 = .ok (.aload_n 0, 1) := by decide +kernel
theorem d_prog_4_method_1_29 : decode prog_4_method_1_code 29 = .ok (.aload_n 1, 1) := by decide +kernel
theorem d_prog_4_method_1_30 : decode prog_4_method_1_code 30 = .ok (.putfield 24, 3) := by decide +kernel
theorem d_prog_4_method_1_33 : decode prog_4_method_1_code 33 = .ok (.return_, 1) := by decide +kernel
theorem d_prog_4_method_2_0 : decode prog_4_method_2_code 0 = .ok (.aload_n 0, 1) := by decide +kernel
theorem d_prog_4_method_2_1 : decode prog_4_method_2_code 1 = .ok (.getfield 24, 3) := by decide +kernel
theorem d_prog_4_method_2_4 : decode prog_4_method_2_code 4 = .ok (.iconst 0, 1) := by decide +kernel
theorem d_prog_4_method_2_5 : decode prog_4_method_2_code 5 = .ok (.invokeinterface 30 2, 5) := by decide +kernel
theorem d_prog_4_method_2_10 : decode prog_4_method_2_code 10 = .ok (.checkcast 34, 3) := by decide +kernel
theorem d_prog_4_method_2_13 : decode prog_4_method_2_code 13 = .ok (.areturn, 1) := by decide +kernel
theorem pd0 : parseMethodDescriptor "()V" = some ⟨[], none⟩ := by decide +kernel
theorem pd1 : parseMethodDescriptor "(II)I" = some ⟨[.int, .int], some .int⟩ := by decide +kernel
theorem pd2 : parseMethodDescriptor "(I)[Ljava/lang/Object;" = some ⟨[.int], some (.array (.object "java/lang/Object"))⟩ := by decide +kernel
theorem pd3 : parseMethodDescriptor "()[Ljava/lang/Object;" = some ⟨[], some (.array (.object "java/lang/Object"))⟩ := by decide +kernel
theorem pd4 : parseMethodDescriptor "(Ljava/lang/Object;[Ljava/lang/Object;I)V" = some ⟨[(.object "java/lang/Object"), (.array (.object "java/lang/Object")), .int], none⟩ := by decide +kernel
theorem pd5 : parseMethodDescriptor "(Ljava/lang/Object;)Ljava/lang/Object;" = some ⟨[(.object "java/lang/Object")], some (.object "java/lang/Object")⟩ := by decide +kernel
theorem pd6 : parseMethodDescriptor "([Ljava/lang/Object;ILjava/lang/Class;)[Ljava/lang/Object;" = some ⟨[(.array (.object "java/lang/Object")), .int, (.object "java/lang/Class")], some (.array (.object "java/lang/Object"))⟩ := by decide +kernel
theorem pd7 : parseMethodDescriptor "([Ljava/lang/Object;I)[Ljava/lang/Object;" = some ⟨[(.array (.object "java/lang/Object")), .int], some (.array (.object "java/lang/Object"))⟩ := by decide +kernel
theorem pd8 : parseMethodDescriptor "(Ljava/lang/Object;)V" = some ⟨[(.object "java/lang/Object")], none⟩ := by decide +kernel
theorem pd9 : parseMethodDescriptor "()Z" = some ⟨[], some .boolean⟩ := by decide +kernel
theorem pd10 : parseMethodDescriptor "([Ljava/lang/Object;)Ljava/util/List;" = some ⟨[(.array (.object "java/lang/Object"))], some (.object "java/util/List")⟩ := by decide +kernel
theorem pd11 : parseMethodDescriptor "(Ljava/util/Collection;)Ljava/util/List;" = some ⟨[(.object "java/util/Collection")], some (.object "java/util/List")⟩ := by decide +kernel
theorem pd12 : parseMethodDescriptor "(Ljava/lang/Object;Ljava/lang/Object;)V" = some ⟨[(.object "java/lang/Object"), (.object "java/lang/Object")], none⟩ := by decide +kernel
theorem pd13 : parseMethodDescriptor "([Ljava/lang/Object;Z)V" = some ⟨[(.array (.object "java/lang/Object")), .boolean], none⟩ := by decide +kernel
theorem pd14 : parseMethodDescriptor "(I)Ljava/lang/Object;" = some ⟨[.int], some (.object "java/lang/Object")⟩ := by decide +kernel
theorem pd15 : parseMethodDescriptor "(Ljava/lang/String;ILjava/time/Duration;Ljava/util/Optional;Ljava/util/List;Ljava/util/List;)V" = some ⟨[(.object "java/lang/String"), .int, (.object "java/time/Duration"), (.object "java/util/Optional"), (.object "java/util/List"), (.object "java/util/List")], none⟩ := by decide +kernel
theorem pd16 : parseMethodDescriptor "(Ljava/lang/Object;)Z" = some ⟨[(.object "java/lang/Object")], some .boolean⟩ := by decide +kernel
theorem pd17 : parseMethodDescriptor "(Ljava/util/List;)V" = some ⟨[(.object "java/util/List")], none⟩ := by decide +kernel
theorem pd18 : parseMethodDescriptor "()Lcom/example/tolerant_workflows/tolerantworkflows/model/Task;" = some ⟨[], some (.object "com/example/tolerant_workflows/tolerantworkflows/model/Task")⟩ := by decide +kernel
theorem pd19 : parseMethodDescriptor "()I" = some ⟨[], some .int⟩ := by decide +kernel
theorem own_nar255 {x ch : Int32} (h : nar .char ((x &&& (255 : Int32)).toUInt32.toUInt16.toUInt32.toInt32) = ch) : ¬ ch < 0 ∧ ¬ (255 : Int32) < ch := by
  have m := c_mask x 255 8 (by decide) (by decide)
  have a := c_i2c (x &&& 255)
  have b := c_i2c ((x &&& (255 : Int32)).toUInt32.toUInt16.toUInt32.toInt32)
  rw [show ((x &&& (255 : Int32)).toUInt32.toUInt16.toUInt32.toInt32).toUInt32.toUInt16.toUInt32.toInt32 = ch from h] at b
  have e0 : (0 : Int32).toInt = 0 := rfl
  have e1 : (255 : Int32).toInt = 255 := rfl
  rw [Int32.lt_iff_toInt_lt, Int32.lt_iff_toInt_lt]
  omega
theorem own_lat1 {x ch : Int32} (h : nar .char ((x &&& (255 : Int32)).toUInt32.toUInt16.toUInt32.toInt32) = ch) : ∀ z ∈ ([ch] : List Int32), ¬ z < 0 ∧ ¬ (255 : Int32) < z := by
  intro z hz
  cases List.mem_singleton.mp hz
  exact own_nar255 h
theorem own_lt3 {n : Int32} (h : n < (2 : Int32)) : n < (3 : Int32) := by
  have e2 : (2 : Int32).toInt = 2 := rfl
  have e3 : (3 : Int32).toInt = 3 := rfl
  rw [Int32.lt_iff_toInt_lt] at h ⊢
  omega
theorem own_arv0 {Z : State} {args : Array Value} {t : Term} {ty : FieldType} {dv : Value} {C : String} (hx : (Cond.arrayOf t ty).before args Z = true) (he : (Cond.exactly t C).before args Z = true) (hl : (Cond.eq (Term.length t) (Term.int 0)).before args Z = true) : ∃ a k, t.eval args Z none [] Z = some (.ref a) ∧ Arv Z Z.heap a k ty 0 [] dv ∧ Exa Z Z.heap a C := by
  obtain ⟨a, c', cell, k, e1, e2, e3, e4, e5, e6, e7⟩ := Cond.exactly_spec he
  obtain ⟨c, A⟩ := Arr.start e1 (Cond.before_iff.mp hx)
  have hv := Cond.before_iff.mp hl
  have hz : c.slots.size = 0 := by
    cases q : (Term.length t).eval args Z none [] Z with
    | none => simp [Cond.value, q] at hv
    | some v =>
      obtain ⟨a', c2, h1, h2, h3, h4⟩ := length_spec q
      cases e1.symm.trans h1
      have hc : c2 = c := by
        have g := IntBox.arrayAt_of A.1 A.2.1 A.2.2
        exact Option.some.inj (h2.symm.trans g)
      subst hc h4
      rw [Cond.eq_ints q (Term.int_eval 0)] at hv
      have := of_decide_eq_true (Option.some.inj hv)
      exact (toInt32_eq_zero h3).mp this
  refine ⟨a, c.cls, e1, ⟨c, A, rfl, by rw [hz]; decide, by decide, fun k hk => by omega, fun k hk => by omega⟩, Exa.start e1 (Cond.before_iff.mp he)⟩

set_option maxRecDepth 65536 in
set_option maxHeartbeats 40000000 in
theorem c_rec {l : Launch} {Z : State} {a0 : Array Value} (hw : W a0 Z) (a : Addr) (h0 : Heap)  :
    Con l Z (⟨"java/lang/Record", "<init>", "()V"⟩ : MethodName) jdk_30_method_1_code 1 none ({ frames := 1, cells := 0, slots := 0, locals := 12 } : Room) #[(.ref a)] h0 (fun v h' => v = none ∧ h' = h0) := by
  have hpn : plainName "java/lang/Record" = true := by first | (simp [plainName, overriddenIn]; done) | decide +kernel
  refine Con.intro (plainFor_of_name hpn) ?_
  intro p e s m below meth c T X
  refine Goes.cast (g' := mkF m 0 #[.val (.ref a)] []) (by first | (simp [entryFrame, mkF, argsToLocals, Value.category]; done) | rfl) ?_
  refine o_aloadN X d_jdk_30_method_1_0 rfl rfl (q := 1) rfl ?_
  refine o_initO X (w42 hw) (w16 hw) (w17 hw) d_jdk_30_method_1_1 rfl (by decide) (Nat.le_of_ble_eq_true rfl) (q := 4) rfl ?_
  intro T1 X1
  exact o_ret X1 d_jdk_30_method_1_4 ⟨rfl, rfl⟩ (by decide) (by decide)
set_option maxRecDepth 65536 in
set_option maxHeartbeats 40000000 in
theorem c_absC {l : Launch} {Z : State} {a0 : Array Value} (hw : W a0 Z) (a : Addr) (h0 : Heap)  :
    Con l Z (⟨"java/util/AbstractCollection", "<init>", "()V"⟩ : MethodName) jdk_22_method_1_code 1 none ({ frames := 1, cells := 0, slots := 0, locals := 12 } : Room) #[(.ref a)] h0 (fun v h' => v = none ∧ h' = h0) := by
  have hpn : plainName "java/util/AbstractCollection" = true := by first | (simp [plainName, overriddenIn]; done) | decide +kernel
  refine Con.intro (plainFor_of_name hpn) ?_
  intro p e s m below meth c T X
  refine Goes.cast (g' := mkF m 0 #[.val (.ref a)] []) (by first | (simp [entryFrame, mkF, argsToLocals, Value.category]; done) | rfl) ?_
  refine o_aloadN X d_jdk_22_method_1_0 rfl rfl (q := 1) rfl ?_
  refine o_initO X (w73 hw) (w16 hw) (w17 hw) d_jdk_22_method_1_1 rfl (by decide) (Nat.le_of_ble_eq_true rfl) (q := 4) rfl ?_
  intro T1 X1
  exact o_ret X1 d_jdk_22_method_1_4 ⟨rfl, rfl⟩ (by decide) (by decide)
set_option maxRecDepth 65536 in
set_option maxHeartbeats 40000000 in
theorem c_aic {l : Launch} {Z : State} {a0 : Array Value} (hw : W a0 Z) (a : Addr) (h0 : Heap)  :
    Con l Z (⟨"java/util/ImmutableCollections$AbstractImmutableCollection", "<init>", "()V"⟩ : MethodName) jdk_47_method_1_code 1 none ({ frames := 2, cells := 0, slots := 0, locals := 24 } : Room) #[(.ref a)] h0 (fun v h' => v = none ∧ h' = h0) := by
  have hpn : plainName "java/util/ImmutableCollections$AbstractImmutableCollection" = true := by first | (simp [plainName, overriddenIn]; done) | decide +kernel
  refine Con.intro (plainFor_of_name hpn) ?_
  intro p e s m below meth c T X
  refine Goes.cast (g' := mkF m 0 #[.val (.ref a)] []) (by first | (simp [entryFrame, mkF, argsToLocals, Value.category]; done) | rfl) ?_
  refine o_aloadN X d_jdk_47_method_1_0 rfl rfl (q := 1) rfl ?_
  refine o_spec X [] (y' := (⟨"java/util/AbstractCollection", "<init>", "()V"⟩ : MethodName)) (c_absC hw a _) rfl (w200 hw) (w68 hw) (w72 hw) (w71 hw) (by decide) d_jdk_47_method_1_1 (rest := []) rfl rfl (lenOf pd0 rfl) rfl (by decide) (Nat.le_of_ble_eq_true rfl) (by decide) (by decide) (q := 4) rfl ?_
  intro v1 T1 h1 l1 X1 q1
  obtain ⟨rfl, e1⟩ := q1
  have e1 := e1.symm
  subst e1
  show Goes p e below _ T1 (mkF m 4 #[.val (.ref a)] [])
  exact o_ret X1 d_jdk_47_method_1_4 ⟨rfl, rfl⟩ (by decide) (by decide)
set_option maxRecDepth 65536 in
set_option maxHeartbeats 40000000 in
theorem c_ail {l : Launch} {Z : State} {a0 : Array Value} (hw : W a0 Z) (a : Addr) (h0 : Heap)  :
    Con l Z (⟨"java/util/ImmutableCollections$AbstractImmutableList", "<init>", "()V"⟩ : MethodName) jdk_46_method_1_code 1 none ({ frames := 3, cells := 0, slots := 0, locals := 36 } : Room) #[(.ref a)] h0 (fun v h' => v = none ∧ h' = h0) := by
  have hpn : plainName "java/util/ImmutableCollections$AbstractImmutableList" = true := by first | (simp [plainName, overriddenIn]; done) | decide +kernel
  refine Con.intro (plainFor_of_name hpn) ?_
  intro p e s m below meth c T X
  refine Goes.cast (g' := mkF m 0 #[.val (.ref a)] []) (by first | (simp [entryFrame, mkF, argsToLocals, Value.category]; done) | rfl) ?_
  refine o_aloadN X d_jdk_46_method_1_0 rfl rfl (q := 1) rfl ?_
  refine o_spec X [] (y' := (⟨"java/util/ImmutableCollections$AbstractImmutableCollection", "<init>", "()V"⟩ : MethodName)) (c_aic hw a _) rfl (w194 hw) (w195 hw) (w199 hw) (w198 hw) (by decide) d_jdk_46_method_1_1 (rest := []) rfl rfl (lenOf pd0 rfl) rfl (by decide) (Nat.le_of_ble_eq_true rfl) (by decide) (by decide) (q := 4) rfl ?_
  intro v1 T1 h1 l1 X1 q1
  obtain ⟨rfl, e1⟩ := q1
  have e1 := e1.symm
  subst e1
  show Goes p e below _ T1 (mkF m 4 #[.val (.ref a)] [])
  exact o_ret X1 d_jdk_46_method_1_4 ⟨rfl, rfl⟩ (by decide) (by decide)
set_option maxRecDepth 65536 in
set_option maxHeartbeats 40000000 in
theorem c_rnn {l : Launch} {Z : State} {a0 : Array Value} (hw : W a0 Z) (a : Addr) (h0 : Heap)  :
    Con l Z (⟨"java/util/Objects", "requireNonNull", "(Ljava/lang/Object;)Ljava/lang/Object;"⟩ : MethodName) jdk_31_method_10_code 1 (some (.object "java/lang/Object")) ({ frames := 0, cells := 0, slots := 0, locals := 0 } : Room) #[(.ref a)] h0 (fun v h' => v = some (.ref a) ∧ h' = h0) := by
  have hpn : plainName "java/util/Objects" = true := by first | (simp [plainName, overriddenIn]; done) | decide +kernel
  refine Con.intro (plainFor_of_name hpn) ?_
  intro p e s m below meth c T X
  refine Goes.cast (g' := mkF m 0 #[.val (.ref a)] []) (by first | (simp [entryFrame, mkF, argsToLocals, Value.category]; done) | rfl) ?_
  refine o_aloadN X d_jdk_31_method_10_0 rfl rfl (q := 1) rfl ?_
  refine o_ifnonnullY X d_jdk_31_method_10_1 (by decide) (q := 12) (by decide) ?_
  refine o_aloadN X d_jdk_31_method_10_12 rfl rfl (q := 13) rfl ?_
  exact o_retR X d_jdk_31_method_10_13 rfl rfl rfl ⟨rfl, rfl⟩ (by decide) (by decide)
set_option maxRecDepth 65536 in
set_option maxHeartbeats 40000000 in
theorem c_task {l : Launch} {Z : State} {a0 : Array Value} (hw : W a0 Z) (a t : Addr) (ix : Int32) (h0 : Heap) (E : Exa Z h0 a "com/example/tolerant_workflows/tolerantworkflows/model/Task") (ga : Z.heap.size ≤ a) (F_id : Fld Z h0 a "com/example/tolerant_workflows/tolerantworkflows/model/Task" "id" "Ljava/lang/String;" .null) (F_index : Fld Z h0 a "com/example/tolerant_workflows/tolerantworkflows/model/Task" "index" "I" (.int (0 : Int32))) (F_runtime : Fld Z h0 a "com/example/tolerant_workflows/tolerantworkflows/model/Task" "runtime" "Ljava/time/Duration;" .null) (F_command : Fld Z h0 a "com/example/tolerant_workflows/tolerantworkflows/model/Task" "command" "Ljava/util/Optional;" .null) (F_parents : Fld Z h0 a "com/example/tolerant_workflows/tolerantworkflows/model/Task" "parents" "Ljava/util/List;" .null) (F_children : Fld Z h0 a "com/example/tolerant_workflows/tolerantworkflows/model/Task" "children" "Ljava/util/List;" .null) :
    Con l Z (⟨"com/example/tolerant_workflows/tolerantworkflows/model/Task", "<init>", "(Ljava/lang/String;ILjava/time/Duration;Ljava/util/Optional;Ljava/util/List;Ljava/util/List;)V"⟩ : MethodName) prog_61_method_1_code 7 none ({ frames := 2, cells := 0, slots := 0, locals := 24 } : Room) #[(.ref a), (.ref t), (.int ix), .null, .null, .null, .null] h0 (fun v h' => v = none ∧ Keep h0 h' [a] ∧ Fld Z h' a "com/example/tolerant_workflows/tolerantworkflows/model/Task" "index" "I" (.int ix)) := by
  have hpn : plainName "com/example/tolerant_workflows/tolerantworkflows/model/Task" = true := by first | (simp [plainName, overriddenIn]; done) | decide +kernel
  refine Con.intro (plainFor_of_name hpn) ?_
  intro p e s m below meth c T X
  refine Goes.cast (g' := mkF m 0 #[.val (.ref a), .val (.ref t), .val (.int ix), .val .null, .val .null, .val .null, .val .null] []) (by first | (simp [entryFrame, mkF, argsToLocals, Value.category]; done) | rfl) ?_
  refine o_aloadN X d_prog_61_method_1_0 rfl rfl (q := 1) rfl ?_
  refine o_spec X [] (y' := (⟨"java/lang/Record", "<init>", "()V"⟩ : MethodName)) (c_rec hw a _) rfl (w37 hw) (w38 hw) (w41 hw) (w40 hw) (by decide) d_prog_61_method_1_1 (rest := []) rfl rfl (lenOf pd0 rfl) rfl (by decide) (Nat.le_of_ble_eq_true rfl) (by decide) (by decide) (q := 4) rfl ?_
  intro v1 T1 h1 l1 X1 q1
  obtain ⟨rfl, e1⟩ := q1
  have e1 := e1.symm
  subst e1
  show Goes p e below _ T1 (mkF m 4 #[.val (.ref a), .val (.ref t), .val (.int ix), .val .null, .val .null, .val .null, .val .null] [])
  refine o_aloadN X1 d_prog_61_method_1_4 rfl rfl (q := 5) rfl ?_
  refine o_aloadN X1 d_prog_61_method_1_5 rfl rfl (q := 6) rfl ?_
  refine o_putF X1 F_id E ga (host := "") (Or.inl (w43 hw)) Via.refl (Or.inr ⟨(w44 hw), rfl, rfl⟩) (w3 hw) (ty := (.object "java/lang/String")) (by decide) rfl rfl d_prog_61_method_1_6 (q := 9) rfl ?_
  intro T2 h2 l2 X2 W2 F2
  refine o_aloadN X2 d_prog_61_method_1_9 rfl rfl (q := 10) rfl ?_
  refine o_iloadN X2 d_prog_61_method_1_10 rfl (q := 11) rfl ?_
  have f3 := (F_index.other W2 (Or.inr (slot_ne (Or.inr (w46 hw)) (Or.inr (w44 hw)) (by decide) (t := .int) (t' := (.object "java/lang/String")) (by decide) (by decide))))
  have f4 := (E.wr W2)
  refine o_putF X2 f3 f4 ga (host := "") (Or.inl (w45 hw)) Via.refl (Or.inr ⟨(w46 hw), rfl, rfl⟩) (w3 hw) (ty := .int) (by decide) rfl rfl d_prog_61_method_1_11 (q := 14) rfl ?_
  intro T5 h5 l5 X5 W5 F5
  refine o_aloadN X5 d_prog_61_method_1_14 rfl rfl (q := 15) rfl ?_
  refine o_aloadN X5 d_prog_61_method_1_15 rfl rfl (q := 16) rfl ?_
  have f6 := ((F_runtime.other W2 (Or.inr (slot_ne (Or.inr (w48 hw)) (Or.inr (w44 hw)) (by decide) (t := (.object "java/time/Duration")) (t' := (.object "java/lang/String")) (by decide) (by decide)))).other W5 (Or.inr (slot_ne (Or.inr (w48 hw)) (Or.inr (w46 hw)) (by decide) (t := (.object "java/time/Duration")) (t' := .int) (by decide) (by decide))))
  have f7 := (f4.wr W5)
  refine o_putF X5 f6 f7 ga (host := "") (Or.inl (w47 hw)) Via.refl (Or.inr ⟨(w48 hw), rfl, rfl⟩) (w3 hw) (ty := (.object "java/time/Duration")) (by decide) rfl rfl d_prog_61_method_1_16 (q := 19) rfl ?_
  intro T8 h8 l8 X8 W8 F8
  refine o_aloadN X8 d_prog_61_method_1_19 rfl rfl (q := 20) rfl ?_
  refine o_aload X8 d_prog_61_method_1_20 rfl rfl (q := 22) rfl ?_
  have f9 := (((F_command.other W2 (Or.inr (slot_ne (Or.inr (w50 hw)) (Or.inr (w44 hw)) (by decide) (t := (.object "java/util/Optional")) (t' := (.object "java/lang/String")) (by decide) (by decide)))).other W5 (Or.inr (slot_ne (Or.inr (w50 hw)) (Or.inr (w46 hw)) (by decide) (t := (.object "java/util/Optional")) (t' := .int) (by decide) (by decide)))).other W8 (Or.inr (slot_ne (Or.inr (w50 hw)) (Or.inr (w48 hw)) (by decide) (t := (.object "java/util/Optional")) (t' := (.object "java/time/Duration")) (by decide) (by decide))))
  have f10 := (f7.wr W8)
  refine o_putF X8 f9 f10 ga (host := "") (Or.inl (w49 hw)) Via.refl (Or.inr ⟨(w50 hw), rfl, rfl⟩) (w3 hw) (ty := (.object "java/util/Optional")) (by decide) rfl rfl d_prog_61_method_1_22 (q := 25) rfl ?_
  intro T11 h11 l11 X11 W11 F11
  refine o_aloadN X11 d_prog_61_method_1_25 rfl rfl (q := 26) rfl ?_
  refine o_aload X11 d_prog_61_method_1_26 rfl rfl (q := 28) rfl ?_
  have f12 := ((((F_parents.other W2 (Or.inr (slot_ne (Or.inr (w52 hw)) (Or.inr (w44 hw)) (by decide) (t := (.object "java/util/List")) (t' := (.object "java/lang/String")) (by decide) (by decide)))).other W5 (Or.inr (slot_ne (Or.inr (w52 hw)) (Or.inr (w46 hw)) (by decide) (t := (.object "java/util/List")) (t' := .int) (by decide) (by decide)))).other W8 (Or.inr (slot_ne (Or.inr (w52 hw)) (Or.inr (w48 hw)) (by decide) (t := (.object "java/util/List")) (t' := (.object "java/time/Duration")) (by decide) (by decide)))).other W11 (Or.inr (slot_ne (Or.inr (w52 hw)) (Or.inr (w50 hw)) (by decide) (t := (.object "java/util/List")) (t' := (.object "java/util/Optional")) (by decide) (by decide))))
  have f13 := (f10.wr W11)
  refine o_putF X11 f12 f13 ga (host := "") (Or.inl (w51 hw)) Via.refl (Or.inr ⟨(w52 hw), rfl, rfl⟩) (w3 hw) (ty := (.object "java/util/List")) (by decide) rfl rfl d_prog_61_method_1_28 (q := 31) rfl ?_
  intro T14 h14 l14 X14 W14 F14
  refine o_aloadN X14 d_prog_61_method_1_31 rfl rfl (q := 32) rfl ?_
  refine o_aload X14 d_prog_61_method_1_32 rfl rfl (q := 34) rfl ?_
  have f15 := (((((F_children.other W2 (Or.inr (slot_ne (Or.inr (w54 hw)) (Or.inr (w44 hw)) (by decide) (t := (.object "java/util/List")) (t' := (.object "java/lang/String")) (by decide) (by decide)))).other W5 (Or.inr (slot_ne (Or.inr (w54 hw)) (Or.inr (w46 hw)) (by decide) (t := (.object "java/util/List")) (t' := .int) (by decide) (by decide)))).other W8 (Or.inr (slot_ne (Or.inr (w54 hw)) (Or.inr (w48 hw)) (by decide) (t := (.object "java/util/List")) (t' := (.object "java/time/Duration")) (by decide) (by decide)))).other W11 (Or.inr (slot_ne (Or.inr (w54 hw)) (Or.inr (w50 hw)) (by decide) (t := (.object "java/util/List")) (t' := (.object "java/util/Optional")) (by decide) (by decide)))).other W14 (Or.inr (slot_ne (Or.inr (w54 hw)) (Or.inr (w52 hw)) (by decide) (t := (.object "java/util/List")) (t' := (.object "java/util/List")) (by decide) (by decide))))
  have f16 := (f13.wr W14)
  refine o_putF X14 f15 f16 ga (host := "") (Or.inl (w53 hw)) Via.refl (Or.inr ⟨(w54 hw), rfl, rfl⟩) (w3 hw) (ty := (.object "java/util/List")) (by decide) rfl rfl d_prog_61_method_1_34 (q := 37) rfl ?_
  intro T17 h17 l17 X17 W17 F17
  have k18 := Keep.wr (Keep.refl h0 [a]) W2 (Or.inl (by simp))
  have k19 := Keep.wr k18 W5 (Or.inl (by simp))
  have k20 := Keep.wr k19 W8 (Or.inl (by simp))
  have k21 := Keep.wr k20 W11 (Or.inl (by simp))
  have k22 := Keep.wr k21 W14 (Or.inl (by simp))
  have k23 := Keep.wr k22 W17 (Or.inl (by simp))
  have f24 := ((((F5.other W8 (Or.inr (slot_ne (Or.inr (w46 hw)) (Or.inr (w48 hw)) (by decide) (t := .int) (t' := (.object "java/time/Duration")) (by decide) (by decide)))).other W11 (Or.inr (slot_ne (Or.inr (w46 hw)) (Or.inr (w50 hw)) (by decide) (t := .int) (t' := (.object "java/util/Optional")) (by decide) (by decide)))).other W14 (Or.inr (slot_ne (Or.inr (w46 hw)) (Or.inr (w52 hw)) (by decide) (t := .int) (t' := (.object "java/util/List")) (by decide) (by decide)))).other W17 (Or.inr (slot_ne (Or.inr (w46 hw)) (Or.inr (w54 hw)) (by decide) (t := .int) (t' := (.object "java/util/List")) (by decide) (by decide))))
  exact o_ret X17 d_prog_61_method_1_37 ⟨rfl, k23, f24⟩ (by decide) (by decide)
set_option maxRecDepth 65536 in
set_option maxHeartbeats 40000000 in
theorem c_index {l : Launch} {Z : State} {a0 : Array Value} (hw : W a0 Z) (a : Addr) (ix : Int32) (h0 : Heap) (F : Fld Z h0 a "com/example/tolerant_workflows/tolerantworkflows/model/Task" "index" "I" (.int ix)) :
    Con l Z (⟨"com/example/tolerant_workflows/tolerantworkflows/model/Task", "index", "()I"⟩ : MethodName) prog_61_method_7_code 1 (some .int) ({ frames := 0, cells := 0, slots := 0, locals := 0 } : Room) #[(.ref a)] h0 (fun v h' => v = some (.int ix) ∧ h' = h0) := by
  have hpn : plainName "com/example/tolerant_workflows/tolerantworkflows/model/Task" = true := by first | (simp [plainName, overriddenIn]; done) | decide +kernel
  refine Con.intro (plainFor_of_name hpn) ?_
  intro p e s m below meth c T X
  refine Goes.cast (g' := mkF m 0 #[.val (.ref a)] []) (by first | (simp [entryFrame, mkF, argsToLocals, Value.category]; done) | rfl) ?_
  refine o_aloadN X d_prog_61_method_7_0 rfl rfl (q := 1) rfl ?_
  refine o_getF X F (host := "") (Or.inl (w45 hw)) Via.refl d_prog_61_method_7_1 (q := 4) rfl ?_
  intro T1 X1
  exact o_retI X1 d_prog_61_method_7_4 ⟨rfl, rfl⟩ (by decide) (by decide)
set_option maxRecDepth 65536 in
set_option maxHeartbeats 40000000 in
theorem c_absL {l : Launch} {Z : State} {a0 : Array Value} (hw : W a0 Z) (la : Addr) (h0 : Heap) (E_la : Exa Z h0 la "java/util/ArrayList") (g_la : Z.heap.size ≤ la) (F_la_modCount : Fld Z h0 la "java/util/AbstractList" "modCount" "I" (.int (0 : Int32))) (F_la_elementData : Fld Z h0 la "java/util/ArrayList" "elementData" "[Ljava/lang/Object;" .null) (F_la_size : Fld Z h0 la "java/util/ArrayList" "size" "I" (.int (0 : Int32))) :
    Con l Z (⟨"java/util/AbstractList", "<init>", "()V"⟩ : MethodName) jdk_39_method_1_code 1 none ({ frames := 2, cells := 0, slots := 0, locals := 24 } : Room) #[(.ref la)] h0 (fun v h' => v = none ∧ Keep h0 h' [la] ∧ Fld Z h' la "java/util/AbstractList" "modCount" "I" (.int (0 : Int32)) ∧ Fld Z h' la "java/util/ArrayList" "elementData" "[Ljava/lang/Object;" .null ∧ Fld Z h' la "java/util/ArrayList" "size" "I" (.int (0 : Int32))) := by
  have hpn : plainName "java/util/AbstractList" = true := by first | (simp [plainName, overriddenIn]; done) | decide +kernel
  refine Con.intro (plainFor_of_name hpn) ?_
  intro p e s m below meth c T X
  refine Goes.cast (g' := mkF m 0 #[.val (.ref la)] []) (by first | (simp [entryFrame, mkF, argsToLocals, Value.category]; done) | rfl) ?_
  refine o_aloadN X d_jdk_39_method_1_0 rfl rfl (q := 1) rfl ?_
  refine o_spec X [] (y' := (⟨"java/util/AbstractCollection", "<init>", "()V"⟩ : MethodName)) (c_absC hw la _) rfl (w67 hw) (w68 hw) (w72 hw) (w71 hw) (by decide) d_jdk_39_method_1_1 (rest := []) rfl rfl (lenOf pd0 rfl) rfl (by decide) (Nat.le_of_ble_eq_true rfl) (by decide) (by decide) (q := 4) rfl ?_
  intro v1 T1 h1 l1 X1 q1
  obtain ⟨rfl, e1⟩ := q1
  have e1 := e1.symm
  subst e1
  show Goes p e below _ T1 (mkF m 4 #[.val (.ref la)] [])
  refine o_aloadN X1 d_jdk_39_method_1_4 rfl rfl (q := 5) rfl ?_
  refine o_iconst X1 d_jdk_39_method_1_5 (w := 0) rfl (q := 6) rfl ?_
  refine o_putF X1 F_la_modCount E_la g_la (host := "") (Or.inl (w74 hw)) Via.refl (Or.inl (w75 hw)) (w56 hw) (ty := .int) (by decide) rfl rfl d_jdk_39_method_1_6 (q := 9) rfl ?_
  intro T2 h2 l2 X2 W2 F2
  have k3 := Keep.wr (Keep.refl h0 [la]) W2 (Or.inl (by simp))
  have f4 := (F_la_elementData.other W2 (Or.inr (slot_ne (Or.inl (w78 hw)) (Or.inl (w75 hw)) (by decide) (t := (.array (.object "java/lang/Object"))) (t' := .int) (by decide) (by decide))))
  have f5 := (F_la_size.other W2 (Or.inr (slot_ne (Or.inl (w91 hw)) (Or.inl (w75 hw)) (by decide) (t := .int) (t' := .int) (by decide) (by decide))))
  exact o_ret X2 d_jdk_39_method_1_9 ⟨rfl, k3, F2, f4, f5⟩ (by decide) (by decide)
set_option maxRecDepth 65536 in
set_option maxHeartbeats 40000000 in
theorem c_alinit {l : Launch} {Z : State} {a0 : Array Value} (hw : W a0 Z) (la : Addr) (h0 : Heap) {dd : Addr} {kdd : ClassId} (SD : Sta Z Z.heap "java/util/ArrayList" "DEFAULTCAPACITY_EMPTY_ELEMENTDATA" "[Ljava/lang/Object;" (.ref dd)) (VD : Arv Z Z.heap dd kdd (.object "java/lang/Object") (0 : Int32) [] .null) (E_la : Exa Z h0 la "java/util/ArrayList") (g_la : Z.heap.size ≤ la) (F_la_modCount : Fld Z h0 la "java/util/AbstractList" "modCount" "I" (.int (0 : Int32))) (F_la_elementData : Fld Z h0 la "java/util/ArrayList" "elementData" "[Ljava/lang/Object;" .null) (F_la_size : Fld Z h0 la "java/util/ArrayList" "size" "I" (.int (0 : Int32))) :
    Con l Z (⟨"java/util/ArrayList", "<init>", "()V"⟩ : MethodName) jdk_38_method_2_code 1 none ({ frames := 3, cells := 0, slots := 0, locals := 36 } : Room) #[(.ref la)] h0 (fun v h' => v = none ∧ Keep h0 h' [la] ∧ Fld Z h' la "java/util/AbstractList" "modCount" "I" (.int (0 : Int32)) ∧ Fld Z h' la "java/util/ArrayList" "elementData" "[Ljava/lang/Object;" (.ref dd) ∧ Fld Z h' la "java/util/ArrayList" "size" "I" (.int (0 : Int32))) := by
  have hpn : plainName "java/util/ArrayList" = true := by first | (simp [plainName, overriddenIn]; done) | decide +kernel
  refine Con.intro (plainFor_of_name hpn) ?_
  intro p e s m below meth c T X
  refine Goes.cast (g' := mkF m 0 #[.val (.ref la)] []) (by first | (simp [entryFrame, mkF, argsToLocals, Value.category]; done) | rfl) ?_
  refine o_aloadN X d_jdk_38_method_2_0 rfl rfl (q := 1) rfl ?_
  refine o_spec X [] (y' := (⟨"java/util/AbstractList", "<init>", "()V"⟩ : MethodName)) (c_absL hw la _ E_la g_la F_la_modCount F_la_elementData F_la_size) rfl (w61 hw) (w62 hw) (w66 hw) (w65 hw) (by decide) d_jdk_38_method_2_1 (rest := []) rfl rfl (lenOf pd0 rfl) rfl (by decide) (Nat.le_of_ble_eq_true rfl) (by decide) (by decide) (q := 4) rfl ?_
  intro v1 T1 h1 l1 X1 q1
  obtain ⟨rfl, K1, FmodCount1, FelementData1, Fsize1⟩ := q1
  show Goes p e below _ T1 (mkF m 4 #[.val (.ref la)] [])
  refine o_aloadN X1 d_jdk_38_method_2_4 rfl rfl (q := 5) rfl ?_
  refine o_getS X1 SD (host := "") (Or.inl (w76 hw)) Via.refl d_jdk_38_method_2_5 (q := 8) rfl ?_
  intro T2 X2
  have f3 := (E_la.keep K1)
  refine o_putF X2 FelementData1 f3 g_la (host := "") (Or.inl (w77 hw)) Via.refl (Or.inl (w78 hw)) (w56 hw) (ty := (.array (.object "java/lang/Object"))) (by decide) rfl rfl d_jdk_38_method_2_8 (q := 11) rfl ?_
  intro T4 h4 l4 X4 W4 F4
  have k5 := Keep.trans (Keep.refl h0 [la]) K1 (allS (Or.inl (by simp)) all0)
  have k6 := Keep.wr k5 W4 (Or.inl (by simp))
  have f7 := (FmodCount1.other W4 (Or.inr (slot_ne (Or.inl (w75 hw)) (Or.inl (w78 hw)) (by decide) (t := .int) (t' := (.array (.object "java/lang/Object"))) (by decide) (by decide))))
  have f8 := (Fsize1.other W4 (Or.inr (slot_ne (Or.inl (w91 hw)) (Or.inl (w78 hw)) (by decide) (t := .int) (t' := (.array (.object "java/lang/Object"))) (by decide) (by decide))))
  exact o_ret X4 d_jdk_38_method_2_11 ⟨rfl, k6, f7, F4, f8⟩ (by decide) (by decide)
set_option maxRecDepth 65536 in
set_option maxHeartbeats 40000000 in
theorem c_max10 {l : Launch} {Z : State} {a0 : Array Value} (hw : W a0 Z) (h0 : Heap)  :
    Con l Z (⟨"java/lang/Math", "max", "(II)I"⟩ : MethodName) jdk_29_method_65_code 2 (some .int) ({ frames := 0, cells := 0, slots := 0, locals := 0 } : Room) #[(.int (10 : Int32)), (.int (1 : Int32))] h0 (fun v h' => v = some (.int 10) ∧ h' = h0) := by
  refine Con.intro (Jvm.Free.JP.mathPlain rfl (by decide +kernel)) ?_
  intro p e s m below meth c T X
  refine Goes.cast (g' := mkF m 0 #[.val (.int (10 : Int32)), .val (.int (1 : Int32))] []) (by first | (simp [entryFrame, mkF, argsToLocals, Value.category]; done) | rfl) ?_
  refine o_iloadN X d_jdk_29_method_65_0 rfl (q := 1) rfl ?_
  refine o_iloadN X d_jdk_29_method_65_1 rfl (q := 2) rfl ?_
  refine o_icmpN X d_jdk_29_method_65_2 (by decide) (q := 5) rfl ?_
  refine o_iloadN X d_jdk_29_method_65_5 rfl (q := 6) rfl ?_
  refine o_goto X d_jdk_29_method_65_6 (by decide) (q := 10) (by decide) ?_
  exact o_retI X d_jdk_29_method_65_10 ⟨rfl, rfl⟩ (by decide) (by decide)
set_option maxRecDepth 65536 in
set_option maxHeartbeats 40000000 in
theorem c_growI {l : Launch} {Z : State} {a0 : Array Value} (hw : W a0 Z) (la : Addr) (h0 : Heap) {dd : Addr} {kdd : ClassId} (SD : Sta Z Z.heap "java/util/ArrayList" "DEFAULTCAPACITY_EMPTY_ELEMENTDATA" "[Ljava/lang/Object;" (.ref dd)) (VD : Arv Z Z.heap dd kdd (.object "java/lang/Object") (0 : Int32) [] .null) (E_la : Exa Z h0 la "java/util/ArrayList") (g_la : Z.heap.size ≤ la) (F_la_modCount : Fld Z h0 la "java/util/AbstractList" "modCount" "I" (.int (1 : Int32))) (F_la_elementData : Fld Z h0 la "java/util/ArrayList" "elementData" "[Ljava/lang/Object;" (.ref dd)) (F_la_size : Fld Z h0 la "java/util/ArrayList" "size" "I" (.int (0 : Int32))) :
    Con l Z (⟨"java/util/ArrayList", "grow", "(I)[Ljava/lang/Object;"⟩ : MethodName) jdk_38_method_6_code 4 (some (.array (.object "java/lang/Object"))) ({ frames := 1, cells := 1, slots := 10, locals := 14 } : Room) #[(.ref la), (.int (1 : Int32))] h0 (fun v h' => ∃ (d : Addr) (k : ClassId), v = some (.ref d) ∧ Keep h0 h' [la] ∧ Fld Z h' la "java/util/AbstractList" "modCount" "I" (.int (1 : Int32)) ∧ Fld Z h' la "java/util/ArrayList" "elementData" "[Ljava/lang/Object;" (.ref d) ∧ Fld Z h' la "java/util/ArrayList" "size" "I" (.int (0 : Int32)) ∧ Arv Z h' d k (.object "java/lang/Object") (10 : Int32) [.null, .null, .null, .null, .null, .null, .null, .null, .null, .null] .null ∧ Exa Z h' d "[Ljava/lang/Object;" ∧ Ovr Z k "java/lang/Object" ∧ h0.size ≤ d) := by
  have hpn : plainName "java/util/ArrayList" = true := by first | (simp [plainName, overriddenIn]; done) | decide +kernel
  refine Con.intro (plainFor_of_name hpn) ?_
  intro p e s m below meth c T X
  refine Goes.cast (g' := mkF m 0 #[.val (.ref la), .val (.int (1 : Int32)), .unset, .unset] []) (by first | (simp [entryFrame, mkF, argsToLocals, Value.category]; done) | rfl) ?_
  refine o_aloadN X d_jdk_38_method_6_0 rfl rfl (q := 1) rfl ?_
  refine o_getF X F_la_elementData (host := "") (Or.inl (w77 hw)) Via.refl d_jdk_38_method_6_1 (q := 4) rfl ?_
  intro T1 X1
  refine o_len X1 (VD.ext X1.ext) d_jdk_38_method_6_4 (q := 5) rfl ?_
  refine o_istoreN X1 d_jdk_38_method_6_5 rfl (L' := #[.val (.ref la), .val (.int (1 : Int32)), .val (.int (0 : Int32)), .unset]) rfl (q := 6) rfl ?_
  refine o_iloadN X1 d_jdk_38_method_6_6 rfl (q := 7) rfl ?_
  refine o_ifN X1 d_jdk_38_method_6_7 (by decide) (q := 10) rfl ?_
  refine o_aloadN X1 d_jdk_38_method_6_10 rfl rfl (q := 11) rfl ?_
  refine o_getF X1 F_la_elementData (host := "") (Or.inl (w77 hw)) Via.refl d_jdk_38_method_6_11 (q := 14) rfl ?_
  intro T2 X2
  refine o_getS X2 SD (host := "") (Or.inl (w76 hw)) Via.refl d_jdk_38_method_6_14 (q := 17) rfl ?_
  intro T3 X3
  refine o_acmp X3 d_jdk_38_method_6_17 rfl rfl (same := true) (decide_eq_true rfl) (by decide) (q := 45) (by decide) ?_
  refine o_aloadN X3 d_jdk_38_method_6_45 rfl rfl (q := 46) rfl ?_
  refine o_bipush X3 d_jdk_38_method_6_46 (w := 10) rfl (q := 48) rfl ?_
  refine o_iloadN X3 d_jdk_38_method_6_48 rfl (q := 49) rfl ?_
  refine o_stat X3 [(.int (10 : Int32)), (.int (1 : Int32))] (y' := (⟨"java/lang/Math", "max", "(II)I"⟩ : MethodName)) (c_max10 hw _) (w107 hw) (w108 hw) (w109 hw) (w110 hw) (by decide) d_jdk_38_method_6_49 (rest := [(.ref la)]) rfl rfl (lenOf pd1 rfl) rfl (by decide) (Nat.le_of_ble_eq_true rfl) (by decide) (by decide) (q := 52) rfl ?_
  intro v4 T4 h4 l4 X4 q4
  obtain ⟨rfl, e4⟩ := q4
  have e4 := e4.symm
  subst e4
  show Goes p e below _ T4 (mkF m 52 #[.val (.ref la), .val (.int (1 : Int32)), .val (.int (0 : Int32)), .unset] [(.int (10 : Int32)), (.ref la)])
  refine o_anew X4 (cap := 10) (ad := "[Ljava/lang/Object;") 10 (w111 hw) (w112 hw) (by decide) d_jdk_38_method_6_52 (by decide) (by decide) (by decide) (by decide) (by decide) (q := 55) rfl ?_
  intro T5 h5 b5 k5 gb5 X5 E5 V5 A5 O5 g0_b5
  have V5 : Arv Z h5 b5 k5 (.object "java/lang/Object") (10 : Int32) [.null, .null, .null, .null, .null, .null, .null, .null, .null, .null] .null := V5
  refine o_dupX1 X5 d_jdk_38_method_6_55 rfl rfl (q := 56) rfl ?_
  have f6 := (F_la_elementData.ext E5)
  have f7 := (E_la.ext E5)
  refine o_putF X5 f6 f7 g_la (host := "") (Or.inl (w77 hw)) Via.refl (Or.inl (w78 hw)) (w56 hw) (ty := (.array (.object "java/lang/Object"))) (by decide) rfl rfl d_jdk_38_method_6_56 (q := 59) rfl ?_
  intro T8 h8 l8 X8 W8 F8
  have sz9 := Nat.le_trans (Keep.refl h0 [la]).1 (Nat.le_of_eq gb5.symm)
  have k10 := Keep.ext (Keep.refl h0 [la]) E5
  have k11 := Keep.wr k10 W8 (Or.inl (by simp))
  have f12 := ((F_la_modCount.ext E5).other W8 (Or.inr (slot_ne (Or.inl (w75 hw)) (Or.inl (w78 hw)) (by decide) (t := .int) (t' := (.array (.object "java/lang/Object"))) (by decide) (by decide))))
  have f13 := ((F_la_size.ext E5).other W8 (Or.inr (slot_ne (Or.inl (w91 hw)) (Or.inl (w78 hw)) (by decide) (t := .int) (t' := (.array (.object "java/lang/Object"))) (by decide) (by decide))))
  have f14 := (V5.other W8 (Ne.symm (Nat.ne_of_lt (Nat.lt_of_lt_of_le E_la.lt (Nat.le_of_eq gb5.symm)))))
  have f15 := (A5.wr W8)
  exact o_retR X8 d_jdk_38_method_6_59 rfl rfl rfl ⟨b5, k5, rfl, k11, f12, F8, f13, f14, f15, O5, sz9⟩ (by decide) (by decide)
set_option maxRecDepth 65536 in
set_option maxHeartbeats 40000000 in
theorem c_grow {l : Launch} {Z : State} {a0 : Array Value} (hw : W a0 Z) (la : Addr) (h0 : Heap) {dd : Addr} {kdd : ClassId} (SD : Sta Z Z.heap "java/util/ArrayList" "DEFAULTCAPACITY_EMPTY_ELEMENTDATA" "[Ljava/lang/Object;" (.ref dd)) (VD : Arv Z Z.heap dd kdd (.object "java/lang/Object") (0 : Int32) [] .null) (E_la : Exa Z h0 la "java/util/ArrayList") (g_la : Z.heap.size ≤ la) (F_la_modCount : Fld Z h0 la "java/util/AbstractList" "modCount" "I" (.int (1 : Int32))) (F_la_elementData : Fld Z h0 la "java/util/ArrayList" "elementData" "[Ljava/lang/Object;" (.ref dd)) (F_la_size : Fld Z h0 la "java/util/ArrayList" "size" "I" (.int (0 : Int32))) :
    Con l Z (⟨"java/util/ArrayList", "grow", "()[Ljava/lang/Object;"⟩ : MethodName) jdk_38_method_7_code 1 (some (.array (.object "java/lang/Object"))) ({ frames := 2, cells := 1, slots := 10, locals := 29 } : Room) #[(.ref la)] h0 (fun v h' => ∃ (d : Addr) (k : ClassId), v = some (.ref d) ∧ Keep h0 h' [la] ∧ Fld Z h' la "java/util/AbstractList" "modCount" "I" (.int (1 : Int32)) ∧ Fld Z h' la "java/util/ArrayList" "elementData" "[Ljava/lang/Object;" (.ref d) ∧ Fld Z h' la "java/util/ArrayList" "size" "I" (.int (0 : Int32)) ∧ Arv Z h' d k (.object "java/lang/Object") (10 : Int32) [.null, .null, .null, .null, .null, .null, .null, .null, .null, .null] .null ∧ Exa Z h' d "[Ljava/lang/Object;" ∧ Ovr Z k "java/lang/Object" ∧ h0.size ≤ d) := by
  have hpn : plainName "java/util/ArrayList" = true := by first | (simp [plainName, overriddenIn]; done) | decide +kernel
  refine Con.intro (plainFor_of_name hpn) ?_
  intro p e s m below meth c T X
  refine Goes.cast (g' := mkF m 0 #[.val (.ref la)] []) (by first | (simp [entryFrame, mkF, argsToLocals, Value.category]; done) | rfl) ?_
  refine o_aloadN X d_jdk_38_method_7_0 rfl rfl (q := 1) rfl ?_
  refine o_aloadN X d_jdk_38_method_7_1 rfl rfl (q := 2) rfl ?_
  refine o_getF X F_la_size (host := "") (Or.inl (w90 hw)) Via.refl d_jdk_38_method_7_2 (q := 5) rfl ?_
  intro T1 X1
  refine o_iconst X1 d_jdk_38_method_7_5 (w := 1) rfl (q := 6) rfl ?_
  refine o_iadd X1 d_jdk_38_method_7_6 (w := (1 : Int32)) (by decide) (q := 7) rfl ?_
  refine o_priv X1 [(.int (1 : Int32))] (y' := (⟨"java/util/ArrayList", "grow", "(I)[Ljava/lang/Object;"⟩ : MethodName)) E_la (c_growI hw la _ SD VD E_la g_la F_la_modCount F_la_elementData F_la_size) (w102 hw) (w103 hw) (w105 hw) (w104 hw) (w106 hw) (w57 hw) (by decide) d_jdk_38_method_7_7 (rest := []) rfl rfl (lenOf pd2 rfl) rfl (by decide) (Nat.le_of_ble_eq_true rfl) (by decide) (by decide) (q := 10) rfl ?_
  intro v2 T2 h2 l2 X2 q2
  obtain ⟨d2, k2, rfl, K2, FmodCount2, FelementData2, Fsize2, V2, A2, O2, gd2⟩ := q2
  show Goes p e below _ T2 (mkF m 10 #[.val (.ref la)] [(.ref d2)])
  have sz3 := Nat.le_trans (Keep.refl h0 [la]).1 gd2
  have k4 := Keep.trans (Keep.refl h0 [la]) K2 (allS (Or.inl (by simp)) all0)
  exact o_retR X2 d_jdk_38_method_7_10 rfl rfl rfl ⟨d2, k2, rfl, k4, FmodCount2, FelementData2, Fsize2, V2, A2, O2, sz3⟩ (by decide) (by decide)
set_option maxRecDepth 65536 in
set_option maxHeartbeats 40000000 in
theorem c_addP1 {l : Launch} {Z : State} {a0 : Array Value} (hw : W a0 Z) (la t0 : Addr) (h0 : Heap) {dd : Addr} {kdd : ClassId} (SD : Sta Z Z.heap "java/util/ArrayList" "DEFAULTCAPACITY_EMPTY_ELEMENTDATA" "[Ljava/lang/Object;" (.ref dd)) (VD : Arv Z Z.heap dd kdd (.object "java/lang/Object") (0 : Int32) [] .null) (E_la : Exa Z h0 la "java/util/ArrayList") (g_la : Z.heap.size ≤ la) (F_la_modCount : Fld Z h0 la "java/util/AbstractList" "modCount" "I" (.int (1 : Int32))) (F_la_elementData : Fld Z h0 la "java/util/ArrayList" "elementData" "[Ljava/lang/Object;" (.ref dd)) (F_la_size : Fld Z h0 la "java/util/ArrayList" "size" "I" (.int (0 : Int32))) (E_t0 : Exa Z h0 t0 "com/example/tolerant_workflows/tolerantworkflows/model/Task") :
    Con l Z (⟨"java/util/ArrayList", "add", "(Ljava/lang/Object;[Ljava/lang/Object;I)V"⟩ : MethodName) jdk_38_method_24_code 4 none ({ frames := 3, cells := 1, slots := 10, locals := 41 } : Room) #[(.ref la), (.ref t0), (.ref dd), (.int (0 : Int32))] h0 (fun v h' => ∃ (d : Addr) (k : ClassId), v = none ∧ Keep h0 h' [la] ∧ Fld Z h' la "java/util/AbstractList" "modCount" "I" (.int (1 : Int32)) ∧ Fld Z h' la "java/util/ArrayList" "elementData" "[Ljava/lang/Object;" (.ref d) ∧ Fld Z h' la "java/util/ArrayList" "size" "I" (.int (1 : Int32)) ∧ Arv Z h' d k (.object "java/lang/Object") (10 : Int32) [(.ref t0), .null, .null, .null, .null, .null, .null, .null, .null, .null] .null ∧ Exa Z h' d "[Ljava/lang/Object;" ∧ Ovr Z k "java/lang/Object" ∧ h0.size ≤ d) := by
  have hpn : plainName "java/util/ArrayList" = true := by first | (simp [plainName, overriddenIn]; done) | decide +kernel
  refine Con.intro (plainFor_of_name hpn) ?_
  intro p e s m below meth c T X
  refine Goes.cast (g' := mkF m 0 #[.val (.ref la), .val (.ref t0), .val (.ref dd), .val (.int (0 : Int32))] []) (by first | (simp [entryFrame, mkF, argsToLocals, Value.category]; done) | rfl) ?_
  refine o_iloadN X d_jdk_38_method_24_0 rfl (q := 1) rfl ?_
  refine o_aloadN X d_jdk_38_method_24_1 rfl rfl (q := 2) rfl ?_
  refine o_len X (VD.ext X.ext) d_jdk_38_method_24_2 (q := 3) rfl ?_
  refine o_icmpN X d_jdk_38_method_24_3 (by decide) (q := 6) rfl ?_
  refine o_aloadN X d_jdk_38_method_24_6 rfl rfl (q := 7) rfl ?_
  refine o_priv X [] (y' := (⟨"java/util/ArrayList", "grow", "()[Ljava/lang/Object;"⟩ : MethodName)) E_la (c_grow hw la _ SD VD E_la g_la F_la_modCount F_la_elementData F_la_size) (w97 hw) (w98 hw) (w100 hw) (w99 hw) (w101 hw) (w57 hw) (by decide) d_jdk_38_method_24_7 (rest := []) rfl rfl (lenOf pd3 rfl) rfl (by decide) (Nat.le_of_ble_eq_true rfl) (by decide) (by decide) (q := 10) rfl ?_
  intro v1 T1 h1 l1 X1 q1
  obtain ⟨d1, k1, rfl, K1, FmodCount1, FelementData1, Fsize1, V1, A1, O1, gd1⟩ := q1
  show Goes p e below _ T1 (mkF m 10 #[.val (.ref la), .val (.ref t0), .val (.ref dd), .val (.int (0 : Int32))] [(.ref d1)])
  refine o_astoreN X1 d_jdk_38_method_24_10 rfl (L' := #[.val (.ref la), .val (.ref t0), .val (.ref d1), .val (.int (0 : Int32))]) rfl (q := 11) rfl ?_
  refine o_aloadN X1 d_jdk_38_method_24_11 rfl rfl (q := 12) rfl ?_
  refine o_iloadN X1 d_jdk_38_method_24_12 rfl (q := 13) rfl ?_
  refine o_aloadN X1 d_jdk_38_method_24_13 rfl rfl (q := 14) rfl ?_
  have f2 := (E_t0.keep K1)
  refine o_aastore X1 0 V1 (Nat.le_trans X.size gd1) rfl rfl (sto_of V1 O1 f2 (w113 hw)) (by decide) rfl (Nat.le_of_ble_eq_true rfl) d_jdk_38_method_24_14 (q := 15) rfl ?_
  intro T3 h3 l3 X3 W3 V3
  have V3 : Arv Z h3 d1 k1 (.object "java/lang/Object") (10 : Int32) [(.ref t0), .null, .null, .null, .null, .null, .null, .null, .null, .null] .null := V3
  refine o_aloadN X3 d_jdk_38_method_24_15 rfl rfl (q := 16) rfl ?_
  refine o_iloadN X3 d_jdk_38_method_24_16 rfl (q := 17) rfl ?_
  refine o_iconst X3 d_jdk_38_method_24_17 (w := 1) rfl (q := 18) rfl ?_
  refine o_iadd X3 d_jdk_38_method_24_18 (w := (1 : Int32)) (by decide) (q := 19) rfl ?_
  have f4 := (Fsize1.other W3 (Or.inl (Nat.ne_of_lt (Nat.lt_of_lt_of_le E_la.lt gd1))))
  have f5 := ((E_la.keep K1).wr W3)
  refine o_putF X3 f4 f5 g_la (host := "") (Or.inl (w90 hw)) Via.refl (Or.inl (w91 hw)) (w56 hw) (ty := .int) (by decide) rfl rfl d_jdk_38_method_24_19 (q := 22) rfl ?_
  intro T6 h6 l6 X6 W6 F6
  have sz7 := Nat.le_trans (Keep.refl h0 [la]).1 gd1
  have k8 := Keep.trans (Keep.refl h0 [la]) K1 (allS (Or.inl (by simp)) all0)
  have k9 := Keep.wr k8 W3 (Or.inr sz7)
  have k10 := Keep.wr k9 W6 (Or.inl (by simp))
  have f11 := ((FmodCount1.other W3 (Or.inl (Nat.ne_of_lt (Nat.lt_of_lt_of_le E_la.lt gd1)))).other W6 (Or.inr (slot_ne (Or.inl (w75 hw)) (Or.inl (w91 hw)) (by decide) (t := .int) (t' := .int) (by decide) (by decide))))
  have f12 := ((FelementData1.other W3 (Or.inl (Nat.ne_of_lt (Nat.lt_of_lt_of_le E_la.lt gd1)))).other W6 (Or.inr (slot_ne (Or.inl (w78 hw)) (Or.inl (w91 hw)) (by decide) (t := (.array (.object "java/lang/Object"))) (t' := .int) (by decide) (by decide))))
  have f13 := (V3.other W6 (Ne.symm (Nat.ne_of_lt (Nat.lt_of_lt_of_le E_la.lt gd1))))
  have f14 := ((A1.wr W3).wr W6)
  exact o_ret X6 d_jdk_38_method_24_22 ⟨d1, k1, rfl, k10, f11, f12, F6, f13, f14, O1, sz7⟩ (by decide) (by decide)
set_option maxRecDepth 65536 in
set_option maxHeartbeats 40000000 in
theorem c_add1 {l : Launch} {Z : State} {a0 : Array Value} (hw : W a0 Z) (la t0 : Addr) (h0 : Heap) {dd : Addr} {kdd : ClassId} (SD : Sta Z Z.heap "java/util/ArrayList" "DEFAULTCAPACITY_EMPTY_ELEMENTDATA" "[Ljava/lang/Object;" (.ref dd)) (VD : Arv Z Z.heap dd kdd (.object "java/lang/Object") (0 : Int32) [] .null) (E_la : Exa Z h0 la "java/util/ArrayList") (g_la : Z.heap.size ≤ la) (F_la_modCount : Fld Z h0 la "java/util/AbstractList" "modCount" "I" (.int (0 : Int32))) (F_la_elementData : Fld Z h0 la "java/util/ArrayList" "elementData" "[Ljava/lang/Object;" (.ref dd)) (F_la_size : Fld Z h0 la "java/util/ArrayList" "size" "I" (.int (0 : Int32))) (E_t0 : Exa Z h0 t0 "com/example/tolerant_workflows/tolerantworkflows/model/Task") :
    Con l Z (⟨"java/util/ArrayList", "add", "(Ljava/lang/Object;)Z"⟩ : MethodName) jdk_38_method_25_code 2 (some .boolean) ({ frames := 4, cells := 1, slots := 10, locals := 56 } : Room) #[(.ref la), (.ref t0)] h0 (fun v h' => ∃ (d : Addr) (k : ClassId), v = some (.int 1) ∧ Keep h0 h' [la] ∧ Fld Z h' la "java/util/AbstractList" "modCount" "I" (.int (1 : Int32)) ∧ Fld Z h' la "java/util/ArrayList" "elementData" "[Ljava/lang/Object;" (.ref d) ∧ Fld Z h' la "java/util/ArrayList" "size" "I" (.int (1 : Int32)) ∧ Arv Z h' d k (.object "java/lang/Object") (10 : Int32) [(.ref t0), .null, .null, .null, .null, .null, .null, .null, .null, .null] .null ∧ Exa Z h' d "[Ljava/lang/Object;" ∧ Ovr Z k "java/lang/Object" ∧ h0.size ≤ d) := by
  have hpn : plainName "java/util/ArrayList" = true := by first | (simp [plainName, overriddenIn]; done) | decide +kernel
  refine Con.intro (plainFor_of_name hpn) ?_
  intro p e s m below meth c T X
  refine Goes.cast (g' := mkF m 0 #[.val (.ref la), .val (.ref t0)] []) (by first | (simp [entryFrame, mkF, argsToLocals, Value.category]; done) | rfl) ?_
  refine o_aloadN X d_jdk_38_method_25_0 rfl rfl (q := 1) rfl ?_
  refine o_dup X d_jdk_38_method_25_1 rfl (q := 2) rfl ?_
  refine o_getF X F_la_modCount (host := "") (Or.inl (w88 hw)) (Via.of (w89 hw)) d_jdk_38_method_25_2 (q := 5) rfl ?_
  intro T1 X1
  refine o_iconst X1 d_jdk_38_method_25_5 (w := 1) rfl (q := 6) rfl ?_
  refine o_iadd X1 d_jdk_38_method_25_6 (w := (1 : Int32)) (by decide) (q := 7) rfl ?_
  refine o_putF X1 F_la_modCount E_la g_la (host := "") (Or.inl (w88 hw)) (Via.of (w89 hw)) (Or.inl (w75 hw)) (w56 hw) (ty := .int) (by decide) rfl rfl d_jdk_38_method_25_7 (q := 10) rfl ?_
  intro T2 h2 l2 X2 W2 F2
  refine o_aloadN X2 d_jdk_38_method_25_10 rfl rfl (q := 11) rfl ?_
  refine o_aloadN X2 d_jdk_38_method_25_11 rfl rfl (q := 12) rfl ?_
  refine o_aloadN X2 d_jdk_38_method_25_12 rfl rfl (q := 13) rfl ?_
  have f3 := (F_la_elementData.other W2 (Or.inr (slot_ne (Or.inl (w78 hw)) (Or.inl (w75 hw)) (by decide) (t := (.array (.object "java/lang/Object"))) (t' := .int) (by decide) (by decide))))
  refine o_getF X2 f3 (host := "") (Or.inl (w77 hw)) Via.refl d_jdk_38_method_25_13 (q := 16) rfl ?_
  intro T4 X4
  refine o_aloadN X4 d_jdk_38_method_25_16 rfl rfl (q := 17) rfl ?_
  have f5 := (F_la_size.other W2 (Or.inr (slot_ne (Or.inl (w91 hw)) (Or.inl (w75 hw)) (by decide) (t := .int) (t' := .int) (by decide) (by decide))))
  refine o_getF X4 f5 (host := "") (Or.inl (w90 hw)) Via.refl d_jdk_38_method_25_17 (q := 20) rfl ?_
  intro T6 X6
  have f7 := (E_la.wr W2)
  have f8 := (E_t0.wr W2)
  refine o_priv X6 [(.ref t0), (.ref dd), (.int (0 : Int32))] (y' := (⟨"java/util/ArrayList", "add", "(Ljava/lang/Object;[Ljava/lang/Object;I)V"⟩ : MethodName)) f7 (c_addP1 hw la t0 _ SD VD f7 g_la F2 f3 f5 f8) (w92 hw) (w93 hw) (w95 hw) (w94 hw) (w96 hw) (w57 hw) (by decide) d_jdk_38_method_25_20 (rest := []) rfl rfl (lenOf pd4 rfl) rfl (by decide) (Nat.le_of_ble_eq_true rfl) (by decide) (by decide) (q := 23) rfl ?_
  intro v9 T9 h9 l9 X9 q9
  obtain ⟨d9, k9, rfl, K9, FmodCount9, FelementData9, Fsize9, V9, A9, O9, gd9⟩ := q9
  show Goes p e below _ T9 (mkF m 23 #[.val (.ref la), .val (.ref t0)] [])
  refine o_iconst X9 d_jdk_38_method_25_23 (w := 1) rfl (q := 24) rfl ?_
  have k10 := Keep.wr (Keep.refl h0 [la]) W2 (Or.inl (by simp))
  have sz11 := Nat.le_trans k10.1 gd9
  have k12 := Keep.trans k10 K9 (allS (Or.inl (by simp)) all0)
  exact o_retN X9 d_jdk_38_method_25_24 (by simp) ⟨d9, k9, rfl, k12, FmodCount9, FelementData9, Fsize9, V9, A9, O9, sz11⟩ (by decide) (by decide)
set_option maxRecDepth 65536 in
set_option maxHeartbeats 40000000 in
theorem c_addP2 {l : Launch} {Z : State} {a0 : Array Value} (hw : W a0 Z) (la da t0 t1 : Addr) (h0 : Heap) (E_la : Exa Z h0 la "java/util/ArrayList") (g_la : Z.heap.size ≤ la) (F_la_modCount : Fld Z h0 la "java/util/AbstractList" "modCount" "I" (.int (2 : Int32))) (F_la_elementData : Fld Z h0 la "java/util/ArrayList" "elementData" "[Ljava/lang/Object;" (.ref da)) (F_la_size : Fld Z h0 la "java/util/ArrayList" "size" "I" (.int (1 : Int32))) {kd : ClassId} (V_da : Arv Z h0 da kd (.object "java/lang/Object") (10 : Int32) [(.ref t0), .null, .null, .null, .null, .null, .null, .null, .null, .null] .null) (A_da : Exa Z h0 da "[Ljava/lang/Object;") (O_da : Ovr Z kd "java/lang/Object") (g_da : Z.heap.size ≤ da) (E_t1 : Exa Z h0 t1 "com/example/tolerant_workflows/tolerantworkflows/model/Task") (hne : la ≠ da) :
    Con l Z (⟨"java/util/ArrayList", "add", "(Ljava/lang/Object;[Ljava/lang/Object;I)V"⟩ : MethodName) jdk_38_method_24_code 4 none ({ frames := 0, cells := 0, slots := 0, locals := 0 } : Room) #[(.ref la), (.ref t1), (.ref da), (.int (1 : Int32))] h0 (fun v h' => v = none ∧ Keep h0 h' [la, da] ∧ Fld Z h' la "java/util/AbstractList" "modCount" "I" (.int (2 : Int32)) ∧ Fld Z h' la "java/util/ArrayList" "elementData" "[Ljava/lang/Object;" (.ref da) ∧ Fld Z h' la "java/util/ArrayList" "size" "I" (.int (2 : Int32)) ∧ Arv Z h' da kd (.object "java/lang/Object") (10 : Int32) [(.ref t0), (.ref t1), .null, .null, .null, .null, .null, .null, .null, .null] .null) := by
  have hpn : plainName "java/util/ArrayList" = true := by first | (simp [plainName, overriddenIn]; done) | decide +kernel
  refine Con.intro (plainFor_of_name hpn) ?_
  intro p e s m below meth c T X
  refine Goes.cast (g' := mkF m 0 #[.val (.ref la), .val (.ref t1), .val (.ref da), .val (.int (1 : Int32))] []) (by first | (simp [entryFrame, mkF, argsToLocals, Value.category]; done) | rfl) ?_
  refine o_iloadN X d_jdk_38_method_24_0 rfl (q := 1) rfl ?_
  refine o_aloadN X d_jdk_38_method_24_1 rfl rfl (q := 2) rfl ?_
  refine o_len X V_da d_jdk_38_method_24_2 (q := 3) rfl ?_
  refine o_icmpY X d_jdk_38_method_24_3 (by decide) (by decide) (q := 11) (by decide) ?_
  refine o_aloadN X d_jdk_38_method_24_11 rfl rfl (q := 12) rfl ?_
  refine o_iloadN X d_jdk_38_method_24_12 rfl (q := 13) rfl ?_
  refine o_aloadN X d_jdk_38_method_24_13 rfl rfl (q := 14) rfl ?_
  refine o_aastore X 1 V_da g_da rfl rfl (sto_of V_da O_da E_t1 (w113 hw)) (by decide) rfl (Nat.le_of_ble_eq_true rfl) d_jdk_38_method_24_14 (q := 15) rfl ?_
  intro T1 h1 l1 X1 W1 V1
  have V1 : Arv Z h1 da kd (.object "java/lang/Object") (10 : Int32) [(.ref t0), (.ref t1), .null, .null, .null, .null, .null, .null, .null, .null] .null := V1
  refine o_aloadN X1 d_jdk_38_method_24_15 rfl rfl (q := 16) rfl ?_
  refine o_iloadN X1 d_jdk_38_method_24_16 rfl (q := 17) rfl ?_
  refine o_iconst X1 d_jdk_38_method_24_17 (w := 1) rfl (q := 18) rfl ?_
  refine o_iadd X1 d_jdk_38_method_24_18 (w := (2 : Int32)) (by decide) (q := 19) rfl ?_
  have f2 := (F_la_size.other W1 (Or.inl hne))
  have f3 := (E_la.wr W1)
  refine o_putF X1 f2 f3 g_la (host := "") (Or.inl (w90 hw)) Via.refl (Or.inl (w91 hw)) (w56 hw) (ty := .int) (by decide) rfl rfl d_jdk_38_method_24_19 (q := 22) rfl ?_
  intro T4 h4 l4 X4 W4 F4
  have k5 := Keep.wr (Keep.refl h0 [la, da]) W1 (Or.inl (by simp))
  have k6 := Keep.wr k5 W4 (Or.inl (by simp))
  have f7 := ((F_la_modCount.other W1 (Or.inl hne)).other W4 (Or.inr (slot_ne (Or.inl (w75 hw)) (Or.inl (w91 hw)) (by decide) (t := .int) (t' := .int) (by decide) (by decide))))
  have f8 := ((F_la_elementData.other W1 (Or.inl hne)).other W4 (Or.inr (slot_ne (Or.inl (w78 hw)) (Or.inl (w91 hw)) (by decide) (t := (.array (.object "java/lang/Object"))) (t' := .int) (by decide) (by decide))))
  have f9 := (V1.other W4 (Ne.symm hne))
  exact o_ret X4 d_jdk_38_method_24_22 ⟨rfl, k6, f7, f8, F4, f9⟩ (by decide) (by decide)
set_option maxRecDepth 65536 in
set_option maxHeartbeats 40000000 in
theorem c_add2 {l : Launch} {Z : State} {a0 : Array Value} (hw : W a0 Z) (la da t0 t1 : Addr) (h0 : Heap) (E_la : Exa Z h0 la "java/util/ArrayList") (g_la : Z.heap.size ≤ la) (F_la_modCount : Fld Z h0 la "java/util/AbstractList" "modCount" "I" (.int (1 : Int32))) (F_la_elementData : Fld Z h0 la "java/util/ArrayList" "elementData" "[Ljava/lang/Object;" (.ref da)) (F_la_size : Fld Z h0 la "java/util/ArrayList" "size" "I" (.int (1 : Int32))) {kd : ClassId} (V_da : Arv Z h0 da kd (.object "java/lang/Object") (10 : Int32) [(.ref t0), .null, .null, .null, .null, .null, .null, .null, .null, .null] .null) (A_da : Exa Z h0 da "[Ljava/lang/Object;") (O_da : Ovr Z kd "java/lang/Object") (g_da : Z.heap.size ≤ da) (E_t1 : Exa Z h0 t1 "com/example/tolerant_workflows/tolerantworkflows/model/Task") (hne : la ≠ da) :
    Con l Z (⟨"java/util/ArrayList", "add", "(Ljava/lang/Object;)Z"⟩ : MethodName) jdk_38_method_25_code 2 (some .boolean) ({ frames := 1, cells := 0, slots := 0, locals := 15 } : Room) #[(.ref la), (.ref t1)] h0 (fun v h' => v = some (.int 1) ∧ Keep h0 h' [la, da] ∧ Fld Z h' la "java/util/AbstractList" "modCount" "I" (.int (2 : Int32)) ∧ Fld Z h' la "java/util/ArrayList" "elementData" "[Ljava/lang/Object;" (.ref da) ∧ Fld Z h' la "java/util/ArrayList" "size" "I" (.int (2 : Int32)) ∧ Arv Z h' da kd (.object "java/lang/Object") (10 : Int32) [(.ref t0), (.ref t1), .null, .null, .null, .null, .null, .null, .null, .null] .null) := by
  have hpn : plainName "java/util/ArrayList" = true := by first | (simp [plainName, overriddenIn]; done) | decide +kernel
  refine Con.intro (plainFor_of_name hpn) ?_
  intro p e s m below meth c T X
  refine Goes.cast (g' := mkF m 0 #[.val (.ref la), .val (.ref t1)] []) (by first | (simp [entryFrame, mkF, argsToLocals, Value.category]; done) | rfl) ?_
  refine o_aloadN X d_jdk_38_method_25_0 rfl rfl (q := 1) rfl ?_
  refine o_dup X d_jdk_38_method_25_1 rfl (q := 2) rfl ?_
  refine o_getF X F_la_modCount (host := "") (Or.inl (w88 hw)) (Via.of (w89 hw)) d_jdk_38_method_25_2 (q := 5) rfl ?_
  intro T1 X1
  refine o_iconst X1 d_jdk_38_method_25_5 (w := 1) rfl (q := 6) rfl ?_
  refine o_iadd X1 d_jdk_38_method_25_6 (w := (2 : Int32)) (by decide) (q := 7) rfl ?_
  refine o_putF X1 F_la_modCount E_la g_la (host := "") (Or.inl (w88 hw)) (Via.of (w89 hw)) (Or.inl (w75 hw)) (w56 hw) (ty := .int) (by decide) rfl rfl d_jdk_38_method_25_7 (q := 10) rfl ?_
  intro T2 h2 l2 X2 W2 F2
  refine o_aloadN X2 d_jdk_38_method_25_10 rfl rfl (q := 11) rfl ?_
  refine o_aloadN X2 d_jdk_38_method_25_11 rfl rfl (q := 12) rfl ?_
  refine o_aloadN X2 d_jdk_38_method_25_12 rfl rfl (q := 13) rfl ?_
  have f3 := (F_la_elementData.other W2 (Or.inr (slot_ne (Or.inl (w78 hw)) (Or.inl (w75 hw)) (by decide) (t := (.array (.object "java/lang/Object"))) (t' := .int) (by decide) (by decide))))
  refine o_getF X2 f3 (host := "") (Or.inl (w77 hw)) Via.refl d_jdk_38_method_25_13 (q := 16) rfl ?_
  intro T4 X4
  refine o_aloadN X4 d_jdk_38_method_25_16 rfl rfl (q := 17) rfl ?_
  have f5 := (F_la_size.other W2 (Or.inr (slot_ne (Or.inl (w91 hw)) (Or.inl (w75 hw)) (by decide) (t := .int) (t' := .int) (by decide) (by decide))))
  refine o_getF X4 f5 (host := "") (Or.inl (w90 hw)) Via.refl d_jdk_38_method_25_17 (q := 20) rfl ?_
  intro T6 X6
  have f7 := (E_la.wr W2)
  have f8 := (V_da.other W2 (Ne.symm hne))
  have f9 := (A_da.wr W2)
  have f10 := (E_t1.wr W2)
  refine o_priv X6 [(.ref t1), (.ref da), (.int (1 : Int32))] (y' := (⟨"java/util/ArrayList", "add", "(Ljava/lang/Object;[Ljava/lang/Object;I)V"⟩ : MethodName)) f7 (c_addP2 hw la da t0 t1 _ f7 g_la F2 f3 f5 f8 f9 O_da g_da f10 hne) (w92 hw) (w93 hw) (w95 hw) (w94 hw) (w96 hw) (w57 hw) (by decide) d_jdk_38_method_25_20 (rest := []) rfl rfl (lenOf pd4 rfl) rfl (by decide) (Nat.le_of_ble_eq_true rfl) (by decide) (by decide) (q := 23) rfl ?_
  intro v11 T11 h11 l11 X11 q11
  obtain ⟨rfl, K11, FmodCount11, FelementData11, Fsize11, V11⟩ := q11
  show Goes p e below _ T11 (mkF m 23 #[.val (.ref la), .val (.ref t1)] [])
  refine o_iconst X11 d_jdk_38_method_25_23 (w := 1) rfl (q := 24) rfl ?_
  have k12 := Keep.wr (Keep.refl h0 [la, da]) W2 (Or.inl (by simp))
  have k13 := Keep.trans k12 K11 (allS (Or.inl (by simp)) (allS (Or.inl (by simp)) all0))
  exact o_retN X11 d_jdk_38_method_25_24 (by simp) ⟨rfl, k13, FmodCount11, FelementData11, Fsize11, V11⟩ (by decide) (by decide)
set_option maxRecDepth 65536 in
set_option maxHeartbeats 40000000 in
theorem c_addP3 {l : Launch} {Z : State} {a0 : Array Value} (hw : W a0 Z) (la da t0 t1 t2 : Addr) (h0 : Heap) (E_la : Exa Z h0 la "java/util/ArrayList") (g_la : Z.heap.size ≤ la) (F_la_modCount : Fld Z h0 la "java/util/AbstractList" "modCount" "I" (.int (3 : Int32))) (F_la_elementData : Fld Z h0 la "java/util/ArrayList" "elementData" "[Ljava/lang/Object;" (.ref da)) (F_la_size : Fld Z h0 la "java/util/ArrayList" "size" "I" (.int (2 : Int32))) {kd : ClassId} (V_da : Arv Z h0 da kd (.object "java/lang/Object") (10 : Int32) [(.ref t0), (.ref t1), .null, .null, .null, .null, .null, .null, .null, .null] .null) (A_da : Exa Z h0 da "[Ljava/lang/Object;") (O_da : Ovr Z kd "java/lang/Object") (g_da : Z.heap.size ≤ da) (E_t2 : Exa Z h0 t2 "com/example/tolerant_workflows/tolerantworkflows/model/Task") (hne : la ≠ da) :
    Con l Z (⟨"java/util/ArrayList", "add", "(Ljava/lang/Object;[Ljava/lang/Object;I)V"⟩ : MethodName) jdk_38_method_24_code 4 none ({ frames := 0, cells := 0, slots := 0, locals := 0 } : Room) #[(.ref la), (.ref t2), (.ref da), (.int (2 : Int32))] h0 (fun v h' => v = none ∧ Keep h0 h' [la, da] ∧ Fld Z h' la "java/util/AbstractList" "modCount" "I" (.int (3 : Int32)) ∧ Fld Z h' la "java/util/ArrayList" "elementData" "[Ljava/lang/Object;" (.ref da) ∧ Fld Z h' la "java/util/ArrayList" "size" "I" (.int (3 : Int32)) ∧ Arv Z h' da kd (.object "java/lang/Object") (10 : Int32) [(.ref t0), (.ref t1), (.ref t2), .null, .null, .null, .null, .null, .null, .null] .null) := by
  have hpn : plainName "java/util/ArrayList" = true := by first | (simp [plainName, overriddenIn]; done) | decide +kernel
  refine Con.intro (plainFor_of_name hpn) ?_
  intro p e s m below meth c T X
  refine Goes.cast (g' := mkF m 0 #[.val (.ref la), .val (.ref t2), .val (.ref da), .val (.int (2 : Int32))] []) (by first | (simp [entryFrame, mkF, argsToLocals, Value.category]; done) | rfl) ?_
  refine o_iloadN X d_jdk_38_method_24_0 rfl (q := 1) rfl ?_
  refine o_aloadN X d_jdk_38_method_24_1 rfl rfl (q := 2) rfl ?_
  refine o_len X V_da d_jdk_38_method_24_2 (q := 3) rfl ?_
  refine o_icmpY X d_jdk_38_method_24_3 (by decide) (by decide) (q := 11) (by decide) ?_
  refine o_aloadN X d_jdk_38_method_24_11 rfl rfl (q := 12) rfl ?_
  refine o_iloadN X d_jdk_38_method_24_12 rfl (q := 13) rfl ?_
  refine o_aloadN X d_jdk_38_method_24_13 rfl rfl (q := 14) rfl ?_
  refine o_aastore X 2 V_da g_da rfl rfl (sto_of V_da O_da E_t2 (w113 hw)) (by decide) rfl (Nat.le_of_ble_eq_true rfl) d_jdk_38_method_24_14 (q := 15) rfl ?_
  intro T1 h1 l1 X1 W1 V1
  have V1 : Arv Z h1 da kd (.object "java/lang/Object") (10 : Int32) [(.ref t0), (.ref t1), (.ref t2), .null, .null, .null, .null, .null, .null, .null] .null := V1
  refine o_aloadN X1 d_jdk_38_method_24_15 rfl rfl (q := 16) rfl ?_
  refine o_iloadN X1 d_jdk_38_method_24_16 rfl (q := 17) rfl ?_
  refine o_iconst X1 d_jdk_38_method_24_17 (w := 1) rfl (q := 18) rfl ?_
  refine o_iadd X1 d_jdk_38_method_24_18 (w := (3 : Int32)) (by decide) (q := 19) rfl ?_
  have f2 := (F_la_size.other W1 (Or.inl hne))
  have f3 := (E_la.wr W1)
  refine o_putF X1 f2 f3 g_la (host := "") (Or.inl (w90 hw)) Via.refl (Or.inl (w91 hw)) (w56 hw) (ty := .int) (by decide) rfl rfl d_jdk_38_method_24_19 (q := 22) rfl ?_
  intro T4 h4 l4 X4 W4 F4
  have k5 := Keep.wr (Keep.refl h0 [la, da]) W1 (Or.inl (by simp))
  have k6 := Keep.wr k5 W4 (Or.inl (by simp))
  have f7 := ((F_la_modCount.other W1 (Or.inl hne)).other W4 (Or.inr (slot_ne (Or.inl (w75 hw)) (Or.inl (w91 hw)) (by decide) (t := .int) (t' := .int) (by decide) (by decide))))
  have f8 := ((F_la_elementData.other W1 (Or.inl hne)).other W4 (Or.inr (slot_ne (Or.inl (w78 hw)) (Or.inl (w91 hw)) (by decide) (t := (.array (.object "java/lang/Object"))) (t' := .int) (by decide) (by decide))))
  have f9 := (V1.other W4 (Ne.symm hne))
  exact o_ret X4 d_jdk_38_method_24_22 ⟨rfl, k6, f7, f8, F4, f9⟩ (by decide) (by decide)
set_option maxRecDepth 65536 in
set_option maxHeartbeats 40000000 in
theorem c_add3 {l : Launch} {Z : State} {a0 : Array Value} (hw : W a0 Z) (la da t0 t1 t2 : Addr) (h0 : Heap) (E_la : Exa Z h0 la "java/util/ArrayList") (g_la : Z.heap.size ≤ la) (F_la_modCount : Fld Z h0 la "java/util/AbstractList" "modCount" "I" (.int (2 : Int32))) (F_la_elementData : Fld Z h0 la "java/util/ArrayList" "elementData" "[Ljava/lang/Object;" (.ref da)) (F_la_size : Fld Z h0 la "java/util/ArrayList" "size" "I" (.int (2 : Int32))) {kd : ClassId} (V_da : Arv Z h0 da kd (.object "java/lang/Object") (10 : Int32) [(.ref t0), (.ref t1), .null, .null, .null, .null, .null, .null, .null, .null] .null) (A_da : Exa Z h0 da "[Ljava/lang/Object;") (O_da : Ovr Z kd "java/lang/Object") (g_da : Z.heap.size ≤ da) (E_t2 : Exa Z h0 t2 "com/example/tolerant_workflows/tolerantworkflows/model/Task") (hne : la ≠ da) :
    Con l Z (⟨"java/util/ArrayList", "add", "(Ljava/lang/Object;)Z"⟩ : MethodName) jdk_38_method_25_code 2 (some .boolean) ({ frames := 1, cells := 0, slots := 0, locals := 15 } : Room) #[(.ref la), (.ref t2)] h0 (fun v h' => v = some (.int 1) ∧ Keep h0 h' [la, da] ∧ Fld Z h' la "java/util/AbstractList" "modCount" "I" (.int (3 : Int32)) ∧ Fld Z h' la "java/util/ArrayList" "elementData" "[Ljava/lang/Object;" (.ref da) ∧ Fld Z h' la "java/util/ArrayList" "size" "I" (.int (3 : Int32)) ∧ Arv Z h' da kd (.object "java/lang/Object") (10 : Int32) [(.ref t0), (.ref t1), (.ref t2), .null, .null, .null, .null, .null, .null, .null] .null) := by
  have hpn : plainName "java/util/ArrayList" = true := by first | (simp [plainName, overriddenIn]; done) | decide +kernel
  refine Con.intro (plainFor_of_name hpn) ?_
  intro p e s m below meth c T X
  refine Goes.cast (g' := mkF m 0 #[.val (.ref la), .val (.ref t2)] []) (by first | (simp [entryFrame, mkF, argsToLocals, Value.category]; done) | rfl) ?_
  refine o_aloadN X d_jdk_38_method_25_0 rfl rfl (q := 1) rfl ?_
  refine o_dup X d_jdk_38_method_25_1 rfl (q := 2) rfl ?_
  refine o_getF X F_la_modCount (host := "") (Or.inl (w88 hw)) (Via.of (w89 hw)) d_jdk_38_method_25_2 (q := 5) rfl ?_
  intro T1 X1
  refine o_iconst X1 d_jdk_38_method_25_5 (w := 1) rfl (q := 6) rfl ?_
  refine o_iadd X1 d_jdk_38_method_25_6 (w := (3 : Int32)) (by decide) (q := 7) rfl ?_
  refine o_putF X1 F_la_modCount E_la g_la (host := "") (Or.inl (w88 hw)) (Via.of (w89 hw)) (Or.inl (w75 hw)) (w56 hw) (ty := .int) (by decide) rfl rfl d_jdk_38_method_25_7 (q := 10) rfl ?_
  intro T2 h2 l2 X2 W2 F2
  refine o_aloadN X2 d_jdk_38_method_25_10 rfl rfl (q := 11) rfl ?_
  refine o_aloadN X2 d_jdk_38_method_25_11 rfl rfl (q := 12) rfl ?_
  refine o_aloadN X2 d_jdk_38_method_25_12 rfl rfl (q := 13) rfl ?_
  have f3 := (F_la_elementData.other W2 (Or.inr (slot_ne (Or.inl (w78 hw)) (Or.inl (w75 hw)) (by decide) (t := (.array (.object "java/lang/Object"))) (t' := .int) (by decide) (by decide))))
  refine o_getF X2 f3 (host := "") (Or.inl (w77 hw)) Via.refl d_jdk_38_method_25_13 (q := 16) rfl ?_
  intro T4 X4
  refine o_aloadN X4 d_jdk_38_method_25_16 rfl rfl (q := 17) rfl ?_
  have f5 := (F_la_size.other W2 (Or.inr (slot_ne (Or.inl (w91 hw)) (Or.inl (w75 hw)) (by decide) (t := .int) (t' := .int) (by decide) (by decide))))
  refine o_getF X4 f5 (host := "") (Or.inl (w90 hw)) Via.refl d_jdk_38_method_25_17 (q := 20) rfl ?_
  intro T6 X6
  have f7 := (E_la.wr W2)
  have f8 := (V_da.other W2 (Ne.symm hne))
  have f9 := (A_da.wr W2)
  have f10 := (E_t2.wr W2)
  refine o_priv X6 [(.ref t2), (.ref da), (.int (2 : Int32))] (y' := (⟨"java/util/ArrayList", "add", "(Ljava/lang/Object;[Ljava/lang/Object;I)V"⟩ : MethodName)) f7 (c_addP3 hw la da t0 t1 t2 _ f7 g_la F2 f3 f5 f8 f9 O_da g_da f10 hne) (w92 hw) (w93 hw) (w95 hw) (w94 hw) (w96 hw) (w57 hw) (by decide) d_jdk_38_method_25_20 (rest := []) rfl rfl (lenOf pd4 rfl) rfl (by decide) (Nat.le_of_ble_eq_true rfl) (by decide) (by decide) (q := 23) rfl ?_
  intro v11 T11 h11 l11 X11 q11
  obtain ⟨rfl, K11, FmodCount11, FelementData11, Fsize11, V11⟩ := q11
  show Goes p e below _ T11 (mkF m 23 #[.val (.ref la), .val (.ref t2)] [])
  refine o_iconst X11 d_jdk_38_method_25_23 (w := 1) rfl (q := 24) rfl ?_
  have k12 := Keep.wr (Keep.refl h0 [la, da]) W2 (Or.inl (by simp))
  have k13 := Keep.trans k12 K11 (allS (Or.inl (by simp)) (allS (Or.inl (by simp)) all0))
  exact o_retN X11 d_jdk_38_method_25_24 (by simp) ⟨rfl, k13, FmodCount11, FelementData11, Fsize11, V11⟩ (by decide) (by decide)
set_option maxRecDepth 65536 in
set_option maxHeartbeats 40000000 in
theorem c_l12_1 {l : Launch} {Z : State} {a0 : Array Value} (hw : W a0 Z) (a t0 : Addr) (h0 : Heap) (E : Exa Z h0 a "java/util/ImmutableCollections$List12") (ga : Z.heap.size ≤ a) (F_e0 : Fld Z h0 a "java/util/ImmutableCollections$List12" "e0" "Ljava/lang/Object;" .null) (F_e1 : Fld Z h0 a "java/util/ImmutableCollections$List12" "e1" "Ljava/lang/Object;" .null) {em : Addr} (SE : Sta Z Z.heap "java/util/ImmutableCollections" "EMPTY" "Ljava/lang/Object;" (.ref em)) :
    Con l Z (⟨"java/util/ImmutableCollections$List12", "<init>", "(Ljava/lang/Object;)V"⟩ : MethodName) jdk_44_method_1_code 2 none ({ frames := 4, cells := 0, slots := 0, locals := 48 } : Room) #[(.ref a), (.ref t0)] h0 (fun v h' => v = none ∧ Keep h0 h' [a] ∧ Fld Z h' a "java/util/ImmutableCollections$List12" "e0" "Ljava/lang/Object;" (.ref t0)) := by
  have hpn : plainName "java/util/ImmutableCollections$List12" = true := by first | (simp [plainName, overriddenIn]; done) | decide +kernel
  refine Con.intro (plainFor_of_name hpn) ?_
  intro p e s m below meth c T X
  refine Goes.cast (g' := mkF m 0 #[.val (.ref a), .val (.ref t0)] []) (by first | (simp [entryFrame, mkF, argsToLocals, Value.category]; done) | rfl) ?_
  refine o_aloadN X d_jdk_44_method_1_0 rfl rfl (q := 1) rfl ?_
  refine o_spec X [] (y' := (⟨"java/util/ImmutableCollections$AbstractImmutableList", "<init>", "()V"⟩ : MethodName)) (c_ail hw a _) rfl (w188 hw) (w189 hw) (w193 hw) (w192 hw) (by decide) d_jdk_44_method_1_1 (rest := []) rfl rfl (lenOf pd0 rfl) rfl (by decide) (Nat.le_of_ble_eq_true rfl) (by decide) (by decide) (q := 4) rfl ?_
  intro v1 T1 h1 l1 X1 q1
  obtain ⟨rfl, e1⟩ := q1
  have e1 := e1.symm
  subst e1
  show Goes p e below _ T1 (mkF m 4 #[.val (.ref a), .val (.ref t0)] [])
  refine o_aloadN X1 d_jdk_44_method_1_4 rfl rfl (q := 5) rfl ?_
  refine o_aloadN X1 d_jdk_44_method_1_5 rfl rfl (q := 6) rfl ?_
  refine o_stat X1 [(.ref t0)] (y' := (⟨"java/util/Objects", "requireNonNull", "(Ljava/lang/Object;)Ljava/lang/Object;"⟩ : MethodName)) (c_rnn hw t0 _) (w202 hw) (w203 hw) (w204 hw) (w205 hw) (by decide) d_jdk_44_method_1_6 (rest := [(.ref a)]) rfl rfl (lenOf pd5 rfl) rfl (by decide) (Nat.le_of_ble_eq_true rfl) (by decide) (by decide) (q := 9) rfl ?_
  intro v2 T2 h2 l2 X2 q2
  obtain ⟨rfl, e2⟩ := q2
  have e2 := e2.symm
  subst e2
  show Goes p e below _ T2 (mkF m 9 #[.val (.ref a), .val (.ref t0)] [(.ref t0), (.ref a)])
  refine o_putF X2 F_e0 E ga (host := "") (Or.inl (w206 hw)) Via.refl (Or.inr ⟨(w207 hw), rfl, rfl⟩) (w182 hw) (ty := (.object "java/lang/Object")) (by decide) rfl rfl d_jdk_44_method_1_9 (q := 12) rfl ?_
  intro T3 h3 l3 X3 W3 F3
  refine o_aloadN X3 d_jdk_44_method_1_12 rfl rfl (q := 13) rfl ?_
  refine o_getS X3 SE (Or.inr (w261 hw)) Via.refl d_jdk_44_method_1_13 (q := 16) rfl ?_
  intro T4 X4
  have f5 := (F_e1.other W3 (Or.inr (slot_ne (Or.inr (w209 hw)) (Or.inr (w207 hw)) (by decide) (t := (.object "java/lang/Object")) (t' := (.object "java/lang/Object")) (by decide) (by decide))))
  have f6 := (E.wr W3)
  refine o_putF X4 f5 f6 ga (host := "") (Or.inl (w208 hw)) Via.refl (Or.inr ⟨(w209 hw), rfl, rfl⟩) (w182 hw) (ty := (.object "java/lang/Object")) (by decide) rfl rfl d_jdk_44_method_1_16 (q := 19) rfl ?_
  intro T7 h7 l7 X7 W7 F7
  have k8 := Keep.wr (Keep.refl h0 [a]) W3 (Or.inl (by simp))
  have k9 := Keep.wr k8 W7 (Or.inl (by simp))
  have f10 := (F3.other W7 (Or.inr (slot_ne (Or.inr (w207 hw)) (Or.inr (w209 hw)) (by decide) (t := (.object "java/lang/Object")) (t' := (.object "java/lang/Object")) (by decide) (by decide))))
  exact o_ret X7 d_jdk_44_method_1_19 ⟨rfl, k9, f10⟩ (by decide) (by decide)
set_option maxRecDepth 65536 in
set_option maxHeartbeats 40000000 in
theorem c_l12_2 {l : Launch} {Z : State} {a0 : Array Value} (hw : W a0 Z) (a t0 t1 : Addr) (h0 : Heap) (E : Exa Z h0 a "java/util/ImmutableCollections$List12") (ga : Z.heap.size ≤ a) (F_e0 : Fld Z h0 a "java/util/ImmutableCollections$List12" "e0" "Ljava/lang/Object;" .null) (F_e1 : Fld Z h0 a "java/util/ImmutableCollections$List12" "e1" "Ljava/lang/Object;" .null) :
    Con l Z (⟨"java/util/ImmutableCollections$List12", "<init>", "(Ljava/lang/Object;Ljava/lang/Object;)V"⟩ : MethodName) jdk_44_method_2_code 3 none ({ frames := 4, cells := 0, slots := 0, locals := 48 } : Room) #[(.ref a), (.ref t0), (.ref t1)] h0 (fun v h' => v = none ∧ Keep h0 h' [a] ∧ Fld Z h' a "java/util/ImmutableCollections$List12" "e0" "Ljava/lang/Object;" (.ref t0)) := by
  have hpn : plainName "java/util/ImmutableCollections$List12" = true := by first | (simp [plainName, overriddenIn]; done) | decide +kernel
  refine Con.intro (plainFor_of_name hpn) ?_
  intro p e s m below meth c T X
  refine Goes.cast (g' := mkF m 0 #[.val (.ref a), .val (.ref t0), .val (.ref t1)] []) (by first | (simp [entryFrame, mkF, argsToLocals, Value.category]; done) | rfl) ?_
  refine o_aloadN X d_jdk_44_method_2_0 rfl rfl (q := 1) rfl ?_
  refine o_spec X [] (y' := (⟨"java/util/ImmutableCollections$AbstractImmutableList", "<init>", "()V"⟩ : MethodName)) (c_ail hw a _) rfl (w188 hw) (w189 hw) (w193 hw) (w192 hw) (by decide) d_jdk_44_method_2_1 (rest := []) rfl rfl (lenOf pd0 rfl) rfl (by decide) (Nat.le_of_ble_eq_true rfl) (by decide) (by decide) (q := 4) rfl ?_
  intro v1 T1 h1 l1 X1 q1
  obtain ⟨rfl, e1⟩ := q1
  have e1 := e1.symm
  subst e1
  show Goes p e below _ T1 (mkF m 4 #[.val (.ref a), .val (.ref t0), .val (.ref t1)] [])
  refine o_aloadN X1 d_jdk_44_method_2_4 rfl rfl (q := 5) rfl ?_
  refine o_aloadN X1 d_jdk_44_method_2_5 rfl rfl (q := 6) rfl ?_
  refine o_stat X1 [(.ref t0)] (y' := (⟨"java/util/Objects", "requireNonNull", "(Ljava/lang/Object;)Ljava/lang/Object;"⟩ : MethodName)) (c_rnn hw t0 _) (w202 hw) (w203 hw) (w204 hw) (w205 hw) (by decide) d_jdk_44_method_2_6 (rest := [(.ref a)]) rfl rfl (lenOf pd5 rfl) rfl (by decide) (Nat.le_of_ble_eq_true rfl) (by decide) (by decide) (q := 9) rfl ?_
  intro v2 T2 h2 l2 X2 q2
  obtain ⟨rfl, e2⟩ := q2
  have e2 := e2.symm
  subst e2
  show Goes p e below _ T2 (mkF m 9 #[.val (.ref a), .val (.ref t0), .val (.ref t1)] [(.ref t0), (.ref a)])
  refine o_putF X2 F_e0 E ga (host := "") (Or.inl (w206 hw)) Via.refl (Or.inr ⟨(w207 hw), rfl, rfl⟩) (w182 hw) (ty := (.object "java/lang/Object")) (by decide) rfl rfl d_jdk_44_method_2_9 (q := 12) rfl ?_
  intro T3 h3 l3 X3 W3 F3
  refine o_aloadN X3 d_jdk_44_method_2_12 rfl rfl (q := 13) rfl ?_
  refine o_aloadN X3 d_jdk_44_method_2_13 rfl rfl (q := 14) rfl ?_
  refine o_stat X3 [(.ref t1)] (y' := (⟨"java/util/Objects", "requireNonNull", "(Ljava/lang/Object;)Ljava/lang/Object;"⟩ : MethodName)) (c_rnn hw t1 _) (w202 hw) (w203 hw) (w204 hw) (w205 hw) (by decide) d_jdk_44_method_2_14 (rest := [(.ref a)]) rfl rfl (lenOf pd5 rfl) rfl (by decide) (Nat.le_of_ble_eq_true rfl) (by decide) (by decide) (q := 17) rfl ?_
  intro v4 T4 h4 l4 X4 q4
  obtain ⟨rfl, e4⟩ := q4
  have e4 := e4.symm
  subst e4
  show Goes p e below _ T4 (mkF m 17 #[.val (.ref a), .val (.ref t0), .val (.ref t1)] [(.ref t1), (.ref a)])
  have f5 := (F_e1.other W3 (Or.inr (slot_ne (Or.inr (w209 hw)) (Or.inr (w207 hw)) (by decide) (t := (.object "java/lang/Object")) (t' := (.object "java/lang/Object")) (by decide) (by decide))))
  have f6 := (E.wr W3)
  refine o_putF X4 f5 f6 ga (host := "") (Or.inl (w208 hw)) Via.refl (Or.inr ⟨(w209 hw), rfl, rfl⟩) (w182 hw) (ty := (.object "java/lang/Object")) (by decide) rfl rfl d_jdk_44_method_2_17 (q := 20) rfl ?_
  intro T7 h7 l7 X7 W7 F7
  have k8 := Keep.wr (Keep.refl h0 [a]) W3 (Or.inl (by simp))
  have k9 := Keep.wr k8 W7 (Or.inl (by simp))
  have f10 := (F3.other W7 (Or.inr (slot_ne (Or.inr (w207 hw)) (Or.inr (w209 hw)) (by decide) (t := (.object "java/lang/Object")) (t' := (.object "java/lang/Object")) (by decide) (by decide))))
  exact o_ret X7 d_jdk_44_method_2_20 ⟨rfl, k9, f10⟩ (by decide) (by decide)
set_option maxRecDepth 65536 in
set_option maxHeartbeats 40000000 in
theorem c_lN {l : Launch} {Z : State} {a0 : Array Value} (hw : W a0 Z) (a el : Addr) (h0 : Heap) (E : Exa Z h0 a "java/util/ImmutableCollections$ListN") (ga : Z.heap.size ≤ a) (F_elements : Fld Z h0 a "java/util/ImmutableCollections$ListN" "elements" "[Ljava/lang/Object;" .null) (F_allowNulls : Fld Z h0 a "java/util/ImmutableCollections$ListN" "allowNulls" "Z" (.int (0 : Int32))) :
    Con l Z (⟨"java/util/ImmutableCollections$ListN", "<init>", "([Ljava/lang/Object;Z)V"⟩ : MethodName) jdk_45_method_1_code 3 none ({ frames := 4, cells := 0, slots := 0, locals := 48 } : Room) #[(.ref a), (.ref el), (.int (0 : Int32))] h0 (fun v h' => v = none ∧ Keep h0 h' [a] ∧ Fld Z h' a "java/util/ImmutableCollections$ListN" "elements" "[Ljava/lang/Object;" (.ref el)) := by
  have hpn : plainName "java/util/ImmutableCollections$ListN" = true := by first | (simp [plainName, overriddenIn]; done) | decide +kernel
  refine Con.intro (plainFor_of_name hpn) ?_
  intro p e s m below meth c T X
  refine Goes.cast (g' := mkF m 0 #[.val (.ref a), .val (.ref el), .val (.int (0 : Int32))] []) (by first | (simp [entryFrame, mkF, argsToLocals, Value.category]; done) | rfl) ?_
  refine o_aloadN X d_jdk_45_method_1_0 rfl rfl (q := 1) rfl ?_
  refine o_spec X [] (y' := (⟨"java/util/ImmutableCollections$AbstractImmutableList", "<init>", "()V"⟩ : MethodName)) (c_ail hw a _) rfl (w244 hw) (w189 hw) (w193 hw) (w192 hw) (by decide) d_jdk_45_method_1_1 (rest := []) rfl rfl (lenOf pd0 rfl) rfl (by decide) (Nat.le_of_ble_eq_true rfl) (by decide) (by decide) (q := 4) rfl ?_
  intro v1 T1 h1 l1 X1 q1
  obtain ⟨rfl, e1⟩ := q1
  have e1 := e1.symm
  subst e1
  show Goes p e below _ T1 (mkF m 4 #[.val (.ref a), .val (.ref el), .val (.int (0 : Int32))] [])
  refine o_aloadN X1 d_jdk_45_method_1_4 rfl rfl (q := 5) rfl ?_
  refine o_aloadN X1 d_jdk_45_method_1_5 rfl rfl (q := 6) rfl ?_
  refine o_putF X1 F_elements E ga (host := "") (Or.inl (w248 hw)) Via.refl (Or.inr ⟨(w249 hw), rfl, rfl⟩) (w238 hw) (ty := (.array (.object "java/lang/Object"))) (by decide) rfl rfl d_jdk_45_method_1_6 (q := 9) rfl ?_
  intro T2 h2 l2 X2 W2 F2
  refine o_aloadN X2 d_jdk_45_method_1_9 rfl rfl (q := 10) rfl ?_
  refine o_iloadN X2 d_jdk_45_method_1_10 rfl (q := 11) rfl ?_
  have f3 := (F_allowNulls.other W2 (Or.inr (slot_ne (Or.inr (w251 hw)) (Or.inr (w249 hw)) (by decide) (t := .boolean) (t' := (.array (.object "java/lang/Object"))) (by decide) (by decide))))
  have f4 := (E.wr W2)
  refine o_putF X2 f3 f4 ga (host := "") (Or.inl (w250 hw)) Via.refl (Or.inr ⟨(w251 hw), rfl, rfl⟩) (w238 hw) (ty := .boolean) (by decide) (by decide) (by decide) d_jdk_45_method_1_11 (q := 14) rfl ?_
  intro T5 h5 l5 X5 W5 F5
  have k6 := Keep.wr (Keep.refl h0 [a]) W2 (Or.inl (by simp))
  have k7 := Keep.wr k6 W5 (Or.inl (by simp))
  have f8 := (F2.other W5 (Or.inr (slot_ne (Or.inr (w249 hw)) (Or.inr (w251 hw)) (by decide) (t := (.array (.object "java/lang/Object"))) (t' := .boolean) (by decide) (by decide))))
  exact o_ret X5 d_jdk_45_method_1_14 ⟨rfl, k7, f8⟩ (by decide) (by decide)
set_option maxRecDepth 65536 in
set_option maxHeartbeats 40000000 in
theorem c_isE1 {l : Launch} {Z : State} {a0 : Array Value} (hw : W a0 Z) (la : Addr) (h0 : Heap) (F : Fld Z h0 la "java/util/ArrayList" "size" "I" (.int (1 : Int32))) :
    Con l Z (⟨"java/util/ArrayList", "isEmpty", "()Z"⟩ : MethodName) jdk_38_method_9_code 1 (some .boolean) ({ frames := 0, cells := 0, slots := 0, locals := 0 } : Room) #[(.ref la)] h0 (fun v h' => v = some (.int 0) ∧ h' = h0) := by
  have hpn : plainName "java/util/ArrayList" = true := by first | (simp [plainName, overriddenIn]; done) | decide +kernel
  refine Con.intro (plainFor_of_name hpn) ?_
  intro p e s m below meth c T X
  refine Goes.cast (g' := mkF m 0 #[.val (.ref la)] []) (by first | (simp [entryFrame, mkF, argsToLocals, Value.category]; done) | rfl) ?_
  refine o_aloadN X d_jdk_38_method_9_0 rfl rfl (q := 1) rfl ?_
  refine o_getF X F (host := "") (Or.inl (w90 hw)) Via.refl d_jdk_38_method_9_1 (q := 4) rfl ?_
  intro T1 X1
  refine o_ifY X1 d_jdk_38_method_9_4 (by decide) (by decide) (q := 11) (by decide) ?_
  refine o_iconst X1 d_jdk_38_method_9_11 (w := 0) rfl (q := 12) rfl ?_
  exact o_retN X1 d_jdk_38_method_9_12 (by simp) ⟨rfl, rfl⟩ (by decide) (by decide)
set_option maxRecDepth 65536 in
set_option maxHeartbeats 40000000 in
theorem c_min1 {l : Launch} {Z : State} {a0 : Array Value} (hw : W a0 Z) (h0 : Heap)  :
    Con l Z (⟨"java/lang/Math", "min", "(II)I"⟩ : MethodName) jdk_29_method_69_code 2 (some .int) ({ frames := 0, cells := 0, slots := 0, locals := 0 } : Room) #[(.int (10 : Int32)), (.int (1 : Int32))] h0 (fun v h' => v = some (.int 1) ∧ h' = h0) := by
  refine Con.intro (Jvm.Free.JP.mathPlain rfl (by decide +kernel)) ?_
  intro p e s m below meth c T X
  refine Goes.cast (g' := mkF m 0 #[.val (.int (10 : Int32)), .val (.int (1 : Int32))] []) (by first | (simp [entryFrame, mkF, argsToLocals, Value.category]; done) | rfl) ?_
  refine o_iloadN X d_jdk_29_method_69_0 rfl (q := 1) rfl ?_
  refine o_iloadN X d_jdk_29_method_69_1 rfl (q := 2) rfl ?_
  refine o_icmpY X d_jdk_29_method_69_2 (by decide) (by decide) (q := 9) (by decide) ?_
  refine o_iloadN X d_jdk_29_method_69_9 rfl (q := 10) rfl ?_
  exact o_retI X d_jdk_29_method_69_10 ⟨rfl, rfl⟩ (by decide) (by decide)
set_option maxRecDepth 65536 in
set_option maxHeartbeats 40000000 in
theorem c_cpa1 {l : Launch} {Z : State} {a0 : Array Value} (hw : W a0 Z) (da t0 : Addr) (h0 : Heap) {kd : ClassId} (V_da : Arv Z h0 da kd (.object "java/lang/Object") (10 : Int32) [(.ref t0), .null, .null, .null, .null, .null, .null, .null, .null, .null] .null) (A_da : Exa Z h0 da "[Ljava/lang/Object;") (O_da : Ovr Z kd "java/lang/Object") (g_da : Z.heap.size ≤ da) (E_t0 : Exa Z h0 t0 "com/example/tolerant_workflows/tolerantworkflows/model/Task") {mr : Addr} (M : Mir Z "[Ljava/lang/Object;" mr) :
    Con l Z (⟨"java/util/Arrays", "copyOf", "([Ljava/lang/Object;ILjava/lang/Class;)[Ljava/lang/Object;"⟩ : MethodName) jdk_65_method_120_code 4 (some (.array (.object "java/lang/Object"))) ({ frames := 1, cells := 1, slots := 1, locals := 18 } : Room) #[(.ref da), (.int (1 : Int32)), (.ref mr)] h0 (fun v h' => ∃ (d : Addr) (k : ClassId), v = some (.ref d) ∧ Keep h0 h' [] ∧ Arv Z h' d k (.object "java/lang/Object") (1 : Int32) [(.ref t0)] .null) := by
  have hpn : plainName "java/util/Arrays" = true := by first | (simp [plainName, overriddenIn]; done) | decide +kernel
  refine Con.intro (plainFor_of_name hpn) ?_
  intro p e s m below meth c T X
  refine Goes.cast (g' := mkF m 0 #[.val (.ref da), .val (.int (1 : Int32)), .val (.ref mr), .unset] []) (by first | (simp [entryFrame, mkF, argsToLocals, Value.category]; done) | rfl) ?_
  refine o_aloadN X d_jdk_65_method_120_0 rfl rfl (q := 1) rfl ?_
  refine o_ldcM X M (w169 hw) d_jdk_65_method_120_1 (q := 3) rfl ?_
  intro T1 X1
  refine o_acmp X1 d_jdk_65_method_120_3 rfl rfl (same := true) (decide_eq_true rfl) (by decide) (q := 6) (by decide) ?_
  refine o_iloadN X1 d_jdk_65_method_120_6 rfl (q := 7) rfl ?_
  refine o_anew X1 (cap := 1) (ad := "[Ljava/lang/Object;") 1 (w170 hw) (w112 hw) (by decide) d_jdk_65_method_120_7 (by decide) (by decide) (by decide) (by decide) (by decide) (q := 10) rfl ?_
  intro T2 h2 b2 k2 gb2 X2 E2 V2 A2 O2 g0_b2
  have V2 : Arv Z h2 b2 k2 (.object "java/lang/Object") (1 : Int32) [.null] .null := V2
  refine o_goto X2 d_jdk_65_method_120_10 (by decide) (q := 24) (by decide) ?_
  refine o_astoreN X2 d_jdk_65_method_120_24 rfl (L' := #[.val (.ref da), .val (.int (1 : Int32)), .val (.ref mr), .val (.ref b2)]) rfl (q := 25) rfl ?_
  refine o_aloadN X2 d_jdk_65_method_120_25 rfl rfl (q := 26) rfl ?_
  refine o_iconst X2 d_jdk_65_method_120_26 (w := 0) rfl (q := 27) rfl ?_
  refine o_aloadN X2 d_jdk_65_method_120_27 rfl rfl (q := 28) rfl ?_
  refine o_iconst X2 d_jdk_65_method_120_28 (w := 0) rfl (q := 29) rfl ?_
  refine o_aloadN X2 d_jdk_65_method_120_29 rfl rfl (q := 30) rfl ?_
  have f3 := (V_da.ext E2)
  refine o_len X2 f3 d_jdk_65_method_120_30 (q := 31) rfl ?_
  refine o_iloadN X2 d_jdk_65_method_120_31 rfl (q := 32) rfl ?_
  refine o_stat X2 [(.int (10 : Int32)), (.int (1 : Int32))] (y' := (⟨"java/lang/Math", "min", "(II)I"⟩ : MethodName)) (c_min1 hw _) (w171 hw) (w172 hw) (w109 hw) (w173 hw) (by decide) d_jdk_65_method_120_32 (rest := [(.int (0 : Int32)), (.ref b2), (.int (0 : Int32)), (.ref da)]) rfl rfl (lenOf pd1 rfl) rfl (by decide) (Nat.le_of_ble_eq_true rfl) (by decide) (by decide) (q := 35) rfl ?_
  intro v4 T4 h4 l4 X4 q4
  obtain ⟨rfl, e4⟩ := q4
  have e4 := e4.symm
  subst e4
  show Goes p e below _ T4 (mkF m 35 #[.val (.ref da), .val (.int (1 : Int32)), .val (.ref mr), .val (.ref b2)] [(.int (1 : Int32)), (.int (0 : Int32)), (.ref b2), (.int (0 : Int32)), (.ref da)])
  have f6 := (E_t0.ext E2)
  refine o_copy X4 (us := [(.ref t0)]) (vs' := [(.ref t0)]) f3 V2 (Or.inr ⟨rfl, rfl, ⟨(sto_of V2 O2 f6 (w113 hw)), trivial⟩⟩) g0_b2 (by decide) (by decide) (by decide) (by decide) (by decide) rfl (Nat.le_of_ble_eq_true rfl) rfl (w174 hw) (w177 hw) (w175 hw) (w176 hw) d_jdk_65_method_120_35 rfl (by decide) (Nat.le_of_ble_eq_true rfl) (q := 38) rfl ?_
  intro T5 h5 l5 X5 K5 V5
  refine o_aloadN X5 d_jdk_65_method_120_38 rfl rfl (q := 39) rfl ?_
  have sz7 := Nat.le_trans (Keep.refl h0 []).1 (Nat.le_of_eq gb2.symm)
  have k8 := Keep.ext (Keep.refl h0 []) E2
  have k9 := Keep.trans k8 K5 (allS (Or.inr sz7) all0)
  exact o_retR X5 d_jdk_65_method_120_39 rfl rfl rfl ⟨b2, k2, rfl, k9, V5⟩ (by decide) (by decide)
set_option maxRecDepth 65536 in
set_option maxHeartbeats 40000000 in
theorem c_cp1 {l : Launch} {Z : State} {a0 : Array Value} (hw : W a0 Z) (da t0 : Addr) (h0 : Heap) {kd : ClassId} (V_da : Arv Z h0 da kd (.object "java/lang/Object") (10 : Int32) [(.ref t0), .null, .null, .null, .null, .null, .null, .null, .null, .null] .null) (A_da : Exa Z h0 da "[Ljava/lang/Object;") (O_da : Ovr Z kd "java/lang/Object") (g_da : Z.heap.size ≤ da) (E_t0 : Exa Z h0 t0 "com/example/tolerant_workflows/tolerantworkflows/model/Task") {mr : Addr} (M : Mir Z "[Ljava/lang/Object;" mr) :
    Con l Z (⟨"java/util/Arrays", "copyOf", "([Ljava/lang/Object;I)[Ljava/lang/Object;"⟩ : MethodName) jdk_65_method_119_code 2 (some (.array (.object "java/lang/Object"))) ({ frames := 2, cells := 1, slots := 1, locals := 33 } : Room) #[(.ref da), (.int (1 : Int32))] h0 (fun v h' => ∃ (d : Addr) (k : ClassId), v = some (.ref d) ∧ Keep h0 h' [] ∧ Arv Z h' d k (.object "java/lang/Object") (1 : Int32) [(.ref t0)] .null) := by
  have hpn : plainName "java/util/Arrays" = true := by first | (simp [plainName, overriddenIn]; done) | decide +kernel
  refine Con.intro (plainFor_of_name hpn) ?_
  intro p e s m below meth c T X
  refine Goes.cast (g' := mkF m 0 #[.val (.ref da), .val (.int (1 : Int32))] []) (by first | (simp [entryFrame, mkF, argsToLocals, Value.category]; done) | rfl) ?_
  refine o_aloadN X d_jdk_65_method_119_0 rfl rfl (q := 1) rfl ?_
  refine o_iloadN X d_jdk_65_method_119_1 rfl (q := 2) rfl ?_
  refine o_aloadN X d_jdk_65_method_119_2 rfl rfl (q := 3) rfl ?_
  refine o_gcls X A_da M (w160 hw) (w161 hw) (w141 hw) (w163 hw) (w162 hw) (w164 hw) d_jdk_65_method_119_3 rfl (by decide) (Nat.le_of_ble_eq_true rfl) (q := 6) rfl ?_
  intro T1 X1
  refine o_stat X1 [(.ref da), (.int (1 : Int32)), (.ref mr)] (y' := (⟨"java/util/Arrays", "copyOf", "([Ljava/lang/Object;ILjava/lang/Class;)[Ljava/lang/Object;"⟩ : MethodName)) (c_cpa1 hw da t0 _ V_da A_da O_da g_da E_t0 M) (w166 hw) (w167 hw) (w158 hw) (w168 hw) (by decide) d_jdk_65_method_119_6 (rest := []) rfl rfl (lenOf pd6 rfl) rfl (by decide) (Nat.le_of_ble_eq_true rfl) (by decide) (by decide) (q := 9) rfl ?_
  intro v2 T2 h2 l2 X2 q2
  obtain ⟨d2, k2, rfl, K2, V2⟩ := q2
  show Goes p e below _ T2 (mkF m 9 #[.val (.ref da), .val (.int (1 : Int32))] [(.ref d2)])
  have k3 := Keep.trans (Keep.refl h0 []) K2 all0
  exact o_retR X2 d_jdk_65_method_119_9 rfl rfl rfl ⟨d2, k2, rfl, k3, V2⟩ (by decide) (by decide)
set_option maxRecDepth 65536 in
set_option maxHeartbeats 40000000 in
theorem c_toA1 {l : Launch} {Z : State} {a0 : Array Value} (hw : W a0 Z) (la da t0 : Addr) (h0 : Heap) (E_la : Exa Z h0 la "java/util/ArrayList") (g_la : Z.heap.size ≤ la) (F_la_modCount : Fld Z h0 la "java/util/AbstractList" "modCount" "I" (.int (1 : Int32))) (F_la_elementData : Fld Z h0 la "java/util/ArrayList" "elementData" "[Ljava/lang/Object;" (.ref da)) (F_la_size : Fld Z h0 la "java/util/ArrayList" "size" "I" (.int (1 : Int32))) {kd : ClassId} (V_da : Arv Z h0 da kd (.object "java/lang/Object") (10 : Int32) [(.ref t0), .null, .null, .null, .null, .null, .null, .null, .null, .null] .null) (A_da : Exa Z h0 da "[Ljava/lang/Object;") (O_da : Ovr Z kd "java/lang/Object") (g_da : Z.heap.size ≤ da) (E_t0 : Exa Z h0 t0 "com/example/tolerant_workflows/tolerantworkflows/model/Task") {mr : Addr} (M : Mir Z "[Ljava/lang/Object;" mr) :
    Con l Z (⟨"java/util/ArrayList", "toArray", "()[Ljava/lang/Object;"⟩ : MethodName) jdk_38_method_16_code 1 (some (.array (.object "java/lang/Object"))) ({ frames := 3, cells := 1, slots := 1, locals := 46 } : Room) #[(.ref la)] h0 (fun v h' => ∃ (d : Addr) (k : ClassId), v = some (.ref d) ∧ Keep h0 h' [] ∧ Arv Z h' d k (.object "java/lang/Object") (1 : Int32) [(.ref t0)] .null) := by
  have hpn : plainName "java/util/ArrayList" = true := by first | (simp [plainName, overriddenIn]; done) | decide +kernel
  refine Con.intro (plainFor_of_name hpn) ?_
  intro p e s m below meth c T X
  refine Goes.cast (g' := mkF m 0 #[.val (.ref la)] []) (by first | (simp [entryFrame, mkF, argsToLocals, Value.category]; done) | rfl) ?_
  refine o_aloadN X d_jdk_38_method_16_0 rfl rfl (q := 1) rfl ?_
  refine o_getF X F_la_elementData (host := "") (Or.inl (w77 hw)) Via.refl d_jdk_38_method_16_1 (q := 4) rfl ?_
  intro T1 X1
  refine o_aloadN X1 d_jdk_38_method_16_4 rfl rfl (q := 5) rfl ?_
  refine o_getF X1 F_la_size (host := "") (Or.inl (w90 hw)) Via.refl d_jdk_38_method_16_5 (q := 8) rfl ?_
  intro T2 X2
  refine o_stat X2 [(.ref da), (.int (1 : Int32))] (y' := (⟨"java/util/Arrays", "copyOf", "([Ljava/lang/Object;I)[Ljava/lang/Object;"⟩ : MethodName)) (c_cp1 hw da t0 _ V_da A_da O_da g_da E_t0 M) (w156 hw) (w157 hw) (w158 hw) (w159 hw) (by decide) d_jdk_38_method_16_8 (rest := []) rfl rfl (lenOf pd7 rfl) rfl (by decide) (Nat.le_of_ble_eq_true rfl) (by decide) (by decide) (q := 11) rfl ?_
  intro v3 T3 h3 l3 X3 q3
  obtain ⟨d3, k3, rfl, K3, V3⟩ := q3
  show Goes p e below _ T3 (mkF m 11 #[.val (.ref la)] [(.ref d3)])
  have k4 := Keep.trans (Keep.refl h0 []) K3 all0
  exact o_retR X3 d_jdk_38_method_16_11 rfl rfl rfl ⟨d3, k3, rfl, k4, V3⟩ (by decide) (by decide)
set_option maxRecDepth 65536 in
set_option maxHeartbeats 40000000 in
theorem c_of1 {l : Launch} {Z : State} {a0 : Array Value} (hw : W a0 Z) (ar t0 : Addr) (h0 : Heap) {kr : ClassId} (V_ar : Arv Z h0 ar kr (.object "java/lang/Object") (1 : Int32) [(.ref t0)] .null) (E_t0 : Exa Z h0 t0 "com/example/tolerant_workflows/tolerantworkflows/model/Task") {em : Addr} (SE : Sta Z Z.heap "java/util/ImmutableCollections" "EMPTY" "Ljava/lang/Object;" (.ref em)) :
    Con l Z (⟨"java/util/List", "of", "([Ljava/lang/Object;)Ljava/util/List;"⟩ : MethodName) jdk_40_method_47_code 2 (some (.object "java/util/List")) ({ frames := 5, cells := 1, slots := 2, locals := 62 } : Room) #[(.ref ar)] h0 (fun v h' => ∃ r : Addr, v = some (.ref r) ∧ Keep h0 h' [] ∧ h0.size ≤ r ∧ Exa Z h' r "java/util/ImmutableCollections$List12" ∧ Fld Z h' r "java/util/ImmutableCollections$List12" "e0" "Ljava/lang/Object;" (.ref t0)) := by
  have hpn : plainName "java/util/List" = true := by first | (simp [plainName, overriddenIn]; done) | decide +kernel
  refine Con.intro (plainFor_of_name hpn) ?_
  intro p e s m below meth c T X
  refine Goes.cast (g' := mkF m 0 #[.val (.ref ar), .unset] []) (by first | (simp [entryFrame, mkF, argsToLocals, Value.category]; done) | rfl) ?_
  refine o_aloadN X d_jdk_40_method_47_0 rfl rfl (q := 1) rfl ?_
  refine o_len X V_ar d_jdk_40_method_47_1 (q := 2) rfl ?_
  refine o_tsw X d_jdk_40_method_47_2 (by decide) (by decide) (i := 32) rfl (by decide) (q := 34) (by decide) ?_
  refine o_new X (w181 hw) (w182 hw) (w183 hw) d_jdk_40_method_47_34 (by decide) (by decide) (q := 37) rfl ?_
  intro T1 h1 b1 gb1 X1 E1 A1 D1 g0_b1
  have f2 : Fld Z h1 b1 "java/util/ImmutableCollections$List12" "e0" "Ljava/lang/Object;" .null := D1 (Or.inr (w207 hw)) (ty := (.object "java/lang/Object")) (by decide)
  have f3 : Fld Z h1 b1 "java/util/ImmutableCollections$List12" "e1" "Ljava/lang/Object;" .null := D1 (Or.inr (w209 hw)) (ty := (.object "java/lang/Object")) (by decide)
  refine o_dup X1 d_jdk_40_method_47_37 rfl (q := 38) rfl ?_
  refine o_aloadN X1 d_jdk_40_method_47_38 rfl rfl (q := 39) rfl ?_
  refine o_iconst X1 d_jdk_40_method_47_39 (w := 0) rfl (q := 40) rfl ?_
  have f4 := (V_ar.ext E1)
  refine o_aaload X1 f4 rfl (by decide) (v := (.ref t0)) rfl d_jdk_40_method_47_40 (q := 41) rfl ?_
  refine o_spec X1 [(.ref t0)] (y' := (⟨"java/util/ImmutableCollections$List12", "<init>", "(Ljava/lang/Object;)V"⟩ : MethodName)) (c_l12_1 hw b1 t0 _ A1 g0_b1 f2 f3 SE) rfl (w258 hw) (w259 hw) (w260 hw) (w183 hw) (by decide) d_jdk_40_method_47_41 (rest := [(.ref b1)]) rfl rfl (lenOf pd8 rfl) rfl (by decide) (Nat.le_of_ble_eq_true rfl) (by decide) (by decide) (q := 44) rfl ?_
  intro v5 T5 h5 l5 X5 q5
  obtain ⟨rfl, K5, Fl5⟩ := q5
  show Goes p e below _ T5 (mkF m 44 #[.val (.ref ar), .unset] [(.ref b1)])
  have sz6 := Nat.le_trans (Keep.refl h0 []).1 (Nat.le_of_eq gb1.symm)
  have k7 := Keep.ext (Keep.refl h0 []) E1
  have k8 := Keep.trans k7 K5 (allS (Or.inr sz6) all0)
  have f9 := (A1.keep K5)
  exact o_retR X5 d_jdk_40_method_47_44 rfl rfl rfl ⟨b1, rfl, k8, sz6, f9, Fl5⟩ (by decide) (by decide)
set_option maxRecDepth 65536 in
set_option maxHeartbeats 40000000 in
theorem c_lcp1 {l : Launch} {Z : State} {a0 : Array Value} (hw : W a0 Z) (la da t0 : Addr) (h0 : Heap) (E_la : Exa Z h0 la "java/util/ArrayList") (g_la : Z.heap.size ≤ la) (F_la_modCount : Fld Z h0 la "java/util/AbstractList" "modCount" "I" (.int (1 : Int32))) (F_la_elementData : Fld Z h0 la "java/util/ArrayList" "elementData" "[Ljava/lang/Object;" (.ref da)) (F_la_size : Fld Z h0 la "java/util/ArrayList" "size" "I" (.int (1 : Int32))) {kd : ClassId} (V_da : Arv Z h0 da kd (.object "java/lang/Object") (10 : Int32) [(.ref t0), .null, .null, .null, .null, .null, .null, .null, .null, .null] .null) (A_da : Exa Z h0 da "[Ljava/lang/Object;") (O_da : Ovr Z kd "java/lang/Object") (g_da : Z.heap.size ≤ da) (E_t0 : Exa Z h0 t0 "com/example/tolerant_workflows/tolerantworkflows/model/Task") {mr : Addr} (M : Mir Z "[Ljava/lang/Object;" mr) {em : Addr} (SE : Sta Z Z.heap "java/util/ImmutableCollections" "EMPTY" "Ljava/lang/Object;" (.ref em)) :
    Con l Z (⟨"java/util/ImmutableCollections", "listCopy", "(Ljava/util/Collection;)Ljava/util/List;"⟩ : MethodName) jdk_56_method_3_code 2 (some (.object "java/util/List")) ({ frames := 6, cells := 2, slots := 3, locals := 75 } : Room) #[(.ref la)] h0 (fun v h' => ∃ r : Addr, v = some (.ref r) ∧ Keep h0 h' [] ∧ h0.size ≤ r ∧ Exa Z h' r "java/util/ImmutableCollections$List12" ∧ Fld Z h' r "java/util/ImmutableCollections$List12" "e0" "Ljava/lang/Object;" (.ref t0)) := by
  have hpn : plainName "java/util/ImmutableCollections" = true := by first | (simp [plainName, overriddenIn]; done) | decide +kernel
  refine Con.intro (plainFor_of_name hpn) ?_
  intro p e s m below meth c T X
  refine Goes.cast (g' := mkF m 0 #[.val (.ref la), .unset] []) (by first | (simp [entryFrame, mkF, argsToLocals, Value.category]; done) | rfl) ?_
  refine o_aloadN X d_jdk_56_method_3_0 rfl rfl (q := 1) rfl ?_
  refine o_instNo X E_la (ns_no (w138 hw) (w182 hw) (NS.step (w138 hw) (NS.step (w139 hw) (NS.step (w140 hw) (ns_root (w141 hw) (w182 hw) (by decide)) (by decide)) (by decide)) (by decide)) (by decide)) (w137 hw) d_jdk_56_method_3_1 (q := 4) rfl ?_
  intro T1 X1
  refine o_ifN X1 d_jdk_56_method_3_4 (by decide) (q := 7) rfl ?_
  refine o_aloadN X1 d_jdk_56_method_3_7 rfl rfl (q := 8) rfl ?_
  refine o_instNo X1 E_la (ns_no (w138 hw) (w238 hw) (NS.step (w138 hw) (NS.step (w139 hw) (NS.step (w140 hw) (ns_root (w141 hw) (w238 hw) (by decide)) (by decide)) (by decide)) (by decide)) (by decide)) (w142 hw) d_jdk_56_method_3_8 (q := 11) rfl ?_
  intro T2 X2
  refine o_ifY X2 d_jdk_56_method_3_11 (by decide) (by decide) (q := 31) (by decide) ?_
  refine o_aloadN X2 d_jdk_56_method_3_31 rfl rfl (q := 32) rfl ?_
  refine o_iface X2 [] (xi := (⟨"java/util/Collection", "isEmpty", "()Z"⟩ : MethodName)) (y' := (⟨"java/util/ArrayList", "isEmpty", "()Z"⟩ : MethodName)) E_la (c_isE1 hw la _ F_la_size) (w143 hw) (w144 hw) (w145 hw) (w146 hw) (w125 hw) (w126 hw) (w127 hw) (w147 hw) (w128 hw) (w57 hw) (by decide) d_jdk_56_method_3_32 (rest := []) rfl rfl (lenOf pd9 rfl) rfl (by decide) (Nat.le_of_ble_eq_true rfl) (by decide) (by decide) (q := 37) rfl ?_
  intro v3 T3 h3 l3 X3 q3
  obtain ⟨rfl, e3⟩ := q3
  have e3 := e3.symm
  subst e3
  show Goes p e below _ T3 (mkF m 37 #[.val (.ref la), .unset] [(.int (0 : Int32))])
  refine o_ifY X3 d_jdk_56_method_3_37 (by decide) (by decide) (q := 44) (by decide) ?_
  refine o_aloadN X3 d_jdk_56_method_3_44 rfl rfl (q := 45) rfl ?_
  refine o_iface X3 [] (xi := (⟨"java/util/Collection", "toArray", "()[Ljava/lang/Object;"⟩ : MethodName)) (y' := (⟨"java/util/ArrayList", "toArray", "()[Ljava/lang/Object;"⟩ : MethodName)) E_la (c_toA1 hw la da t0 _ E_la g_la F_la_modCount F_la_elementData F_la_size V_da A_da O_da g_da E_t0 M) (w148 hw) (w149 hw) (w150 hw) (w151 hw) (w152 hw) (w153 hw) (w154 hw) (w147 hw) (w155 hw) (w57 hw) (by decide) d_jdk_56_method_3_45 (rest := []) rfl rfl (lenOf pd3 rfl) rfl (by decide) (Nat.le_of_ble_eq_true rfl) (by decide) (by decide) (q := 50) rfl ?_
  intro v4 T4 h4 l4 X4 q4
  obtain ⟨d4, k4, rfl, K4, V4⟩ := q4
  show Goes p e below _ T4 (mkF m 50 #[.val (.ref la), .unset] [(.ref d4)])
  have f5 := (E_t0.keep K4)
  refine o_stat X4 [(.ref d4)] (y' := (⟨"java/util/List", "of", "([Ljava/lang/Object;)Ljava/util/List;"⟩ : MethodName)) (c_of1 hw d4 t0 _ V4 f5 SE) (w178 hw) (w179 hw) (w131 hw) (w180 hw) (by decide) d_jdk_56_method_3_50 (rest := []) rfl rfl (lenOf pd10 rfl) rfl (by decide) (Nat.le_of_ble_eq_true rfl) (by decide) (by decide) (q := 53) rfl ?_
  intro v6 T6 h6 l6 X6 q6
  obtain ⟨r6, rfl, K6, gr6, Er6, Fr6⟩ := q6
  show Goes p e below _ T6 (mkF m 53 #[.val (.ref la), .unset] [(.ref r6)])
  have k7 := Keep.trans (Keep.refl h0 []) K4 all0
  have sz8 := Nat.le_trans k7.1 gr6
  have k9 := Keep.trans k7 K6 all0
  exact o_retR X6 d_jdk_56_method_3_53 rfl rfl rfl ⟨r6, rfl, k9, sz8, Er6, Fr6⟩ (by decide) (by decide)
set_option maxRecDepth 65536 in
set_option maxHeartbeats 40000000 in
theorem c_copyOf1 {l : Launch} {Z : State} {a0 : Array Value} (hw : W a0 Z) (la da t0 : Addr) (h0 : Heap) (E_la : Exa Z h0 la "java/util/ArrayList") (g_la : Z.heap.size ≤ la) (F_la_modCount : Fld Z h0 la "java/util/AbstractList" "modCount" "I" (.int (1 : Int32))) (F_la_elementData : Fld Z h0 la "java/util/ArrayList" "elementData" "[Ljava/lang/Object;" (.ref da)) (F_la_size : Fld Z h0 la "java/util/ArrayList" "size" "I" (.int (1 : Int32))) {kd : ClassId} (V_da : Arv Z h0 da kd (.object "java/lang/Object") (10 : Int32) [(.ref t0), .null, .null, .null, .null, .null, .null, .null, .null, .null] .null) (A_da : Exa Z h0 da "[Ljava/lang/Object;") (O_da : Ovr Z kd "java/lang/Object") (g_da : Z.heap.size ≤ da) (E_t0 : Exa Z h0 t0 "com/example/tolerant_workflows/tolerantworkflows/model/Task") {mr : Addr} (M : Mir Z "[Ljava/lang/Object;" mr) {em : Addr} (SE : Sta Z Z.heap "java/util/ImmutableCollections" "EMPTY" "Ljava/lang/Object;" (.ref em)) :
    Con l Z (⟨"java/util/List", "copyOf", "(Ljava/util/Collection;)Ljava/util/List;"⟩ : MethodName) jdk_40_method_48_code 1 (some (.object "java/util/List")) ({ frames := 7, cells := 2, slots := 3, locals := 88 } : Room) #[(.ref la)] h0 (fun v h' => ∃ r : Addr, v = some (.ref r) ∧ Keep h0 h' [] ∧ h0.size ≤ r ∧ Exa Z h' r "java/util/ImmutableCollections$List12" ∧ Fld Z h' r "java/util/ImmutableCollections$List12" "e0" "Ljava/lang/Object;" (.ref t0)) := by
  have hpn : plainName "java/util/List" = true := by first | (simp [plainName, overriddenIn]; done) | decide +kernel
  refine Con.intro (plainFor_of_name hpn) ?_
  intro p e s m below meth c T X
  refine Goes.cast (g' := mkF m 0 #[.val (.ref la)] []) (by first | (simp [entryFrame, mkF, argsToLocals, Value.category]; done) | rfl) ?_
  refine o_aloadN X d_jdk_40_method_48_0 rfl rfl (q := 1) rfl ?_
  refine o_stat X [(.ref la)] (y' := (⟨"java/util/ImmutableCollections", "listCopy", "(Ljava/util/Collection;)Ljava/util/List;"⟩ : MethodName)) (c_lcp1 hw la da t0 _ E_la g_la F_la_modCount F_la_elementData F_la_size V_da A_da O_da g_da E_t0 M SE) (w133 hw) (w134 hw) (w135 hw) (w136 hw) (by decide) d_jdk_40_method_48_1 (rest := []) rfl rfl (lenOf pd11 rfl) rfl (by decide) (Nat.le_of_ble_eq_true rfl) (by decide) (by decide) (q := 4) rfl ?_
  intro v1 T1 h1 l1 X1 q1
  obtain ⟨r1, rfl, K1, gr1, Er1, Fr1⟩ := q1
  show Goes p e below _ T1 (mkF m 4 #[.val (.ref la)] [(.ref r1)])
  have sz2 := Nat.le_trans (Keep.refl h0 []).1 gr1
  have k3 := Keep.trans (Keep.refl h0 []) K1 all0
  exact o_retR X1 d_jdk_40_method_48_4 rfl rfl rfl ⟨r1, rfl, k3, sz2, Er1, Fr1⟩ (by decide) (by decide)
set_option maxRecDepth 65536 in
set_option maxHeartbeats 40000000 in
theorem c_get1 {l : Launch} {Z : State} {a0 : Array Value} (hw : W a0 Z) (r t0 : Addr) (h0 : Heap) (F : Fld Z h0 r "java/util/ImmutableCollections$List12" "e0" "Ljava/lang/Object;" (.ref t0)) :
    Con l Z (⟨"java/util/ImmutableCollections$List12", "get", "(I)Ljava/lang/Object;"⟩ : MethodName) jdk_44_method_5_code 2 (some (.object "java/lang/Object")) ({ frames := 0, cells := 0, slots := 0, locals := 0 } : Room) #[(.ref r), (.int (0 : Int32))] h0 (fun v h' => v = some (.ref t0) ∧ h' = h0) := by
  have hpn : plainName "java/util/ImmutableCollections$List12" = true := by first | (simp [plainName, overriddenIn]; done) | decide +kernel
  refine Con.intro (plainFor_of_name hpn) ?_
  intro p e s m below meth c T X
  refine Goes.cast (g' := mkF m 0 #[.val (.ref r), .val (.int (0 : Int32))] []) (by first | (simp [entryFrame, mkF, argsToLocals, Value.category]; done) | rfl) ?_
  refine o_iloadN X d_jdk_44_method_5_0 rfl (q := 1) rfl ?_
  refine o_ifN X d_jdk_44_method_5_1 (by decide) (q := 4) rfl ?_
  refine o_aloadN X d_jdk_44_method_5_4 rfl rfl (q := 5) rfl ?_
  refine o_getF X F (host := "") (Or.inl (w206 hw)) Via.refl d_jdk_44_method_5_5 (q := 8) rfl ?_
  intro T1 X1
  exact o_retR X1 d_jdk_44_method_5_8 rfl rfl rfl ⟨rfl, rfl⟩ (by decide) (by decide)
set_option maxRecDepth 65536 in
set_option maxHeartbeats 40000000 in
theorem c_isE2 {l : Launch} {Z : State} {a0 : Array Value} (hw : W a0 Z) (la : Addr) (h0 : Heap) (F : Fld Z h0 la "java/util/ArrayList" "size" "I" (.int (2 : Int32))) :
    Con l Z (⟨"java/util/ArrayList", "isEmpty", "()Z"⟩ : MethodName) jdk_38_method_9_code 1 (some .boolean) ({ frames := 0, cells := 0, slots := 0, locals := 0 } : Room) #[(.ref la)] h0 (fun v h' => v = some (.int 0) ∧ h' = h0) := by
  have hpn : plainName "java/util/ArrayList" = true := by first | (simp [plainName, overriddenIn]; done) | decide +kernel
  refine Con.intro (plainFor_of_name hpn) ?_
  intro p e s m below meth c T X
  refine Goes.cast (g' := mkF m 0 #[.val (.ref la)] []) (by first | (simp [entryFrame, mkF, argsToLocals, Value.category]; done) | rfl) ?_
  refine o_aloadN X d_jdk_38_method_9_0 rfl rfl (q := 1) rfl ?_
  refine o_getF X F (host := "") (Or.inl (w90 hw)) Via.refl d_jdk_38_method_9_1 (q := 4) rfl ?_
  intro T1 X1
  refine o_ifY X1 d_jdk_38_method_9_4 (by decide) (by decide) (q := 11) (by decide) ?_
  refine o_iconst X1 d_jdk_38_method_9_11 (w := 0) rfl (q := 12) rfl ?_
  exact o_retN X1 d_jdk_38_method_9_12 (by simp) ⟨rfl, rfl⟩ (by decide) (by decide)
set_option maxRecDepth 65536 in
set_option maxHeartbeats 40000000 in
theorem c_min2 {l : Launch} {Z : State} {a0 : Array Value} (hw : W a0 Z) (h0 : Heap)  :
    Con l Z (⟨"java/lang/Math", "min", "(II)I"⟩ : MethodName) jdk_29_method_69_code 2 (some .int) ({ frames := 0, cells := 0, slots := 0, locals := 0 } : Room) #[(.int (10 : Int32)), (.int (2 : Int32))] h0 (fun v h' => v = some (.int 2) ∧ h' = h0) := by
  refine Con.intro (Jvm.Free.JP.mathPlain rfl (by decide +kernel)) ?_
  intro p e s m below meth c T X
  refine Goes.cast (g' := mkF m 0 #[.val (.int (10 : Int32)), .val (.int (2 : Int32))] []) (by first | (simp [entryFrame, mkF, argsToLocals, Value.category]; done) | rfl) ?_
  refine o_iloadN X d_jdk_29_method_69_0 rfl (q := 1) rfl ?_
  refine o_iloadN X d_jdk_29_method_69_1 rfl (q := 2) rfl ?_
  refine o_icmpY X d_jdk_29_method_69_2 (by decide) (by decide) (q := 9) (by decide) ?_
  refine o_iloadN X d_jdk_29_method_69_9 rfl (q := 10) rfl ?_
  exact o_retI X d_jdk_29_method_69_10 ⟨rfl, rfl⟩ (by decide) (by decide)
set_option maxRecDepth 65536 in
set_option maxHeartbeats 40000000 in
theorem c_cpa2 {l : Launch} {Z : State} {a0 : Array Value} (hw : W a0 Z) (da t0 t1 : Addr) (h0 : Heap) {kd : ClassId} (V_da : Arv Z h0 da kd (.object "java/lang/Object") (10 : Int32) [(.ref t0), (.ref t1), .null, .null, .null, .null, .null, .null, .null, .null] .null) (A_da : Exa Z h0 da "[Ljava/lang/Object;") (O_da : Ovr Z kd "java/lang/Object") (g_da : Z.heap.size ≤ da) (E_t0 : Exa Z h0 t0 "com/example/tolerant_workflows/tolerantworkflows/model/Task") (E_t1 : Exa Z h0 t1 "com/example/tolerant_workflows/tolerantworkflows/model/Task") {mr : Addr} (M : Mir Z "[Ljava/lang/Object;" mr) :
    Con l Z (⟨"java/util/Arrays", "copyOf", "([Ljava/lang/Object;ILjava/lang/Class;)[Ljava/lang/Object;"⟩ : MethodName) jdk_65_method_120_code 4 (some (.array (.object "java/lang/Object"))) ({ frames := 1, cells := 1, slots := 2, locals := 18 } : Room) #[(.ref da), (.int (2 : Int32)), (.ref mr)] h0 (fun v h' => ∃ (d : Addr) (k : ClassId), v = some (.ref d) ∧ Keep h0 h' [] ∧ Arv Z h' d k (.object "java/lang/Object") (2 : Int32) [(.ref t0), (.ref t1)] .null) := by
  have hpn : plainName "java/util/Arrays" = true := by first | (simp [plainName, overriddenIn]; done) | decide +kernel
  refine Con.intro (plainFor_of_name hpn) ?_
  intro p e s m below meth c T X
  refine Goes.cast (g' := mkF m 0 #[.val (.ref da), .val (.int (2 : Int32)), .val (.ref mr), .unset] []) (by first | (simp [entryFrame, mkF, argsToLocals, Value.category]; done) | rfl) ?_
  refine o_aloadN X d_jdk_65_method_120_0 rfl rfl (q := 1) rfl ?_
  refine o_ldcM X M (w169 hw) d_jdk_65_method_120_1 (q := 3) rfl ?_
  intro T1 X1
  refine o_acmp X1 d_jdk_65_method_120_3 rfl rfl (same := true) (decide_eq_true rfl) (by decide) (q := 6) (by decide) ?_
  refine o_iloadN X1 d_jdk_65_method_120_6 rfl (q := 7) rfl ?_
  refine o_anew X1 (cap := 2) (ad := "[Ljava/lang/Object;") 2 (w170 hw) (w112 hw) (by decide) d_jdk_65_method_120_7 (by decide) (by decide) (by decide) (by decide) (by decide) (q := 10) rfl ?_
  intro T2 h2 b2 k2 gb2 X2 E2 V2 A2 O2 g0_b2
  have V2 : Arv Z h2 b2 k2 (.object "java/lang/Object") (2 : Int32) [.null, .null] .null := V2
  refine o_goto X2 d_jdk_65_method_120_10 (by decide) (q := 24) (by decide) ?_
  refine o_astoreN X2 d_jdk_65_method_120_24 rfl (L' := #[.val (.ref da), .val (.int (2 : Int32)), .val (.ref mr), .val (.ref b2)]) rfl (q := 25) rfl ?_
  refine o_aloadN X2 d_jdk_65_method_120_25 rfl rfl (q := 26) rfl ?_
  refine o_iconst X2 d_jdk_65_method_120_26 (w := 0) rfl (q := 27) rfl ?_
  refine o_aloadN X2 d_jdk_65_method_120_27 rfl rfl (q := 28) rfl ?_
  refine o_iconst X2 d_jdk_65_method_120_28 (w := 0) rfl (q := 29) rfl ?_
  refine o_aloadN X2 d_jdk_65_method_120_29 rfl rfl (q := 30) rfl ?_
  have f3 := (V_da.ext E2)
  refine o_len X2 f3 d_jdk_65_method_120_30 (q := 31) rfl ?_
  refine o_iloadN X2 d_jdk_65_method_120_31 rfl (q := 32) rfl ?_
  refine o_stat X2 [(.int (10 : Int32)), (.int (2 : Int32))] (y' := (⟨"java/lang/Math", "min", "(II)I"⟩ : MethodName)) (c_min2 hw _) (w171 hw) (w172 hw) (w109 hw) (w173 hw) (by decide) d_jdk_65_method_120_32 (rest := [(.int (0 : Int32)), (.ref b2), (.int (0 : Int32)), (.ref da)]) rfl rfl (lenOf pd1 rfl) rfl (by decide) (Nat.le_of_ble_eq_true rfl) (by decide) (by decide) (q := 35) rfl ?_
  intro v4 T4 h4 l4 X4 q4
  obtain ⟨rfl, e4⟩ := q4
  have e4 := e4.symm
  subst e4
  show Goes p e below _ T4 (mkF m 35 #[.val (.ref da), .val (.int (2 : Int32)), .val (.ref mr), .val (.ref b2)] [(.int (2 : Int32)), (.int (0 : Int32)), (.ref b2), (.int (0 : Int32)), (.ref da)])
  have f6 := (E_t1.ext E2)
  have f7 := (E_t0.ext E2)
  refine o_copy X4 (us := [(.ref t0), (.ref t1)]) (vs' := [(.ref t0), (.ref t1)]) f3 V2 (Or.inr ⟨rfl, rfl, ⟨(sto_of V2 O2 f7 (w113 hw)), ⟨(sto_of V2 O2 f6 (w113 hw)), trivial⟩⟩⟩) g0_b2 (by decide) (by decide) (by decide) (by decide) (by decide) rfl (Nat.le_of_ble_eq_true rfl) rfl (w174 hw) (w177 hw) (w175 hw) (w176 hw) d_jdk_65_method_120_35 rfl (by decide) (Nat.le_of_ble_eq_true rfl) (q := 38) rfl ?_
  intro T5 h5 l5 X5 K5 V5
  refine o_aloadN X5 d_jdk_65_method_120_38 rfl rfl (q := 39) rfl ?_
  have sz8 := Nat.le_trans (Keep.refl h0 []).1 (Nat.le_of_eq gb2.symm)
  have k9 := Keep.ext (Keep.refl h0 []) E2
  have k10 := Keep.trans k9 K5 (allS (Or.inr sz8) all0)
  exact o_retR X5 d_jdk_65_method_120_39 rfl rfl rfl ⟨b2, k2, rfl, k10, V5⟩ (by decide) (by decide)
set_option maxRecDepth 65536 in
set_option maxHeartbeats 40000000 in
theorem c_cp2 {l : Launch} {Z : State} {a0 : Array Value} (hw : W a0 Z) (da t0 t1 : Addr) (h0 : Heap) {kd : ClassId} (V_da : Arv Z h0 da kd (.object "java/lang/Object") (10 : Int32) [(.ref t0), (.ref t1), .null, .null, .null, .null, .null, .null, .null, .null] .null) (A_da : Exa Z h0 da "[Ljava/lang/Object;") (O_da : Ovr Z kd "java/lang/Object") (g_da : Z.heap.size ≤ da) (E_t0 : Exa Z h0 t0 "com/example/tolerant_workflows/tolerantworkflows/model/Task") (E_t1 : Exa Z h0 t1 "com/example/tolerant_workflows/tolerantworkflows/model/Task") {mr : Addr} (M : Mir Z "[Ljava/lang/Object;" mr) :
    Con l Z (⟨"java/util/Arrays", "copyOf", "([Ljava/lang/Object;I)[Ljava/lang/Object;"⟩ : MethodName) jdk_65_method_119_code 2 (some (.array (.object "java/lang/Object"))) ({ frames := 2, cells := 1, slots := 2, locals := 33 } : Room) #[(.ref da), (.int (2 : Int32))] h0 (fun v h' => ∃ (d : Addr) (k : ClassId), v = some (.ref d) ∧ Keep h0 h' [] ∧ Arv Z h' d k (.object "java/lang/Object") (2 : Int32) [(.ref t0), (.ref t1)] .null) := by
  have hpn : plainName "java/util/Arrays" = true := by first | (simp [plainName, overriddenIn]; done) | decide +kernel
  refine Con.intro (plainFor_of_name hpn) ?_
  intro p e s m below meth c T X
  refine Goes.cast (g' := mkF m 0 #[.val (.ref da), .val (.int (2 : Int32))] []) (by first | (simp [entryFrame, mkF, argsToLocals, Value.category]; done) | rfl) ?_
  refine o_aloadN X d_jdk_65_method_119_0 rfl rfl (q := 1) rfl ?_
  refine o_iloadN X d_jdk_65_method_119_1 rfl (q := 2) rfl ?_
  refine o_aloadN X d_jdk_65_method_119_2 rfl rfl (q := 3) rfl ?_
  refine o_gcls X A_da M (w160 hw) (w161 hw) (w141 hw) (w163 hw) (w162 hw) (w164 hw) d_jdk_65_method_119_3 rfl (by decide) (Nat.le_of_ble_eq_true rfl) (q := 6) rfl ?_
  intro T1 X1
  refine o_stat X1 [(.ref da), (.int (2 : Int32)), (.ref mr)] (y' := (⟨"java/util/Arrays", "copyOf", "([Ljava/lang/Object;ILjava/lang/Class;)[Ljava/lang/Object;"⟩ : MethodName)) (c_cpa2 hw da t0 t1 _ V_da A_da O_da g_da E_t0 E_t1 M) (w166 hw) (w167 hw) (w158 hw) (w168 hw) (by decide) d_jdk_65_method_119_6 (rest := []) rfl rfl (lenOf pd6 rfl) rfl (by decide) (Nat.le_of_ble_eq_true rfl) (by decide) (by decide) (q := 9) rfl ?_
  intro v2 T2 h2 l2 X2 q2
  obtain ⟨d2, k2, rfl, K2, V2⟩ := q2
  show Goes p e below _ T2 (mkF m 9 #[.val (.ref da), .val (.int (2 : Int32))] [(.ref d2)])
  have k3 := Keep.trans (Keep.refl h0 []) K2 all0
  exact o_retR X2 d_jdk_65_method_119_9 rfl rfl rfl ⟨d2, k2, rfl, k3, V2⟩ (by decide) (by decide)
set_option maxRecDepth 65536 in
set_option maxHeartbeats 40000000 in
theorem c_toA2 {l : Launch} {Z : State} {a0 : Array Value} (hw : W a0 Z) (la da t0 t1 : Addr) (h0 : Heap) (E_la : Exa Z h0 la "java/util/ArrayList") (g_la : Z.heap.size ≤ la) (F_la_modCount : Fld Z h0 la "java/util/AbstractList" "modCount" "I" (.int (2 : Int32))) (F_la_elementData : Fld Z h0 la "java/util/ArrayList" "elementData" "[Ljava/lang/Object;" (.ref da)) (F_la_size : Fld Z h0 la "java/util/ArrayList" "size" "I" (.int (2 : Int32))) {kd : ClassId} (V_da : Arv Z h0 da kd (.object "java/lang/Object") (10 : Int32) [(.ref t0), (.ref t1), .null, .null, .null, .null, .null, .null, .null, .null] .null) (A_da : Exa Z h0 da "[Ljava/lang/Object;") (O_da : Ovr Z kd "java/lang/Object") (g_da : Z.heap.size ≤ da) (E_t0 : Exa Z h0 t0 "com/example/tolerant_workflows/tolerantworkflows/model/Task") (E_t1 : Exa Z h0 t1 "com/example/tolerant_workflows/tolerantworkflows/model/Task") {mr : Addr} (M : Mir Z "[Ljava/lang/Object;" mr) :
    Con l Z (⟨"java/util/ArrayList", "toArray", "()[Ljava/lang/Object;"⟩ : MethodName) jdk_38_method_16_code 1 (some (.array (.object "java/lang/Object"))) ({ frames := 3, cells := 1, slots := 2, locals := 46 } : Room) #[(.ref la)] h0 (fun v h' => ∃ (d : Addr) (k : ClassId), v = some (.ref d) ∧ Keep h0 h' [] ∧ Arv Z h' d k (.object "java/lang/Object") (2 : Int32) [(.ref t0), (.ref t1)] .null) := by
  have hpn : plainName "java/util/ArrayList" = true := by first | (simp [plainName, overriddenIn]; done) | decide +kernel
  refine Con.intro (plainFor_of_name hpn) ?_
  intro p e s m below meth c T X
  refine Goes.cast (g' := mkF m 0 #[.val (.ref la)] []) (by first | (simp [entryFrame, mkF, argsToLocals, Value.category]; done) | rfl) ?_
  refine o_aloadN X d_jdk_38_method_16_0 rfl rfl (q := 1) rfl ?_
  refine o_getF X F_la_elementData (host := "") (Or.inl (w77 hw)) Via.refl d_jdk_38_method_16_1 (q := 4) rfl ?_
  intro T1 X1
  refine o_aloadN X1 d_jdk_38_method_16_4 rfl rfl (q := 5) rfl ?_
  refine o_getF X1 F_la_size (host := "") (Or.inl (w90 hw)) Via.refl d_jdk_38_method_16_5 (q := 8) rfl ?_
  intro T2 X2
  refine o_stat X2 [(.ref da), (.int (2 : Int32))] (y' := (⟨"java/util/Arrays", "copyOf", "([Ljava/lang/Object;I)[Ljava/lang/Object;"⟩ : MethodName)) (c_cp2 hw da t0 t1 _ V_da A_da O_da g_da E_t0 E_t1 M) (w156 hw) (w157 hw) (w158 hw) (w159 hw) (by decide) d_jdk_38_method_16_8 (rest := []) rfl rfl (lenOf pd7 rfl) rfl (by decide) (Nat.le_of_ble_eq_true rfl) (by decide) (by decide) (q := 11) rfl ?_
  intro v3 T3 h3 l3 X3 q3
  obtain ⟨d3, k3, rfl, K3, V3⟩ := q3
  show Goes p e below _ T3 (mkF m 11 #[.val (.ref la)] [(.ref d3)])
  have k4 := Keep.trans (Keep.refl h0 []) K3 all0
  exact o_retR X3 d_jdk_38_method_16_11 rfl rfl rfl ⟨d3, k3, rfl, k4, V3⟩ (by decide) (by decide)
set_option maxRecDepth 65536 in
set_option maxHeartbeats 40000000 in
theorem c_of2 {l : Launch} {Z : State} {a0 : Array Value} (hw : W a0 Z) (ar t0 t1 : Addr) (h0 : Heap) {kr : ClassId} (V_ar : Arv Z h0 ar kr (.object "java/lang/Object") (2 : Int32) [(.ref t0), (.ref t1)] .null) (E_t0 : Exa Z h0 t0 "com/example/tolerant_workflows/tolerantworkflows/model/Task") (E_t1 : Exa Z h0 t1 "com/example/tolerant_workflows/tolerantworkflows/model/Task") :
    Con l Z (⟨"java/util/List", "of", "([Ljava/lang/Object;)Ljava/util/List;"⟩ : MethodName) jdk_40_method_47_code 2 (some (.object "java/util/List")) ({ frames := 5, cells := 1, slots := 2, locals := 63 } : Room) #[(.ref ar)] h0 (fun v h' => ∃ r : Addr, v = some (.ref r) ∧ Keep h0 h' [] ∧ h0.size ≤ r ∧ Exa Z h' r "java/util/ImmutableCollections$List12" ∧ Fld Z h' r "java/util/ImmutableCollections$List12" "e0" "Ljava/lang/Object;" (.ref t0)) := by
  have hpn : plainName "java/util/List" = true := by first | (simp [plainName, overriddenIn]; done) | decide +kernel
  refine Con.intro (plainFor_of_name hpn) ?_
  intro p e s m below meth c T X
  refine Goes.cast (g' := mkF m 0 #[.val (.ref ar), .unset] []) (by first | (simp [entryFrame, mkF, argsToLocals, Value.category]; done) | rfl) ?_
  refine o_aloadN X d_jdk_40_method_47_0 rfl rfl (q := 1) rfl ?_
  refine o_len X V_ar d_jdk_40_method_47_1 (q := 2) rfl ?_
  refine o_tsw X d_jdk_40_method_47_2 (by decide) (by decide) (i := 43) rfl (by decide) (q := 45) (by decide) ?_
  refine o_new X (w181 hw) (w182 hw) (w183 hw) d_jdk_40_method_47_45 (by decide) (by decide) (q := 48) rfl ?_
  intro T1 h1 b1 gb1 X1 E1 A1 D1 g0_b1
  have f2 : Fld Z h1 b1 "java/util/ImmutableCollections$List12" "e0" "Ljava/lang/Object;" .null := D1 (Or.inr (w207 hw)) (ty := (.object "java/lang/Object")) (by decide)
  have f3 : Fld Z h1 b1 "java/util/ImmutableCollections$List12" "e1" "Ljava/lang/Object;" .null := D1 (Or.inr (w209 hw)) (ty := (.object "java/lang/Object")) (by decide)
  refine o_dup X1 d_jdk_40_method_47_48 rfl (q := 49) rfl ?_
  refine o_aloadN X1 d_jdk_40_method_47_49 rfl rfl (q := 50) rfl ?_
  refine o_iconst X1 d_jdk_40_method_47_50 (w := 0) rfl (q := 51) rfl ?_
  have f4 := (V_ar.ext E1)
  refine o_aaload X1 f4 rfl (by decide) (v := (.ref t0)) rfl d_jdk_40_method_47_51 (q := 52) rfl ?_
  refine o_aloadN X1 d_jdk_40_method_47_52 rfl rfl (q := 53) rfl ?_
  refine o_iconst X1 d_jdk_40_method_47_53 (w := 1) rfl (q := 54) rfl ?_
  refine o_aaload X1 f4 rfl (by decide) (v := (.ref t1)) rfl d_jdk_40_method_47_54 (q := 55) rfl ?_
  refine o_spec X1 [(.ref t0), (.ref t1)] (y' := (⟨"java/util/ImmutableCollections$List12", "<init>", "(Ljava/lang/Object;Ljava/lang/Object;)V"⟩ : MethodName)) (c_l12_2 hw b1 t0 t1 _ A1 g0_b1 f2 f3) rfl (w184 hw) (w185 hw) (w187 hw) (w183 hw) (by decide) d_jdk_40_method_47_55 (rest := [(.ref b1)]) rfl rfl (lenOf pd12 rfl) rfl (by decide) (Nat.le_of_ble_eq_true rfl) (by decide) (by decide) (q := 58) rfl ?_
  intro v5 T5 h5 l5 X5 q5
  obtain ⟨rfl, K5, Fl5⟩ := q5
  show Goes p e below _ T5 (mkF m 58 #[.val (.ref ar), .unset] [(.ref b1)])
  have sz6 := Nat.le_trans (Keep.refl h0 []).1 (Nat.le_of_eq gb1.symm)
  have k7 := Keep.ext (Keep.refl h0 []) E1
  have k8 := Keep.trans k7 K5 (allS (Or.inr sz6) all0)
  have f9 := (A1.keep K5)
  exact o_retR X5 d_jdk_40_method_47_58 rfl rfl rfl ⟨b1, rfl, k8, sz6, f9, Fl5⟩ (by decide) (by decide)
set_option maxRecDepth 65536 in
set_option maxHeartbeats 40000000 in
theorem c_lcp2 {l : Launch} {Z : State} {a0 : Array Value} (hw : W a0 Z) (la da t0 t1 : Addr) (h0 : Heap) (E_la : Exa Z h0 la "java/util/ArrayList") (g_la : Z.heap.size ≤ la) (F_la_modCount : Fld Z h0 la "java/util/AbstractList" "modCount" "I" (.int (2 : Int32))) (F_la_elementData : Fld Z h0 la "java/util/ArrayList" "elementData" "[Ljava/lang/Object;" (.ref da)) (F_la_size : Fld Z h0 la "java/util/ArrayList" "size" "I" (.int (2 : Int32))) {kd : ClassId} (V_da : Arv Z h0 da kd (.object "java/lang/Object") (10 : Int32) [(.ref t0), (.ref t1), .null, .null, .null, .null, .null, .null, .null, .null] .null) (A_da : Exa Z h0 da "[Ljava/lang/Object;") (O_da : Ovr Z kd "java/lang/Object") (g_da : Z.heap.size ≤ da) (E_t0 : Exa Z h0 t0 "com/example/tolerant_workflows/tolerantworkflows/model/Task") (E_t1 : Exa Z h0 t1 "com/example/tolerant_workflows/tolerantworkflows/model/Task") {mr : Addr} (M : Mir Z "[Ljava/lang/Object;" mr) :
    Con l Z (⟨"java/util/ImmutableCollections", "listCopy", "(Ljava/util/Collection;)Ljava/util/List;"⟩ : MethodName) jdk_56_method_3_code 2 (some (.object "java/util/List")) ({ frames := 6, cells := 2, slots := 4, locals := 76 } : Room) #[(.ref la)] h0 (fun v h' => ∃ r : Addr, v = some (.ref r) ∧ Keep h0 h' [] ∧ h0.size ≤ r ∧ Exa Z h' r "java/util/ImmutableCollections$List12" ∧ Fld Z h' r "java/util/ImmutableCollections$List12" "e0" "Ljava/lang/Object;" (.ref t0)) := by
  have hpn : plainName "java/util/ImmutableCollections" = true := by first | (simp [plainName, overriddenIn]; done) | decide +kernel
  refine Con.intro (plainFor_of_name hpn) ?_
  intro p e s m below meth c T X
  refine Goes.cast (g' := mkF m 0 #[.val (.ref la), .unset] []) (by first | (simp [entryFrame, mkF, argsToLocals, Value.category]; done) | rfl) ?_
  refine o_aloadN X d_jdk_56_method_3_0 rfl rfl (q := 1) rfl ?_
  refine o_instNo X E_la (ns_no (w138 hw) (w182 hw) (NS.step (w138 hw) (NS.step (w139 hw) (NS.step (w140 hw) (ns_root (w141 hw) (w182 hw) (by decide)) (by decide)) (by decide)) (by decide)) (by decide)) (w137 hw) d_jdk_56_method_3_1 (q := 4) rfl ?_
  intro T1 X1
  refine o_ifN X1 d_jdk_56_method_3_4 (by decide) (q := 7) rfl ?_
  refine o_aloadN X1 d_jdk_56_method_3_7 rfl rfl (q := 8) rfl ?_
  refine o_instNo X1 E_la (ns_no (w138 hw) (w238 hw) (NS.step (w138 hw) (NS.step (w139 hw) (NS.step (w140 hw) (ns_root (w141 hw) (w238 hw) (by decide)) (by decide)) (by decide)) (by decide)) (by decide)) (w142 hw) d_jdk_56_method_3_8 (q := 11) rfl ?_
  intro T2 X2
  refine o_ifY X2 d_jdk_56_method_3_11 (by decide) (by decide) (q := 31) (by decide) ?_
  refine o_aloadN X2 d_jdk_56_method_3_31 rfl rfl (q := 32) rfl ?_
  refine o_iface X2 [] (xi := (⟨"java/util/Collection", "isEmpty", "()Z"⟩ : MethodName)) (y' := (⟨"java/util/ArrayList", "isEmpty", "()Z"⟩ : MethodName)) E_la (c_isE2 hw la _ F_la_size) (w143 hw) (w144 hw) (w145 hw) (w146 hw) (w125 hw) (w126 hw) (w127 hw) (w147 hw) (w128 hw) (w57 hw) (by decide) d_jdk_56_method_3_32 (rest := []) rfl rfl (lenOf pd9 rfl) rfl (by decide) (Nat.le_of_ble_eq_true rfl) (by decide) (by decide) (q := 37) rfl ?_
  intro v3 T3 h3 l3 X3 q3
  obtain ⟨rfl, e3⟩ := q3
  have e3 := e3.symm
  subst e3
  show Goes p e below _ T3 (mkF m 37 #[.val (.ref la), .unset] [(.int (0 : Int32))])
  refine o_ifY X3 d_jdk_56_method_3_37 (by decide) (by decide) (q := 44) (by decide) ?_
  refine o_aloadN X3 d_jdk_56_method_3_44 rfl rfl (q := 45) rfl ?_
  refine o_iface X3 [] (xi := (⟨"java/util/Collection", "toArray", "()[Ljava/lang/Object;"⟩ : MethodName)) (y' := (⟨"java/util/ArrayList", "toArray", "()[Ljava/lang/Object;"⟩ : MethodName)) E_la (c_toA2 hw la da t0 t1 _ E_la g_la F_la_modCount F_la_elementData F_la_size V_da A_da O_da g_da E_t0 E_t1 M) (w148 hw) (w149 hw) (w150 hw) (w151 hw) (w152 hw) (w153 hw) (w154 hw) (w147 hw) (w155 hw) (w57 hw) (by decide) d_jdk_56_method_3_45 (rest := []) rfl rfl (lenOf pd3 rfl) rfl (by decide) (Nat.le_of_ble_eq_true rfl) (by decide) (by decide) (q := 50) rfl ?_
  intro v4 T4 h4 l4 X4 q4
  obtain ⟨d4, k4, rfl, K4, V4⟩ := q4
  show Goes p e below _ T4 (mkF m 50 #[.val (.ref la), .unset] [(.ref d4)])
  have f5 := (E_t0.keep K4)
  have f6 := (E_t1.keep K4)
  refine o_stat X4 [(.ref d4)] (y' := (⟨"java/util/List", "of", "([Ljava/lang/Object;)Ljava/util/List;"⟩ : MethodName)) (c_of2 hw d4 t0 t1 _ V4 f5 f6) (w178 hw) (w179 hw) (w131 hw) (w180 hw) (by decide) d_jdk_56_method_3_50 (rest := []) rfl rfl (lenOf pd10 rfl) rfl (by decide) (Nat.le_of_ble_eq_true rfl) (by decide) (by decide) (q := 53) rfl ?_
  intro v7 T7 h7 l7 X7 q7
  obtain ⟨r7, rfl, K7, gr7, Er7, Fr7⟩ := q7
  show Goes p e below _ T7 (mkF m 53 #[.val (.ref la), .unset] [(.ref r7)])
  have k8 := Keep.trans (Keep.refl h0 []) K4 all0
  have sz9 := Nat.le_trans k8.1 gr7
  have k10 := Keep.trans k8 K7 all0
  exact o_retR X7 d_jdk_56_method_3_53 rfl rfl rfl ⟨r7, rfl, k10, sz9, Er7, Fr7⟩ (by decide) (by decide)
set_option maxRecDepth 65536 in
set_option maxHeartbeats 40000000 in
theorem c_copyOf2 {l : Launch} {Z : State} {a0 : Array Value} (hw : W a0 Z) (la da t0 t1 : Addr) (h0 : Heap) (E_la : Exa Z h0 la "java/util/ArrayList") (g_la : Z.heap.size ≤ la) (F_la_modCount : Fld Z h0 la "java/util/AbstractList" "modCount" "I" (.int (2 : Int32))) (F_la_elementData : Fld Z h0 la "java/util/ArrayList" "elementData" "[Ljava/lang/Object;" (.ref da)) (F_la_size : Fld Z h0 la "java/util/ArrayList" "size" "I" (.int (2 : Int32))) {kd : ClassId} (V_da : Arv Z h0 da kd (.object "java/lang/Object") (10 : Int32) [(.ref t0), (.ref t1), .null, .null, .null, .null, .null, .null, .null, .null] .null) (A_da : Exa Z h0 da "[Ljava/lang/Object;") (O_da : Ovr Z kd "java/lang/Object") (g_da : Z.heap.size ≤ da) (E_t0 : Exa Z h0 t0 "com/example/tolerant_workflows/tolerantworkflows/model/Task") (E_t1 : Exa Z h0 t1 "com/example/tolerant_workflows/tolerantworkflows/model/Task") {mr : Addr} (M : Mir Z "[Ljava/lang/Object;" mr) :
    Con l Z (⟨"java/util/List", "copyOf", "(Ljava/util/Collection;)Ljava/util/List;"⟩ : MethodName) jdk_40_method_48_code 1 (some (.object "java/util/List")) ({ frames := 7, cells := 2, slots := 4, locals := 89 } : Room) #[(.ref la)] h0 (fun v h' => ∃ r : Addr, v = some (.ref r) ∧ Keep h0 h' [] ∧ h0.size ≤ r ∧ Exa Z h' r "java/util/ImmutableCollections$List12" ∧ Fld Z h' r "java/util/ImmutableCollections$List12" "e0" "Ljava/lang/Object;" (.ref t0)) := by
  have hpn : plainName "java/util/List" = true := by first | (simp [plainName, overriddenIn]; done) | decide +kernel
  refine Con.intro (plainFor_of_name hpn) ?_
  intro p e s m below meth c T X
  refine Goes.cast (g' := mkF m 0 #[.val (.ref la)] []) (by first | (simp [entryFrame, mkF, argsToLocals, Value.category]; done) | rfl) ?_
  refine o_aloadN X d_jdk_40_method_48_0 rfl rfl (q := 1) rfl ?_
  refine o_stat X [(.ref la)] (y' := (⟨"java/util/ImmutableCollections", "listCopy", "(Ljava/util/Collection;)Ljava/util/List;"⟩ : MethodName)) (c_lcp2 hw la da t0 t1 _ E_la g_la F_la_modCount F_la_elementData F_la_size V_da A_da O_da g_da E_t0 E_t1 M) (w133 hw) (w134 hw) (w135 hw) (w136 hw) (by decide) d_jdk_40_method_48_1 (rest := []) rfl rfl (lenOf pd11 rfl) rfl (by decide) (Nat.le_of_ble_eq_true rfl) (by decide) (by decide) (q := 4) rfl ?_
  intro v1 T1 h1 l1 X1 q1
  obtain ⟨r1, rfl, K1, gr1, Er1, Fr1⟩ := q1
  show Goes p e below _ T1 (mkF m 4 #[.val (.ref la)] [(.ref r1)])
  have sz2 := Nat.le_trans (Keep.refl h0 []).1 gr1
  have k3 := Keep.trans (Keep.refl h0 []) K1 all0
  exact o_retR X1 d_jdk_40_method_48_4 rfl rfl rfl ⟨r1, rfl, k3, sz2, Er1, Fr1⟩ (by decide) (by decide)
set_option maxRecDepth 65536 in
set_option maxHeartbeats 40000000 in
theorem c_isE3 {l : Launch} {Z : State} {a0 : Array Value} (hw : W a0 Z) (la : Addr) (h0 : Heap) (F : Fld Z h0 la "java/util/ArrayList" "size" "I" (.int (3 : Int32))) :
    Con l Z (⟨"java/util/ArrayList", "isEmpty", "()Z"⟩ : MethodName) jdk_38_method_9_code 1 (some .boolean) ({ frames := 0, cells := 0, slots := 0, locals := 0 } : Room) #[(.ref la)] h0 (fun v h' => v = some (.int 0) ∧ h' = h0) := by
  have hpn : plainName "java/util/ArrayList" = true := by first | (simp [plainName, overriddenIn]; done) | decide +kernel
  refine Con.intro (plainFor_of_name hpn) ?_
  intro p e s m below meth c T X
  refine Goes.cast (g' := mkF m 0 #[.val (.ref la)] []) (by first | (simp [entryFrame, mkF, argsToLocals, Value.category]; done) | rfl) ?_
  refine o_aloadN X d_jdk_38_method_9_0 rfl rfl (q := 1) rfl ?_
  refine o_getF X F (host := "") (Or.inl (w90 hw)) Via.refl d_jdk_38_method_9_1 (q := 4) rfl ?_
  intro T1 X1
  refine o_ifY X1 d_jdk_38_method_9_4 (by decide) (by decide) (q := 11) (by decide) ?_
  refine o_iconst X1 d_jdk_38_method_9_11 (w := 0) rfl (q := 12) rfl ?_
  exact o_retN X1 d_jdk_38_method_9_12 (by simp) ⟨rfl, rfl⟩ (by decide) (by decide)
set_option maxRecDepth 65536 in
set_option maxHeartbeats 40000000 in
theorem c_min3 {l : Launch} {Z : State} {a0 : Array Value} (hw : W a0 Z) (h0 : Heap)  :
    Con l Z (⟨"java/lang/Math", "min", "(II)I"⟩ : MethodName) jdk_29_method_69_code 2 (some .int) ({ frames := 0, cells := 0, slots := 0, locals := 0 } : Room) #[(.int (10 : Int32)), (.int (3 : Int32))] h0 (fun v h' => v = some (.int 3) ∧ h' = h0) := by
  refine Con.intro (Jvm.Free.JP.mathPlain rfl (by decide +kernel)) ?_
  intro p e s m below meth c T X
  refine Goes.cast (g' := mkF m 0 #[.val (.int (10 : Int32)), .val (.int (3 : Int32))] []) (by first | (simp [entryFrame, mkF, argsToLocals, Value.category]; done) | rfl) ?_
  refine o_iloadN X d_jdk_29_method_69_0 rfl (q := 1) rfl ?_
  refine o_iloadN X d_jdk_29_method_69_1 rfl (q := 2) rfl ?_
  refine o_icmpY X d_jdk_29_method_69_2 (by decide) (by decide) (q := 9) (by decide) ?_
  refine o_iloadN X d_jdk_29_method_69_9 rfl (q := 10) rfl ?_
  exact o_retI X d_jdk_29_method_69_10 ⟨rfl, rfl⟩ (by decide) (by decide)
set_option maxRecDepth 65536 in
set_option maxHeartbeats 40000000 in
theorem c_cpa3 {l : Launch} {Z : State} {a0 : Array Value} (hw : W a0 Z) (da t0 t1 t2 : Addr) (h0 : Heap) {kd : ClassId} (V_da : Arv Z h0 da kd (.object "java/lang/Object") (10 : Int32) [(.ref t0), (.ref t1), (.ref t2), .null, .null, .null, .null, .null, .null, .null] .null) (A_da : Exa Z h0 da "[Ljava/lang/Object;") (O_da : Ovr Z kd "java/lang/Object") (g_da : Z.heap.size ≤ da) (E_t0 : Exa Z h0 t0 "com/example/tolerant_workflows/tolerantworkflows/model/Task") (E_t1 : Exa Z h0 t1 "com/example/tolerant_workflows/tolerantworkflows/model/Task") (E_t2 : Exa Z h0 t2 "com/example/tolerant_workflows/tolerantworkflows/model/Task") {mr : Addr} (M : Mir Z "[Ljava/lang/Object;" mr) :
    Con l Z (⟨"java/util/Arrays", "copyOf", "([Ljava/lang/Object;ILjava/lang/Class;)[Ljava/lang/Object;"⟩ : MethodName) jdk_65_method_120_code 4 (some (.array (.object "java/lang/Object"))) ({ frames := 1, cells := 1, slots := 3, locals := 18 } : Room) #[(.ref da), (.int (3 : Int32)), (.ref mr)] h0 (fun v h' => ∃ (d : Addr) (k : ClassId), v = some (.ref d) ∧ Keep h0 h' [] ∧ Arv Z h' d k (.object "java/lang/Object") (3 : Int32) [(.ref t0), (.ref t1), (.ref t2)] .null) := by
  have hpn : plainName "java/util/Arrays" = true := by first | (simp [plainName, overriddenIn]; done) | decide +kernel
  refine Con.intro (plainFor_of_name hpn) ?_
  intro p e s m below meth c T X
  refine Goes.cast (g' := mkF m 0 #[.val (.ref da), .val (.int (3 : Int32)), .val (.ref mr), .unset] []) (by first | (simp [entryFrame, mkF, argsToLocals, Value.category]; done) | rfl) ?_
  refine o_aloadN X d_jdk_65_method_120_0 rfl rfl (q := 1) rfl ?_
  refine o_ldcM X M (w169 hw) d_jdk_65_method_120_1 (q := 3) rfl ?_
  intro T1 X1
  refine o_acmp X1 d_jdk_65_method_120_3 rfl rfl (same := true) (decide_eq_true rfl) (by decide) (q := 6) (by decide) ?_
  refine o_iloadN X1 d_jdk_65_method_120_6 rfl (q := 7) rfl ?_
  refine o_anew X1 (cap := 3) (ad := "[Ljava/lang/Object;") 3 (w170 hw) (w112 hw) (by decide) d_jdk_65_method_120_7 (by decide) (by decide) (by decide) (by decide) (by decide) (q := 10) rfl ?_
  intro T2 h2 b2 k2 gb2 X2 E2 V2 A2 O2 g0_b2
  have V2 : Arv Z h2 b2 k2 (.object "java/lang/Object") (3 : Int32) [.null, .null, .null] .null := V2
  refine o_goto X2 d_jdk_65_method_120_10 (by decide) (q := 24) (by decide) ?_
  refine o_astoreN X2 d_jdk_65_method_120_24 rfl (L' := #[.val (.ref da), .val (.int (3 : Int32)), .val (.ref mr), .val (.ref b2)]) rfl (q := 25) rfl ?_
  refine o_aloadN X2 d_jdk_65_method_120_25 rfl rfl (q := 26) rfl ?_
  refine o_iconst X2 d_jdk_65_method_120_26 (w := 0) rfl (q := 27) rfl ?_
  refine o_aloadN X2 d_jdk_65_method_120_27 rfl rfl (q := 28) rfl ?_
  refine o_iconst X2 d_jdk_65_method_120_28 (w := 0) rfl (q := 29) rfl ?_
  refine o_aloadN X2 d_jdk_65_method_120_29 rfl rfl (q := 30) rfl ?_
  have f3 := (V_da.ext E2)
  refine o_len X2 f3 d_jdk_65_method_120_30 (q := 31) rfl ?_
  refine o_iloadN X2 d_jdk_65_method_120_31 rfl (q := 32) rfl ?_
  refine o_stat X2 [(.int (10 : Int32)), (.int (3 : Int32))] (y' := (⟨"java/lang/Math", "min", "(II)I"⟩ : MethodName)) (c_min3 hw _) (w171 hw) (w172 hw) (w109 hw) (w173 hw) (by decide) d_jdk_65_method_120_32 (rest := [(.int (0 : Int32)), (.ref b2), (.int (0 : Int32)), (.ref da)]) rfl rfl (lenOf pd1 rfl) rfl (by decide) (Nat.le_of_ble_eq_true rfl) (by decide) (by decide) (q := 35) rfl ?_
  intro v4 T4 h4 l4 X4 q4
  obtain ⟨rfl, e4⟩ := q4
  have e4 := e4.symm
  subst e4
  show Goes p e below _ T4 (mkF m 35 #[.val (.ref da), .val (.int (3 : Int32)), .val (.ref mr), .val (.ref b2)] [(.int (3 : Int32)), (.int (0 : Int32)), (.ref b2), (.int (0 : Int32)), (.ref da)])
  have f6 := (E_t2.ext E2)
  have f7 := (E_t1.ext E2)
  have f8 := (E_t0.ext E2)
  refine o_copy X4 (us := [(.ref t0), (.ref t1), (.ref t2)]) (vs' := [(.ref t0), (.ref t1), (.ref t2)]) f3 V2 (Or.inr ⟨rfl, rfl, ⟨(sto_of V2 O2 f8 (w113 hw)), ⟨(sto_of V2 O2 f7 (w113 hw)), ⟨(sto_of V2 O2 f6 (w113 hw)), trivial⟩⟩⟩⟩) g0_b2 (by decide) (by decide) (by decide) (by decide) (by decide) rfl (Nat.le_of_ble_eq_true rfl) rfl (w174 hw) (w177 hw) (w175 hw) (w176 hw) d_jdk_65_method_120_35 rfl (by decide) (Nat.le_of_ble_eq_true rfl) (q := 38) rfl ?_
  intro T5 h5 l5 X5 K5 V5
  refine o_aloadN X5 d_jdk_65_method_120_38 rfl rfl (q := 39) rfl ?_
  have sz9 := Nat.le_trans (Keep.refl h0 []).1 (Nat.le_of_eq gb2.symm)
  have k10 := Keep.ext (Keep.refl h0 []) E2
  have k11 := Keep.trans k10 K5 (allS (Or.inr sz9) all0)
  exact o_retR X5 d_jdk_65_method_120_39 rfl rfl rfl ⟨b2, k2, rfl, k11, V5⟩ (by decide) (by decide)
set_option maxRecDepth 65536 in
set_option maxHeartbeats 40000000 in
theorem c_cp3 {l : Launch} {Z : State} {a0 : Array Value} (hw : W a0 Z) (da t0 t1 t2 : Addr) (h0 : Heap) {kd : ClassId} (V_da : Arv Z h0 da kd (.object "java/lang/Object") (10 : Int32) [(.ref t0), (.ref t1), (.ref t2), .null, .null, .null, .null, .null, .null, .null] .null) (A_da : Exa Z h0 da "[Ljava/lang/Object;") (O_da : Ovr Z kd "java/lang/Object") (g_da : Z.heap.size ≤ da) (E_t0 : Exa Z h0 t0 "com/example/tolerant_workflows/tolerantworkflows/model/Task") (E_t1 : Exa Z h0 t1 "com/example/tolerant_workflows/tolerantworkflows/model/Task") (E_t2 : Exa Z h0 t2 "com/example/tolerant_workflows/tolerantworkflows/model/Task") {mr : Addr} (M : Mir Z "[Ljava/lang/Object;" mr) :
    Con l Z (⟨"java/util/Arrays", "copyOf", "([Ljava/lang/Object;I)[Ljava/lang/Object;"⟩ : MethodName) jdk_65_method_119_code 2 (some (.array (.object "java/lang/Object"))) ({ frames := 2, cells := 1, slots := 3, locals := 33 } : Room) #[(.ref da), (.int (3 : Int32))] h0 (fun v h' => ∃ (d : Addr) (k : ClassId), v = some (.ref d) ∧ Keep h0 h' [] ∧ Arv Z h' d k (.object "java/lang/Object") (3 : Int32) [(.ref t0), (.ref t1), (.ref t2)] .null) := by
  have hpn : plainName "java/util/Arrays" = true := by first | (simp [plainName, overriddenIn]; done) | decide +kernel
  refine Con.intro (plainFor_of_name hpn) ?_
  intro p e s m below meth c T X
  refine Goes.cast (g' := mkF m 0 #[.val (.ref da), .val (.int (3 : Int32))] []) (by first | (simp [entryFrame, mkF, argsToLocals, Value.category]; done) | rfl) ?_
  refine o_aloadN X d_jdk_65_method_119_0 rfl rfl (q := 1) rfl ?_
  refine o_iloadN X d_jdk_65_method_119_1 rfl (q := 2) rfl ?_
  refine o_aloadN X d_jdk_65_method_119_2 rfl rfl (q := 3) rfl ?_
  refine o_gcls X A_da M (w160 hw) (w161 hw) (w141 hw) (w163 hw) (w162 hw) (w164 hw) d_jdk_65_method_119_3 rfl (by decide) (Nat.le_of_ble_eq_true rfl) (q := 6) rfl ?_
  intro T1 X1
  refine o_stat X1 [(.ref da), (.int (3 : Int32)), (.ref mr)] (y' := (⟨"java/util/Arrays", "copyOf", "([Ljava/lang/Object;ILjava/lang/Class;)[Ljava/lang/Object;"⟩ : MethodName)) (c_cpa3 hw da t0 t1 t2 _ V_da A_da O_da g_da E_t0 E_t1 E_t2 M) (w166 hw) (w167 hw) (w158 hw) (w168 hw) (by decide) d_jdk_65_method_119_6 (rest := []) rfl rfl (lenOf pd6 rfl) rfl (by decide) (Nat.le_of_ble_eq_true rfl) (by decide) (by decide) (q := 9) rfl ?_
  intro v2 T2 h2 l2 X2 q2
  obtain ⟨d2, k2, rfl, K2, V2⟩ := q2
  show Goes p e below _ T2 (mkF m 9 #[.val (.ref da), .val (.int (3 : Int32))] [(.ref d2)])
  have k3 := Keep.trans (Keep.refl h0 []) K2 all0
  exact o_retR X2 d_jdk_65_method_119_9 rfl rfl rfl ⟨d2, k2, rfl, k3, V2⟩ (by decide) (by decide)
set_option maxRecDepth 65536 in
set_option maxHeartbeats 40000000 in
theorem c_toA3 {l : Launch} {Z : State} {a0 : Array Value} (hw : W a0 Z) (la da t0 t1 t2 : Addr) (h0 : Heap) (E_la : Exa Z h0 la "java/util/ArrayList") (g_la : Z.heap.size ≤ la) (F_la_modCount : Fld Z h0 la "java/util/AbstractList" "modCount" "I" (.int (3 : Int32))) (F_la_elementData : Fld Z h0 la "java/util/ArrayList" "elementData" "[Ljava/lang/Object;" (.ref da)) (F_la_size : Fld Z h0 la "java/util/ArrayList" "size" "I" (.int (3 : Int32))) {kd : ClassId} (V_da : Arv Z h0 da kd (.object "java/lang/Object") (10 : Int32) [(.ref t0), (.ref t1), (.ref t2), .null, .null, .null, .null, .null, .null, .null] .null) (A_da : Exa Z h0 da "[Ljava/lang/Object;") (O_da : Ovr Z kd "java/lang/Object") (g_da : Z.heap.size ≤ da) (E_t0 : Exa Z h0 t0 "com/example/tolerant_workflows/tolerantworkflows/model/Task") (E_t1 : Exa Z h0 t1 "com/example/tolerant_workflows/tolerantworkflows/model/Task") (E_t2 : Exa Z h0 t2 "com/example/tolerant_workflows/tolerantworkflows/model/Task") {mr : Addr} (M : Mir Z "[Ljava/lang/Object;" mr) :
    Con l Z (⟨"java/util/ArrayList", "toArray", "()[Ljava/lang/Object;"⟩ : MethodName) jdk_38_method_16_code 1 (some (.array (.object "java/lang/Object"))) ({ frames := 3, cells := 1, slots := 3, locals := 46 } : Room) #[(.ref la)] h0 (fun v h' => ∃ (d : Addr) (k : ClassId), v = some (.ref d) ∧ Keep h0 h' [] ∧ Arv Z h' d k (.object "java/lang/Object") (3 : Int32) [(.ref t0), (.ref t1), (.ref t2)] .null) := by
  have hpn : plainName "java/util/ArrayList" = true := by first | (simp [plainName, overriddenIn]; done) | decide +kernel
  refine Con.intro (plainFor_of_name hpn) ?_
  intro p e s m below meth c T X
  refine Goes.cast (g' := mkF m 0 #[.val (.ref la)] []) (by first | (simp [entryFrame, mkF, argsToLocals, Value.category]; done) | rfl) ?_
  refine o_aloadN X d_jdk_38_method_16_0 rfl rfl (q := 1) rfl ?_
  refine o_getF X F_la_elementData (host := "") (Or.inl (w77 hw)) Via.refl d_jdk_38_method_16_1 (q := 4) rfl ?_
  intro T1 X1
  refine o_aloadN X1 d_jdk_38_method_16_4 rfl rfl (q := 5) rfl ?_
  refine o_getF X1 F_la_size (host := "") (Or.inl (w90 hw)) Via.refl d_jdk_38_method_16_5 (q := 8) rfl ?_
  intro T2 X2
  refine o_stat X2 [(.ref da), (.int (3 : Int32))] (y' := (⟨"java/util/Arrays", "copyOf", "([Ljava/lang/Object;I)[Ljava/lang/Object;"⟩ : MethodName)) (c_cp3 hw da t0 t1 t2 _ V_da A_da O_da g_da E_t0 E_t1 E_t2 M) (w156 hw) (w157 hw) (w158 hw) (w159 hw) (by decide) d_jdk_38_method_16_8 (rest := []) rfl rfl (lenOf pd7 rfl) rfl (by decide) (Nat.le_of_ble_eq_true rfl) (by decide) (by decide) (q := 11) rfl ?_
  intro v3 T3 h3 l3 X3 q3
  obtain ⟨d3, k3, rfl, K3, V3⟩ := q3
  show Goes p e below _ T3 (mkF m 11 #[.val (.ref la)] [(.ref d3)])
  have k4 := Keep.trans (Keep.refl h0 []) K3 all0
  exact o_retR X3 d_jdk_38_method_16_11 rfl rfl rfl ⟨d3, k3, rfl, k4, V3⟩ (by decide) (by decide)
set_option maxRecDepth 65536 in
set_option maxHeartbeats 40000000 in
theorem c_lfa3 {l : Launch} {Z : State} {a0 : Array Value} (hw : W a0 Z) (ar t0 t1 t2 : Addr) (h0 : Heap) {kr : ClassId} (V_ar : Arv Z h0 ar kr (.object "java/lang/Object") (3 : Int32) [(.ref t0), (.ref t1), (.ref t2)] .null) (E_t0 : Exa Z h0 t0 "com/example/tolerant_workflows/tolerantworkflows/model/Task") (E_t1 : Exa Z h0 t1 "com/example/tolerant_workflows/tolerantworkflows/model/Task") (E_t2 : Exa Z h0 t2 "com/example/tolerant_workflows/tolerantworkflows/model/Task") :
    Con l Z (⟨"java/util/ImmutableCollections", "listFromArray", "([Ljava/lang/Object;)Ljava/util/List;"⟩ : MethodName) jdk_56_method_4_code 3 (some (.object "java/util/List")) ({ frames := 5, cells := 2, slots := 5, locals := 63 } : Room) #[(.ref ar)] h0 (fun v h' => ∃ r : Addr, v = some (.ref r) ∧ Keep h0 h' [] ∧ h0.size ≤ r ∧ Exa Z h' r "java/util/ImmutableCollections$ListN" ∧ ∃ (el : Addr) (ke : ClassId), h0.size ≤ el ∧ Fld Z h' r "java/util/ImmutableCollections$ListN" "elements" "[Ljava/lang/Object;" (.ref el) ∧ Arv Z h' el ke (.object "java/lang/Object") (3 : Int32) [(.ref t0), (.ref t1), (.ref t2)] .null) := by
  have hpn : plainName "java/util/ImmutableCollections" = true := by first | (simp [plainName, overriddenIn]; done) | decide +kernel
  refine Con.intro (plainFor_of_name hpn) ?_
  intro p e s m below meth c T X
  refine Goes.cast (g' := mkF m 0 #[.val (.ref ar), .unset, .unset] []) (by first | (simp [entryFrame, mkF, argsToLocals, Value.category]; done) | rfl) ?_
  refine o_aloadN X d_jdk_56_method_4_0 rfl rfl (q := 1) rfl ?_
  refine o_len X V_ar d_jdk_56_method_4_1 (q := 2) rfl ?_
  refine o_anew X (cap := 3) (ad := "[Ljava/lang/Object;") 3 (w236 hw) (w112 hw) (by decide) d_jdk_56_method_4_2 (by decide) (by decide) (by decide) (by decide) (by decide) (q := 5) rfl ?_
  intro T1 h1 b1 k1 gb1 X1 E1 V1 A1 O1 g0_b1
  have V1 : Arv Z h1 b1 k1 (.object "java/lang/Object") (3 : Int32) [.null, .null, .null] .null := V1
  refine o_astoreN X1 d_jdk_56_method_4_5 rfl (L' := #[.val (.ref ar), .val (.ref b1), .unset]) rfl (q := 6) rfl ?_
  refine o_iconst X1 d_jdk_56_method_4_6 (w := 0) rfl (q := 7) rfl ?_
  refine o_istoreN X1 d_jdk_56_method_4_7 rfl (L' := #[.val (.ref ar), .val (.ref b1), .val (.int (0 : Int32))]) rfl (q := 8) rfl ?_
  refine o_iloadN X1 d_jdk_56_method_4_8 rfl (q := 9) rfl ?_
  refine o_aloadN X1 d_jdk_56_method_4_9 rfl rfl (q := 10) rfl ?_
  have f2 := (V_ar.ext E1)
  refine o_len X1 f2 d_jdk_56_method_4_10 (q := 11) rfl ?_
  refine o_icmpN X1 d_jdk_56_method_4_11 (by decide) (q := 14) rfl ?_
  refine o_aloadN X1 d_jdk_56_method_4_14 rfl rfl (q := 15) rfl ?_
  refine o_iloadN X1 d_jdk_56_method_4_15 rfl (q := 16) rfl ?_
  refine o_aloadN X1 d_jdk_56_method_4_16 rfl rfl (q := 17) rfl ?_
  refine o_iloadN X1 d_jdk_56_method_4_17 rfl (q := 18) rfl ?_
  refine o_aaload X1 f2 rfl (by decide) (v := (.ref t0)) rfl d_jdk_56_method_4_18 (q := 19) rfl ?_
  refine o_stat X1 [(.ref t0)] (y' := (⟨"java/util/Objects", "requireNonNull", "(Ljava/lang/Object;)Ljava/lang/Object;"⟩ : MethodName)) (c_rnn hw t0 _) (w237 hw) (w203 hw) (w204 hw) (w205 hw) (by decide) d_jdk_56_method_4_19 (rest := [(.int (0 : Int32)), (.ref b1)]) rfl rfl (lenOf pd5 rfl) rfl (by decide) (Nat.le_of_ble_eq_true rfl) (by decide) (by decide) (q := 22) rfl ?_
  intro v3 T3 h3 l3 X3 q3
  obtain ⟨rfl, e3⟩ := q3
  have e3 := e3.symm
  subst e3
  show Goes p e below _ T3 (mkF m 22 #[.val (.ref ar), .val (.ref b1), .val (.int (0 : Int32))] [(.ref t0), (.int (0 : Int32)), (.ref b1)])
  have f4 := (E_t0.ext E1)
  refine o_aastore X3 0 V1 g0_b1 rfl rfl (sto_of V1 O1 f4 (w113 hw)) (by decide) rfl (Nat.le_of_ble_eq_true rfl) d_jdk_56_method_4_22 (q := 23) rfl ?_
  intro T5 h5 l5 X5 W5 V5
  have V5 : Arv Z h5 b1 k1 (.object "java/lang/Object") (3 : Int32) [(.ref t0), .null, .null] .null := V5
  refine o_iinc X5 d_jdk_56_method_4_23 rfl (z := (1 : Int32)) (by decide) (L' := #[.val (.ref ar), .val (.ref b1), .val (.int (1 : Int32))]) rfl (q := 26) rfl ?_
  refine o_goto X5 d_jdk_56_method_4_26 (by decide) (q := 8) (by decide) ?_
  refine o_iloadN X5 d_jdk_56_method_4_8 rfl (q := 9) rfl ?_
  refine o_aloadN X5 d_jdk_56_method_4_9 rfl rfl (q := 10) rfl ?_
  have f6 := (f2.other W5 (Nat.ne_of_lt (Nat.lt_of_lt_of_le V_ar.lt (Nat.le_of_eq gb1.symm))))
  refine o_len X5 f6 d_jdk_56_method_4_10 (q := 11) rfl ?_
  refine o_icmpN X5 d_jdk_56_method_4_11 (by decide) (q := 14) rfl ?_
  refine o_aloadN X5 d_jdk_56_method_4_14 rfl rfl (q := 15) rfl ?_
  refine o_iloadN X5 d_jdk_56_method_4_15 rfl (q := 16) rfl ?_
  refine o_aloadN X5 d_jdk_56_method_4_16 rfl rfl (q := 17) rfl ?_
  refine o_iloadN X5 d_jdk_56_method_4_17 rfl (q := 18) rfl ?_
  refine o_aaload X5 f6 rfl (by decide) (v := (.ref t1)) rfl d_jdk_56_method_4_18 (q := 19) rfl ?_
  refine o_stat X5 [(.ref t1)] (y' := (⟨"java/util/Objects", "requireNonNull", "(Ljava/lang/Object;)Ljava/lang/Object;"⟩ : MethodName)) (c_rnn hw t1 _) (w237 hw) (w203 hw) (w204 hw) (w205 hw) (by decide) d_jdk_56_method_4_19 (rest := [(.int (1 : Int32)), (.ref b1)]) rfl rfl (lenOf pd5 rfl) rfl (by decide) (Nat.le_of_ble_eq_true rfl) (by decide) (by decide) (q := 22) rfl ?_
  intro v7 T7 h7 l7 X7 q7
  obtain ⟨rfl, e7⟩ := q7
  have e7 := e7.symm
  subst e7
  show Goes p e below _ T7 (mkF m 22 #[.val (.ref ar), .val (.ref b1), .val (.int (1 : Int32))] [(.ref t1), (.int (1 : Int32)), (.ref b1)])
  have f8 := ((E_t1.ext E1).wr W5)
  refine o_aastore X7 1 V5 g0_b1 rfl rfl (sto_of V5 O1 f8 (w113 hw)) (by decide) rfl (Nat.le_of_ble_eq_true rfl) d_jdk_56_method_4_22 (q := 23) rfl ?_
  intro T9 h9 l9 X9 W9 V9
  have V9 : Arv Z h9 b1 k1 (.object "java/lang/Object") (3 : Int32) [(.ref t0), (.ref t1), .null] .null := V9
  refine o_iinc X9 d_jdk_56_method_4_23 rfl (z := (2 : Int32)) (by decide) (L' := #[.val (.ref ar), .val (.ref b1), .val (.int (2 : Int32))]) rfl (q := 26) rfl ?_
  refine o_goto X9 d_jdk_56_method_4_26 (by decide) (q := 8) (by decide) ?_
  refine o_iloadN X9 d_jdk_56_method_4_8 rfl (q := 9) rfl ?_
  refine o_aloadN X9 d_jdk_56_method_4_9 rfl rfl (q := 10) rfl ?_
  have f10 := (f6.other W9 (Nat.ne_of_lt (Nat.lt_of_lt_of_le V_ar.lt (Nat.le_of_eq gb1.symm))))
  refine o_len X9 f10 d_jdk_56_method_4_10 (q := 11) rfl ?_
  refine o_icmpN X9 d_jdk_56_method_4_11 (by decide) (q := 14) rfl ?_
  refine o_aloadN X9 d_jdk_56_method_4_14 rfl rfl (q := 15) rfl ?_
  refine o_iloadN X9 d_jdk_56_method_4_15 rfl (q := 16) rfl ?_
  refine o_aloadN X9 d_jdk_56_method_4_16 rfl rfl (q := 17) rfl ?_
  refine o_iloadN X9 d_jdk_56_method_4_17 rfl (q := 18) rfl ?_
  refine o_aaload X9 f10 rfl (by decide) (v := (.ref t2)) rfl d_jdk_56_method_4_18 (q := 19) rfl ?_
  refine o_stat X9 [(.ref t2)] (y' := (⟨"java/util/Objects", "requireNonNull", "(Ljava/lang/Object;)Ljava/lang/Object;"⟩ : MethodName)) (c_rnn hw t2 _) (w237 hw) (w203 hw) (w204 hw) (w205 hw) (by decide) d_jdk_56_method_4_19 (rest := [(.int (2 : Int32)), (.ref b1)]) rfl rfl (lenOf pd5 rfl) rfl (by decide) (Nat.le_of_ble_eq_true rfl) (by decide) (by decide) (q := 22) rfl ?_
  intro v11 T11 h11 l11 X11 q11
  obtain ⟨rfl, e11⟩ := q11
  have e11 := e11.symm
  subst e11
  show Goes p e below _ T11 (mkF m 22 #[.val (.ref ar), .val (.ref b1), .val (.int (2 : Int32))] [(.ref t2), (.int (2 : Int32)), (.ref b1)])
  have f12 := (((E_t2.ext E1).wr W5).wr W9)
  refine o_aastore X11 2 V9 g0_b1 rfl rfl (sto_of V9 O1 f12 (w113 hw)) (by decide) rfl (Nat.le_of_ble_eq_true rfl) d_jdk_56_method_4_22 (q := 23) rfl ?_
  intro T13 h13 l13 X13 W13 V13
  have V13 : Arv Z h13 b1 k1 (.object "java/lang/Object") (3 : Int32) [(.ref t0), (.ref t1), (.ref t2)] .null := V13
  refine o_iinc X13 d_jdk_56_method_4_23 rfl (z := (3 : Int32)) (by decide) (L' := #[.val (.ref ar), .val (.ref b1), .val (.int (3 : Int32))]) rfl (q := 26) rfl ?_
  refine o_goto X13 d_jdk_56_method_4_26 (by decide) (q := 8) (by decide) ?_
  refine o_iloadN X13 d_jdk_56_method_4_8 rfl (q := 9) rfl ?_
  refine o_aloadN X13 d_jdk_56_method_4_9 rfl rfl (q := 10) rfl ?_
  have f14 := (f10.other W13 (Nat.ne_of_lt (Nat.lt_of_lt_of_le V_ar.lt (Nat.le_of_eq gb1.symm))))
  refine o_len X13 f14 d_jdk_56_method_4_10 (q := 11) rfl ?_
  refine o_icmpY X13 d_jdk_56_method_4_11 (by decide) (by decide) (q := 29) (by decide) ?_
  refine o_new X13 (w142 hw) (w238 hw) (w239 hw) d_jdk_56_method_4_29 (by decide) (by decide) (q := 32) rfl ?_
  intro T15 h15 b15 gb15 X15 E15 A15 D15 g0_b15
  have f16 : Fld Z h15 b15 "java/util/ImmutableCollections$ListN" "elements" "[Ljava/lang/Object;" .null := D15 (Or.inr (w249 hw)) (ty := (.array (.object "java/lang/Object"))) (by decide)
  have f17 : Fld Z h15 b15 "java/util/ImmutableCollections$ListN" "allowNulls" "Z" (.int (0 : Int32)) := D15 (Or.inr (w251 hw)) (ty := .boolean) (by decide)
  refine o_dup X15 d_jdk_56_method_4_32 rfl (q := 33) rfl ?_
  refine o_aloadN X15 d_jdk_56_method_4_33 rfl rfl (q := 34) rfl ?_
  refine o_iconst X15 d_jdk_56_method_4_34 (w := 0) rfl (q := 35) rfl ?_
  refine o_specN X15 [(.ref b1), (.int (0 : Int32))] (y' := (⟨"java/util/ImmutableCollections$ListN", "<init>", "([Ljava/lang/Object;Z)V"⟩ : MethodName)) (c_lN hw b15 b1 _ A15 g0_b15 f16 f17) rfl (w240 hw) (w241 hw) (w243 hw) (w239 hw) (by decide) d_jdk_56_method_4_35 (rest := [(.ref b15)]) rfl rfl (lenOf pd13 rfl) rfl (by decide) (Nat.le_of_ble_eq_true rfl) (by decide) (by decide) (q := 38) rfl ?_
  intro v18 T18 h18 l18 X18 q18
  obtain ⟨rfl, K18, Fl18⟩ := q18
  show Goes p e below _ T18 (mkF m 38 #[.val (.ref ar), .val (.ref b1), .val (.int (3 : Int32))] [(.ref b15)])
  have sz19 := Nat.le_trans (Keep.refl h0 []).1 (Nat.le_of_eq gb1.symm)
  have k20 := Keep.ext (Keep.refl h0 []) E1
  have k21 := Keep.wr k20 W5 (Or.inr sz19)
  have k22 := Keep.wr k21 W9 (Or.inr sz19)
  have k23 := Keep.wr k22 W13 (Or.inr sz19)
  have sz24 := Nat.le_trans k23.1 (Nat.le_of_eq gb15.symm)
  have k25 := Keep.ext k23 E15
  have k26 := Keep.trans k25 K18 (allS (Or.inr sz24) all0)
  have f27 := (A15.keep K18)
  have f28 := ((V13.ext E15).keep K18 (ninS (Nat.ne_of_lt (Nat.lt_of_lt_of_le V13.lt (Nat.le_of_eq gb15.symm))) nin0))
  exact o_retR X18 d_jdk_56_method_4_38 rfl rfl rfl ⟨b15, rfl, k26, sz24, f27, b1, k1, sz19, Fl18, f28⟩ (by decide) (by decide)
set_option maxRecDepth 65536 in
set_option maxHeartbeats 40000000 in
theorem c_of3 {l : Launch} {Z : State} {a0 : Array Value} (hw : W a0 Z) (ar t0 t1 t2 : Addr) (h0 : Heap) {kr : ClassId} (V_ar : Arv Z h0 ar kr (.object "java/lang/Object") (3 : Int32) [(.ref t0), (.ref t1), (.ref t2)] .null) (E_t0 : Exa Z h0 t0 "com/example/tolerant_workflows/tolerantworkflows/model/Task") (E_t1 : Exa Z h0 t1 "com/example/tolerant_workflows/tolerantworkflows/model/Task") (E_t2 : Exa Z h0 t2 "com/example/tolerant_workflows/tolerantworkflows/model/Task") :
    Con l Z (⟨"java/util/List", "of", "([Ljava/lang/Object;)Ljava/util/List;"⟩ : MethodName) jdk_40_method_47_code 2 (some (.object "java/util/List")) ({ frames := 6, cells := 2, slots := 5, locals := 77 } : Room) #[(.ref ar)] h0 (fun v h' => ∃ r : Addr, v = some (.ref r) ∧ Keep h0 h' [] ∧ h0.size ≤ r ∧ Exa Z h' r "java/util/ImmutableCollections$ListN" ∧ ∃ (el : Addr) (ke : ClassId), h0.size ≤ el ∧ Fld Z h' r "java/util/ImmutableCollections$ListN" "elements" "[Ljava/lang/Object;" (.ref el) ∧ Arv Z h' el ke (.object "java/lang/Object") (3 : Int32) [(.ref t0), (.ref t1), (.ref t2)] .null) := by
  have hpn : plainName "java/util/List" = true := by first | (simp [plainName, overriddenIn]; done) | decide +kernel
  refine Con.intro (plainFor_of_name hpn) ?_
  intro p e s m below meth c T X
  refine Goes.cast (g' := mkF m 0 #[.val (.ref ar), .unset] []) (by first | (simp [entryFrame, mkF, argsToLocals, Value.category]; done) | rfl) ?_
  refine o_aloadN X d_jdk_40_method_47_0 rfl rfl (q := 1) rfl ?_
  refine o_len X V_ar d_jdk_40_method_47_1 (q := 2) rfl ?_
  refine o_tswD X d_jdk_40_method_47_2 (by decide) (by decide) (q := 59) (by decide) ?_
  refine o_aloadN X d_jdk_40_method_47_59 rfl rfl (q := 60) rfl ?_
  refine o_stat X [(.ref ar)] (y' := (⟨"java/util/ImmutableCollections", "listFromArray", "([Ljava/lang/Object;)Ljava/util/List;"⟩ : MethodName)) (c_lfa3 hw ar t0 t1 t2 _ V_ar E_t0 E_t1 E_t2) (w233 hw) (w234 hw) (w135 hw) (w235 hw) (by decide) d_jdk_40_method_47_60 (rest := []) rfl rfl (lenOf pd10 rfl) rfl (by decide) (Nat.le_of_ble_eq_true rfl) (by decide) (by decide) (q := 63) rfl ?_
  intro v1 T1 h1 l1 X1 q1
  obtain ⟨r1, rfl, K1, gr1, Er1, el1, ke1, ge1, Fr1, Ve1⟩ := q1
  show Goes p e below _ T1 (mkF m 63 #[.val (.ref ar), .unset] [(.ref r1)])
  have sz2 := Nat.le_trans (Keep.refl h0 []).1 gr1
  have sz3 := Nat.le_trans (Keep.refl h0 []).1 ge1
  have k4 := Keep.trans (Keep.refl h0 []) K1 all0
  exact o_retR X1 d_jdk_40_method_47_63 rfl rfl rfl ⟨r1, rfl, k4, sz2, Er1, el1, ke1, sz3, Fr1, Ve1⟩ (by decide) (by decide)
set_option maxRecDepth 65536 in
set_option maxHeartbeats 40000000 in
theorem c_lcp3 {l : Launch} {Z : State} {a0 : Array Value} (hw : W a0 Z) (la da t0 t1 t2 : Addr) (h0 : Heap) (E_la : Exa Z h0 la "java/util/ArrayList") (g_la : Z.heap.size ≤ la) (F_la_modCount : Fld Z h0 la "java/util/AbstractList" "modCount" "I" (.int (3 : Int32))) (F_la_elementData : Fld Z h0 la "java/util/ArrayList" "elementData" "[Ljava/lang/Object;" (.ref da)) (F_la_size : Fld Z h0 la "java/util/ArrayList" "size" "I" (.int (3 : Int32))) {kd : ClassId} (V_da : Arv Z h0 da kd (.object "java/lang/Object") (10 : Int32) [(.ref t0), (.ref t1), (.ref t2), .null, .null, .null, .null, .null, .null, .null] .null) (A_da : Exa Z h0 da "[Ljava/lang/Object;") (O_da : Ovr Z kd "java/lang/Object") (g_da : Z.heap.size ≤ da) (E_t0 : Exa Z h0 t0 "com/example/tolerant_workflows/tolerantworkflows/model/Task") (E_t1 : Exa Z h0 t1 "com/example/tolerant_workflows/tolerantworkflows/model/Task") (E_t2 : Exa Z h0 t2 "com/example/tolerant_workflows/tolerantworkflows/model/Task") {mr : Addr} (M : Mir Z "[Ljava/lang/Object;" mr) :
    Con l Z (⟨"java/util/ImmutableCollections", "listCopy", "(Ljava/util/Collection;)Ljava/util/List;"⟩ : MethodName) jdk_56_method_3_code 2 (some (.object "java/util/List")) ({ frames := 7, cells := 3, slots := 8, locals := 90 } : Room) #[(.ref la)] h0 (fun v h' => ∃ r : Addr, v = some (.ref r) ∧ Keep h0 h' [] ∧ h0.size ≤ r ∧ Exa Z h' r "java/util/ImmutableCollections$ListN" ∧ ∃ (el : Addr) (ke : ClassId), h0.size ≤ el ∧ Fld Z h' r "java/util/ImmutableCollections$ListN" "elements" "[Ljava/lang/Object;" (.ref el) ∧ Arv Z h' el ke (.object "java/lang/Object") (3 : Int32) [(.ref t0), (.ref t1), (.ref t2)] .null) := by
  have hpn : plainName "java/util/ImmutableCollections" = true := by first | (simp [plainName, overriddenIn]; done) | decide +kernel
  refine Con.intro (plainFor_of_name hpn) ?_
  intro p e s m below meth c T X
  refine Goes.cast (g' := mkF m 0 #[.val (.ref la), .unset] []) (by first | (simp [entryFrame, mkF, argsToLocals, Value.category]; done) | rfl) ?_
  refine o_aloadN X d_jdk_56_method_3_0 rfl rfl (q := 1) rfl ?_
  refine o_instNo X E_la (ns_no (w138 hw) (w182 hw) (NS.step (w138 hw) (NS.step (w139 hw) (NS.step (w140 hw) (ns_root (w141 hw) (w182 hw) (by decide)) (by decide)) (by decide)) (by decide)) (by decide)) (w137 hw) d_jdk_56_method_3_1 (q := 4) rfl ?_
  intro T1 X1
  refine o_ifN X1 d_jdk_56_method_3_4 (by decide) (q := 7) rfl ?_
  refine o_aloadN X1 d_jdk_56_method_3_7 rfl rfl (q := 8) rfl ?_
  refine o_instNo X1 E_la (ns_no (w138 hw) (w238 hw) (NS.step (w138 hw) (NS.step (w139 hw) (NS.step (w140 hw) (ns_root (w141 hw) (w238 hw) (by decide)) (by decide)) (by decide)) (by decide)) (by decide)) (w142 hw) d_jdk_56_method_3_8 (q := 11) rfl ?_
  intro T2 X2
  refine o_ifY X2 d_jdk_56_method_3_11 (by decide) (by decide) (q := 31) (by decide) ?_
  refine o_aloadN X2 d_jdk_56_method_3_31 rfl rfl (q := 32) rfl ?_
  refine o_iface X2 [] (xi := (⟨"java/util/Collection", "isEmpty", "()Z"⟩ : MethodName)) (y' := (⟨"java/util/ArrayList", "isEmpty", "()Z"⟩ : MethodName)) E_la (c_isE3 hw la _ F_la_size) (w143 hw) (w144 hw) (w145 hw) (w146 hw) (w125 hw) (w126 hw) (w127 hw) (w147 hw) (w128 hw) (w57 hw) (by decide) d_jdk_56_method_3_32 (rest := []) rfl rfl (lenOf pd9 rfl) rfl (by decide) (Nat.le_of_ble_eq_true rfl) (by decide) (by decide) (q := 37) rfl ?_
  intro v3 T3 h3 l3 X3 q3
  obtain ⟨rfl, e3⟩ := q3
  have e3 := e3.symm
  subst e3
  show Goes p e below _ T3 (mkF m 37 #[.val (.ref la), .unset] [(.int (0 : Int32))])
  refine o_ifY X3 d_jdk_56_method_3_37 (by decide) (by decide) (q := 44) (by decide) ?_
  refine o_aloadN X3 d_jdk_56_method_3_44 rfl rfl (q := 45) rfl ?_
  refine o_iface X3 [] (xi := (⟨"java/util/Collection", "toArray", "()[Ljava/lang/Object;"⟩ : MethodName)) (y' := (⟨"java/util/ArrayList", "toArray", "()[Ljava/lang/Object;"⟩ : MethodName)) E_la (c_toA3 hw la da t0 t1 t2 _ E_la g_la F_la_modCount F_la_elementData F_la_size V_da A_da O_da g_da E_t0 E_t1 E_t2 M) (w148 hw) (w149 hw) (w150 hw) (w151 hw) (w152 hw) (w153 hw) (w154 hw) (w147 hw) (w155 hw) (w57 hw) (by decide) d_jdk_56_method_3_45 (rest := []) rfl rfl (lenOf pd3 rfl) rfl (by decide) (Nat.le_of_ble_eq_true rfl) (by decide) (by decide) (q := 50) rfl ?_
  intro v4 T4 h4 l4 X4 q4
  obtain ⟨d4, k4, rfl, K4, V4⟩ := q4
  show Goes p e below _ T4 (mkF m 50 #[.val (.ref la), .unset] [(.ref d4)])
  have f5 := (E_t0.keep K4)
  have f6 := (E_t1.keep K4)
  have f7 := (E_t2.keep K4)
  refine o_stat X4 [(.ref d4)] (y' := (⟨"java/util/List", "of", "([Ljava/lang/Object;)Ljava/util/List;"⟩ : MethodName)) (c_of3 hw d4 t0 t1 t2 _ V4 f5 f6 f7) (w178 hw) (w179 hw) (w131 hw) (w180 hw) (by decide) d_jdk_56_method_3_50 (rest := []) rfl rfl (lenOf pd10 rfl) rfl (by decide) (Nat.le_of_ble_eq_true rfl) (by decide) (by decide) (q := 53) rfl ?_
  intro v8 T8 h8 l8 X8 q8
  obtain ⟨r8, rfl, K8, gr8, Er8, el8, ke8, ge8, Fr8, Ve8⟩ := q8
  show Goes p e below _ T8 (mkF m 53 #[.val (.ref la), .unset] [(.ref r8)])
  have k9 := Keep.trans (Keep.refl h0 []) K4 all0
  have sz10 := Nat.le_trans k9.1 gr8
  have sz11 := Nat.le_trans k9.1 ge8
  have k12 := Keep.trans k9 K8 all0
  exact o_retR X8 d_jdk_56_method_3_53 rfl rfl rfl ⟨r8, rfl, k12, sz10, Er8, el8, ke8, sz11, Fr8, Ve8⟩ (by decide) (by decide)
set_option maxRecDepth 65536 in
set_option maxHeartbeats 40000000 in
theorem c_copyOf3 {l : Launch} {Z : State} {a0 : Array Value} (hw : W a0 Z) (la da t0 t1 t2 : Addr) (h0 : Heap) (E_la : Exa Z h0 la "java/util/ArrayList") (g_la : Z.heap.size ≤ la) (F_la_modCount : Fld Z h0 la "java/util/AbstractList" "modCount" "I" (.int (3 : Int32))) (F_la_elementData : Fld Z h0 la "java/util/ArrayList" "elementData" "[Ljava/lang/Object;" (.ref da)) (F_la_size : Fld Z h0 la "java/util/ArrayList" "size" "I" (.int (3 : Int32))) {kd : ClassId} (V_da : Arv Z h0 da kd (.object "java/lang/Object") (10 : Int32) [(.ref t0), (.ref t1), (.ref t2), .null, .null, .null, .null, .null, .null, .null] .null) (A_da : Exa Z h0 da "[Ljava/lang/Object;") (O_da : Ovr Z kd "java/lang/Object") (g_da : Z.heap.size ≤ da) (E_t0 : Exa Z h0 t0 "com/example/tolerant_workflows/tolerantworkflows/model/Task") (E_t1 : Exa Z h0 t1 "com/example/tolerant_workflows/tolerantworkflows/model/Task") (E_t2 : Exa Z h0 t2 "com/example/tolerant_workflows/tolerantworkflows/model/Task") {mr : Addr} (M : Mir Z "[Ljava/lang/Object;" mr) :
    Con l Z (⟨"java/util/List", "copyOf", "(Ljava/util/Collection;)Ljava/util/List;"⟩ : MethodName) jdk_40_method_48_code 1 (some (.object "java/util/List")) ({ frames := 8, cells := 3, slots := 8, locals := 103 } : Room) #[(.ref la)] h0 (fun v h' => ∃ r : Addr, v = some (.ref r) ∧ Keep h0 h' [] ∧ h0.size ≤ r ∧ Exa Z h' r "java/util/ImmutableCollections$ListN" ∧ ∃ (el : Addr) (ke : ClassId), h0.size ≤ el ∧ Fld Z h' r "java/util/ImmutableCollections$ListN" "elements" "[Ljava/lang/Object;" (.ref el) ∧ Arv Z h' el ke (.object "java/lang/Object") (3 : Int32) [(.ref t0), (.ref t1), (.ref t2)] .null) := by
  have hpn : plainName "java/util/List" = true := by first | (simp [plainName, overriddenIn]; done) | decide +kernel
  refine Con.intro (plainFor_of_name hpn) ?_
  intro p e s m below meth c T X
  refine Goes.cast (g' := mkF m 0 #[.val (.ref la)] []) (by first | (simp [entryFrame, mkF, argsToLocals, Value.category]; done) | rfl) ?_
  refine o_aloadN X d_jdk_40_method_48_0 rfl rfl (q := 1) rfl ?_
  refine o_stat X [(.ref la)] (y' := (⟨"java/util/ImmutableCollections", "listCopy", "(Ljava/util/Collection;)Ljava/util/List;"⟩ : MethodName)) (c_lcp3 hw la da t0 t1 t2 _ E_la g_la F_la_modCount F_la_elementData F_la_size V_da A_da O_da g_da E_t0 E_t1 E_t2 M) (w133 hw) (w134 hw) (w135 hw) (w136 hw) (by decide) d_jdk_40_method_48_1 (rest := []) rfl rfl (lenOf pd11 rfl) rfl (by decide) (Nat.le_of_ble_eq_true rfl) (by decide) (by decide) (q := 4) rfl ?_
  intro v1 T1 h1 l1 X1 q1
  obtain ⟨r1, rfl, K1, gr1, Er1, el1, ke1, ge1, Fr1, Ve1⟩ := q1
  show Goes p e below _ T1 (mkF m 4 #[.val (.ref la)] [(.ref r1)])
  have sz2 := Nat.le_trans (Keep.refl h0 []).1 gr1
  have sz3 := Nat.le_trans (Keep.refl h0 []).1 ge1
  have k4 := Keep.trans (Keep.refl h0 []) K1 all0
  exact o_retR X1 d_jdk_40_method_48_4 rfl rfl rfl ⟨r1, rfl, k4, sz2, Er1, el1, ke1, sz3, Fr1, Ve1⟩ (by decide) (by decide)
set_option maxRecDepth 65536 in
set_option maxHeartbeats 40000000 in
theorem c_get3 {l : Launch} {Z : State} {a0 : Array Value} (hw : W a0 Z) (r el t0 t1 t2 : Addr) (h0 : Heap) (F : Fld Z h0 r "java/util/ImmutableCollections$ListN" "elements" "[Ljava/lang/Object;" (.ref el)) {ke : ClassId} (V : Arv Z h0 el ke (.object "java/lang/Object") (3 : Int32) [(.ref t0), (.ref t1), (.ref t2)] .null) :
    Con l Z (⟨"java/util/ImmutableCollections$ListN", "get", "(I)Ljava/lang/Object;"⟩ : MethodName) jdk_45_method_4_code 2 (some (.object "java/lang/Object")) ({ frames := 0, cells := 0, slots := 0, locals := 0 } : Room) #[(.ref r), (.int (0 : Int32))] h0 (fun v h' => v = some (.ref t0) ∧ h' = h0) := by
  have hpn : plainName "java/util/ImmutableCollections$ListN" = true := by first | (simp [plainName, overriddenIn]; done) | decide +kernel
  refine Con.intro (plainFor_of_name hpn) ?_
  intro p e s m below meth c T X
  refine Goes.cast (g' := mkF m 0 #[.val (.ref r), .val (.int (0 : Int32))] []) (by first | (simp [entryFrame, mkF, argsToLocals, Value.category]; done) | rfl) ?_
  refine o_aloadN X d_jdk_45_method_4_0 rfl rfl (q := 1) rfl ?_
  refine o_getF X F (host := "") (Or.inl (w248 hw)) Via.refl d_jdk_45_method_4_1 (q := 4) rfl ?_
  intro T1 X1
  refine o_iloadN X1 d_jdk_45_method_4_4 rfl (q := 5) rfl ?_
  refine o_aaload X1 V rfl (by decide) (v := (.ref t0)) rfl d_jdk_45_method_4_5 (q := 6) rfl ?_
  exact o_retR X1 d_jdk_45_method_4_6 rfl rfl rfl ⟨rfl, rfl⟩ (by decide) (by decide)
set_option maxRecDepth 65536 in
set_option maxHeartbeats 40000000 in
theorem c_job1 {l : Launch} {Z : State} {a0 : Array Value} (hw : W a0 Z) (jb la da t0 : Addr) (h0 : Heap) (E : Exa Z h0 jb "com/example/tolerant_workflows/tolerantworkflows/engine/Job") (gj : Z.heap.size ≤ jb) (Fj : Fld Z h0 jb "com/example/tolerant_workflows/tolerantworkflows/engine/Job" "tasks" "Ljava/util/List;" .null) (E_la : Exa Z h0 la "java/util/ArrayList") (g_la : Z.heap.size ≤ la) (F_la_modCount : Fld Z h0 la "java/util/AbstractList" "modCount" "I" (.int (1 : Int32))) (F_la_elementData : Fld Z h0 la "java/util/ArrayList" "elementData" "[Ljava/lang/Object;" (.ref da)) (F_la_size : Fld Z h0 la "java/util/ArrayList" "size" "I" (.int (1 : Int32))) {kd : ClassId} (V_da : Arv Z h0 da kd (.object "java/lang/Object") (10 : Int32) [(.ref t0), .null, .null, .null, .null, .null, .null, .null, .null, .null] .null) (A_da : Exa Z h0 da "[Ljava/lang/Object;") (O_da : Ovr Z kd "java/lang/Object") (g_da : Z.heap.size ≤ da) (E_t0 : Exa Z h0 t0 "com/example/tolerant_workflows/tolerantworkflows/model/Task") {mr : Addr} (M : Mir Z "[Ljava/lang/Object;" mr) {em : Addr} (SE : Sta Z Z.heap "java/util/ImmutableCollections" "EMPTY" "Ljava/lang/Object;" (.ref em)) :
    Con l Z (⟨"com/example/tolerant_workflows/tolerantworkflows/engine/Job", "<init>", "(Ljava/util/List;)V"⟩ : MethodName) prog_4_method_1_code 2 none ({ frames := 8, cells := 2, slots := 3, locals := 100 } : Room) #[(.ref jb), (.ref la)] h0 (fun v h' => v = none ∧ Keep h0 h' [jb] ∧ ∃ r : Addr, Fld Z h' jb "com/example/tolerant_workflows/tolerantworkflows/engine/Job" "tasks" "Ljava/util/List;" (.ref r) ∧ h0.size ≤ r ∧ Exa Z h' r "java/util/ImmutableCollections$List12" ∧ Fld Z h' r "java/util/ImmutableCollections$List12" "e0" "Ljava/lang/Object;" (.ref t0)) := by
  have hpn : plainName "com/example/tolerant_workflows/tolerantworkflows/engine/Job" = true := by first | (simp [plainName, overriddenIn]; done) | decide +kernel
  refine Con.intro (plainFor_of_name hpn) ?_
  intro p e s m below meth c T X
  refine Goes.cast (g' := mkF m 0 #[.val (.ref jb), .val (.ref la)] []) (by first | (simp [entryFrame, mkF, argsToLocals, Value.category]; done) | rfl) ?_
  refine o_aloadN X d_prog_4_method_1_0 rfl rfl (q := 1) rfl ?_
  refine o_spec X [] (y' := (⟨"java/lang/Record", "<init>", "()V"⟩ : MethodName)) (c_rec hw jb _) rfl (w120 hw) (w38 hw) (w41 hw) (w40 hw) (by decide) d_prog_4_method_1_1 (rest := []) rfl rfl (lenOf pd0 rfl) rfl (by decide) (Nat.le_of_ble_eq_true rfl) (by decide) (by decide) (q := 4) rfl ?_
  intro v1 T1 h1 l1 X1 q1
  obtain ⟨rfl, e1⟩ := q1
  have e1 := e1.symm
  subst e1
  show Goes p e below _ T1 (mkF m 4 #[.val (.ref jb), .val (.ref la)] [])
  refine o_aloadN X1 d_prog_4_method_1_4 rfl rfl (q := 5) rfl ?_
  refine o_iface X1 [] (xi := (⟨"java/util/List", "isEmpty", "()Z"⟩ : MethodName)) (y' := (⟨"java/util/ArrayList", "isEmpty", "()Z"⟩ : MethodName)) E_la (c_isE1 hw la _ F_la_size) (w121 hw) (w122 hw) (w123 hw) (w124 hw) (w125 hw) (w126 hw) (w127 hw) (w86 hw) (w128 hw) (w57 hw) (by decide) d_prog_4_method_1_5 (rest := []) rfl rfl (lenOf pd9 rfl) rfl (by decide) (Nat.le_of_ble_eq_true rfl) (by decide) (by decide) (q := 10) rfl ?_
  intro v2 T2 h2 l2 X2 q2
  obtain ⟨rfl, e2⟩ := q2
  have e2 := e2.symm
  subst e2
  show Goes p e below _ T2 (mkF m 10 #[.val (.ref jb), .val (.ref la)] [(.int (0 : Int32))])
  refine o_ifY X2 d_prog_4_method_1_10 (by decide) (by decide) (q := 23) (by decide) ?_
  refine o_aloadN X2 d_prog_4_method_1_23 rfl rfl (q := 24) rfl ?_
  refine o_stat X2 [(.ref la)] (y' := (⟨"java/util/List", "copyOf", "(Ljava/util/Collection;)Ljava/util/List;"⟩ : MethodName)) (c_copyOf1 hw la da t0 _ E_la g_la F_la_modCount F_la_elementData F_la_size V_da A_da O_da g_da E_t0 M SE) (w129 hw) (w130 hw) (w131 hw) (w132 hw) (by decide) d_prog_4_method_1_24 (rest := []) rfl rfl (lenOf pd11 rfl) rfl (by decide) (Nat.le_of_ble_eq_true rfl) (by decide) (by decide) (q := 27) rfl ?_
  intro v3 T3 h3 l3 X3 q3
  obtain ⟨r3, rfl, K3, gr3, Er3, Fr3⟩ := q3
  show Goes p e below _ T3 (mkF m 27 #[.val (.ref jb), .val (.ref la)] [(.ref r3)])
  refine o_astoreN X3 d_prog_4_method_1_27 rfl (L' := #[.val (.ref jb), .val (.ref r3)]) rfl (q := 28) rfl ?_
  refine o_aloadN X3 d_prog_4_method_1_28 rfl rfl (q := 29) rfl ?_
  refine o_aloadN X3 d_prog_4_method_1_29 rfl rfl (q := 30) rfl ?_
  have f4 := (Fj.keep K3 nin0)
  have f5 := (E.keep K3)
  refine o_putF X3 f4 f5 gj (host := "") (Or.inl (w210 hw)) Via.refl (Or.inr ⟨(w211 hw), rfl, rfl⟩) (w115 hw) (ty := (.object "java/util/List")) (by decide) rfl rfl d_prog_4_method_1_30 (q := 33) rfl ?_
  intro T6 h6 l6 X6 W6 F6
  have sz7 := Nat.le_trans (Keep.refl h0 [jb]).1 gr3
  have k8 := Keep.trans (Keep.refl h0 [jb]) K3 all0
  have k9 := Keep.wr k8 W6 (Or.inl (by simp))
  have f10 := (Er3.wr W6)
  have f11 := (Fr3.other W6 (Or.inl (Ne.symm (Nat.ne_of_lt (Nat.lt_of_lt_of_le E.lt gr3)))))
  exact o_ret X6 d_prog_4_method_1_33 ⟨rfl, k9, r3, F6, sz7, f10, f11⟩ (by decide) (by decide)
set_option maxRecDepth 65536 in
set_option maxHeartbeats 40000000 in
theorem c_first1 {l : Launch} {Z : State} {a0 : Array Value} (hw : W a0 Z) (jb r t0 : Addr) (h0 : Heap) (Fj : Fld Z h0 jb "com/example/tolerant_workflows/tolerantworkflows/engine/Job" "tasks" "Ljava/util/List;" (.ref r)) (Er : Exa Z h0 r "java/util/ImmutableCollections$List12") (E_t0 : Exa Z h0 t0 "com/example/tolerant_workflows/tolerantworkflows/model/Task") (Fr : Fld Z h0 r "java/util/ImmutableCollections$List12" "e0" "Ljava/lang/Object;" (.ref t0)) :
    Con l Z (⟨"com/example/tolerant_workflows/tolerantworkflows/engine/Job", "first", "()Lcom/example/tolerant_workflows/tolerantworkflows/model/Task;"⟩ : MethodName) prog_4_method_2_code 1 (some (.object "com/example/tolerant_workflows/tolerantworkflows/model/Task")) ({ frames := 1, cells := 0, slots := 0, locals := 13 } : Room) #[(.ref jb)] h0 (fun v h' => v = some (.ref t0) ∧ h' = h0) := by
  have hpn : plainName "com/example/tolerant_workflows/tolerantworkflows/engine/Job" = true := by first | (simp [plainName, overriddenIn]; done) | decide +kernel
  refine Con.intro (plainFor_of_name hpn) ?_
  intro p e s m below meth c T X
  refine Goes.cast (g' := mkF m 0 #[.val (.ref jb)] []) (by first | (simp [entryFrame, mkF, argsToLocals, Value.category]; done) | rfl) ?_
  refine o_aloadN X d_prog_4_method_2_0 rfl rfl (q := 1) rfl ?_
  refine o_getF X Fj (host := "") (Or.inl (w210 hw)) Via.refl d_prog_4_method_2_1 (q := 4) rfl ?_
  intro T1 X1
  refine o_iconst X1 d_prog_4_method_2_4 (w := 0) rfl (q := 5) rfl ?_
  refine o_iface X1 [(.int (0 : Int32))] (xi := (⟨"java/util/List", "get", "(I)Ljava/lang/Object;"⟩ : MethodName)) (y' := (⟨"java/util/ImmutableCollections$List12", "get", "(I)Ljava/lang/Object;"⟩ : MethodName)) Er (c_get1 hw r t0 _ Fr) (w217 hw) (w218 hw) (w219 hw) (w220 hw) (w221 hw) (w222 hw) (w223 hw) (w224 hw) (w225 hw) (w183 hw) (by decide) d_prog_4_method_2_5 (rest := []) rfl rfl (lenOf pd14 rfl) rfl (by decide) (Nat.le_of_ble_eq_true rfl) (by decide) (by decide) (q := 10) rfl ?_
  intro v2 T2 h2 l2 X2 q2
  obtain ⟨rfl, e2⟩ := q2
  have e2 := e2.symm
  subst e2
  show Goes p e below _ T2 (mkF m 10 #[.val (.ref jb)] [(.ref t0)])
  refine o_cast X2 (Ins.self E_t0) (w226 hw) d_prog_4_method_2_10 (q := 13) rfl ?_
  intro T3 X3
  exact o_retR X3 d_prog_4_method_2_13 rfl rfl rfl ⟨rfl, rfl⟩ (by decide) (by decide)
set_option maxRecDepth 65536 in
set_option maxHeartbeats 40000000 in
theorem c_job2 {l : Launch} {Z : State} {a0 : Array Value} (hw : W a0 Z) (jb la da t0 t1 : Addr) (h0 : Heap) (E : Exa Z h0 jb "com/example/tolerant_workflows/tolerantworkflows/engine/Job") (gj : Z.heap.size ≤ jb) (Fj : Fld Z h0 jb "com/example/tolerant_workflows/tolerantworkflows/engine/Job" "tasks" "Ljava/util/List;" .null) (E_la : Exa Z h0 la "java/util/ArrayList") (g_la : Z.heap.size ≤ la) (F_la_modCount : Fld Z h0 la "java/util/AbstractList" "modCount" "I" (.int (2 : Int32))) (F_la_elementData : Fld Z h0 la "java/util/ArrayList" "elementData" "[Ljava/lang/Object;" (.ref da)) (F_la_size : Fld Z h0 la "java/util/ArrayList" "size" "I" (.int (2 : Int32))) {kd : ClassId} (V_da : Arv Z h0 da kd (.object "java/lang/Object") (10 : Int32) [(.ref t0), (.ref t1), .null, .null, .null, .null, .null, .null, .null, .null] .null) (A_da : Exa Z h0 da "[Ljava/lang/Object;") (O_da : Ovr Z kd "java/lang/Object") (g_da : Z.heap.size ≤ da) (E_t0 : Exa Z h0 t0 "com/example/tolerant_workflows/tolerantworkflows/model/Task") (E_t1 : Exa Z h0 t1 "com/example/tolerant_workflows/tolerantworkflows/model/Task") {mr : Addr} (M : Mir Z "[Ljava/lang/Object;" mr) :
    Con l Z (⟨"com/example/tolerant_workflows/tolerantworkflows/engine/Job", "<init>", "(Ljava/util/List;)V"⟩ : MethodName) prog_4_method_1_code 2 none ({ frames := 8, cells := 2, slots := 4, locals := 101 } : Room) #[(.ref jb), (.ref la)] h0 (fun v h' => v = none ∧ Keep h0 h' [jb] ∧ ∃ r : Addr, Fld Z h' jb "com/example/tolerant_workflows/tolerantworkflows/engine/Job" "tasks" "Ljava/util/List;" (.ref r) ∧ h0.size ≤ r ∧ Exa Z h' r "java/util/ImmutableCollections$List12" ∧ Fld Z h' r "java/util/ImmutableCollections$List12" "e0" "Ljava/lang/Object;" (.ref t0)) := by
  have hpn : plainName "com/example/tolerant_workflows/tolerantworkflows/engine/Job" = true := by first | (simp [plainName, overriddenIn]; done) | decide +kernel
  refine Con.intro (plainFor_of_name hpn) ?_
  intro p e s m below meth c T X
  refine Goes.cast (g' := mkF m 0 #[.val (.ref jb), .val (.ref la)] []) (by first | (simp [entryFrame, mkF, argsToLocals, Value.category]; done) | rfl) ?_
  refine o_aloadN X d_prog_4_method_1_0 rfl rfl (q := 1) rfl ?_
  refine o_spec X [] (y' := (⟨"java/lang/Record", "<init>", "()V"⟩ : MethodName)) (c_rec hw jb _) rfl (w120 hw) (w38 hw) (w41 hw) (w40 hw) (by decide) d_prog_4_method_1_1 (rest := []) rfl rfl (lenOf pd0 rfl) rfl (by decide) (Nat.le_of_ble_eq_true rfl) (by decide) (by decide) (q := 4) rfl ?_
  intro v1 T1 h1 l1 X1 q1
  obtain ⟨rfl, e1⟩ := q1
  have e1 := e1.symm
  subst e1
  show Goes p e below _ T1 (mkF m 4 #[.val (.ref jb), .val (.ref la)] [])
  refine o_aloadN X1 d_prog_4_method_1_4 rfl rfl (q := 5) rfl ?_
  refine o_iface X1 [] (xi := (⟨"java/util/List", "isEmpty", "()Z"⟩ : MethodName)) (y' := (⟨"java/util/ArrayList", "isEmpty", "()Z"⟩ : MethodName)) E_la (c_isE2 hw la _ F_la_size) (w121 hw) (w122 hw) (w123 hw) (w124 hw) (w125 hw) (w126 hw) (w127 hw) (w86 hw) (w128 hw) (w57 hw) (by decide) d_prog_4_method_1_5 (rest := []) rfl rfl (lenOf pd9 rfl) rfl (by decide) (Nat.le_of_ble_eq_true rfl) (by decide) (by decide) (q := 10) rfl ?_
  intro v2 T2 h2 l2 X2 q2
  obtain ⟨rfl, e2⟩ := q2
  have e2 := e2.symm
  subst e2
  show Goes p e below _ T2 (mkF m 10 #[.val (.ref jb), .val (.ref la)] [(.int (0 : Int32))])
  refine o_ifY X2 d_prog_4_method_1_10 (by decide) (by decide) (q := 23) (by decide) ?_
  refine o_aloadN X2 d_prog_4_method_1_23 rfl rfl (q := 24) rfl ?_
  refine o_stat X2 [(.ref la)] (y' := (⟨"java/util/List", "copyOf", "(Ljava/util/Collection;)Ljava/util/List;"⟩ : MethodName)) (c_copyOf2 hw la da t0 t1 _ E_la g_la F_la_modCount F_la_elementData F_la_size V_da A_da O_da g_da E_t0 E_t1 M) (w129 hw) (w130 hw) (w131 hw) (w132 hw) (by decide) d_prog_4_method_1_24 (rest := []) rfl rfl (lenOf pd11 rfl) rfl (by decide) (Nat.le_of_ble_eq_true rfl) (by decide) (by decide) (q := 27) rfl ?_
  intro v3 T3 h3 l3 X3 q3
  obtain ⟨r3, rfl, K3, gr3, Er3, Fr3⟩ := q3
  show Goes p e below _ T3 (mkF m 27 #[.val (.ref jb), .val (.ref la)] [(.ref r3)])
  refine o_astoreN X3 d_prog_4_method_1_27 rfl (L' := #[.val (.ref jb), .val (.ref r3)]) rfl (q := 28) rfl ?_
  refine o_aloadN X3 d_prog_4_method_1_28 rfl rfl (q := 29) rfl ?_
  refine o_aloadN X3 d_prog_4_method_1_29 rfl rfl (q := 30) rfl ?_
  have f4 := (Fj.keep K3 nin0)
  have f5 := (E.keep K3)
  refine o_putF X3 f4 f5 gj (host := "") (Or.inl (w210 hw)) Via.refl (Or.inr ⟨(w211 hw), rfl, rfl⟩) (w115 hw) (ty := (.object "java/util/List")) (by decide) rfl rfl d_prog_4_method_1_30 (q := 33) rfl ?_
  intro T6 h6 l6 X6 W6 F6
  have sz7 := Nat.le_trans (Keep.refl h0 [jb]).1 gr3
  have k8 := Keep.trans (Keep.refl h0 [jb]) K3 all0
  have k9 := Keep.wr k8 W6 (Or.inl (by simp))
  have f10 := (Er3.wr W6)
  have f11 := (Fr3.other W6 (Or.inl (Ne.symm (Nat.ne_of_lt (Nat.lt_of_lt_of_le E.lt gr3)))))
  exact o_ret X6 d_prog_4_method_1_33 ⟨rfl, k9, r3, F6, sz7, f10, f11⟩ (by decide) (by decide)
set_option maxRecDepth 65536 in
set_option maxHeartbeats 40000000 in
theorem c_job3 {l : Launch} {Z : State} {a0 : Array Value} (hw : W a0 Z) (jb la da t0 t1 t2 : Addr) (h0 : Heap) (E : Exa Z h0 jb "com/example/tolerant_workflows/tolerantworkflows/engine/Job") (gj : Z.heap.size ≤ jb) (Fj : Fld Z h0 jb "com/example/tolerant_workflows/tolerantworkflows/engine/Job" "tasks" "Ljava/util/List;" .null) (E_la : Exa Z h0 la "java/util/ArrayList") (g_la : Z.heap.size ≤ la) (F_la_modCount : Fld Z h0 la "java/util/AbstractList" "modCount" "I" (.int (3 : Int32))) (F_la_elementData : Fld Z h0 la "java/util/ArrayList" "elementData" "[Ljava/lang/Object;" (.ref da)) (F_la_size : Fld Z h0 la "java/util/ArrayList" "size" "I" (.int (3 : Int32))) {kd : ClassId} (V_da : Arv Z h0 da kd (.object "java/lang/Object") (10 : Int32) [(.ref t0), (.ref t1), (.ref t2), .null, .null, .null, .null, .null, .null, .null] .null) (A_da : Exa Z h0 da "[Ljava/lang/Object;") (O_da : Ovr Z kd "java/lang/Object") (g_da : Z.heap.size ≤ da) (E_t0 : Exa Z h0 t0 "com/example/tolerant_workflows/tolerantworkflows/model/Task") (E_t1 : Exa Z h0 t1 "com/example/tolerant_workflows/tolerantworkflows/model/Task") (E_t2 : Exa Z h0 t2 "com/example/tolerant_workflows/tolerantworkflows/model/Task") {mr : Addr} (M : Mir Z "[Ljava/lang/Object;" mr) :
    Con l Z (⟨"com/example/tolerant_workflows/tolerantworkflows/engine/Job", "<init>", "(Ljava/util/List;)V"⟩ : MethodName) prog_4_method_1_code 2 none ({ frames := 9, cells := 3, slots := 8, locals := 115 } : Room) #[(.ref jb), (.ref la)] h0 (fun v h' => v = none ∧ Keep h0 h' [jb] ∧ ∃ r : Addr, Fld Z h' jb "com/example/tolerant_workflows/tolerantworkflows/engine/Job" "tasks" "Ljava/util/List;" (.ref r) ∧ h0.size ≤ r ∧ Exa Z h' r "java/util/ImmutableCollections$ListN" ∧ ∃ (el : Addr) (ke : ClassId), h0.size ≤ el ∧ Fld Z h' r "java/util/ImmutableCollections$ListN" "elements" "[Ljava/lang/Object;" (.ref el) ∧ Arv Z h' el ke (.object "java/lang/Object") (3 : Int32) [(.ref t0), (.ref t1), (.ref t2)] .null) := by
  have hpn : plainName "com/example/tolerant_workflows/tolerantworkflows/engine/Job" = true := by first | (simp [plainName, overriddenIn]; done) | decide +kernel
  refine Con.intro (plainFor_of_name hpn) ?_
  intro p e s m below meth c T X
  refine Goes.cast (g' := mkF m 0 #[.val (.ref jb), .val (.ref la)] []) (by first | (simp [entryFrame, mkF, argsToLocals, Value.category]; done) | rfl) ?_
  refine o_aloadN X d_prog_4_method_1_0 rfl rfl (q := 1) rfl ?_
  refine o_spec X [] (y' := (⟨"java/lang/Record", "<init>", "()V"⟩ : MethodName)) (c_rec hw jb _) rfl (w120 hw) (w38 hw) (w41 hw) (w40 hw) (by decide) d_prog_4_method_1_1 (rest := []) rfl rfl (lenOf pd0 rfl) rfl (by decide) (Nat.le_of_ble_eq_true rfl) (by decide) (by decide) (q := 4) rfl ?_
  intro v1 T1 h1 l1 X1 q1
  obtain ⟨rfl, e1⟩ := q1
  have e1 := e1.symm
  subst e1
  show Goes p e below _ T1 (mkF m 4 #[.val (.ref jb), .val (.ref la)] [])
  refine o_aloadN X1 d_prog_4_method_1_4 rfl rfl (q := 5) rfl ?_
  refine o_iface X1 [] (xi := (⟨"java/util/List", "isEmpty", "()Z"⟩ : MethodName)) (y' := (⟨"java/util/ArrayList", "isEmpty", "()Z"⟩ : MethodName)) E_la (c_isE3 hw la _ F_la_size) (w121 hw) (w122 hw) (w123 hw) (w124 hw) (w125 hw) (w126 hw) (w127 hw) (w86 hw) (w128 hw) (w57 hw) (by decide) d_prog_4_method_1_5 (rest := []) rfl rfl (lenOf pd9 rfl) rfl (by decide) (Nat.le_of_ble_eq_true rfl) (by decide) (by decide) (q := 10) rfl ?_
  intro v2 T2 h2 l2 X2 q2
  obtain ⟨rfl, e2⟩ := q2
  have e2 := e2.symm
  subst e2
  show Goes p e below _ T2 (mkF m 10 #[.val (.ref jb), .val (.ref la)] [(.int (0 : Int32))])
  refine o_ifY X2 d_prog_4_method_1_10 (by decide) (by decide) (q := 23) (by decide) ?_
  refine o_aloadN X2 d_prog_4_method_1_23 rfl rfl (q := 24) rfl ?_
  refine o_stat X2 [(.ref la)] (y' := (⟨"java/util/List", "copyOf", "(Ljava/util/Collection;)Ljava/util/List;"⟩ : MethodName)) (c_copyOf3 hw la da t0 t1 t2 _ E_la g_la F_la_modCount F_la_elementData F_la_size V_da A_da O_da g_da E_t0 E_t1 E_t2 M) (w129 hw) (w130 hw) (w131 hw) (w132 hw) (by decide) d_prog_4_method_1_24 (rest := []) rfl rfl (lenOf pd11 rfl) rfl (by decide) (Nat.le_of_ble_eq_true rfl) (by decide) (by decide) (q := 27) rfl ?_
  intro v3 T3 h3 l3 X3 q3
  obtain ⟨r3, rfl, K3, gr3, Er3, el3, ke3, ge3, Fr3, Ve3⟩ := q3
  show Goes p e below _ T3 (mkF m 27 #[.val (.ref jb), .val (.ref la)] [(.ref r3)])
  refine o_astoreN X3 d_prog_4_method_1_27 rfl (L' := #[.val (.ref jb), .val (.ref r3)]) rfl (q := 28) rfl ?_
  refine o_aloadN X3 d_prog_4_method_1_28 rfl rfl (q := 29) rfl ?_
  refine o_aloadN X3 d_prog_4_method_1_29 rfl rfl (q := 30) rfl ?_
  have f4 := (Fj.keep K3 nin0)
  have f5 := (E.keep K3)
  refine o_putF X3 f4 f5 gj (host := "") (Or.inl (w210 hw)) Via.refl (Or.inr ⟨(w211 hw), rfl, rfl⟩) (w115 hw) (ty := (.object "java/util/List")) (by decide) rfl rfl d_prog_4_method_1_30 (q := 33) rfl ?_
  intro T6 h6 l6 X6 W6 F6
  have sz7 := Nat.le_trans (Keep.refl h0 [jb]).1 gr3
  have sz8 := Nat.le_trans (Keep.refl h0 [jb]).1 ge3
  have k9 := Keep.trans (Keep.refl h0 [jb]) K3 all0
  have k10 := Keep.wr k9 W6 (Or.inl (by simp))
  have f11 := (Er3.wr W6)
  have f12 := (Fr3.other W6 (Or.inl (Ne.symm (Nat.ne_of_lt (Nat.lt_of_lt_of_le E.lt gr3)))))
  have f13 := (Ve3.other W6 (Ne.symm (Nat.ne_of_lt (Nat.lt_of_lt_of_le E.lt ge3))))
  exact o_ret X6 d_prog_4_method_1_33 ⟨rfl, k10, r3, F6, sz7, f11, el3, ke3, sz8, f12, f13⟩ (by decide) (by decide)
set_option maxRecDepth 65536 in
set_option maxHeartbeats 40000000 in
theorem c_first3 {l : Launch} {Z : State} {a0 : Array Value} (hw : W a0 Z) (jb r el t0 t1 t2 : Addr) (h0 : Heap) (Fj : Fld Z h0 jb "com/example/tolerant_workflows/tolerantworkflows/engine/Job" "tasks" "Ljava/util/List;" (.ref r)) (Er : Exa Z h0 r "java/util/ImmutableCollections$ListN") (E_t0 : Exa Z h0 t0 "com/example/tolerant_workflows/tolerantworkflows/model/Task") (Fr : Fld Z h0 r "java/util/ImmutableCollections$ListN" "elements" "[Ljava/lang/Object;" (.ref el)) {ke : ClassId} (Ve : Arv Z h0 el ke (.object "java/lang/Object") (3 : Int32) [(.ref t0), (.ref t1), (.ref t2)] .null) :
    Con l Z (⟨"com/example/tolerant_workflows/tolerantworkflows/engine/Job", "first", "()Lcom/example/tolerant_workflows/tolerantworkflows/model/Task;"⟩ : MethodName) prog_4_method_2_code 1 (some (.object "com/example/tolerant_workflows/tolerantworkflows/model/Task")) ({ frames := 1, cells := 0, slots := 0, locals := 13 } : Room) #[(.ref jb)] h0 (fun v h' => v = some (.ref t0) ∧ h' = h0) := by
  have hpn : plainName "com/example/tolerant_workflows/tolerantworkflows/engine/Job" = true := by first | (simp [plainName, overriddenIn]; done) | decide +kernel
  refine Con.intro (plainFor_of_name hpn) ?_
  intro p e s m below meth c T X
  refine Goes.cast (g' := mkF m 0 #[.val (.ref jb)] []) (by first | (simp [entryFrame, mkF, argsToLocals, Value.category]; done) | rfl) ?_
  refine o_aloadN X d_prog_4_method_2_0 rfl rfl (q := 1) rfl ?_
  refine o_getF X Fj (host := "") (Or.inl (w210 hw)) Via.refl d_prog_4_method_2_1 (q := 4) rfl ?_
  intro T1 X1
  refine o_iconst X1 d_prog_4_method_2_4 (w := 0) rfl (q := 5) rfl ?_
  refine o_iface X1 [(.int (0 : Int32))] (xi := (⟨"java/util/List", "get", "(I)Ljava/lang/Object;"⟩ : MethodName)) (y' := (⟨"java/util/ImmutableCollections$ListN", "get", "(I)Ljava/lang/Object;"⟩ : MethodName)) Er (c_get3 hw r el t0 t1 t2 _ Fr Ve) (w217 hw) (w218 hw) (w219 hw) (w252 hw) (w253 hw) (w254 hw) (w255 hw) (w256 hw) (w257 hw) (w239 hw) (by decide) d_prog_4_method_2_5 (rest := []) rfl rfl (lenOf pd14 rfl) rfl (by decide) (Nat.le_of_ble_eq_true rfl) (by decide) (by decide) (q := 10) rfl ?_
  intro v2 T2 h2 l2 X2 q2
  obtain ⟨rfl, e2⟩ := q2
  have e2 := e2.symm
  subst e2
  show Goes p e below _ T2 (mkF m 10 #[.val (.ref jb)] [(.ref t0)])
  refine o_cast X2 (Ins.self E_t0) (w226 hw) d_prog_4_method_2_10 (q := 13) rfl ?_
  intro T3 X3
  exact o_retR X3 d_prog_4_method_2_13 rfl rfl rfl ⟨rfl, rfl⟩ (by decide) (by decide)
set_option maxRecDepth 65536 in
set_option maxHeartbeats 40000000 in
theorem c_law {l : Launch} {Z : State} {a0 : Array Value} (hw : W a0 Z) (p0 p1 p2 p3 : Int32) {zc : Int32} (O2 : Sta Z Z.heap "java/lang/String" "COMPACT_STRINGS" "Z" (.int zc)) (P5 : ¬ zc = 0) {dd : Addr} {kdd : ClassId} (SD : Sta Z Z.heap "java/util/ArrayList" "DEFAULTCAPACITY_EMPTY_ELEMENTDATA" "[Ljava/lang/Object;" (.ref dd)) (VD : Arv Z Z.heap dd kdd (.object "java/lang/Object") (0 : Int32) [] .null) {em : Addr} (SE : Sta Z Z.heap "java/util/ImmutableCollections" "EMPTY" "Ljava/lang/Object;" (.ref em)) {mr : Addr} (M : Mir Z "[Ljava/lang/Object;" mr) :
    Con l Z x code maxLocals ret room_1 #[(.int p0), (.int p1), (.int p2), (.int p3)] Z.heap (fun v h' => v = some (.int 1)) := by
  have hpn : plainName "com/example/tolerant_workflows/tolerantworkflows/engine/JobFirstPinLaw" = true := by first | (simp [plainName, overriddenIn]; done) | decide +kernel
  refine Con.intro (plainFor_of_name hpn) ?_
  intro p e s m below meth c T X
  refine Goes.cast (g' := mkF m 0 #[.val (.int p0), .val (.int p1), .val (.int p2), .val (.int p3), .unset, .unset, .unset, .unset, .unset, .unset, .unset, .unset, .unset, .unset] []) (by first | (simp [entryFrame, mkF, argsToLocals, Value.category, maxLocals]; done) | rfl) ?_
  have hwns : ∀ d ∈ StrChars.Road.words, d.before a0 Z = true := fun d hd => hw d ((by decide +kernel : ∀ d ∈ StrChars.Road.words, d ∈ tables_1) d hd)
  refine o_iconst X at_0 (w := 1) rfl (q := 1) rfl ?_
  refine o_iloadN X at_1 rfl (q := 2) rfl ?_
  refine o_ldcI X (w0 hw) at_2 (q := 4) rfl ?_
  refine o_iand X at_4 (w := (p3 &&& (2147483647 : Int32))) rfl (q := 5) rfl ?_
  refine o_iconst X at_5 (w := 3) rfl (q := 6) rfl ?_
  refine o_irem X at_6 (by decide) (w := ((p3 &&& (2147483647 : Int32)) % (3 : Int32))) rfl (q := 7) rfl ?_
  refine o_iadd X at_7 (w := ((1 : Int32) + ((p3 &&& (2147483647 : Int32)) % (3 : Int32)))) rfl (q := 8) rfl ?_
  obtain ⟨n, h_n⟩ : ∃ z : Int32, ((1 : Int32) + ((p3 &&& (2147483647 : Int32)) % (3 : Int32))) = z := ⟨_, rfl⟩
  refine o_istore X at_8 h_n (L' := #[.val (.int p0), .val (.int p1), .val (.int p2), .val (.int p3), .val (.int n), .unset, .unset, .unset, .unset, .unset, .unset, .unset, .unset, .unset]) rfl (q := 10) rfl ?_
  refine o_iconst X at_10 (w := 1) rfl (q := 11) rfl ?_
  refine o_newarr X (aty := .char) (cap := 1) 1 (w1 hw) at_11 (by decide) (by decide) (by decide) (by decide) (by decide) (q := 13) rfl ?_
  intro T1 h1 b1 k1 gb1 X1 E1 V1 g0_b1
  have V1 : Arv Z h1 b1 k1 .char (1 : Int32) [(.int (0 : Int32))] (.int (0 : Int32)) := V1
  refine o_dup X1 at_13 rfl (q := 14) rfl ?_
  refine o_iconst X1 at_14 (w := 0) rfl (q := 15) rfl ?_
  refine o_iloadN X1 at_15 rfl (q := 16) rfl ?_
  refine o_sipush X1 at_16 (w := 255) rfl (q := 19) rfl ?_
  refine o_iand X1 at_19 (w := (p0 &&& (255 : Int32))) rfl (q := 20) rfl ?_
  refine o_i2c X1 at_20 (w := ((p0 &&& (255 : Int32)).toUInt32.toUInt16.toUInt32.toInt32)) rfl (q := 21) rfl ?_
  obtain ⟨c0, h_c0⟩ : ∃ z : Int32, nar .char ((p0 &&& (255 : Int32)).toUInt32.toUInt16.toUInt32.toInt32) = z := ⟨_, rfl⟩
  refine o_castore X1 0 V1 g0_b1 (by decide) rfl (Nat.le_of_ble_eq_true rfl) (v := (.int c0)) (by rw [h_c0]) at_21 (q := 22) rfl ?_
  intro T2 h2 l2 X2 W2 V2
  have V2 : Arv Z h2 b1 k1 .char (1 : Int32) [(.int c0)] (.int (0 : Int32)) := V2
  refine o_astore X2 at_22 rfl (L' := #[.val (.int p0), .val (.int p1), .val (.int p2), .val (.int p3), .val (.int n), .val (.ref b1), .unset, .unset, .unset, .unset, .unset, .unset, .unset, .unset]) rfl (q := 24) rfl ?_
  refine o_iconst X2 at_24 (w := 1) rfl (q := 25) rfl ?_
  refine o_newarr X2 (aty := .char) (cap := 1) 1 (w1 hw) at_25 (by decide) (by decide) (by decide) (by decide) (by decide) (q := 27) rfl ?_
  intro T3 h3 b3 k3 gb3 X3 E3 V3 g0_b3
  have V3 : Arv Z h3 b3 k3 .char (1 : Int32) [(.int (0 : Int32))] (.int (0 : Int32)) := V3
  refine o_dup X3 at_27 rfl (q := 28) rfl ?_
  refine o_iconst X3 at_28 (w := 0) rfl (q := 29) rfl ?_
  refine o_iloadN X3 at_29 rfl (q := 30) rfl ?_
  refine o_sipush X3 at_30 (w := 255) rfl (q := 33) rfl ?_
  refine o_iand X3 at_33 (w := (p1 &&& (255 : Int32))) rfl (q := 34) rfl ?_
  refine o_i2c X3 at_34 (w := ((p1 &&& (255 : Int32)).toUInt32.toUInt16.toUInt32.toInt32)) rfl (q := 35) rfl ?_
  obtain ⟨c1, h_c1⟩ : ∃ z : Int32, nar .char ((p1 &&& (255 : Int32)).toUInt32.toUInt16.toUInt32.toInt32) = z := ⟨_, rfl⟩
  refine o_castore X3 0 V3 g0_b3 (by decide) rfl (Nat.le_of_ble_eq_true rfl) (v := (.int c1)) (by rw [h_c1]) at_35 (q := 36) rfl ?_
  intro T4 h4 l4 X4 W4 V4
  have V4 : Arv Z h4 b3 k3 .char (1 : Int32) [(.int c1)] (.int (0 : Int32)) := V4
  refine o_astore X4 at_36 rfl (L' := #[.val (.int p0), .val (.int p1), .val (.int p2), .val (.int p3), .val (.int n), .val (.ref b1), .val (.ref b3), .unset, .unset, .unset, .unset, .unset, .unset, .unset]) rfl (q := 38) rfl ?_
  refine o_iconst X4 at_38 (w := 1) rfl (q := 39) rfl ?_
  refine o_newarr X4 (aty := .char) (cap := 1) 1 (w1 hw) at_39 (by decide) (by decide) (by decide) (by decide) (by decide) (q := 41) rfl ?_
  intro T5 h5 b5 k5 gb5 X5 E5 V5 g0_b5
  have V5 : Arv Z h5 b5 k5 .char (1 : Int32) [(.int (0 : Int32))] (.int (0 : Int32)) := V5
  refine o_dup X5 at_41 rfl (q := 42) rfl ?_
  refine o_iconst X5 at_42 (w := 0) rfl (q := 43) rfl ?_
  refine o_iloadN X5 at_43 rfl (q := 44) rfl ?_
  refine o_sipush X5 at_44 (w := 255) rfl (q := 47) rfl ?_
  refine o_iand X5 at_47 (w := (p2 &&& (255 : Int32))) rfl (q := 48) rfl ?_
  refine o_i2c X5 at_48 (w := ((p2 &&& (255 : Int32)).toUInt32.toUInt16.toUInt32.toInt32)) rfl (q := 49) rfl ?_
  obtain ⟨c2, h_c2⟩ : ∃ z : Int32, nar .char ((p2 &&& (255 : Int32)).toUInt32.toUInt16.toUInt32.toInt32) = z := ⟨_, rfl⟩
  refine o_castore X5 0 V5 g0_b5 (by decide) rfl (Nat.le_of_ble_eq_true rfl) (v := (.int c2)) (by rw [h_c2]) at_49 (q := 50) rfl ?_
  intro T6 h6 l6 X6 W6 V6
  have V6 : Arv Z h6 b5 k5 .char (1 : Int32) [(.int c2)] (.int (0 : Int32)) := V6
  refine o_astore X6 at_50 rfl (L' := #[.val (.int p0), .val (.int p1), .val (.int p2), .val (.int p3), .val (.int n), .val (.ref b1), .val (.ref b3), .val (.ref b5), .unset, .unset, .unset, .unset, .unset, .unset]) rfl (q := 52) rfl ?_
  refine o_new X6 (w2 hw) (w3 hw) (w4 hw) at_52 (by decide) (by decide) (q := 55) rfl ?_
  intro T7 h7 b7 gb7 X7 E7 A7 D7 g0_b7
  have f8 : Fld Z h7 b7 "com/example/tolerant_workflows/tolerantworkflows/model/Task" "id" "Ljava/lang/String;" .null := D7 (Or.inr (w44 hw)) (ty := (.object "java/lang/String")) (by decide)
  have f9 : Fld Z h7 b7 "com/example/tolerant_workflows/tolerantworkflows/model/Task" "index" "I" (.int (0 : Int32)) := D7 (Or.inr (w46 hw)) (ty := .int) (by decide)
  have f10 : Fld Z h7 b7 "com/example/tolerant_workflows/tolerantworkflows/model/Task" "runtime" "Ljava/time/Duration;" .null := D7 (Or.inr (w48 hw)) (ty := (.object "java/time/Duration")) (by decide)
  have f11 : Fld Z h7 b7 "com/example/tolerant_workflows/tolerantworkflows/model/Task" "command" "Ljava/util/Optional;" .null := D7 (Or.inr (w50 hw)) (ty := (.object "java/util/Optional")) (by decide)
  have f12 : Fld Z h7 b7 "com/example/tolerant_workflows/tolerantworkflows/model/Task" "parents" "Ljava/util/List;" .null := D7 (Or.inr (w52 hw)) (ty := (.object "java/util/List")) (by decide)
  have f13 : Fld Z h7 b7 "com/example/tolerant_workflows/tolerantworkflows/model/Task" "children" "Ljava/util/List;" .null := D7 (Or.inr (w54 hw)) (ty := (.object "java/util/List")) (by decide)
  refine o_dup X7 at_55 rfl (q := 56) rfl ?_
  refine o_new X7 (w5 hw) (w6 hw) (w7 hw) at_56 (by decide) (by decide) (q := 59) rfl ?_
  intro T14 h14 b14 gb14 X14 E14 A14 D14 g0_b14
  have f15 : Fld Z h14 b14 "java/lang/String" "coder" "B" (.int (0 : Int32)) := D14 (Or.inr (w31 hw)) (ty := .byte) (by decide)
  have f16 : Fld Z h14 b14 "java/lang/String" "value" "[B" .null := D14 (Or.inr (w33 hw)) (ty := (.array .byte)) (by decide)
  refine o_dup X14 at_59 rfl (q := 60) rfl ?_
  refine o_aload X14 at_60 rfl rfl (q := 62) rfl ?_
  have f17 := ((((((V2.ext E3).other W4 (Nat.ne_of_lt (Nat.lt_of_lt_of_le V2.lt (Nat.le_of_eq gb3.symm)))).ext E5).other W6 (Nat.ne_of_lt (Nat.lt_of_lt_of_le (Nat.lt_of_lt_of_le (Nat.lt_of_lt_of_le V2.lt E3.1) (Keep.of_wr W4).1) (Nat.le_of_eq gb5.symm)))).ext E7).ext E14)
  refine o_newStr X14 (cs := [c0]) (n := 1) A14 f16 f15 f17 g0_b14 O2 P5 hwns (w6 hw) rfl rfl (by decide) (by decide) (own_lat1 h_c0) (w8 hw) (w9 hw) (w10 hw) at_62 rfl (by decide) (Nat.le_of_ble_eq_true rfl) (by decide) (by decide) (q := 65) rfl ?_
  intro T18 h18 l18 b18 kb18 X18 K18 gb18 L18
  refine o_iloadN X18 at_65 rfl (q := 66) rfl ?_
  refine o_null X18 at_66 (q := 67) rfl ?_
  refine o_null X18 at_67 (q := 68) rfl ?_
  refine o_null X18 at_68 (q := 69) rfl ?_
  refine o_null X18 at_69 (q := 70) rfl ?_
  have f19 := ((A7.ext E14).keep K18)
  have f20 := ((f8.ext E14).keep K18 (ninS (Nat.ne_of_lt (Nat.lt_of_lt_of_le A7.lt (Nat.le_of_eq gb14.symm))) nin0))
  have f21 := ((f9.ext E14).keep K18 (ninS (Nat.ne_of_lt (Nat.lt_of_lt_of_le A7.lt (Nat.le_of_eq gb14.symm))) nin0))
  have f22 := ((f10.ext E14).keep K18 (ninS (Nat.ne_of_lt (Nat.lt_of_lt_of_le A7.lt (Nat.le_of_eq gb14.symm))) nin0))
  have f23 := ((f11.ext E14).keep K18 (ninS (Nat.ne_of_lt (Nat.lt_of_lt_of_le A7.lt (Nat.le_of_eq gb14.symm))) nin0))
  have f24 := ((f12.ext E14).keep K18 (ninS (Nat.ne_of_lt (Nat.lt_of_lt_of_le A7.lt (Nat.le_of_eq gb14.symm))) nin0))
  have f25 := ((f13.ext E14).keep K18 (ninS (Nat.ne_of_lt (Nat.lt_of_lt_of_le A7.lt (Nat.le_of_eq gb14.symm))) nin0))
  refine o_spec X18 [(.ref b14), (.int p0), .null, .null, .null, .null] (y' := (⟨"com/example/tolerant_workflows/tolerantworkflows/model/Task", "<init>", "(Ljava/lang/String;ILjava/time/Duration;Ljava/util/Optional;Ljava/util/List;Ljava/util/List;)V"⟩ : MethodName)) (c_task hw b7 b14 p0 _ f19 g0_b7 f20 f21 f22 f23 f24 f25) rfl (w34 hw) (w35 hw) (w36 hw) (w4 hw) (by decide) at_70 (rest := [(.ref b7)]) rfl rfl (lenOf pd15 rfl) rfl (by decide) (Nat.le_of_ble_eq_true rfl) (by decide) (by decide) (q := 73) rfl ?_
  intro v26 T26 h26 l26 X26 q26
  obtain ⟨rfl, K26, Fi26⟩ := q26
  show Goes p e below _ T26 (mkF m 73 #[.val (.int p0), .val (.int p1), .val (.int p2), .val (.int p3), .val (.int n), .val (.ref b1), .val (.ref b3), .val (.ref b5), .unset, .unset, .unset, .unset, .unset, .unset] [(.ref b7)])
  refine o_astore X26 at_73 rfl (L' := #[.val (.int p0), .val (.int p1), .val (.int p2), .val (.int p3), .val (.int n), .val (.ref b1), .val (.ref b3), .val (.ref b5), .val (.ref b7), .unset, .unset, .unset, .unset, .unset]) rfl (q := 75) rfl ?_
  refine o_new X26 (w2 hw) (w3 hw) (w4 hw) at_75 (by decide) (by decide) (q := 78) rfl ?_
  intro T27 h27 b27 gb27 X27 E27 A27 D27 g0_b27
  have f28 : Fld Z h27 b27 "com/example/tolerant_workflows/tolerantworkflows/model/Task" "id" "Ljava/lang/String;" .null := D27 (Or.inr (w44 hw)) (ty := (.object "java/lang/String")) (by decide)
  have f29 : Fld Z h27 b27 "com/example/tolerant_workflows/tolerantworkflows/model/Task" "index" "I" (.int (0 : Int32)) := D27 (Or.inr (w46 hw)) (ty := .int) (by decide)
  have f30 : Fld Z h27 b27 "com/example/tolerant_workflows/tolerantworkflows/model/Task" "runtime" "Ljava/time/Duration;" .null := D27 (Or.inr (w48 hw)) (ty := (.object "java/time/Duration")) (by decide)
  have f31 : Fld Z h27 b27 "com/example/tolerant_workflows/tolerantworkflows/model/Task" "command" "Ljava/util/Optional;" .null := D27 (Or.inr (w50 hw)) (ty := (.object "java/util/Optional")) (by decide)
  have f32 : Fld Z h27 b27 "com/example/tolerant_workflows/tolerantworkflows/model/Task" "parents" "Ljava/util/List;" .null := D27 (Or.inr (w52 hw)) (ty := (.object "java/util/List")) (by decide)
  have f33 : Fld Z h27 b27 "com/example/tolerant_workflows/tolerantworkflows/model/Task" "children" "Ljava/util/List;" .null := D27 (Or.inr (w54 hw)) (ty := (.object "java/util/List")) (by decide)
  refine o_dup X27 at_78 rfl (q := 79) rfl ?_
  refine o_new X27 (w5 hw) (w6 hw) (w7 hw) at_79 (by decide) (by decide) (q := 82) rfl ?_
  intro T34 h34 b34 gb34 X34 E34 A34 D34 g0_b34
  have f35 : Fld Z h34 b34 "java/lang/String" "coder" "B" (.int (0 : Int32)) := D34 (Or.inr (w31 hw)) (ty := .byte) (by decide)
  have f36 : Fld Z h34 b34 "java/lang/String" "value" "[B" .null := D34 (Or.inr (w33 hw)) (ty := (.array .byte)) (by decide)
  refine o_dup X34 at_82 rfl (q := 83) rfl ?_
  refine o_aload X34 at_83 rfl rfl (q := 85) rfl ?_
  have f37 := ((((((((V4.ext E5).other W6 (Nat.ne_of_lt (Nat.lt_of_lt_of_le V4.lt (Nat.le_of_eq gb5.symm)))).ext E7).ext E14).keep K18 (ninS (Nat.ne_of_lt (Nat.lt_of_lt_of_le (Nat.lt_of_lt_of_le (Nat.lt_of_lt_of_le (Nat.lt_of_lt_of_le V4.lt E5.1) (Keep.of_wr W6).1) E7.1) (Nat.le_of_eq gb14.symm))) nin0)).keep K26 (ninS (Nat.ne_of_lt (Nat.lt_of_lt_of_le (Nat.lt_of_lt_of_le (Nat.lt_of_lt_of_le V4.lt E5.1) (Keep.of_wr W6).1) (Nat.le_of_eq gb7.symm))) nin0)).ext E27).ext E34)
  refine o_newStr X34 (cs := [c1]) (n := 1) A34 f36 f35 f37 g0_b34 O2 P5 hwns (w6 hw) rfl rfl (by decide) (by decide) (own_lat1 h_c1) (w8 hw) (w9 hw) (w10 hw) at_85 rfl (by decide) (Nat.le_of_ble_eq_true rfl) (by decide) (by decide) (q := 88) rfl ?_
  intro T38 h38 l38 b38 kb38 X38 K38 gb38 L38
  refine o_iloadN X38 at_88 rfl (q := 89) rfl ?_
  refine o_null X38 at_89 (q := 90) rfl ?_
  refine o_null X38 at_90 (q := 91) rfl ?_
  refine o_null X38 at_91 (q := 92) rfl ?_
  refine o_null X38 at_92 (q := 93) rfl ?_
  have f39 := ((A27.ext E34).keep K38)
  have f40 := ((f28.ext E34).keep K38 (ninS (Nat.ne_of_lt (Nat.lt_of_lt_of_le A27.lt (Nat.le_of_eq gb34.symm))) nin0))
  have f41 := ((f29.ext E34).keep K38 (ninS (Nat.ne_of_lt (Nat.lt_of_lt_of_le A27.lt (Nat.le_of_eq gb34.symm))) nin0))
  have f42 := ((f30.ext E34).keep K38 (ninS (Nat.ne_of_lt (Nat.lt_of_lt_of_le A27.lt (Nat.le_of_eq gb34.symm))) nin0))
  have f43 := ((f31.ext E34).keep K38 (ninS (Nat.ne_of_lt (Nat.lt_of_lt_of_le A27.lt (Nat.le_of_eq gb34.symm))) nin0))
  have f44 := ((f32.ext E34).keep K38 (ninS (Nat.ne_of_lt (Nat.lt_of_lt_of_le A27.lt (Nat.le_of_eq gb34.symm))) nin0))
  have f45 := ((f33.ext E34).keep K38 (ninS (Nat.ne_of_lt (Nat.lt_of_lt_of_le A27.lt (Nat.le_of_eq gb34.symm))) nin0))
  refine o_spec X38 [(.ref b34), (.int p1), .null, .null, .null, .null] (y' := (⟨"com/example/tolerant_workflows/tolerantworkflows/model/Task", "<init>", "(Ljava/lang/String;ILjava/time/Duration;Ljava/util/Optional;Ljava/util/List;Ljava/util/List;)V"⟩ : MethodName)) (c_task hw b27 b34 p1 _ f39 g0_b27 f40 f41 f42 f43 f44 f45) rfl (w34 hw) (w35 hw) (w36 hw) (w4 hw) (by decide) at_93 (rest := [(.ref b27)]) rfl rfl (lenOf pd15 rfl) rfl (by decide) (Nat.le_of_ble_eq_true rfl) (by decide) (by decide) (q := 96) rfl ?_
  intro v46 T46 h46 l46 X46 q46
  obtain ⟨rfl, K46, Fi46⟩ := q46
  show Goes p e below _ T46 (mkF m 96 #[.val (.int p0), .val (.int p1), .val (.int p2), .val (.int p3), .val (.int n), .val (.ref b1), .val (.ref b3), .val (.ref b5), .val (.ref b7), .unset, .unset, .unset, .unset, .unset] [(.ref b27)])
  refine o_astore X46 at_96 rfl (L' := #[.val (.int p0), .val (.int p1), .val (.int p2), .val (.int p3), .val (.int n), .val (.ref b1), .val (.ref b3), .val (.ref b5), .val (.ref b7), .val (.ref b27), .unset, .unset, .unset, .unset]) rfl (q := 98) rfl ?_
  refine o_new X46 (w2 hw) (w3 hw) (w4 hw) at_98 (by decide) (by decide) (q := 101) rfl ?_
  intro T47 h47 b47 gb47 X47 E47 A47 D47 g0_b47
  have f48 : Fld Z h47 b47 "com/example/tolerant_workflows/tolerantworkflows/model/Task" "id" "Ljava/lang/String;" .null := D47 (Or.inr (w44 hw)) (ty := (.object "java/lang/String")) (by decide)
  have f49 : Fld Z h47 b47 "com/example/tolerant_workflows/tolerantworkflows/model/Task" "index" "I" (.int (0 : Int32)) := D47 (Or.inr (w46 hw)) (ty := .int) (by decide)
  have f50 : Fld Z h47 b47 "com/example/tolerant_workflows/tolerantworkflows/model/Task" "runtime" "Ljava/time/Duration;" .null := D47 (Or.inr (w48 hw)) (ty := (.object "java/time/Duration")) (by decide)
  have f51 : Fld Z h47 b47 "com/example/tolerant_workflows/tolerantworkflows/model/Task" "command" "Ljava/util/Optional;" .null := D47 (Or.inr (w50 hw)) (ty := (.object "java/util/Optional")) (by decide)
  have f52 : Fld Z h47 b47 "com/example/tolerant_workflows/tolerantworkflows/model/Task" "parents" "Ljava/util/List;" .null := D47 (Or.inr (w52 hw)) (ty := (.object "java/util/List")) (by decide)
  have f53 : Fld Z h47 b47 "com/example/tolerant_workflows/tolerantworkflows/model/Task" "children" "Ljava/util/List;" .null := D47 (Or.inr (w54 hw)) (ty := (.object "java/util/List")) (by decide)
  refine o_dup X47 at_101 rfl (q := 102) rfl ?_
  refine o_new X47 (w5 hw) (w6 hw) (w7 hw) at_102 (by decide) (by decide) (q := 105) rfl ?_
  intro T54 h54 b54 gb54 X54 E54 A54 D54 g0_b54
  have f55 : Fld Z h54 b54 "java/lang/String" "coder" "B" (.int (0 : Int32)) := D54 (Or.inr (w31 hw)) (ty := .byte) (by decide)
  have f56 : Fld Z h54 b54 "java/lang/String" "value" "[B" .null := D54 (Or.inr (w33 hw)) (ty := (.array .byte)) (by decide)
  refine o_dup X54 at_105 rfl (q := 106) rfl ?_
  refine o_aload X54 at_106 rfl rfl (q := 108) rfl ?_
  have f57 := ((((((((((V6.ext E7).ext E14).keep K18 (ninS (Nat.ne_of_lt (Nat.lt_of_lt_of_le (V6.ext E7).lt (Nat.le_of_eq gb14.symm))) nin0)).keep K26 (ninS (Nat.ne_of_lt (Nat.lt_of_lt_of_le V6.lt (Nat.le_of_eq gb7.symm))) nin0)).ext E27).ext E34).keep K38 (ninS (Nat.ne_of_lt (Nat.lt_of_lt_of_le (Nat.lt_of_lt_of_le (Nat.lt_of_lt_of_le (Nat.lt_of_lt_of_le (Nat.lt_of_lt_of_le (Nat.lt_of_lt_of_le V6.lt E7.1) E14.1) K18.1) K26.1) E27.1) (Nat.le_of_eq gb34.symm))) nin0)).keep K46 (ninS (Nat.ne_of_lt (Nat.lt_of_lt_of_le (Nat.lt_of_lt_of_le (Nat.lt_of_lt_of_le (Nat.lt_of_lt_of_le (Nat.lt_of_lt_of_le V6.lt E7.1) E14.1) K18.1) K26.1) (Nat.le_of_eq gb27.symm))) nin0)).ext E47).ext E54)
  refine o_newStr X54 (cs := [c2]) (n := 1) A54 f56 f55 f57 g0_b54 O2 P5 hwns (w6 hw) rfl rfl (by decide) (by decide) (own_lat1 h_c2) (w8 hw) (w9 hw) (w10 hw) at_108 rfl (by decide) (Nat.le_of_ble_eq_true rfl) (by decide) (by decide) (q := 111) rfl ?_
  intro T58 h58 l58 b58 kb58 X58 K58 gb58 L58
  refine o_iloadN X58 at_111 rfl (q := 112) rfl ?_
  refine o_null X58 at_112 (q := 113) rfl ?_
  refine o_null X58 at_113 (q := 114) rfl ?_
  refine o_null X58 at_114 (q := 115) rfl ?_
  refine o_null X58 at_115 (q := 116) rfl ?_
  have f59 := ((A47.ext E54).keep K58)
  have f60 := ((f48.ext E54).keep K58 (ninS (Nat.ne_of_lt (Nat.lt_of_lt_of_le A47.lt (Nat.le_of_eq gb54.symm))) nin0))
  have f61 := ((f49.ext E54).keep K58 (ninS (Nat.ne_of_lt (Nat.lt_of_lt_of_le A47.lt (Nat.le_of_eq gb54.symm))) nin0))
  have f62 := ((f50.ext E54).keep K58 (ninS (Nat.ne_of_lt (Nat.lt_of_lt_of_le A47.lt (Nat.le_of_eq gb54.symm))) nin0))
  have f63 := ((f51.ext E54).keep K58 (ninS (Nat.ne_of_lt (Nat.lt_of_lt_of_le A47.lt (Nat.le_of_eq gb54.symm))) nin0))
  have f64 := ((f52.ext E54).keep K58 (ninS (Nat.ne_of_lt (Nat.lt_of_lt_of_le A47.lt (Nat.le_of_eq gb54.symm))) nin0))
  have f65 := ((f53.ext E54).keep K58 (ninS (Nat.ne_of_lt (Nat.lt_of_lt_of_le A47.lt (Nat.le_of_eq gb54.symm))) nin0))
  refine o_spec X58 [(.ref b54), (.int p2), .null, .null, .null, .null] (y' := (⟨"com/example/tolerant_workflows/tolerantworkflows/model/Task", "<init>", "(Ljava/lang/String;ILjava/time/Duration;Ljava/util/Optional;Ljava/util/List;Ljava/util/List;)V"⟩ : MethodName)) (c_task hw b47 b54 p2 _ f59 g0_b47 f60 f61 f62 f63 f64 f65) rfl (w34 hw) (w35 hw) (w36 hw) (w4 hw) (by decide) at_116 (rest := [(.ref b47)]) rfl rfl (lenOf pd15 rfl) rfl (by decide) (Nat.le_of_ble_eq_true rfl) (by decide) (by decide) (q := 119) rfl ?_
  intro v66 T66 h66 l66 X66 q66
  obtain ⟨rfl, K66, Fi66⟩ := q66
  show Goes p e below _ T66 (mkF m 119 #[.val (.int p0), .val (.int p1), .val (.int p2), .val (.int p3), .val (.int n), .val (.ref b1), .val (.ref b3), .val (.ref b5), .val (.ref b7), .val (.ref b27), .unset, .unset, .unset, .unset] [(.ref b47)])
  refine o_astore X66 at_119 rfl (L' := #[.val (.int p0), .val (.int p1), .val (.int p2), .val (.int p3), .val (.int n), .val (.ref b1), .val (.ref b3), .val (.ref b5), .val (.ref b7), .val (.ref b27), .val (.ref b47), .unset, .unset, .unset]) rfl (q := 121) rfl ?_
  refine o_new X66 (w55 hw) (w56 hw) (w57 hw) at_121 (by decide) (by decide) (q := 124) rfl ?_
  intro T67 h67 b67 gb67 X67 E67 A67 D67 g0_b67
  have f68 : Fld Z h67 b67 "java/util/AbstractList" "modCount" "I" (.int (0 : Int32)) := D67 (Or.inl (w75 hw)) (ty := .int) (by decide)
  have f69 : Fld Z h67 b67 "java/util/ArrayList" "elementData" "[Ljava/lang/Object;" .null := D67 (Or.inl (w78 hw)) (ty := (.array (.object "java/lang/Object"))) (by decide)
  have f70 : Fld Z h67 b67 "java/util/ArrayList" "size" "I" (.int (0 : Int32)) := D67 (Or.inl (w91 hw)) (ty := .int) (by decide)
  refine o_dup X67 at_124 rfl (q := 125) rfl ?_
  refine o_spec X67 [] (y' := (⟨"java/util/ArrayList", "<init>", "()V"⟩ : MethodName)) (c_alinit hw b67 _ SD VD A67 g0_b67 f68 f69 f70) rfl (w58 hw) (w59 hw) (w60 hw) (w57 hw) (by decide) at_125 (rest := [(.ref b67)]) rfl rfl (lenOf pd0 rfl) rfl (by decide) (Nat.le_of_ble_eq_true rfl) (by decide) (by decide) (q := 128) rfl ?_
  intro v71 T71 h71 l71 X71 q71
  obtain ⟨rfl, K71, FmodCount71, FelementData71, Fsize71⟩ := q71
  show Goes p e below _ T71 (mkF m 128 #[.val (.int p0), .val (.int p1), .val (.int p2), .val (.int p3), .val (.int n), .val (.ref b1), .val (.ref b3), .val (.ref b5), .val (.ref b7), .val (.ref b27), .val (.ref b47), .unset, .unset, .unset] [(.ref b67)])
  refine o_astore X71 at_128 rfl (L' := #[.val (.int p0), .val (.int p1), .val (.int p2), .val (.int p3), .val (.int n), .val (.ref b1), .val (.ref b3), .val (.ref b5), .val (.ref b7), .val (.ref b27), .val (.ref b47), .val (.ref b67), .unset, .unset]) rfl (q := 130) rfl ?_
  refine o_aload X71 at_130 rfl rfl (q := 132) rfl ?_
  refine o_aload X71 at_132 rfl rfl (q := 134) rfl ?_
  have f72 := (A67.keep K71)
  have f73 := (((((((((((f19.keep K26).ext E27).ext E34).keep K38).keep K46).ext E47).ext E54).keep K58).keep K66).ext E67).keep K71)
  refine o_iface X71 [(.ref b7)] (xi := (⟨"java/util/List", "add", "(Ljava/lang/Object;)Z"⟩ : MethodName)) (y' := (⟨"java/util/ArrayList", "add", "(Ljava/lang/Object;)Z"⟩ : MethodName)) f72 (c_add1 hw b67 b7 _ SD VD f72 g0_b67 FmodCount71 FelementData71 Fsize71 f73) (w79 hw) (w80 hw) (w81 hw) (w82 hw) (w83 hw) (w84 hw) (w85 hw) (w86 hw) (w87 hw) (w57 hw) (by decide) at_134 (rest := []) rfl rfl (lenOf pd16 rfl) rfl (by decide) (Nat.le_of_ble_eq_true rfl) (by decide) (by decide) (q := 139) rfl ?_
  intro v74 T74 h74 l74 X74 q74
  obtain ⟨d74, k74, rfl, K74, FmodCount74, FelementData74, Fsize74, V74, A74, O74, gd74⟩ := q74
  show Goes p e below _ T74 (mkF m 139 #[.val (.int p0), .val (.int p1), .val (.int p2), .val (.int p3), .val (.int n), .val (.ref b1), .val (.ref b3), .val (.ref b5), .val (.ref b7), .val (.ref b27), .val (.ref b47), .val (.ref b67), .unset, .unset] [(.int (1 : Int32))])
  refine o_pop X74 at_139 rfl (q := 140) rfl ?_
  refine o_iload X74 at_140 rfl (q := 142) rfl ?_
  refine o_iconst X74 at_142 (w := 2) rfl (q := 143) rfl ?_
  by_cases hc143 : n < (2 : Int32)
  · refine o_icmpY X74 at_143 (tlt hc143).1 (by decide) (q := 156) (by decide) ?_
    refine o_iload X74 at_156 rfl (q := 158) rfl ?_
    refine o_iconst X74 at_158 (w := 3) rfl (q := 159) rfl ?_
    refine o_icmpY X74 at_159 (tlt (own_lt3 hc143)).1 (by decide) (q := 172) (by decide) ?_
    refine o_new X74 (w114 hw) (w115 hw) (w116 hw) at_172 (by decide) (by decide) (q := 175) rfl ?_
    intro T75 h75 b75 gb75 X75 E75 A75 D75 g0_b75
    have f76 : Fld Z h75 b75 "com/example/tolerant_workflows/tolerantworkflows/engine/Job" "tasks" "Ljava/util/List;" .null := D75 (Or.inr (w211 hw)) (ty := (.object "java/util/List")) (by decide)
    refine o_dup X75 at_175 rfl (q := 176) rfl ?_
    refine o_aload X75 at_176 rfl rfl (q := 178) rfl ?_
    have f77 := ((f72.keep K74).ext E75)
    have f78 := (FmodCount74.ext E75)
    have f79 := (FelementData74.ext E75)
    have f80 := (Fsize74.ext E75)
    have f81 := (V74.ext E75)
    have f82 := (A74.ext E75)
    have f83 := ((f73.keep K74).ext E75)
    refine o_spec X75 [(.ref b67)] (y' := (⟨"com/example/tolerant_workflows/tolerantworkflows/engine/Job", "<init>", "(Ljava/util/List;)V"⟩ : MethodName)) (c_job1 hw b75 b67 d74 b7 _ A75 g0_b75 f76 f77 g0_b67 f78 f79 f80 f81 f82 O74 (Nat.le_trans X71.size gd74) f83 M SE) rfl (w117 hw) (w118 hw) (w119 hw) (w116 hw) (by decide) at_178 (rest := [(.ref b75)]) rfl rfl (lenOf pd17 rfl) rfl (by decide) (Nat.le_of_ble_eq_true rfl) (by decide) (by decide) (q := 181) rfl ?_
    intro v84 T84 h84 l84 X84 q84
    obtain ⟨rfl, K84, r84, Fj84, gr84, Er84, Fr84⟩ := q84
    show Goes p e below _ T84 (mkF m 181 #[.val (.int p0), .val (.int p1), .val (.int p2), .val (.int p3), .val (.int n), .val (.ref b1), .val (.ref b3), .val (.ref b5), .val (.ref b7), .val (.ref b27), .val (.ref b47), .val (.ref b67), .unset, .unset] [(.ref b75)])
    refine o_astore X84 at_181 rfl (L' := #[.val (.int p0), .val (.int p1), .val (.int p2), .val (.int p3), .val (.int n), .val (.ref b1), .val (.ref b3), .val (.ref b5), .val (.ref b7), .val (.ref b27), .val (.ref b47), .val (.ref b67), .val (.ref b75), .unset]) rfl (q := 183) rfl ?_
    refine o_aload X84 at_183 rfl rfl (q := 185) rfl ?_
    have f85 := (f83.keep K84)
    have f87 := (A75.keep K84)
    refine o_virt X84 [] (y' := (⟨"com/example/tolerant_workflows/tolerantworkflows/engine/Job", "first", "()Lcom/example/tolerant_workflows/tolerantworkflows/model/Task;"⟩ : MethodName)) f87 (c_first1 hw b75 r84 b7 _ Fj84 Er84 f85 Fr84) (w212 hw) (w213 hw) (w215 hw) (w214 hw) (w216 hw) (w116 hw) (by decide) at_185 (rest := []) rfl rfl (lenOf pd18 rfl) rfl (by decide) (Nat.le_of_ble_eq_true rfl) (by decide) (by decide) (q := 188) rfl ?_
    intro v86 T86 h86 l86 X86 q86
    obtain ⟨rfl, e86⟩ := q86
    have e86 := e86.symm
    subst e86
    show Goes p e below _ T86 (mkF m 188 #[.val (.int p0), .val (.int p1), .val (.int p2), .val (.int p3), .val (.int n), .val (.ref b1), .val (.ref b3), .val (.ref b5), .val (.ref b7), .val (.ref b27), .val (.ref b47), .val (.ref b67), .val (.ref b75), .unset] [(.ref b7)])
    refine o_astore X86 at_188 rfl (L' := #[.val (.int p0), .val (.int p1), .val (.int p2), .val (.int p3), .val (.int n), .val (.ref b1), .val (.ref b3), .val (.ref b5), .val (.ref b7), .val (.ref b27), .val (.ref b47), .val (.ref b67), .val (.ref b75), .val (.ref b7)]) rfl (q := 190) rfl ?_
    refine o_aload X86 at_190 rfl rfl (q := 192) rfl ?_
    refine o_aload X86 at_192 rfl rfl (q := 194) rfl ?_
    refine o_acmp X86 at_194 rfl rfl (same := true) (decide_eq_true rfl) (by decide) (q := 197) (by decide) ?_
    refine o_aload X86 at_197 rfl rfl (q := 199) rfl ?_
    have f88 := (((((((((((((Fi26.ext E27).ext E34).keep K38 (ninS (Nat.ne_of_lt (Nat.lt_of_lt_of_le (Fi26.ext E27).lt (Nat.le_of_eq gb34.symm))) nin0)).keep K46 (ninS (Nat.ne_of_lt (Nat.lt_of_lt_of_le Fi26.lt (Nat.le_of_eq gb27.symm))) nin0)).ext E47).ext E54).keep K58 (ninS (Nat.ne_of_lt (Nat.lt_of_lt_of_le (Nat.lt_of_lt_of_le (Nat.lt_of_lt_of_le (Nat.lt_of_lt_of_le (Nat.lt_of_lt_of_le (Nat.lt_of_lt_of_le Fi26.lt E27.1) E34.1) K38.1) K46.1) E47.1) (Nat.le_of_eq gb54.symm))) nin0)).keep K66 (ninS (Nat.ne_of_lt (Nat.lt_of_lt_of_le (Nat.lt_of_lt_of_le (Nat.lt_of_lt_of_le (Nat.lt_of_lt_of_le (Nat.lt_of_lt_of_le Fi26.lt E27.1) E34.1) K38.1) K46.1) (Nat.le_of_eq gb47.symm))) nin0)).ext E67).keep K71 (ninS (Nat.ne_of_lt (Nat.lt_of_lt_of_le (Nat.lt_of_lt_of_le (Nat.lt_of_lt_of_le (Nat.lt_of_lt_of_le (Nat.lt_of_lt_of_le (Nat.lt_of_lt_of_le (Nat.lt_of_lt_of_le (Nat.lt_of_lt_of_le (Nat.lt_of_lt_of_le Fi26.lt E27.1) E34.1) K38.1) K46.1) E47.1) E54.1) K58.1) K66.1) (Nat.le_of_eq gb67.symm))) nin0)).keep K74 (ninS (Nat.ne_of_lt (Nat.lt_of_lt_of_le (Nat.lt_of_lt_of_le (Nat.lt_of_lt_of_le (Nat.lt_of_lt_of_le (Nat.lt_of_lt_of_le (Nat.lt_of_lt_of_le (Nat.lt_of_lt_of_le (Nat.lt_of_lt_of_le (Nat.lt_of_lt_of_le Fi26.lt E27.1) E34.1) K38.1) K46.1) E47.1) E54.1) K58.1) K66.1) (Nat.le_of_eq gb67.symm))) nin0)).ext E75).keep K84 (ninS (Nat.ne_of_lt (Nat.lt_of_lt_of_le (f73.keep K74).lt (Nat.le_of_eq gb75.symm))) nin0))
    refine o_virt X86 [] (y' := (⟨"com/example/tolerant_workflows/tolerantworkflows/model/Task", "index", "()I"⟩ : MethodName)) f85 (c_index hw b7 p0 _ f88) (w228 hw) (w229 hw) (w231 hw) (w230 hw) (w232 hw) (w4 hw) (by decide) at_199 (rest := []) rfl rfl (lenOf pd19 rfl) rfl (by decide) (Nat.le_of_ble_eq_true rfl) (by decide) (by decide) (q := 202) rfl ?_
    intro v89 T89 h89 l89 X89 q89
    obtain ⟨rfl, e89⟩ := q89
    have e89 := e89.symm
    subst e89
    show Goes p e below _ T89 (mkF m 202 #[.val (.int p0), .val (.int p1), .val (.int p2), .val (.int p3), .val (.int n), .val (.ref b1), .val (.ref b3), .val (.ref b5), .val (.ref b7), .val (.ref b27), .val (.ref b47), .val (.ref b67), .val (.ref b75), .val (.ref b7)] [(.int p0)])
    refine o_iloadN X89 at_202 rfl (q := 203) rfl ?_
    refine o_icmpN X89 at_203 (teq rfl).2 (q := 206) rfl ?_
    refine o_iconst X89 at_206 (w := 1) rfl (q := 207) rfl ?_
    refine o_goto X89 at_207 (by decide) (q := 211) (by decide) ?_
    exact o_retN X89 at_211 (by simp) rfl (by decide) (by decide)
  · refine o_icmpN X74 at_143 (flt hc143).1 (q := 146) rfl ?_
    refine o_aload X74 at_146 rfl rfl (q := 148) rfl ?_
    refine o_aload X74 at_148 rfl rfl (q := 150) rfl ?_
    have f90 := (f72.keep K74)
    have f91 := ((((((((f39.keep K46).ext E47).ext E54).keep K58).keep K66).ext E67).keep K71).keep K74)
    refine o_iface X74 [(.ref b27)] (xi := (⟨"java/util/List", "add", "(Ljava/lang/Object;)Z"⟩ : MethodName)) (y' := (⟨"java/util/ArrayList", "add", "(Ljava/lang/Object;)Z"⟩ : MethodName)) f90 (c_add2 hw b67 d74 b7 b27 _ f90 g0_b67 FmodCount74 FelementData74 Fsize74 V74 A74 O74 (Nat.le_trans X71.size gd74) f91 (Nat.ne_of_lt (Nat.lt_of_lt_of_le f72.lt gd74))) (w79 hw) (w80 hw) (w81 hw) (w82 hw) (w83 hw) (w84 hw) (w85 hw) (w86 hw) (w87 hw) (w57 hw) (by decide) at_150 (rest := []) rfl rfl (lenOf pd16 rfl) rfl (by decide) (Nat.le_of_ble_eq_true rfl) (by decide) (by decide) (q := 155) rfl ?_
    intro v92 T92 h92 l92 X92 q92
    obtain ⟨rfl, K92, FmodCount92, FelementData92, Fsize92, V92⟩ := q92
    show Goes p e below _ T92 (mkF m 155 #[.val (.int p0), .val (.int p1), .val (.int p2), .val (.int p3), .val (.int n), .val (.ref b1), .val (.ref b3), .val (.ref b5), .val (.ref b7), .val (.ref b27), .val (.ref b47), .val (.ref b67), .unset, .unset] [(.int (1 : Int32))])
    refine o_pop X92 at_155 rfl (q := 156) rfl ?_
    refine o_iload X92 at_156 rfl (q := 158) rfl ?_
    refine o_iconst X92 at_158 (w := 3) rfl (q := 159) rfl ?_
    by_cases hc159 : n < (3 : Int32)
    · refine o_icmpY X92 at_159 (tlt hc159).1 (by decide) (q := 172) (by decide) ?_
      refine o_new X92 (w114 hw) (w115 hw) (w116 hw) at_172 (by decide) (by decide) (q := 175) rfl ?_
      intro T93 h93 b93 gb93 X93 E93 A93 D93 g0_b93
      have f94 : Fld Z h93 b93 "com/example/tolerant_workflows/tolerantworkflows/engine/Job" "tasks" "Ljava/util/List;" .null := D93 (Or.inr (w211 hw)) (ty := (.object "java/util/List")) (by decide)
      refine o_dup X93 at_175 rfl (q := 176) rfl ?_
      refine o_aload X93 at_176 rfl rfl (q := 178) rfl ?_
      have f95 := ((f90.keep K92).ext E93)
      have f96 := (FmodCount92.ext E93)
      have f97 := (FelementData92.ext E93)
      have f98 := (Fsize92.ext E93)
      have f99 := (V92.ext E93)
      have f100 := ((A74.keep K92).ext E93)
      have f101 := (((f73.keep K74).keep K92).ext E93)
      have f102 := ((f91.keep K92).ext E93)
      refine o_spec X93 [(.ref b67)] (y' := (⟨"com/example/tolerant_workflows/tolerantworkflows/engine/Job", "<init>", "(Ljava/util/List;)V"⟩ : MethodName)) (c_job2 hw b93 b67 d74 b7 b27 _ A93 g0_b93 f94 f95 g0_b67 f96 f97 f98 f99 f100 O74 (Nat.le_trans X71.size gd74) f101 f102 M) rfl (w117 hw) (w118 hw) (w119 hw) (w116 hw) (by decide) at_178 (rest := [(.ref b93)]) rfl rfl (lenOf pd17 rfl) rfl (by decide) (Nat.le_of_ble_eq_true rfl) (by decide) (by decide) (q := 181) rfl ?_
      intro v103 T103 h103 l103 X103 q103
      obtain ⟨rfl, K103, r103, Fj103, gr103, Er103, Fr103⟩ := q103
      show Goes p e below _ T103 (mkF m 181 #[.val (.int p0), .val (.int p1), .val (.int p2), .val (.int p3), .val (.int n), .val (.ref b1), .val (.ref b3), .val (.ref b5), .val (.ref b7), .val (.ref b27), .val (.ref b47), .val (.ref b67), .unset, .unset] [(.ref b93)])
      refine o_astore X103 at_181 rfl (L' := #[.val (.int p0), .val (.int p1), .val (.int p2), .val (.int p3), .val (.int n), .val (.ref b1), .val (.ref b3), .val (.ref b5), .val (.ref b7), .val (.ref b27), .val (.ref b47), .val (.ref b67), .val (.ref b93), .unset]) rfl (q := 183) rfl ?_
      refine o_aload X103 at_183 rfl rfl (q := 185) rfl ?_
      have f104 := (f101.keep K103)
      have f106 := (A93.keep K103)
      refine o_virt X103 [] (y' := (⟨"com/example/tolerant_workflows/tolerantworkflows/engine/Job", "first", "()Lcom/example/tolerant_workflows/tolerantworkflows/model/Task;"⟩ : MethodName)) f106 (c_first1 hw b93 r103 b7 _ Fj103 Er103 f104 Fr103) (w212 hw) (w213 hw) (w215 hw) (w214 hw) (w216 hw) (w116 hw) (by decide) at_185 (rest := []) rfl rfl (lenOf pd18 rfl) rfl (by decide) (Nat.le_of_ble_eq_true rfl) (by decide) (by decide) (q := 188) rfl ?_
      intro v105 T105 h105 l105 X105 q105
      obtain ⟨rfl, e105⟩ := q105
      have e105 := e105.symm
      subst e105
      show Goes p e below _ T105 (mkF m 188 #[.val (.int p0), .val (.int p1), .val (.int p2), .val (.int p3), .val (.int n), .val (.ref b1), .val (.ref b3), .val (.ref b5), .val (.ref b7), .val (.ref b27), .val (.ref b47), .val (.ref b67), .val (.ref b93), .unset] [(.ref b7)])
      refine o_astore X105 at_188 rfl (L' := #[.val (.int p0), .val (.int p1), .val (.int p2), .val (.int p3), .val (.int n), .val (.ref b1), .val (.ref b3), .val (.ref b5), .val (.ref b7), .val (.ref b27), .val (.ref b47), .val (.ref b67), .val (.ref b93), .val (.ref b7)]) rfl (q := 190) rfl ?_
      refine o_aload X105 at_190 rfl rfl (q := 192) rfl ?_
      refine o_aload X105 at_192 rfl rfl (q := 194) rfl ?_
      refine o_acmp X105 at_194 rfl rfl (same := true) (decide_eq_true rfl) (by decide) (q := 197) (by decide) ?_
      refine o_aload X105 at_197 rfl rfl (q := 199) rfl ?_
      have f107 := ((((((((((((((Fi26.ext E27).ext E34).keep K38 (ninS (Nat.ne_of_lt (Nat.lt_of_lt_of_le (Fi26.ext E27).lt (Nat.le_of_eq gb34.symm))) nin0)).keep K46 (ninS (Nat.ne_of_lt (Nat.lt_of_lt_of_le Fi26.lt (Nat.le_of_eq gb27.symm))) nin0)).ext E47).ext E54).keep K58 (ninS (Nat.ne_of_lt (Nat.lt_of_lt_of_le (Nat.lt_of_lt_of_le (Nat.lt_of_lt_of_le (Nat.lt_of_lt_of_le (Nat.lt_of_lt_of_le (Nat.lt_of_lt_of_le Fi26.lt E27.1) E34.1) K38.1) K46.1) E47.1) (Nat.le_of_eq gb54.symm))) nin0)).keep K66 (ninS (Nat.ne_of_lt (Nat.lt_of_lt_of_le (Nat.lt_of_lt_of_le (Nat.lt_of_lt_of_le (Nat.lt_of_lt_of_le (Nat.lt_of_lt_of_le Fi26.lt E27.1) E34.1) K38.1) K46.1) (Nat.le_of_eq gb47.symm))) nin0)).ext E67).keep K71 (ninS (Nat.ne_of_lt (Nat.lt_of_lt_of_le (Nat.lt_of_lt_of_le (Nat.lt_of_lt_of_le (Nat.lt_of_lt_of_le (Nat.lt_of_lt_of_le (Nat.lt_of_lt_of_le (Nat.lt_of_lt_of_le (Nat.lt_of_lt_of_le (Nat.lt_of_lt_of_le Fi26.lt E27.1) E34.1) K38.1) K46.1) E47.1) E54.1) K58.1) K66.1) (Nat.le_of_eq gb67.symm))) nin0)).keep K74 (ninS (Nat.ne_of_lt (Nat.lt_of_lt_of_le (Nat.lt_of_lt_of_le (Nat.lt_of_lt_of_le (Nat.lt_of_lt_of_le (Nat.lt_of_lt_of_le (Nat.lt_of_lt_of_le (Nat.lt_of_lt_of_le (Nat.lt_of_lt_of_le (Nat.lt_of_lt_of_le Fi26.lt E27.1) E34.1) K38.1) K46.1) E47.1) E54.1) K58.1) K66.1) (Nat.le_of_eq gb67.symm))) nin0)).keep K92 (ninS (Nat.ne_of_lt (Nat.lt_of_lt_of_le (Nat.lt_of_lt_of_le (Nat.lt_of_lt_of_le (Nat.lt_of_lt_of_le (Nat.lt_of_lt_of_le (Nat.lt_of_lt_of_le (Nat.lt_of_lt_of_le (Nat.lt_of_lt_of_le (Nat.lt_of_lt_of_le Fi26.lt E27.1) E34.1) K38.1) K46.1) E47.1) E54.1) K58.1) K66.1) (Nat.le_of_eq gb67.symm))) (ninS (Nat.ne_of_lt (Nat.lt_of_lt_of_le f73.lt gd74)) nin0))).ext E93).keep K103 (ninS (Nat.ne_of_lt (Nat.lt_of_lt_of_le ((f73.keep K74).keep K92).lt (Nat.le_of_eq gb93.symm))) nin0))
      refine o_virt X105 [] (y' := (⟨"com/example/tolerant_workflows/tolerantworkflows/model/Task", "index", "()I"⟩ : MethodName)) f104 (c_index hw b7 p0 _ f107) (w228 hw) (w229 hw) (w231 hw) (w230 hw) (w232 hw) (w4 hw) (by decide) at_199 (rest := []) rfl rfl (lenOf pd19 rfl) rfl (by decide) (Nat.le_of_ble_eq_true rfl) (by decide) (by decide) (q := 202) rfl ?_
      intro v108 T108 h108 l108 X108 q108
      obtain ⟨rfl, e108⟩ := q108
      have e108 := e108.symm
      subst e108
      show Goes p e below _ T108 (mkF m 202 #[.val (.int p0), .val (.int p1), .val (.int p2), .val (.int p3), .val (.int n), .val (.ref b1), .val (.ref b3), .val (.ref b5), .val (.ref b7), .val (.ref b27), .val (.ref b47), .val (.ref b67), .val (.ref b93), .val (.ref b7)] [(.int p0)])
      refine o_iloadN X108 at_202 rfl (q := 203) rfl ?_
      refine o_icmpN X108 at_203 (teq rfl).2 (q := 206) rfl ?_
      refine o_iconst X108 at_206 (w := 1) rfl (q := 207) rfl ?_
      refine o_goto X108 at_207 (by decide) (q := 211) (by decide) ?_
      exact o_retN X108 at_211 (by simp) rfl (by decide) (by decide)
    · refine o_icmpN X92 at_159 (flt hc159).1 (q := 162) rfl ?_
      refine o_aload X92 at_162 rfl rfl (q := 164) rfl ?_
      refine o_aload X92 at_164 rfl rfl (q := 166) rfl ?_
      have f109 := (f90.keep K92)
      have f110 := (A74.keep K92)
      have f111 := (((((f59.keep K66).ext E67).keep K71).keep K74).keep K92)
      refine o_iface X92 [(.ref b47)] (xi := (⟨"java/util/List", "add", "(Ljava/lang/Object;)Z"⟩ : MethodName)) (y' := (⟨"java/util/ArrayList", "add", "(Ljava/lang/Object;)Z"⟩ : MethodName)) f109 (c_add3 hw b67 d74 b7 b27 b47 _ f109 g0_b67 FmodCount92 FelementData92 Fsize92 V92 f110 O74 (Nat.le_trans X71.size gd74) f111 (Nat.ne_of_lt (Nat.lt_of_lt_of_le f72.lt gd74))) (w79 hw) (w80 hw) (w81 hw) (w82 hw) (w83 hw) (w84 hw) (w85 hw) (w86 hw) (w87 hw) (w57 hw) (by decide) at_166 (rest := []) rfl rfl (lenOf pd16 rfl) rfl (by decide) (Nat.le_of_ble_eq_true rfl) (by decide) (by decide) (q := 171) rfl ?_
      intro v112 T112 h112 l112 X112 q112
      obtain ⟨rfl, K112, FmodCount112, FelementData112, Fsize112, V112⟩ := q112
      show Goes p e below _ T112 (mkF m 171 #[.val (.int p0), .val (.int p1), .val (.int p2), .val (.int p3), .val (.int n), .val (.ref b1), .val (.ref b3), .val (.ref b5), .val (.ref b7), .val (.ref b27), .val (.ref b47), .val (.ref b67), .unset, .unset] [(.int (1 : Int32))])
      refine o_pop X112 at_171 rfl (q := 172) rfl ?_
      refine o_new X112 (w114 hw) (w115 hw) (w116 hw) at_172 (by decide) (by decide) (q := 175) rfl ?_
      intro T113 h113 b113 gb113 X113 E113 A113 D113 g0_b113
      have f114 : Fld Z h113 b113 "com/example/tolerant_workflows/tolerantworkflows/engine/Job" "tasks" "Ljava/util/List;" .null := D113 (Or.inr (w211 hw)) (ty := (.object "java/util/List")) (by decide)
      refine o_dup X113 at_175 rfl (q := 176) rfl ?_
      refine o_aload X113 at_176 rfl rfl (q := 178) rfl ?_
      have f115 := ((f109.keep K112).ext E113)
      have f116 := (FmodCount112.ext E113)
      have f117 := (FelementData112.ext E113)
      have f118 := (Fsize112.ext E113)
      have f119 := (V112.ext E113)
      have f120 := ((f110.keep K112).ext E113)
      have f121 := ((((f73.keep K74).keep K92).keep K112).ext E113)
      have f122 := (((f91.keep K92).keep K112).ext E113)
      have f123 := ((f111.keep K112).ext E113)
      refine o_spec X113 [(.ref b67)] (y' := (⟨"com/example/tolerant_workflows/tolerantworkflows/engine/Job", "<init>", "(Ljava/util/List;)V"⟩ : MethodName)) (c_job3 hw b113 b67 d74 b7 b27 b47 _ A113 g0_b113 f114 f115 g0_b67 f116 f117 f118 f119 f120 O74 (Nat.le_trans X71.size gd74) f121 f122 f123 M) rfl (w117 hw) (w118 hw) (w119 hw) (w116 hw) (by decide) at_178 (rest := [(.ref b113)]) rfl rfl (lenOf pd17 rfl) rfl (by decide) (Nat.le_of_ble_eq_true rfl) (by decide) (by decide) (q := 181) rfl ?_
      intro v124 T124 h124 l124 X124 q124
      obtain ⟨rfl, K124, r124, Fj124, gr124, Er124, el124, ke124, ge124, Fr124, Ve124⟩ := q124
      show Goes p e below _ T124 (mkF m 181 #[.val (.int p0), .val (.int p1), .val (.int p2), .val (.int p3), .val (.int n), .val (.ref b1), .val (.ref b3), .val (.ref b5), .val (.ref b7), .val (.ref b27), .val (.ref b47), .val (.ref b67), .unset, .unset] [(.ref b113)])
      refine o_astore X124 at_181 rfl (L' := #[.val (.int p0), .val (.int p1), .val (.int p2), .val (.int p3), .val (.int n), .val (.ref b1), .val (.ref b3), .val (.ref b5), .val (.ref b7), .val (.ref b27), .val (.ref b47), .val (.ref b67), .val (.ref b113), .unset]) rfl (q := 183) rfl ?_
      refine o_aload X124 at_183 rfl rfl (q := 185) rfl ?_
      have f125 := (f121.keep K124)
      have f127 := (A113.keep K124)
      refine o_virt X124 [] (y' := (⟨"com/example/tolerant_workflows/tolerantworkflows/engine/Job", "first", "()Lcom/example/tolerant_workflows/tolerantworkflows/model/Task;"⟩ : MethodName)) f127 (c_first3 hw b113 r124 el124 b7 b27 b47 _ Fj124 Er124 f125 Fr124 Ve124) (w212 hw) (w213 hw) (w215 hw) (w214 hw) (w216 hw) (w116 hw) (by decide) at_185 (rest := []) rfl rfl (lenOf pd18 rfl) rfl (by decide) (Nat.le_of_ble_eq_true rfl) (by decide) (by decide) (q := 188) rfl ?_
      intro v126 T126 h126 l126 X126 q126
      obtain ⟨rfl, e126⟩ := q126
      have e126 := e126.symm
      subst e126
      show Goes p e below _ T126 (mkF m 188 #[.val (.int p0), .val (.int p1), .val (.int p2), .val (.int p3), .val (.int n), .val (.ref b1), .val (.ref b3), .val (.ref b5), .val (.ref b7), .val (.ref b27), .val (.ref b47), .val (.ref b67), .val (.ref b113), .unset] [(.ref b7)])
      refine o_astore X126 at_188 rfl (L' := #[.val (.int p0), .val (.int p1), .val (.int p2), .val (.int p3), .val (.int n), .val (.ref b1), .val (.ref b3), .val (.ref b5), .val (.ref b7), .val (.ref b27), .val (.ref b47), .val (.ref b67), .val (.ref b113), .val (.ref b7)]) rfl (q := 190) rfl ?_
      refine o_aload X126 at_190 rfl rfl (q := 192) rfl ?_
      refine o_aload X126 at_192 rfl rfl (q := 194) rfl ?_
      refine o_acmp X126 at_194 rfl rfl (same := true) (decide_eq_true rfl) (by decide) (q := 197) (by decide) ?_
      refine o_aload X126 at_197 rfl rfl (q := 199) rfl ?_
      have f128 := (((((((((((((((Fi26.ext E27).ext E34).keep K38 (ninS (Nat.ne_of_lt (Nat.lt_of_lt_of_le (Fi26.ext E27).lt (Nat.le_of_eq gb34.symm))) nin0)).keep K46 (ninS (Nat.ne_of_lt (Nat.lt_of_lt_of_le Fi26.lt (Nat.le_of_eq gb27.symm))) nin0)).ext E47).ext E54).keep K58 (ninS (Nat.ne_of_lt (Nat.lt_of_lt_of_le (Nat.lt_of_lt_of_le (Nat.lt_of_lt_of_le (Nat.lt_of_lt_of_le (Nat.lt_of_lt_of_le (Nat.lt_of_lt_of_le Fi26.lt E27.1) E34.1) K38.1) K46.1) E47.1) (Nat.le_of_eq gb54.symm))) nin0)).keep K66 (ninS (Nat.ne_of_lt (Nat.lt_of_lt_of_le (Nat.lt_of_lt_of_le (Nat.lt_of_lt_of_le (Nat.lt_of_lt_of_le (Nat.lt_of_lt_of_le Fi26.lt E27.1) E34.1) K38.1) K46.1) (Nat.le_of_eq gb47.symm))) nin0)).ext E67).keep K71 (ninS (Nat.ne_of_lt (Nat.lt_of_lt_of_le (Nat.lt_of_lt_of_le (Nat.lt_of_lt_of_le (Nat.lt_of_lt_of_le (Nat.lt_of_lt_of_le (Nat.lt_of_lt_of_le (Nat.lt_of_lt_of_le (Nat.lt_of_lt_of_le (Nat.lt_of_lt_of_le Fi26.lt E27.1) E34.1) K38.1) K46.1) E47.1) E54.1) K58.1) K66.1) (Nat.le_of_eq gb67.symm))) nin0)).keep K74 (ninS (Nat.ne_of_lt (Nat.lt_of_lt_of_le (Nat.lt_of_lt_of_le (Nat.lt_of_lt_of_le (Nat.lt_of_lt_of_le (Nat.lt_of_lt_of_le (Nat.lt_of_lt_of_le (Nat.lt_of_lt_of_le (Nat.lt_of_lt_of_le (Nat.lt_of_lt_of_le Fi26.lt E27.1) E34.1) K38.1) K46.1) E47.1) E54.1) K58.1) K66.1) (Nat.le_of_eq gb67.symm))) nin0)).keep K92 (ninS (Nat.ne_of_lt (Nat.lt_of_lt_of_le (Nat.lt_of_lt_of_le (Nat.lt_of_lt_of_le (Nat.lt_of_lt_of_le (Nat.lt_of_lt_of_le (Nat.lt_of_lt_of_le (Nat.lt_of_lt_of_le (Nat.lt_of_lt_of_le (Nat.lt_of_lt_of_le Fi26.lt E27.1) E34.1) K38.1) K46.1) E47.1) E54.1) K58.1) K66.1) (Nat.le_of_eq gb67.symm))) (ninS (Nat.ne_of_lt (Nat.lt_of_lt_of_le f73.lt gd74)) nin0))).keep K112 (ninS (Nat.ne_of_lt (Nat.lt_of_lt_of_le (Nat.lt_of_lt_of_le (Nat.lt_of_lt_of_le (Nat.lt_of_lt_of_le (Nat.lt_of_lt_of_le (Nat.lt_of_lt_of_le (Nat.lt_of_lt_of_le (Nat.lt_of_lt_of_le (Nat.lt_of_lt_of_le Fi26.lt E27.1) E34.1) K38.1) K46.1) E47.1) E54.1) K58.1) K66.1) (Nat.le_of_eq gb67.symm))) (ninS (Nat.ne_of_lt (Nat.lt_of_lt_of_le f73.lt gd74)) nin0))).ext E113).keep K124 (ninS (Nat.ne_of_lt (Nat.lt_of_lt_of_le (((f73.keep K74).keep K92).keep K112).lt (Nat.le_of_eq gb113.symm))) nin0))
      refine o_virt X126 [] (y' := (⟨"com/example/tolerant_workflows/tolerantworkflows/model/Task", "index", "()I"⟩ : MethodName)) f125 (c_index hw b7 p0 _ f128) (w228 hw) (w229 hw) (w231 hw) (w230 hw) (w232 hw) (w4 hw) (by decide) at_199 (rest := []) rfl rfl (lenOf pd19 rfl) rfl (by decide) (Nat.le_of_ble_eq_true rfl) (by decide) (by decide) (q := 202) rfl ?_
      intro v129 T129 h129 l129 X129 q129
      obtain ⟨rfl, e129⟩ := q129
      have e129 := e129.symm
      subst e129
      show Goes p e below _ T129 (mkF m 202 #[.val (.int p0), .val (.int p1), .val (.int p2), .val (.int p3), .val (.int n), .val (.ref b1), .val (.ref b3), .val (.ref b5), .val (.ref b7), .val (.ref b27), .val (.ref b47), .val (.ref b67), .val (.ref b113), .val (.ref b7)] [(.int p0)])
      refine o_iloadN X129 at_202 rfl (q := 203) rfl ?_
      refine o_icmpN X129 at_203 (teq rfl).2 (q := 206) rfl ?_
      refine o_iconst X129 at_206 (w := 1) rfl (q := 207) rfl ?_
      refine o_goto X129 at_207 (by decide) (q := 211) (by decide) ?_
      exact o_retN X129 at_211 (by simp) rfl (by decide) (by decide)
set_option maxRecDepth 65536 in
set_option maxHeartbeats 40000000 in
theorem comes_1 {Post : Tables → Env → Array Value → State → Outcome → State → Prop} (hpost : ∀ tb e args s v u, (limb_1_1.after args s (.returned v) u = true ∧ limb_1_2.after args s (.returned v) u = true ∧ True) → FrameEnd s (.returned v) u (Jvm.fieldLocs frame_1_writes args s ++ Jvm.arrayLocs frame_1_arrays args s ++ Jvm.staticLocs frame_1_statics s) 48 192 → Post tb e args s (.returned v) u) :
    ArmFor flags0 classFile x code maxLocals ret World_1 tables_1 room_1 Calls_1 rest_1 Pre_1 Post := by
  intro l hfl _ _ p e ha hc hk s m args below hf hA hF happ hP
  obtain ⟨hcalls, hrest, hpre⟩ := hP
  obtain ⟨-, -, -, hnamed, -, -, -, hat⟩ := (Spec.applies_iff hf).mp happ
  obtain ⟨hg, hn⟩ := and_e (Cond.before_iff.mp (show (Jvm.Cond.and given_1 narrow_1).before args s = true from hpre))
  obtain ⟨hcount, hg0⟩ := and_e hg
  obtain ⟨ga0, hg1⟩ := and_e hg0
  obtain ⟨ga1, hg2⟩ := and_e hg1
  obtain ⟨ga2, hg3⟩ := and_e hg2
  obtain ⟨w0, w1, w2, w3, rfl⟩ : ∃ w0 w1 w2 w3 : Value, args = #[w0, w1, w2, w3] := by
    have hs : args.size = 4 := by simpa [Cond.value, given_1] using hcount
    obtain ⟨L⟩ := args
    match L, hs with
    | [w0, w1, w2, w3], _ => exact ⟨w0, w1, w2, w3, rfl⟩
  have hw : W _ s := fun d (hd : d ∈ tables_1) => atoms_spec (ws := Jvm.Cond.code x code maxLocals ret :: tables_1) hat d (List.mem_cons_of_mem _ hd)
  obtain ⟨hsets, hown0⟩ := atoms_of _ (rest_1_c_eq ▸ (show rest_1_c.before _ s = true from hrest))
  obtain ⟨i0, ei0⟩ := is_v ga0
  obtain rfl : w0 = (.int i0) := Option.some.inj ei0
  obtain ⟨i1, ei1⟩ := is_v ga1
  obtain rfl : w1 = (.int i1) := Option.some.inj ei1
  obtain ⟨i2, ei2⟩ := is_v ga2
  obtain rfl : w2 = (.int i2) := Option.some.inj ei2
  obtain ⟨i3, ei3⟩ := is_v hg3
  obtain rfl : w3 = (.int i3) := Option.some.inj ei3
  obtain ⟨zc, ezc⟩ := is_v (Cond.before_iff.mp (hsets _ (List.mem_of_getElem? (i := 1) rfl)))
  have O2 : Sta s s.heap "java/lang/String" "COMPACT_STRINGS" "Z" (.int zc) := Sta.start ezc (Or.inl (hsets _ (List.mem_of_getElem? (i := 0) rfl)))
  have P5 : ¬ (zc = (0 : Int32)) := gotF (Cond.eq_ints ezc (Term.int_eval (0))) (not_v (Cond.before_iff.mp (hsets _ (List.mem_of_getElem? (i := 2) rfl))))
  obtain ⟨dd, kdd, evD, VD, -⟩ := own_arv0 (dv := .null) (hsets _ (List.mem_of_getElem? (i := 15) rfl)) (hsets _ (List.mem_of_getElem? (i := 16) rfl)) (hsets _ (List.mem_of_getElem? (i := 17) rfl))
  have SD : Sta s s.heap "java/util/ArrayList" "DEFAULTCAPACITY_EMPTY_ELEMENTDATA" "[Ljava/lang/Object;" (.ref dd) := Sta.start evD (Or.inr ⟨(w57 hw), (hsets _ (List.mem_of_getElem? (i := 11) rfl))⟩)
  obtain ⟨em, -, -, -, evE, -⟩ := Cond.exactly_spec (hsets _ (List.mem_of_getElem? (i := 20) rfl))
  have SE : Sta s s.heap "java/util/ImmutableCollections" "EMPTY" "Ljava/lang/Object;" (.ref em) := Sta.start evE (Or.inl (hsets _ (List.mem_of_getElem? (i := 19) rfl)))
  obtain ⟨mc_, mk_, mr, m1_, m2_, m3_, m4_⟩ := hcalls.1
  have M : Mir s "[Ljava/lang/Object;" mr := ⟨mc_, mk_, m1_, m2_, m3_, m4_⟩
  obtain ⟨n, o, h1, h2, h3, v, L, rfl, ⟨hQ, hN, -⟩, hq⟩ := c_law (l := l) hw i0 i1 i2 i3 O2 P5 SD VD SE M ⟨Nat.le_refl _, fun _ _ q => q⟩ tables_1 p e ha hc hk s m _ below hf ((Spec.applies_iff_loose hf).mp happ).1 ⟨rfl, State.Warmed39.refl s, rfl⟩ trivial
  subst hQ
  refine ⟨n, _, h1, h2, h3, hpost _ _ _ _ _ _ ⟨Cond.after_iff.mpr rfl, Cond.after_iff.mpr (eq_i res_at (Term.int_eval (1)) rfl), trivial⟩ ⟨hq.1, hq.2.1, (hq.2.2.sift fun y hy => Or.inr (hN y hy)).mono (by decide) (by decide)⟩⟩
theorem main_1_1 : Claimed_1_1 := comes_1 fun _ _ _ _ _ _ h hF => ⟨h.1, hF⟩
theorem main_1_2 : Claimed_1_2 := comes_1 fun _ _ _ _ _ _ h hF => ⟨h.2.1, hF⟩
end Jvm.Pilot.@@N@@
namespace Jvm.Pilot.@@N@@
open Jvm Jvm.ClassFile Sem Op Lib Jvm.Free Jvm.Stand Jvm.Pilot.@@N@@.Jvm.D
/-! MADE BY PROGRAM (witnessworld.py) out of the Statement's table words and the real class files: 41 classes; the members and pool entries that the words name. The judged class is class 1, her method 1. -/
namespace start1
open Jvm.ClassFile
def u (s : String) : CpInfo := .utf8 (stringToUtf16 s)
/-- a pool by its gaps: so many unusable entries, then the entry; so many at the end -/
def gap : Nat → List CpInfo → List CpInfo
  | 0, r => r
  | n + 1, r => .unusable :: gap n r
def poolList (es : List (Nat × CpInfo)) (last : Nat) : List CpInfo := es.foldr (fun e r => gap e.1 (e.2 :: r)) (gap last [])
def pool (es : List (Nat × CpInfo)) (last : Nat) : Array CpInfo := ⟨poolList es last⟩
def fileOf (pool : Array CpInfo) (this : Nat) (attrs : Array Attribute := #[]) (ms : Array MethodInfo := #[]) (fl : Nat := 33) (sup : Nat := 0) (ifs : Array Nat := #[]) (fds : Array FieldInfo := #[]) : ClassFile where
  minorVersion := 0
  majorVersion := 65
  constantPool := pool
  accessFlags := fl
  thisClass := this
  superClass := sup
  interfaces := ifs
  fields := fds
  methods := ms
  attributes := attrs
def plain (name : String) (sup : Option ClassId) : Class where
  name := name
  kind := .ordinary
  loader := none
  accessFlags := 33
  super := sup
  interfaces := #[]
  cf := none
  fields := #[]
  methods := #[]
  instanceTypes := #[]
  staticTypes := #[]
  resolved := #[]
  callSites := []
  init := .initialized
  statics := none
  mirror := none

def pool0 : Array CpInfo := pool [(5, u "<init>"), (0, u "()V"), (1, .class_ 10), (1, u "java/lang/Object"), (0, u "getClass"), (0, u "()Ljava/lang/Class;")] 111

def k0c0 : Code := { maxStack := 0, maxLocals := 1, code := object_method_1_code, exceptionTable := #[], attributes := #[] }
def k0m0 : Method := { name := "<init>", desc := "()V", sig := { parameters := [], returnType := none }, accessFlags := 1, code := some k0c0 }
def k0m1 : Method := { name := "getClass", desc := "()Ljava/lang/Class;", sig := { parameters := [], returnType := some (.object "java/lang/Class") }, accessFlags := 273, code := none }
/-- java/lang/Object -/
def k0 : Class := { plain "java/lang/Object" none with
  accessFlags := 33
  interfaces := #[]
  cf := some (fileOf pool0 8 #[] #[{ accessFlags := 1, nameIndex := 5, descriptorIndex := 6, attributes := #[] }, { accessFlags := 273, nameIndex := 11, descriptorIndex := 12, attributes := #[] }] 33 0 #[] #[])
  fields := #[]
  methods := #[k0m0, k0m1]
  instanceTypes := #[]
  staticTypes := #[]
  resolved := Array.replicate 124 none
  statics := none }

def pool1 : Array CpInfo := pool [(2, .class_ 4), (0, .nameAndType 5 6), (0, u "java/lang/Object"), (0, u "<init>"), (0, u "()V"), (0, .integer 2147483647), (0, .class_ 9), (0, u "com/example/tolerant_workflows/tolerantworkflows/model/Task"), (0, .class_ 11), (0, u "java/lang/String"), (0, .methodref 10 13), (0, .nameAndType 5 14), (0, u "([C)V"), (0, .methodref 8 16), (0, .nameAndType 5 17), (0, u "(Ljava/lang/String;ILjava/time/Duration;Ljava/util/Optional;Ljava/util/List;Ljava/util/List;)V"), (0, .class_ 19), (0, u "java/util/ArrayList"), (0, .methodref 18 3), (0, .interfaceMethodref 22 23), (0, .class_ 24), (0, .nameAndType 25 26), (0, u "java/util/List"), (0, u "add"), (0, u "(Ljava/lang/Object;)Z"), (0, .class_ 28), (0, u "com/example/tolerant_workflows/tolerantworkflows/engine/Job"), (0, .methodref 27 30), (0, .nameAndType 5 31), (0, u "(Ljava/util/List;)V"), (0, .methodref 27 33), (0, .nameAndType 34 35), (0, u "first"), (0, u "()Lcom/example/tolerant_workflows/tolerantworkflows/model/Task;"), (0, .methodref 8 37), (0, .nameAndType 38 39), (0, u "index"), (0, u "()I"), (0, .class_ 41), (0, u "com/example/tolerant_workflows/tolerantworkflows/engine/JobFirstPinLaw"), (2, u "law"), (0, u "(IIII)Z")] 5

def k1m0 : Method := { name := "<init>", desc := "()V", sig := { parameters := [], returnType := none }, accessFlags := 2, code := none }
def k1c1 : Code := { maxStack := 8, maxLocals := 14, code := code, exceptionTable := #[], attributes := #[] }
def k1m1 : Method := { name := "law", desc := "(IIII)Z", sig := { parameters := [.int, .int, .int, .int], returnType := some .boolean }, accessFlags := 9, code := some k1c1 }
/-- com/example/tolerant_workflows/tolerantworkflows/engine/JobFirstPinLaw -/
def k1 : Class := { plain "com/example/tolerant_workflows/tolerantworkflows/engine/JobFirstPinLaw" (some 0) with
  accessFlags := 49
  interfaces := #[]
  cf := some (fileOf pool1 40 #[] #[{ accessFlags := 2, nameIndex := 5, descriptorIndex := 6, attributes := #[] }, { accessFlags := 9, nameIndex := 44, descriptorIndex := 45, attributes := #[] }] 49 2 #[] #[])
  fields := #[]
  methods := #[k1m0, k1m1]
  instanceTypes := #[]
  staticTypes := #[]
  resolved := Array.replicate 51 none
  statics := none }

def pool2 : Array CpInfo := pool [(1, .methodref 2 3), (0, .class_ 4), (0, .nameAndType 5 6), (0, u "java/lang/Object"), (0, u "<init>"), (0, u "()V"), (0, .class_ 8), (0, u "java/lang/Record")] 13

def k2c0 : Code := { maxStack := 1, maxLocals := 1, code := jdk_30_method_1_code, exceptionTable := #[], attributes := #[] }
def k2m0 : Method := { name := "<init>", desc := "()V", sig := { parameters := [], returnType := none }, accessFlags := 4, code := some k2c0 }
/-- java/lang/Record -/
def k2 : Class := { plain "java/lang/Record" (some 0) with
  accessFlags := 1057
  interfaces := #[]
  cf := some (fileOf pool2 7 #[] #[{ accessFlags := 4, nameIndex := 5, descriptorIndex := 6, attributes := #[] }] 1057 2 #[] #[])
  fields := #[]
  methods := #[k2m0]
  instanceTypes := #[]
  staticTypes := #[]
  resolved := Array.replicate 22 none
  statics := none }

def pool3 : Array CpInfo := pool [(1, .methodref 2 3), (0, .class_ 4), (0, .nameAndType 5 6), (0, u "java/lang/Record"), (0, u "<init>"), (0, u "()V"), (0, .fieldref 8 9), (0, .class_ 10), (0, .nameAndType 11 12), (0, u "com/example/tolerant_workflows/tolerantworkflows/model/Task"), (0, u "id"), (0, u "Ljava/lang/String;"), (0, .fieldref 8 14), (0, .nameAndType 15 16), (0, u "index"), (0, u "I"), (0, .fieldref 8 18), (0, .nameAndType 19 20), (0, u "runtime"), (0, u "Ljava/time/Duration;"), (0, .fieldref 8 22), (0, .nameAndType 23 24), (0, u "command"), (0, u "Ljava/util/Optional;"), (0, .fieldref 8 26), (0, .nameAndType 27 28), (0, u "parents"), (0, u "Ljava/util/List;"), (0, .fieldref 8 30), (0, .nameAndType 31 28), (0, u "children"), (43, u "(Ljava/lang/String;ILjava/time/Duration;Ljava/util/Optional;Ljava/util/List;Ljava/util/List;)V"), (9, u "()I")] 30

def k3c0 : Code := { maxStack := 2, maxLocals := 7, code := prog_61_method_1_code, exceptionTable := #[], attributes := #[] }
def k3m0 : Method := { name := "<init>", desc := "(Ljava/lang/String;ILjava/time/Duration;Ljava/util/Optional;Ljava/util/List;Ljava/util/List;)V", sig := { parameters := [(.object "java/lang/String"), .int, (.object "java/time/Duration"), (.object "java/util/Optional"), (.object "java/util/List"), (.object "java/util/List")], returnType := none }, accessFlags := 1, code := some k3c0 }
def k3c1 : Code := { maxStack := 1, maxLocals := 1, code := prog_61_method_7_code, exceptionTable := #[], attributes := #[] }
def k3m1 : Method := { name := "index", desc := "()I", sig := { parameters := [], returnType := some .int }, accessFlags := 1, code := some k3c1 }
/-- com/example/tolerant_workflows/tolerantworkflows/model/Task -/
def k3 : Class := { plain "com/example/tolerant_workflows/tolerantworkflows/model/Task" (some 2) with
  accessFlags := 49
  interfaces := #[]
  cf := some (fileOf pool3 8 #[] #[{ accessFlags := 1, nameIndex := 5, descriptorIndex := 75, attributes := #[] }, { accessFlags := 1, nameIndex := 15, descriptorIndex := 85, attributes := #[] }] 49 2 #[] #[{ accessFlags := 18, nameIndex := 11, descriptorIndex := 12, attributes := #[] }, { accessFlags := 18, nameIndex := 15, descriptorIndex := 16, attributes := #[] }, { accessFlags := 18, nameIndex := 19, descriptorIndex := 20, attributes := #[] }, { accessFlags := 18, nameIndex := 23, descriptorIndex := 24, attributes := #[] }, { accessFlags := 18, nameIndex := 27, descriptorIndex := 28, attributes := #[] }, { accessFlags := 18, nameIndex := 31, descriptorIndex := 28, attributes := #[] }])
  fields := #[{ name := "id", type := (.object "java/lang/String"), accessFlags := 18, slot := 0, constantValue := 0 }, { name := "index", type := .int, accessFlags := 18, slot := 1, constantValue := 0 }, { name := "runtime", type := (.object "java/time/Duration"), accessFlags := 18, slot := 2, constantValue := 0 }, { name := "command", type := (.object "java/util/Optional"), accessFlags := 18, slot := 3, constantValue := 0 }, { name := "parents", type := (.object "java/util/List"), accessFlags := 18, slot := 4, constantValue := 0 }, { name := "children", type := (.object "java/util/List"), accessFlags := 18, slot := 5, constantValue := 0 }]
  methods := #[k3m0, k3m1]
  instanceTypes := #[(.object "java/lang/String"), .int, (.object "java/time/Duration"), (.object "java/util/Optional"), (.object "java/util/List"), (.object "java/util/List")]
  staticTypes := #[]
  resolved := Array.replicate 116 none
  statics := none }

def pool4 : Array CpInfo := pool [(1, .class_ 2), (0, u "java/io/Serializable"), (0, .class_ 4), (0, u "java/lang/Object")] 2

/-- java/io/Serializable -/
def k4 : Class := { plain "java/io/Serializable" (some 0) with
  accessFlags := 1537
  interfaces := #[]
  cf := some (fileOf pool4 1 #[] #[] 1537 3 #[] #[])
  fields := #[]
  methods := #[]
  instanceTypes := #[]
  staticTypes := #[]
  resolved := Array.replicate 7 none
  statics := none }

def pool5 : Array CpInfo := pool [(1, .class_ 2), (0, u "java/lang/Comparable"), (0, .class_ 4), (0, u "java/lang/Object")] 7

/-- java/lang/Comparable -/
def k5 : Class := { plain "java/lang/Comparable" (some 0) with
  accessFlags := 1537
  interfaces := #[]
  cf := some (fileOf pool5 1 #[] #[] 1537 3 #[] #[])
  fields := #[]
  methods := #[]
  instanceTypes := #[]
  staticTypes := #[]
  resolved := Array.replicate 12 none
  statics := none }

def pool6 : Array CpInfo := pool [(2, .class_ 4), (1, u "java/lang/CharSequence"), (42, .class_ 48), (0, u "java/lang/CharSequence$1CodePointIterator"), (10, .class_ 60), (0, u "java/lang/CharSequence$1CharIterator"), (5, .class_ 67), (0, u "java/lang/Object")] 63

/-- java/lang/CharSequence -/
def k6 : Class := { plain "java/lang/CharSequence" (some 0) with
  accessFlags := 1537
  interfaces := #[]
  cf := some (fileOf pool6 2 #[.nestMembers #[47, 59]] #[] 1537 66 #[] #[])
  fields := #[]
  methods := #[]
  instanceTypes := #[]
  staticTypes := #[]
  resolved := Array.replicate 131 none
  statics := none }

def pool7 : Array CpInfo := pool [(1, .class_ 2), (0, u "java/lang/constant/Constable"), (0, .class_ 4), (0, u "java/lang/Object")] 6

/-- java/lang/constant/Constable -/
def k7 : Class := { plain "java/lang/constant/Constable" (some 0) with
  accessFlags := 1537
  interfaces := #[]
  cf := some (fileOf pool7 1 #[] #[] 1537 3 #[] #[])
  fields := #[]
  methods := #[]
  instanceTypes := #[]
  staticTypes := #[]
  resolved := Array.replicate 11 none
  statics := none }

def pool8 : Array CpInfo := pool [(1, .class_ 2), (0, u "java/lang/constant/ConstantDesc"), (0, .class_ 4), (0, u "java/lang/Object")] 32

/-- java/lang/constant/ConstantDesc -/
def k8 : Class := { plain "java/lang/constant/ConstantDesc" (some 0) with
  accessFlags := 1537
  interfaces := #[]
  cf := some (fileOf pool8 1 #[] #[] 1537 3 #[] #[])
  fields := #[]
  methods := #[]
  instanceTypes := #[]
  staticTypes := #[]
  resolved := Array.replicate 37 none
  statics := none }

def pool9 : Array CpInfo := pool [(1, .methodref 2 3), (0, .class_ 4), (0, .nameAndType 5 6), (0, u "java/lang/Object"), (0, u "<init>"), (0, u "()V"), (2, .fieldref 10 11), (0, .class_ 12), (0, .nameAndType 13 14), (0, u "java/lang/String"), (0, u "value"), (0, u "[B"), (0, .fieldref 10 16), (0, .nameAndType 17 18), (0, u "coder"), (0, u "B"), (2, u "hash"), (0, u "I"), (2, u "hashIsZero"), (0, u "Z"), (0, .methodref 10 28), (0, .nameAndType 5 29), (0, u "([CIILjava/lang/Void;)V"), (8, .fieldref 10 39), (0, .nameAndType 40 26), (0, u "COMPACT_STRINGS"), (1, .class_ 44), (1, u "java/lang/StringUTF16"), (0, u "compress"), (1, .methodref 42 48), (0, .nameAndType 49 50), (0, u "coderFromArrayLen"), (0, u "([BI)B"), (126, .methodref 42 178), (0, .nameAndType 45 179), (0, u "([CII)[B"), (395, .class_ 576), (0, u "java/lang/CharSequence"), (22, u "CASE_INSENSITIVE_ORDER"), (0, u "Ljava/util/Comparator;"), (409, u "([C)V"), (90, u "serialPersistentFields"), (0, u "[Ljava/io/ObjectStreamField;"), (0, .class_ 1104), (0, u "java/lang/String$CaseInsensitiveComparator"), (1, .class_ 1107), (0, u "java/io/Serializable"), (0, .class_ 1109), (0, u "java/lang/Comparable"), (0, .class_ 1111), (0, u "java/lang/constant/Constable"), (0, .class_ 1113), (0, u "java/lang/constant/ConstantDesc"), (2, u "serialVersionUID"), (0, u "J"), (3, u "REPL"), (0, u "C"), (2, u "LATIN1"), (1, u "UTF16")] 323

def k9m0 : Method := { name := "<init>", desc := "()V", sig := { parameters := [], returnType := none }, accessFlags := 1, code := none }
def k9c1 : Code := { maxStack := 5, maxLocals := 2, code := jdk_42_method_3_code, exceptionTable := #[], attributes := #[] }
def k9m1 : Method := { name := "<init>", desc := "([C)V", sig := { parameters := [(.array .char)], returnType := none }, accessFlags := 1, code := some k9c1 }
def k9c2 : Code := { maxStack := 4, maxLocals := 6, code := jdk_42_method_149_code, exceptionTable := #[], attributes := #[] }
def k9m2 : Method := { name := "<init>", desc := "([CIILjava/lang/Void;)V", sig := { parameters := [(.array .char), .int, .int, (.object "java/lang/Void")], returnType := none }, accessFlags := 2, code := some k9c2 }
/-- java/lang/String -/
def k9 : Class := { plain "java/lang/String" (some 0) with
  accessFlags := 49
  interfaces := #[4, 5, 6, 7, 8]
  cf := some (fileOf pool9 10 #[.nestMembers #[1103]] #[{ accessFlags := 1, nameIndex := 5, descriptorIndex := 6, attributes := #[] }, { accessFlags := 1, nameIndex := 5, descriptorIndex := 1010, attributes := #[] }, { accessFlags := 2, nameIndex := 5, descriptorIndex := 29, attributes := #[] }] 49 2 #[1106, 1108, 575, 1110, 1112] #[{ accessFlags := 18, nameIndex := 13, descriptorIndex := 14, attributes := #[] }, { accessFlags := 18, nameIndex := 17, descriptorIndex := 18, attributes := #[] }, { accessFlags := 2, nameIndex := 21, descriptorIndex := 22, attributes := #[] }, { accessFlags := 2, nameIndex := 25, descriptorIndex := 26, attributes := #[] }, { accessFlags := 26, nameIndex := 1116, descriptorIndex := 1117, attributes := #[] }, { accessFlags := 24, nameIndex := 40, descriptorIndex := 26, attributes := #[] }, { accessFlags := 26, nameIndex := 1101, descriptorIndex := 1102, attributes := #[] }, { accessFlags := 26, nameIndex := 1121, descriptorIndex := 1122, attributes := #[] }, { accessFlags := 25, nameIndex := 599, descriptorIndex := 600, attributes := #[] }, { accessFlags := 24, nameIndex := 1125, descriptorIndex := 18, attributes := #[] }, { accessFlags := 24, nameIndex := 1127, descriptorIndex := 18, attributes := #[] }])
  fields := #[{ name := "value", type := (.array .byte), accessFlags := 18, slot := 0, constantValue := 0 }, { name := "coder", type := .byte, accessFlags := 18, slot := 1, constantValue := 0 }, { name := "hash", type := .int, accessFlags := 2, slot := 2, constantValue := 0 }, { name := "hashIsZero", type := .boolean, accessFlags := 2, slot := 3, constantValue := 0 }, { name := "serialVersionUID", type := .long, accessFlags := 26, slot := 0, constantValue := 0 }, { name := "COMPACT_STRINGS", type := .boolean, accessFlags := 24, slot := 1, constantValue := 0 }, { name := "serialPersistentFields", type := (.array (.object "java/io/ObjectStreamField")), accessFlags := 26, slot := 2, constantValue := 0 }, { name := "REPL", type := .char, accessFlags := 26, slot := 3, constantValue := 0 }, { name := "CASE_INSENSITIVE_ORDER", type := (.object "java/util/Comparator"), accessFlags := 25, slot := 4, constantValue := 0 }, { name := "LATIN1", type := .byte, accessFlags := 24, slot := 5, constantValue := 0 }, { name := "UTF16", type := .byte, accessFlags := 24, slot := 6, constantValue := 0 }]
  methods := #[k9m0, k9m1, k9m2]
  instanceTypes := #[(.array .byte), .byte, .int, .boolean]
  staticTypes := #[.long, .boolean, (.array (.object "java/io/ObjectStreamField")), .char, (.object "java/util/Comparator"), .byte, .byte]
  resolved := Array.replicate 1451 none
  statics := some 0 }

def pool10 : Array CpInfo := pool [(6, .class_ 8), (1, u "java/lang/Object"), (0, u "<init>"), (0, u "()V"), (1, .class_ 14), (1, u "java/lang/StringUTF16"), (31, u "$assertionsDisabled"), (0, u "Z"), (13, u "HI_BYTE_SHIFT"), (0, u "I"), (2, u "LO_BYTE_SHIFT"), (49, .methodref 12 116), (0, .nameAndType 117 118), (0, u "compress"), (0, u "([CI[BII)I"), (3, u "([CII)[B"), (138, u "coderFromArrayLen"), (0, u "([BI)B"), (106, .class_ 371), (1, u "java/lang/StringUTF16$LinesSpliterator"), (58, u "MAX_LENGTH"), (196, .class_ 628), (0, u "java/lang/StringUTF16$CodePointsSpliterator"), (0, .class_ 630), (0, u "java/lang/StringUTF16$CharsSpliterator")] 4

def k10m0 : Method := { name := "<init>", desc := "()V", sig := { parameters := [], returnType := none }, accessFlags := 0, code := none }
def k10c1 : Code := { maxStack := 2, maxLocals := 2, code := jdk_52_method_15_code, exceptionTable := #[], attributes := #[] }
def k10m1 : Method := { name := "coderFromArrayLen", desc := "([BI)B", sig := { parameters := [(.array .byte), .int], returnType := some .byte }, accessFlags := 8, code := some k10c1 }
def k10c2 : Code := { maxStack := 5, maxLocals := 6, code := jdk_52_method_16_code, exceptionTable := #[], attributes := #[] }
def k10m2 : Method := { name := "compress", desc := "([CII)[B", sig := { parameters := [(.array .char), .int, .int], returnType := some (.array .byte) }, accessFlags := 9, code := some k10c2 }
def k10c3 : Code := { maxStack := 3, maxLocals := 7, code := jdk_52_method_21_code, exceptionTable := #[], attributes := #[] }
def k10m3 : Method := { name := "compress", desc := "([CI[BII)I", sig := { parameters := [(.array .char), .int, (.array .byte), .int, .int], returnType := some .int }, accessFlags := 9, code := some k10c3 }
/-- java/lang/StringUTF16 -/
def k10 : Class := { plain "java/lang/StringUTF16" (some 0) with
  accessFlags := 48
  interfaces := #[]
  cf := some (fileOf pool10 12 #[.nestMembers #[627, 629, 369]] #[{ accessFlags := 0, nameIndex := 9, descriptorIndex := 10, attributes := #[] }, { accessFlags := 8, nameIndex := 261, descriptorIndex := 262, attributes := #[] }, { accessFlags := 9, nameIndex := 117, descriptorIndex := 122, attributes := #[] }, { accessFlags := 9, nameIndex := 117, descriptorIndex := 118, attributes := #[] }] 48 6 #[] #[{ accessFlags := 26, nameIndex := 61, descriptorIndex := 62, attributes := #[] }, { accessFlags := 26, nameIndex := 65, descriptorIndex := 62, attributes := #[] }, { accessFlags := 24, nameIndex := 430, descriptorIndex := 62, attributes := #[] }, { accessFlags := 4120, nameIndex := 46, descriptorIndex := 47, attributes := #[] }])
  fields := #[{ name := "HI_BYTE_SHIFT", type := .int, accessFlags := 26, slot := 0, constantValue := 0 }, { name := "LO_BYTE_SHIFT", type := .int, accessFlags := 26, slot := 1, constantValue := 0 }, { name := "MAX_LENGTH", type := .int, accessFlags := 24, slot := 2, constantValue := 0 }, { name := "$assertionsDisabled", type := .boolean, accessFlags := 4120, slot := 3, constantValue := 0 }]
  methods := #[k10m0, k10m1, k10m2, k10m3]
  instanceTypes := #[]
  staticTypes := #[.int, .int, .int, .boolean]
  resolved := Array.replicate 635 none
  statics := none }

def pool11 : Array CpInfo := pool [(8, .class_ 10), (1, u "java/lang/Iterable"), (24, .class_ 36), (0, u "java/lang/Object")] 25

/-- java/lang/Iterable -/
def k11 : Class := { plain "java/lang/Iterable" (some 0) with
  accessFlags := 1537
  interfaces := #[]
  cf := some (fileOf pool11 8 #[] #[] 1537 35 #[] #[])
  fields := #[]
  methods := #[]
  instanceTypes := #[]
  staticTypes := #[]
  resolved := Array.replicate 62 none
  statics := none }

def pool12 : Array CpInfo := pool [(10, .class_ 12), (1, u "java/util/Collection"), (0, u "toArray"), (16, u "()Z"), (29, .class_ 61), (0, u "java/lang/Object"), (0, .class_ 63), (0, u "java/lang/Iterable"), (2, u "isEmpty"), (3, u "()[Ljava/lang/Object;")] 44

def k12m0 : Method := { name := "isEmpty", desc := "()Z", sig := { parameters := [], returnType := some .boolean }, accessFlags := 1025, code := none }
def k12m1 : Method := { name := "toArray", desc := "()[Ljava/lang/Object;", sig := { parameters := [], returnType := some (.array (.object "java/lang/Object")) }, accessFlags := 1025, code := none }
/-- java/util/Collection -/
def k12 : Class := { plain "java/util/Collection" (some 0) with
  accessFlags := 1537
  interfaces := #[11]
  cf := some (fileOf pool12 10 #[] #[{ accessFlags := 1025, nameIndex := 66, descriptorIndex := 30, attributes := #[] }, { accessFlags := 1025, nameIndex := 13, descriptorIndex := 70, attributes := #[] }] 1537 60 #[62] #[])
  fields := #[]
  methods := #[k12m0, k12m1]
  instanceTypes := #[]
  staticTypes := #[]
  resolved := Array.replicate 115 none
  statics := none }

def pool13 : Array CpInfo := pool [(1, .methodref 2 3), (0, .class_ 4), (0, .nameAndType 5 6), (0, u "java/lang/Object"), (0, u "<init>"), (0, u "()V"), (1, .class_ 10), (1, u "java/util/AbstractCollection"), (66, .class_ 78), (0, u "java/util/Collection")] 81

def k13c0 : Code := { maxStack := 1, maxLocals := 1, code := jdk_22_method_1_code, exceptionTable := #[], attributes := #[] }
def k13m0 : Method := { name := "<init>", desc := "()V", sig := { parameters := [], returnType := none }, accessFlags := 4, code := some k13c0 }
/-- java/util/AbstractCollection -/
def k13 : Class := { plain "java/util/AbstractCollection" (some 0) with
  accessFlags := 1057
  interfaces := #[12]
  cf := some (fileOf pool13 8 #[] #[{ accessFlags := 4, nameIndex := 5, descriptorIndex := 6, attributes := #[] }] 1057 2 #[77] #[])
  fields := #[]
  methods := #[k13m0]
  instanceTypes := #[]
  staticTypes := #[]
  resolved := Array.replicate 160 none
  statics := none }

def pool14 : Array CpInfo := pool [(8, .class_ 10), (1, u "java/util/SequencedCollection"), (15, .class_ 27), (0, u "java/lang/Object"), (0, .class_ 29), (0, u "java/util/Collection")] 27

/-- java/util/SequencedCollection -/
def k14 : Class := { plain "java/util/SequencedCollection" (some 0) with
  accessFlags := 1537
  interfaces := #[12]
  cf := some (fileOf pool14 8 #[] #[] 1537 26 #[28] #[])
  fields := #[]
  methods := #[]
  instanceTypes := #[]
  staticTypes := #[]
  resolved := Array.replicate 57 none
  statics := none }

def pool15 : Array CpInfo := pool [(8, .class_ 10), (1, u "java/util/List"), (7, u "()Z"), (12, u "(Ljava/lang/Object;)V"), (16, u "<init>"), (11, u "add"), (3, u "(Ljava/lang/Object;)Z"), (2, u "isEmpty"), (7, u "get"), (0, u "(I)Ljava/lang/Object;"), (11, u "of"), (2, .class_ 93), (1, u "java/util/ImmutableCollections"), (2, .class_ 97), (0, u "java/util/ImmutableCollections$List12"), (0, .methodref 96 99), (0, .nameAndType 48 31), (0, .methodref 96 101), (0, .nameAndType 48 102), (0, u "(Ljava/lang/Object;Ljava/lang/Object;)V"), (0, .class_ 104), (0, u "java/lang/Object"), (3, u "([Ljava/lang/Object;)Ljava/util/List;"), (0, .methodref 91 110), (0, .nameAndType 111 108), (0, u "listFromArray"), (0, .methodref 91 113), (0, .nameAndType 114 115), (0, u "listCopy"), (0, u "(Ljava/util/Collection;)Ljava/util/List;"), (4, .class_ 121), (0, u "java/util/SequencedCollection"), (112, u "copyOf")] 16

def k15m0 : Method := { name := "isEmpty", desc := "()Z", sig := { parameters := [], returnType := some .boolean }, accessFlags := 1025, code := none }
def k15m1 : Method := { name := "add", desc := "(Ljava/lang/Object;)Z", sig := { parameters := [(.object "java/lang/Object")], returnType := some .boolean }, accessFlags := 1025, code := none }
def k15m2 : Method := { name := "get", desc := "(I)Ljava/lang/Object;", sig := { parameters := [.int], returnType := some (.object "java/lang/Object") }, accessFlags := 1025, code := none }
def k15c3 : Code := { maxStack := 5, maxLocals := 2, code := jdk_40_method_47_code, exceptionTable := #[], attributes := #[] }
def k15m3 : Method := { name := "of", desc := "([Ljava/lang/Object;)Ljava/util/List;", sig := { parameters := [(.array (.object "java/lang/Object"))], returnType := some (.object "java/util/List") }, accessFlags := 137, code := some k15c3 }
def k15c4 : Code := { maxStack := 1, maxLocals := 1, code := jdk_40_method_48_code, exceptionTable := #[], attributes := #[] }
def k15m4 : Method := { name := "copyOf", desc := "(Ljava/util/Collection;)Ljava/util/List;", sig := { parameters := [(.object "java/util/Collection")], returnType := some (.object "java/util/List") }, accessFlags := 9, code := some k15c4 }
/-- java/util/List -/
def k15 : Class := { plain "java/util/List" (some 0) with
  accessFlags := 1537
  interfaces := #[14]
  cf := some (fileOf pool15 8 #[] #[{ accessFlags := 1025, nameIndex := 67, descriptorIndex := 18, attributes := #[] }, { accessFlags := 1025, nameIndex := 60, descriptorIndex := 64, attributes := #[] }, { accessFlags := 1025, nameIndex := 75, descriptorIndex := 76, attributes := #[] }, { accessFlags := 137, nameIndex := 88, descriptorIndex := 108, attributes := #[] }, { accessFlags := 9, nameIndex := 234, descriptorIndex := 115, attributes := #[] }] 1537 103 #[120] #[])
  fields := #[]
  methods := #[k15m0, k15m1, k15m2, k15m3, k15m4]
  instanceTypes := #[]
  staticTypes := #[]
  resolved := Array.replicate 251 none
  statics := none }

def pool16 : Array CpInfo := pool [(1, .methodref 2 3), (0, .class_ 4), (0, .nameAndType 5 6), (0, u "java/util/AbstractCollection"), (0, u "<init>"), (0, u "()V"), (0, .fieldref 8 9), (0, .class_ 10), (0, .nameAndType 11 12), (0, u "java/util/AbstractList"), (0, u "modCount"), (0, u "I"), (64, .class_ 78), (0, u "java/util/AbstractList$Itr"), (3, .class_ 83), (0, u "java/util/AbstractList$ListItr"), (9, .class_ 94), (0, u "java/util/AbstractList$RandomAccessSubList"), (3, .class_ 99), (0, u "java/util/AbstractList$SubList"), (33, .class_ 134), (0, u "java/util/List"), (73, .class_ 209), (0, u "java/util/AbstractList$SubList$1"), (0, .class_ 211), (0, u "java/util/AbstractList$RandomAccessSpliterator")] 6

def k16c0 : Code := { maxStack := 2, maxLocals := 1, code := jdk_39_method_1_code, exceptionTable := #[], attributes := #[] }
def k16m0 : Method := { name := "<init>", desc := "()V", sig := { parameters := [], returnType := none }, accessFlags := 4, code := some k16c0 }
/-- java/util/AbstractList -/
def k16 : Class := { plain "java/util/AbstractList" (some 13) with
  accessFlags := 1057
  interfaces := #[15]
  cf := some (fileOf pool16 8 #[.nestMembers #[93, 98, 208, 210, 82, 77]] #[{ accessFlags := 4, nameIndex := 5, descriptorIndex := 6, attributes := #[] }] 1057 2 #[133] #[{ accessFlags := 132, nameIndex := 11, descriptorIndex := 12, attributes := #[] }])
  fields := #[{ name := "modCount", type := .int, accessFlags := 132, slot := 0, constantValue := 0 }]
  methods := #[k16m0]
  instanceTypes := #[.int]
  staticTypes := #[]
  resolved := Array.replicate 218 none
  statics := none }

def pool17 : Array CpInfo := pool [(1, .class_ 2), (0, u "java/util/RandomAccess"), (0, .class_ 4), (0, u "java/lang/Object")] 2

/-- java/util/RandomAccess -/
def k17 : Class := { plain "java/util/RandomAccess" (some 0) with
  accessFlags := 1537
  interfaces := #[]
  cf := some (fileOf pool17 1 #[] #[] 1537 3 #[] #[])
  fields := #[]
  methods := #[]
  instanceTypes := #[]
  staticTypes := #[]
  resolved := Array.replicate 7 none
  statics := none }

def pool18 : Array CpInfo := pool [(1, .class_ 2), (0, u "java/lang/Cloneable"), (0, .class_ 4), (0, u "java/lang/Object")] 2

/-- java/lang/Cloneable -/
def k18 : Class := { plain "java/lang/Cloneable" (some 0) with
  accessFlags := 1537
  interfaces := #[]
  cf := some (fileOf pool18 1 #[] #[] 1537 3 #[] #[])
  fields := #[]
  methods := #[]
  instanceTypes := #[]
  staticTypes := #[]
  resolved := Array.replicate 7 none
  statics := none }

def pool19 : Array CpInfo := pool [(1, .methodref 2 3), (0, .class_ 4), (0, .nameAndType 5 6), (0, u "java/util/AbstractList"), (0, u "<init>"), (0, u "()V"), (0, .class_ 8), (0, u "java/lang/Object"), (0, .fieldref 10 11), (0, .class_ 12), (0, .nameAndType 13 14), (0, u "java/util/ArrayList"), (0, u "elementData"), (0, u "[Ljava/lang/Object;"), (2, u "EMPTY_ELEMENTDATA"), (21, .fieldref 10 40), (0, .nameAndType 41 14), (0, u "DEFAULTCAPACITY_EMPTY_ELEMENTDATA"), (4, u "toArray"), (0, u "()[Ljava/lang/Object;"), (0, .fieldref 10 49), (0, .nameAndType 50 51), (0, u "size"), (0, u "I"), (6, .class_ 60), (1, u "java/util/Arrays"), (0, u "copyOf"), (1, .fieldref 10 64), (0, .nameAndType 65 51), (0, u "modCount"), (0, .methodref 58 67), (0, .nameAndType 61 68), (0, u "([Ljava/lang/Object;I)[Ljava/lang/Object;"), (0, .methodref 10 70), (0, .nameAndType 71 72), (0, u "grow"), (0, u "(I)[Ljava/lang/Object;"), (6, .methodref 80 81), (0, .class_ 82), (0, .nameAndType 83 84), (0, u "java/lang/Math"), (0, u "max"), (0, u "(II)I"), (11, u "(Ljava/lang/Object;)Z"), (32, .methodref 10 130), (0, .nameAndType 71 47), (0, .methodref 10 132), (0, .nameAndType 133 134), (0, u "add"), (0, u "(Ljava/lang/Object;[Ljava/lang/Object;I)V"), (13, .class_ 149), (0, u "java/util/List"), (23, u "()Z"), (88, .class_ 263), (0, u "java/util/ArrayList$ListItr"), (3, .class_ 268), (0, u "java/util/ArrayList$Itr"), (7, .class_ 277), (0, u "java/util/ArrayList$SubList"), (12, .class_ 291), (0, u "java/util/ArrayList$ArrayListSpliterator"), (37, .class_ 330), (0, u "java/util/RandomAccess"), (0, .class_ 332), (0, u "java/lang/Cloneable"), (0, .class_ 334), (0, u "java/io/Serializable"), (0, u "serialVersionUID"), (0, u "J"), (3, u "DEFAULT_CAPACITY"), (22, u "isEmpty"), (136, .class_ 501), (0, u "java/util/ArrayList$SubList$2"), (0, .class_ 503), (0, u "java/util/ArrayList$SubList$1")] 5

def k19c0 : Code := { maxStack := 2, maxLocals := 1, code := jdk_38_method_2_code, exceptionTable := #[], attributes := #[] }
def k19m0 : Method := { name := "<init>", desc := "()V", sig := { parameters := [], returnType := none }, accessFlags := 1, code := some k19c0 }
def k19c1 : Code := { maxStack := 4, maxLocals := 4, code := jdk_38_method_6_code, exceptionTable := #[], attributes := #[] }
def k19m1 : Method := { name := "grow", desc := "(I)[Ljava/lang/Object;", sig := { parameters := [.int], returnType := some (.array (.object "java/lang/Object")) }, accessFlags := 2, code := some k19c1 }
def k19c2 : Code := { maxStack := 3, maxLocals := 1, code := jdk_38_method_7_code, exceptionTable := #[], attributes := #[] }
def k19m2 : Method := { name := "grow", desc := "()[Ljava/lang/Object;", sig := { parameters := [], returnType := some (.array (.object "java/lang/Object")) }, accessFlags := 2, code := some k19c2 }
def k19c3 : Code := { maxStack := 1, maxLocals := 1, code := jdk_38_method_9_code, exceptionTable := #[], attributes := #[] }
def k19m3 : Method := { name := "isEmpty", desc := "()Z", sig := { parameters := [], returnType := some .boolean }, accessFlags := 1, code := some k19c3 }
def k19c4 : Code := { maxStack := 2, maxLocals := 1, code := jdk_38_method_16_code, exceptionTable := #[], attributes := #[] }
def k19m4 : Method := { name := "toArray", desc := "()[Ljava/lang/Object;", sig := { parameters := [], returnType := some (.array (.object "java/lang/Object")) }, accessFlags := 1, code := some k19c4 }
def k19c5 : Code := { maxStack := 3, maxLocals := 4, code := jdk_38_method_24_code, exceptionTable := #[], attributes := #[] }
def k19m5 : Method := { name := "add", desc := "(Ljava/lang/Object;[Ljava/lang/Object;I)V", sig := { parameters := [(.object "java/lang/Object"), (.array (.object "java/lang/Object")), .int], returnType := none }, accessFlags := 2, code := some k19c5 }
def k19c6 : Code := { maxStack := 4, maxLocals := 2, code := jdk_38_method_25_code, exceptionTable := #[], attributes := #[] }
def k19m6 : Method := { name := "add", desc := "(Ljava/lang/Object;)Z", sig := { parameters := [(.object "java/lang/Object")], returnType := some .boolean }, accessFlags := 1, code := some k19c6 }
/-- java/util/ArrayList -/
def k19 : Class := { plain "java/util/ArrayList" (some 16) with
  accessFlags := 33
  interfaces := #[15, 17, 18, 4]
  cf := some (fileOf pool19 10 #[.nestMembers #[290, 276, 500, 502, 262, 267]] #[{ accessFlags := 1, nameIndex := 5, descriptorIndex := 6, attributes := #[] }, { accessFlags := 2, nameIndex := 71, descriptorIndex := 72, attributes := #[] }, { accessFlags := 2, nameIndex := 71, descriptorIndex := 47, attributes := #[] }, { accessFlags := 1, nameIndex := 363, descriptorIndex := 173, attributes := #[] }, { accessFlags := 1, nameIndex := 46, descriptorIndex := 47, attributes := #[] }, { accessFlags := 2, nameIndex := 133, descriptorIndex := 134, attributes := #[] }, { accessFlags := 1, nameIndex := 133, descriptorIndex := 96, attributes := #[] }] 33 2 #[148, 329, 331, 333] #[{ accessFlags := 26, nameIndex := 335, descriptorIndex := 336, attributes := #[] }, { accessFlags := 26, nameIndex := 340, descriptorIndex := 51, attributes := #[] }, { accessFlags := 26, nameIndex := 17, descriptorIndex := 14, attributes := #[] }, { accessFlags := 26, nameIndex := 41, descriptorIndex := 14, attributes := #[] }, { accessFlags := 128, nameIndex := 13, descriptorIndex := 14, attributes := #[] }, { accessFlags := 2, nameIndex := 50, descriptorIndex := 51, attributes := #[] }])
  fields := #[{ name := "serialVersionUID", type := .long, accessFlags := 26, slot := 0, constantValue := 0 }, { name := "DEFAULT_CAPACITY", type := .int, accessFlags := 26, slot := 1, constantValue := 0 }, { name := "EMPTY_ELEMENTDATA", type := (.array (.object "java/lang/Object")), accessFlags := 26, slot := 2, constantValue := 0 }, { name := "DEFAULTCAPACITY_EMPTY_ELEMENTDATA", type := (.array (.object "java/lang/Object")), accessFlags := 26, slot := 3, constantValue := 0 }, { name := "elementData", type := (.array (.object "java/lang/Object")), accessFlags := 128, slot := 1, constantValue := 0 }, { name := "size", type := .int, accessFlags := 2, slot := 2, constantValue := 0 }]
  methods := #[k19m0, k19m1, k19m2, k19m3, k19m4, k19m5, k19m6]
  instanceTypes := #[.int, (.array (.object "java/lang/Object")), .int]
  staticTypes := #[.long, .int, (.array (.object "java/lang/Object")), (.array (.object "java/lang/Object"))]
  resolved := Array.replicate 509 none
  statics := some 1 }

def pool20 : Array CpInfo := pool [(1, .class_ 2), (0, u "java/lang/Math"), (1, .class_ 6), (1, u "java/lang/Object"), (0, u "<init>"), (0, u "()V"), (89, .class_ 100), (1, u "java/lang/Math$RandomNumberGeneratorHolder"), (71, u "negativeZeroFloatBits"), (0, u "J"), (2, u "negativeZeroDoubleBits"), (21, u "max"), (2, u "min"), (43, u "$assertionsDisabled"), (0, u "Z"), (88, u "(II)I"), (2, u "twoToTheDoubleScaleDown"), (0, u "D"), (4, u "twoToTheDoubleScaleUp"), (9, u "E"), (3, u "PI"), (2, u "TAU"), (2, u "DEGREES_TO_RADIANS"), (0, u "RADIANS_TO_DEGREES")] 94

def k20m0 : Method := { name := "<init>", desc := "()V", sig := { parameters := [], returnType := none }, accessFlags := 2, code := none }
def k20c1 : Code := { maxStack := 2, maxLocals := 2, code := jdk_29_method_65_code, exceptionTable := #[], attributes := #[] }
def k20m1 : Method := { name := "max", desc := "(II)I", sig := { parameters := [.int, .int], returnType := some .int }, accessFlags := 9, code := some k20c1 }
def k20c2 : Code := { maxStack := 2, maxLocals := 2, code := jdk_29_method_69_code, exceptionTable := #[], attributes := #[] }
def k20m2 : Method := { name := "min", desc := "(II)I", sig := { parameters := [.int, .int], returnType := some .int }, accessFlags := 9, code := some k20c2 }
/-- java/lang/Math -/
def k20 : Class := { plain "java/lang/Math" (some 0) with
  accessFlags := 49
  interfaces := #[]
  cf := some (fileOf pool20 1 #[.nestMembers #[98]] #[{ accessFlags := 2, nameIndex := 7, descriptorIndex := 8, attributes := #[] }, { accessFlags := 9, nameIndex := 198, descriptorIndex := 335, attributes := #[] }, { accessFlags := 9, nameIndex := 201, descriptorIndex := 335, attributes := #[] }] 49 4 #[] #[{ accessFlags := 25, nameIndex := 354, descriptorIndex := 339, attributes := #[] }, { accessFlags := 25, nameIndex := 358, descriptorIndex := 339, attributes := #[] }, { accessFlags := 25, nameIndex := 361, descriptorIndex := 339, attributes := #[] }, { accessFlags := 26, nameIndex := 364, descriptorIndex := 339, attributes := #[] }, { accessFlags := 26, nameIndex := 365, descriptorIndex := 339, attributes := #[] }, { accessFlags := 26, nameIndex := 172, descriptorIndex := 173, attributes := #[] }, { accessFlags := 26, nameIndex := 176, descriptorIndex := 173, attributes := #[] }, { accessFlags := 8, nameIndex := 344, descriptorIndex := 339, attributes := #[] }, { accessFlags := 8, nameIndex := 338, descriptorIndex := 339, attributes := #[] }, { accessFlags := 4120, nameIndex := 245, descriptorIndex := 246, attributes := #[] }])
  fields := #[{ name := "E", type := .double, accessFlags := 25, slot := 0, constantValue := 0 }, { name := "PI", type := .double, accessFlags := 25, slot := 1, constantValue := 0 }, { name := "TAU", type := .double, accessFlags := 25, slot := 2, constantValue := 0 }, { name := "DEGREES_TO_RADIANS", type := .double, accessFlags := 26, slot := 3, constantValue := 0 }, { name := "RADIANS_TO_DEGREES", type := .double, accessFlags := 26, slot := 4, constantValue := 0 }, { name := "negativeZeroFloatBits", type := .long, accessFlags := 26, slot := 5, constantValue := 0 }, { name := "negativeZeroDoubleBits", type := .long, accessFlags := 26, slot := 6, constantValue := 0 }, { name := "twoToTheDoubleScaleUp", type := .double, accessFlags := 8, slot := 7, constantValue := 0 }, { name := "twoToTheDoubleScaleDown", type := .double, accessFlags := 8, slot := 8, constantValue := 0 }, { name := "$assertionsDisabled", type := .boolean, accessFlags := 4120, slot := 9, constantValue := 0 }]
  methods := #[k20m0, k20m1, k20m2]
  instanceTypes := #[]
  staticTypes := #[.double, .double, .double, .double, .double, .long, .long, .double, .double, .boolean]
  resolved := Array.replicate 460 none
  statics := none }

def pool21 : Array CpInfo := pool [(1, .methodref 2 3), (0, .class_ 4), (0, .nameAndType 5 6), (0, u "java/lang/Record"), (0, u "<init>"), (0, u "()V"), (0, .interfaceMethodref 8 9), (0, .class_ 10), (0, .nameAndType 11 12), (0, u "java/util/List"), (0, u "isEmpty"), (0, u "()Z"), (7, .interfaceMethodref 8 21), (0, .nameAndType 22 23), (0, u "copyOf"), (0, u "(Ljava/util/Collection;)Ljava/util/List;"), (0, .fieldref 25 26), (0, .class_ 27), (0, .nameAndType 28 29), (0, u "com/example/tolerant_workflows/tolerantworkflows/engine/Job"), (0, u "tasks"), (0, u "Ljava/util/List;"), (0, .interfaceMethodref 8 31), (0, .nameAndType 32 33), (0, u "get"), (0, u "(I)Ljava/lang/Object;"), (0, .class_ 35), (0, u "com/example/tolerant_workflows/tolerantworkflows/model/Task"), (14, u "(Ljava/util/List;)V"), (5, u "first"), (0, u "()Lcom/example/tolerant_workflows/tolerantworkflows/model/Task;")] 24

def k21c0 : Code := { maxStack := 3, maxLocals := 2, code := prog_4_method_1_code, exceptionTable := #[], attributes := #[] }
def k21m0 : Method := { name := "<init>", desc := "(Ljava/util/List;)V", sig := { parameters := [(.object "java/util/List")], returnType := none }, accessFlags := 1, code := some k21c0 }
def k21c1 : Code := { maxStack := 2, maxLocals := 1, code := prog_4_method_2_code, exceptionTable := #[], attributes := #[] }
def k21m1 : Method := { name := "first", desc := "()Lcom/example/tolerant_workflows/tolerantworkflows/model/Task;", sig := { parameters := [], returnType := some (.object "com/example/tolerant_workflows/tolerantworkflows/model/Task") }, accessFlags := 1, code := some k21c1 }
/-- com/example/tolerant_workflows/tolerantworkflows/engine/Job -/
def k21 : Class := { plain "com/example/tolerant_workflows/tolerantworkflows/engine/Job" (some 2) with
  accessFlags := 49
  interfaces := #[]
  cf := some (fileOf pool21 25 #[] #[{ accessFlags := 1, nameIndex := 5, descriptorIndex := 50, attributes := #[] }, { accessFlags := 1, nameIndex := 56, descriptorIndex := 57, attributes := #[] }] 49 2 #[] #[{ accessFlags := 18, nameIndex := 28, descriptorIndex := 29, attributes := #[] }])
  fields := #[{ name := "tasks", type := (.object "java/util/List"), accessFlags := 18, slot := 0, constantValue := 0 }]
  methods := #[k21m0, k21m1]
  instanceTypes := #[(.object "java/util/List")]
  staticTypes := #[]
  resolved := Array.replicate 82 none
  statics := none }

def pool22 : Array CpInfo := pool [(2, .class_ 4), (1, u "java/lang/Object"), (0, u "<init>"), (0, u "()V"), (3, .class_ 11), (0, u "java/util/ImmutableCollections$List12"), (0, .class_ 13), (0, u "java/util/ImmutableCollections$ListN"), (3, u "Z"), (0, .class_ 19), (0, u "java/util/List"), (0, .interfaceMethodref 21 22), (0, .class_ 23), (0, .nameAndType 24 25), (0, u "java/util/Collection"), (0, u "isEmpty"), (0, u "()Z"), (2, u "of"), (1, .interfaceMethodref 21 31), (0, .nameAndType 32 33), (0, u "toArray"), (0, u "()[Ljava/lang/Object;"), (0, .interfaceMethodref 18 35), (0, .nameAndType 28 36), (0, u "([Ljava/lang/Object;)Ljava/util/List;"), (0, .methodref 38 39), (0, .class_ 40), (0, .nameAndType 41 42), (0, u "java/util/Objects"), (0, u "requireNonNull"), (0, u "(Ljava/lang/Object;)Ljava/lang/Object;"), (0, .methodref 12 44), (0, .nameAndType 5 45), (0, u "([Ljava/lang/Object;Z)V"), (1, .class_ 49), (1, u "java/util/ImmutableCollections"), (0, u "$assertionsDisabled"), (5, u "[Ljava/lang/Object;"), (5, u "EMPTY_LIST"), (0, u "Ljava/util/ImmutableCollections$ListN;"), (8, u "EMPTY_LIST_NULLS"), (22, u "SALT32L"), (0, u "J"), (2, u "REVERSE"), (6, u "archivedObjects"), (2, u "EMPTY"), (0, u "Ljava/lang/Object;"), (0, .class_ 112), (0, u "java/util/ImmutableCollections$SetN"), (5, u "EMPTY_SET"), (0, u "Ljava/util/ImmutableCollections$SetN;"), (0, .class_ 121), (0, u "java/util/ImmutableCollections$MapN"), (3, u "EMPTY_MAP"), (0, u "Ljava/util/ImmutableCollections$MapN;"), (4, u "EXPAND_FACTOR"), (0, u "I"), (9, u "listCopy"), (0, u "(Ljava/util/Collection;)Ljava/util/List;"), (7, u "listFromArray"), (17, .class_ 170), (0, u "java/util/ImmutableCollections$MapN$MapNIterator"), (0, .class_ 172), (0, u "java/util/ImmutableCollections$MapN$1"), (0, .class_ 174), (0, u "java/util/ImmutableCollections$Map1"), (0, .class_ 176), (0, u "java/util/ImmutableCollections$AbstractImmutableMap"), (0, .class_ 178), (0, u "java/util/ImmutableCollections$SetN$SetNIterator"), (0, .class_ 180), (0, u "java/util/ImmutableCollections$Set12"), (0, .class_ 182), (0, u "java/util/ImmutableCollections$Set12$1"), (0, .class_ 184), (0, u "java/util/ImmutableCollections$AbstractImmutableSet"), (0, .class_ 186), (0, u "java/util/ImmutableCollections$SubList"), (0, .class_ 188), (0, u "java/util/ImmutableCollections$ListItr"), (0, .class_ 190), (0, u "java/util/ImmutableCollections$AbstractImmutableList"), (0, .class_ 192), (0, u "java/util/ImmutableCollections$AbstractImmutableCollection"), (0, .class_ 194), (0, u "java/util/ImmutableCollections$Access"), (0, .class_ 196), (0, u "java/util/ImmutableCollections$Access$1")] 16

def k22m0 : Method := { name := "<init>", desc := "()V", sig := { parameters := [], returnType := none }, accessFlags := 2, code := none }
def k22c1 : Code := { maxStack := 1, maxLocals := 2, code := jdk_56_method_3_code, exceptionTable := #[], attributes := #[] }
def k22m1 : Method := { name := "listCopy", desc := "(Ljava/util/Collection;)Ljava/util/List;", sig := { parameters := [(.object "java/util/Collection")], returnType := some (.object "java/util/List") }, accessFlags := 8, code := some k22c1 }
def k22c2 : Code := { maxStack := 4, maxLocals := 3, code := jdk_56_method_4_code, exceptionTable := #[], attributes := #[] }
def k22m2 : Method := { name := "listFromArray", desc := "([Ljava/lang/Object;)Ljava/util/List;", sig := { parameters := [(.array (.object "java/lang/Object"))], returnType := some (.object "java/util/List") }, accessFlags := 136, code := some k22c2 }
/-- java/util/ImmutableCollections -/
def k22 : Class := { plain "java/util/ImmutableCollections" (some 0) with
  accessFlags := 32
  interfaces := #[]
  cf := some (fileOf pool22 47 #[.nestMembers #[120, 169, 171, 173, 175, 111, 177, 179, 181, 183, 12, 10, 185, 187, 189, 191, 193, 195]] #[{ accessFlags := 2, nameIndex := 5, descriptorIndex := 6, attributes := #[] }, { accessFlags := 8, nameIndex := 142, descriptorIndex := 143, attributes := #[] }, { accessFlags := 136, nameIndex := 151, descriptorIndex := 36, attributes := #[] }] 32 2 #[] #[{ accessFlags := 26, nameIndex := 95, descriptorIndex := 96, attributes := #[] }, { accessFlags := 26, nameIndex := 99, descriptorIndex := 17, attributes := #[] }, { accessFlags := 10, nameIndex := 106, descriptorIndex := 56, attributes := #[] }, { accessFlags := 26, nameIndex := 109, descriptorIndex := 110, attributes := #[] }, { accessFlags := 24, nameIndex := 62, descriptorIndex := 63, attributes := #[] }, { accessFlags := 24, nameIndex := 72, descriptorIndex := 63, attributes := #[] }, { accessFlags := 24, nameIndex := 118, descriptorIndex := 119, attributes := #[] }, { accessFlags := 24, nameIndex := 125, descriptorIndex := 126, attributes := #[] }, { accessFlags := 24, nameIndex := 131, descriptorIndex := 132, attributes := #[] }, { accessFlags := 4120, nameIndex := 50, descriptorIndex := 17, attributes := #[] }])
  fields := #[{ name := "SALT32L", type := .long, accessFlags := 26, slot := 0, constantValue := 0 }, { name := "REVERSE", type := .boolean, accessFlags := 26, slot := 1, constantValue := 0 }, { name := "archivedObjects", type := (.array (.object "java/lang/Object")), accessFlags := 10, slot := 2, constantValue := 0 }, { name := "EMPTY", type := (.object "java/lang/Object"), accessFlags := 26, slot := 3, constantValue := 0 }, { name := "EMPTY_LIST", type := (.object "java/util/ImmutableCollections$ListN"), accessFlags := 24, slot := 4, constantValue := 0 }, { name := "EMPTY_LIST_NULLS", type := (.object "java/util/ImmutableCollections$ListN"), accessFlags := 24, slot := 5, constantValue := 0 }, { name := "EMPTY_SET", type := (.object "java/util/ImmutableCollections$SetN"), accessFlags := 24, slot := 6, constantValue := 0 }, { name := "EMPTY_MAP", type := (.object "java/util/ImmutableCollections$MapN"), accessFlags := 24, slot := 7, constantValue := 0 }, { name := "EXPAND_FACTOR", type := .int, accessFlags := 24, slot := 8, constantValue := 0 }, { name := "$assertionsDisabled", type := .boolean, accessFlags := 4120, slot := 9, constantValue := 0 }]
  methods := #[k22m0, k22m1, k22m2]
  instanceTypes := #[]
  staticTypes := #[.long, .boolean, (.array (.object "java/lang/Object")), (.object "java/lang/Object"), (.object "java/util/ImmutableCollections$ListN"), (.object "java/util/ImmutableCollections$ListN"), (.object "java/util/ImmutableCollections$SetN"), (.object "java/util/ImmutableCollections$MapN"), .int, .boolean]
  resolved := Array.replicate 213 none
  statics := some 2 }

def pool23 : Array CpInfo := pool [(1, .methodref 2 3), (0, .class_ 4), (0, .nameAndType 5 6), (0, u "java/util/AbstractCollection"), (0, u "<init>"), (0, u "()V"), (1, .class_ 10), (1, u "java/util/ImmutableCollections"), (2, .class_ 14), (0, u "java/util/ImmutableCollections$AbstractImmutableCollection")] 41

def k23c0 : Code := { maxStack := 1, maxLocals := 1, code := jdk_47_method_1_code, exceptionTable := #[], attributes := #[] }
def k23m0 : Method := { name := "<init>", desc := "()V", sig := { parameters := [], returnType := none }, accessFlags := 0, code := some k23c0 }
/-- java/util/ImmutableCollections$AbstractImmutableCollection -/
def k23 : Class := { plain "java/util/ImmutableCollections$AbstractImmutableCollection" (some 13) with
  accessFlags := 1056
  interfaces := #[]
  cf := some (fileOf pool23 13 #[.nestHost 8] #[{ accessFlags := 0, nameIndex := 5, descriptorIndex := 6, attributes := #[] }] 1056 2 #[] #[])
  fields := #[]
  methods := #[k23m0]
  instanceTypes := #[]
  staticTypes := #[]
  resolved := Array.replicate 56 none
  statics := none }

def pool24 : Array CpInfo := pool [(1, .methodref 2 3), (0, .class_ 4), (0, .nameAndType 5 6), (0, u "java/util/ImmutableCollections$AbstractImmutableCollection"), (0, u "<init>"), (0, u "()V"), (1, .class_ 10), (1, u "java/util/ImmutableCollections"), (3, .class_ 16), (1, u "java/util/ImmutableCollections$AbstractImmutableList"), (60, .class_ 78), (0, u "java/util/List"), (45, .class_ 125), (0, u "java/util/RandomAccess")] 70

def k24c0 : Code := { maxStack := 1, maxLocals := 1, code := jdk_46_method_1_code, exceptionTable := #[], attributes := #[] }
def k24m0 : Method := { name := "<init>", desc := "()V", sig := { parameters := [], returnType := none }, accessFlags := 0, code := some k24c0 }
/-- java/util/ImmutableCollections$AbstractImmutableList -/
def k24 : Class := { plain "java/util/ImmutableCollections$AbstractImmutableList" (some 23) with
  accessFlags := 1056
  interfaces := #[15, 17]
  cf := some (fileOf pool24 14 #[.nestHost 8] #[{ accessFlags := 0, nameIndex := 5, descriptorIndex := 6, attributes := #[] }] 1056 2 #[77, 124] #[])
  fields := #[]
  methods := #[k24m0]
  instanceTypes := #[]
  staticTypes := #[]
  resolved := Array.replicate 196 none
  statics := none }

def pool25 : Array CpInfo := pool [(1, .methodref 2 3), (0, .class_ 4), (0, .nameAndType 5 6), (0, u "java/util/ImmutableCollections$AbstractImmutableList"), (0, u "<init>"), (0, u "()V"), (0, .methodref 8 9), (0, .class_ 10), (0, .nameAndType 11 12), (0, u "java/util/Objects"), (0, u "requireNonNull"), (0, u "(Ljava/lang/Object;)Ljava/lang/Object;"), (0, .fieldref 14 15), (0, .class_ 16), (0, .nameAndType 17 18), (0, u "java/util/ImmutableCollections$List12"), (0, u "e0"), (0, u "Ljava/lang/Object;"), (0, .fieldref 20 21), (0, .class_ 22), (0, .nameAndType 23 18), (0, u "java/util/ImmutableCollections"), (0, u "EMPTY"), (0, .fieldref 14 25), (0, .nameAndType 26 18), (0, u "e1"), (43, .class_ 71), (0, u "java/io/Serializable"), (4, u "(Ljava/lang/Object;)V"), (8, u "(Ljava/lang/Object;Ljava/lang/Object;)V"), (4, u "get"), (0, u "(I)Ljava/lang/Object;")] 33

def k25c0 : Code := { maxStack := 2, maxLocals := 2, code := jdk_44_method_1_code, exceptionTable := #[], attributes := #[] }
def k25m0 : Method := { name := "<init>", desc := "(Ljava/lang/Object;)V", sig := { parameters := [(.object "java/lang/Object")], returnType := none }, accessFlags := 0, code := some k25c0 }
def k25c1 : Code := { maxStack := 2, maxLocals := 3, code := jdk_44_method_2_code, exceptionTable := #[], attributes := #[] }
def k25m1 : Method := { name := "<init>", desc := "(Ljava/lang/Object;Ljava/lang/Object;)V", sig := { parameters := [(.object "java/lang/Object"), (.object "java/lang/Object")], returnType := none }, accessFlags := 0, code := some k25c1 }
def k25c2 : Code := { maxStack := 2, maxLocals := 2, code := jdk_44_method_5_code, exceptionTable := #[], attributes := #[] }
def k25m2 : Method := { name := "get", desc := "(I)Ljava/lang/Object;", sig := { parameters := [.int], returnType := some (.object "java/lang/Object") }, accessFlags := 1, code := some k25c2 }
/-- java/util/ImmutableCollections$List12 -/
def k25 : Class := { plain "java/util/ImmutableCollections$List12" (some 24) with
  accessFlags := 48
  interfaces := #[4]
  cf := some (fileOf pool25 14 #[.nestHost 20] #[{ accessFlags := 0, nameIndex := 5, descriptorIndex := 76, attributes := #[] }, { accessFlags := 0, nameIndex := 5, descriptorIndex := 85, attributes := #[] }, { accessFlags := 1, nameIndex := 90, descriptorIndex := 91, attributes := #[] }] 48 2 #[70] #[{ accessFlags := 18, nameIndex := 17, descriptorIndex := 18, attributes := #[] }, { accessFlags := 18, nameIndex := 26, descriptorIndex := 18, attributes := #[] }])
  fields := #[{ name := "e0", type := (.object "java/lang/Object"), accessFlags := 18, slot := 0, constantValue := 0 }, { name := "e1", type := (.object "java/lang/Object"), accessFlags := 18, slot := 1, constantValue := 0 }]
  methods := #[k25m0, k25m1, k25m2]
  instanceTypes := #[(.object "java/lang/Object"), (.object "java/lang/Object")]
  staticTypes := #[]
  resolved := Array.replicate 125 none
  statics := none }

def pool26 : Array CpInfo := pool [(1, .methodref 2 3), (0, .class_ 4), (0, .nameAndType 5 6), (0, u "java/util/ImmutableCollections$AbstractImmutableList"), (0, u "<init>"), (0, u "()V"), (0, .fieldref 8 9), (0, .class_ 10), (0, .nameAndType 11 12), (0, u "java/util/ImmutableCollections$ListN"), (0, u "elements"), (0, u "[Ljava/lang/Object;"), (0, .fieldref 8 14), (0, .nameAndType 15 16), (0, u "allowNulls"), (0, u "Z"), (42, .class_ 60), (0, u "java/io/Serializable"), (4, u "([Ljava/lang/Object;Z)V"), (13, u "get"), (0, u "(I)Ljava/lang/Object;"), (33, .class_ 115), (0, u "java/util/ImmutableCollections")] 3

def k26c0 : Code := { maxStack := 2, maxLocals := 3, code := jdk_45_method_1_code, exceptionTable := #[], attributes := #[] }
def k26m0 : Method := { name := "<init>", desc := "([Ljava/lang/Object;Z)V", sig := { parameters := [(.array (.object "java/lang/Object")), .boolean], returnType := none }, accessFlags := 2, code := some k26c0 }
def k26c1 : Code := { maxStack := 2, maxLocals := 2, code := jdk_45_method_4_code, exceptionTable := #[], attributes := #[] }
def k26m1 : Method := { name := "get", desc := "(I)Ljava/lang/Object;", sig := { parameters := [.int], returnType := some (.object "java/lang/Object") }, accessFlags := 1, code := some k26c1 }
/-- java/util/ImmutableCollections$ListN -/
def k26 : Class := { plain "java/util/ImmutableCollections$ListN" (some 24) with
  accessFlags := 48
  interfaces := #[4]
  cf := some (fileOf pool26 8 #[.nestHost 114] #[{ accessFlags := 2, nameIndex := 5, descriptorIndex := 65, attributes := #[] }, { accessFlags := 1, nameIndex := 79, descriptorIndex := 80, attributes := #[] }] 48 2 #[59] #[{ accessFlags := 18, nameIndex := 11, descriptorIndex := 12, attributes := #[] }, { accessFlags := 18, nameIndex := 15, descriptorIndex := 16, attributes := #[] }])
  fields := #[{ name := "elements", type := (.array (.object "java/lang/Object")), accessFlags := 18, slot := 0, constantValue := 0 }, { name := "allowNulls", type := .boolean, accessFlags := 18, slot := 1, constantValue := 0 }]
  methods := #[k26m0, k26m1]
  instanceTypes := #[(.array (.object "java/lang/Object")), .boolean]
  staticTypes := #[]
  resolved := Array.replicate 119 none
  statics := none }

def pool27 : Array CpInfo := pool [(2, .class_ 4), (1, u "java/lang/Object"), (0, u "<init>"), (0, u "()V"), (7, .class_ 16), (1, u "java/util/Arrays"), (57, .class_ 76), (1, u "java/util/Arrays$NaturalOrder"), (9, .methodref 2 87), (0, .nameAndType 88 89), (0, u "getClass"), (0, u "()Ljava/lang/Class;"), (20, .class_ 111), (0, u "[Ljava/lang/Object;"), (1, .class_ 115), (1, u "java/util/Arrays$LegacyMergeSort"), (1, u "Z"), (32, .methodref 151 152), (0, .class_ 153), (0, .nameAndType 154 155), (0, u "java/lang/System"), (0, u "arraycopy"), (0, u "(Ljava/lang/Object;ILjava/lang/Object;II)V"), (144, .methodref 14 301), (0, .nameAndType 302 303), (0, u "copyOf"), (0, u "([Ljava/lang/Object;ILjava/lang/Class;)[Ljava/lang/Object;"), (0, .methodref 305 306), (0, .class_ 307), (0, .nameAndType 308 309), (0, u "java/lang/Math"), (0, u "min"), (0, u "(II)I"), (65, .class_ 376), (0, u "java/util/Arrays$ArrayList"), (68, u "$assertionsDisabled"), (269, u "MIN_ARRAY_SORT_GRAN"), (0, u "I"), (2, u "INSERTIONSORT_THRESHOLD"), (140, u "([Ljava/lang/Object;I)[Ljava/lang/Object;"), (114, .class_ 976), (0, u "java/util/Arrays$ArrayItr")] 52

def k27m0 : Method := { name := "<init>", desc := "()V", sig := { parameters := [], returnType := none }, accessFlags := 2, code := none }
def k27c1 : Code := { maxStack := 3, maxLocals := 2, code := jdk_65_method_119_code, exceptionTable := #[], attributes := #[] }
def k27m1 : Method := { name := "copyOf", desc := "([Ljava/lang/Object;I)[Ljava/lang/Object;", sig := { parameters := [(.array (.object "java/lang/Object")), .int], returnType := some (.array (.object "java/lang/Object")) }, accessFlags := 9, code := some k27c1 }
def k27c2 : Code := { maxStack := 6, maxLocals := 4, code := jdk_65_method_120_code, exceptionTable := #[], attributes := #[] }
def k27m2 : Method := { name := "copyOf", desc := "([Ljava/lang/Object;ILjava/lang/Class;)[Ljava/lang/Object;", sig := { parameters := [(.array (.object "java/lang/Object")), .int, (.object "java/lang/Class")], returnType := some (.array (.object "java/lang/Object")) }, accessFlags := 9, code := some k27c2 }
/-- java/util/Arrays -/
def k27 : Class := { plain "java/util/Arrays" (some 0) with
  accessFlags := 49
  interfaces := #[]
  cf := some (fileOf pool27 14 #[.nestMembers #[975, 375, 113, 74]] #[{ accessFlags := 2, nameIndex := 5, descriptorIndex := 6, attributes := #[] }, { accessFlags := 9, nameIndex := 302, descriptorIndex := 860, attributes := #[] }, { accessFlags := 9, nameIndex := 302, descriptorIndex := 303, attributes := #[] }] 49 2 #[] #[{ accessFlags := 26, nameIndex := 715, descriptorIndex := 716, attributes := #[] }, { accessFlags := 26, nameIndex := 719, descriptorIndex := 716, attributes := #[] }, { accessFlags := 4120, nameIndex := 445, descriptorIndex := 117, attributes := #[] }])
  fields := #[{ name := "MIN_ARRAY_SORT_GRAN", type := .int, accessFlags := 26, slot := 0, constantValue := 0 }, { name := "INSERTIONSORT_THRESHOLD", type := .int, accessFlags := 26, slot := 1, constantValue := 0 }, { name := "$assertionsDisabled", type := .boolean, accessFlags := 4120, slot := 2, constantValue := 0 }]
  methods := #[k27m0, k27m1, k27m2]
  instanceTypes := #[]
  staticTypes := #[.int, .int, .boolean]
  resolved := Array.replicate 1029 none
  statics := none }

def pool28 : Array CpInfo := pool [(2, .class_ 4), (1, u "java/lang/Object"), (0, u "<init>"), (0, u "()V"), (1, .class_ 10), (1, u "java/lang/System"), (0, u "allowSecurityManager"), (0, u "I"), (16, u "cons"), (0, u "Ljava/io/Console;"), (77, .class_ 110), (1, u "java/lang/System$CallersHolder"), (43, u "initialErrStream"), (0, u "Ljava/io/PrintStream;"), (19, u "security"), (0, u "Ljava/lang/SecurityManager;"), (31, .class_ 209), (0, u "java/lang/System$1"), (7, u "props"), (0, u "Ljava/util/Properties;"), (2, u "lineSeparator"), (0, u "Ljava/lang/String;"), (96, .class_ 321), (1, u "java/lang/System$LoggerFinder"), (5, .class_ 328), (0, u "java/lang/System$Logger"), (67, u "err"), (2, u "out"), (91, u "notSupportedJnuEncoding"), (15, u "in"), (17, u "initialIn"), (0, u "Ljava/io/InputStream;"), (35, u "bootLayer"), (0, u "Ljava/lang/ModuleLayer;"), (99, .class_ 664), (0, u "java/lang/System$2"), (9, u "NEVER"), (2, u "MAYBE"), (49, u "arraycopy"), (0, u "(Ljava/lang/Object;ILjava/lang/Object;II)V"), (72, .class_ 802), (0, u "java/lang/System$Logger$Level")] 31

def k28m0 : Method := { name := "<init>", desc := "()V", sig := { parameters := [], returnType := none }, accessFlags := 2, code := none }
def k28m1 : Method := { name := "arraycopy", desc := "(Ljava/lang/Object;ILjava/lang/Object;II)V", sig := { parameters := [(.object "java/lang/Object"), .int, (.object "java/lang/Object"), .int, .int], returnType := none }, accessFlags := 265, code := none }
/-- java/lang/System -/
def k28 : Class := { plain "java/lang/System" (some 0) with
  accessFlags := 49
  interfaces := #[]
  cf := some (fileOf pool28 8 #[.nestMembers #[319, 327, 801, 108, 663, 208]] #[{ accessFlags := 2, nameIndex := 5, descriptorIndex := 6, attributes := #[] }, { accessFlags := 265, nameIndex := 727, descriptorIndex := 728, attributes := #[] }] 49 2 #[] #[{ accessFlags := 25, nameIndex := 507, descriptorIndex := 526, attributes := #[] }, { accessFlags := 25, nameIndex := 399, descriptorIndex := 155, attributes := #[] }, { accessFlags := 25, nameIndex := 396, descriptorIndex := 155, attributes := #[] }, { accessFlags := 10, nameIndex := 525, descriptorIndex := 526, attributes := #[] }, { accessFlags := 26, nameIndex := 674, descriptorIndex := 12, attributes := #[] }, { accessFlags := 26, nameIndex := 677, descriptorIndex := 12, attributes := #[] }, { accessFlags := 10, nameIndex := 11, descriptorIndex := 12, attributes := #[] }, { accessFlags := 74, nameIndex := 175, descriptorIndex := 176, attributes := #[] }, { accessFlags := 10, nameIndex := 491, descriptorIndex := 222, attributes := #[] }, { accessFlags := 74, nameIndex := 29, descriptorIndex := 30, attributes := #[] }, { accessFlags := 74, nameIndex := 154, descriptorIndex := 155, attributes := #[] }, { accessFlags := 10, nameIndex := 217, descriptorIndex := 218, attributes := #[] }, { accessFlags := 10, nameIndex := 221, descriptorIndex := 222, attributes := #[] }, { accessFlags := 8, nameIndex := 562, descriptorIndex := 563, attributes := #[] }])
  fields := #[{ name := "in", type := (.object "java/io/InputStream"), accessFlags := 25, slot := 0, constantValue := 0 }, { name := "out", type := (.object "java/io/PrintStream"), accessFlags := 25, slot := 1, constantValue := 0 }, { name := "err", type := (.object "java/io/PrintStream"), accessFlags := 25, slot := 2, constantValue := 0 }, { name := "initialIn", type := (.object "java/io/InputStream"), accessFlags := 10, slot := 3, constantValue := 0 }, { name := "NEVER", type := .int, accessFlags := 26, slot := 4, constantValue := 0 }, { name := "MAYBE", type := .int, accessFlags := 26, slot := 5, constantValue := 0 }, { name := "allowSecurityManager", type := .int, accessFlags := 10, slot := 6, constantValue := 0 }, { name := "security", type := (.object "java/lang/SecurityManager"), accessFlags := 74, slot := 7, constantValue := 0 }, { name := "notSupportedJnuEncoding", type := (.object "java/lang/String"), accessFlags := 10, slot := 8, constantValue := 0 }, { name := "cons", type := (.object "java/io/Console"), accessFlags := 74, slot := 9, constantValue := 0 }, { name := "initialErrStream", type := (.object "java/io/PrintStream"), accessFlags := 74, slot := 10, constantValue := 0 }, { name := "props", type := (.object "java/util/Properties"), accessFlags := 10, slot := 11, constantValue := 0 }, { name := "lineSeparator", type := (.object "java/lang/String"), accessFlags := 10, slot := 12, constantValue := 0 }, { name := "bootLayer", type := (.object "java/lang/ModuleLayer"), accessFlags := 8, slot := 13, constantValue := 0 }]
  methods := #[k28m0, k28m1]
  instanceTypes := #[]
  staticTypes := #[(.object "java/io/InputStream"), (.object "java/io/PrintStream"), (.object "java/io/PrintStream"), (.object "java/io/InputStream"), .int, .int, .int, (.object "java/lang/SecurityManager"), (.object "java/lang/String"), (.object "java/io/Console"), (.object "java/io/PrintStream"), (.object "java/util/Properties"), (.object "java/lang/String"), (.object "java/lang/ModuleLayer")]
  resolved := Array.replicate 834 none
  statics := none }

def pool29 : Array CpInfo := pool [(2, .class_ 4), (1, u "java/lang/Object"), (0, u "<init>"), (0, u "()V"), (35, .class_ 44), (1, u "java/util/Objects"), (0, u "requireNonNull"), (0, u "(Ljava/lang/Object;)Ljava/lang/Object;")] 137

def k29m0 : Method := { name := "<init>", desc := "()V", sig := { parameters := [], returnType := none }, accessFlags := 2, code := none }
def k29c1 : Code := { maxStack := 2, maxLocals := 1, code := jdk_31_method_10_code, exceptionTable := #[], attributes := #[] }
def k29m1 : Method := { name := "requireNonNull", desc := "(Ljava/lang/Object;)Ljava/lang/Object;", sig := { parameters := [(.object "java/lang/Object")], returnType := some (.object "java/lang/Object") }, accessFlags := 9, code := some k29c1 }
/-- java/util/Objects -/
def k29 : Class := { plain "java/util/Objects" (some 0) with
  accessFlags := 49
  interfaces := #[]
  cf := some (fileOf pool29 42 #[] #[{ accessFlags := 2, nameIndex := 5, descriptorIndex := 6, attributes := #[] }, { accessFlags := 9, nameIndex := 45, descriptorIndex := 46, attributes := #[] }] 49 2 #[] #[])
  fields := #[]
  methods := #[k29m0, k29m1]
  instanceTypes := #[]
  staticTypes := #[]
  resolved := Array.replicate 184 none
  statics := none }

def pool30 : Array CpInfo := pool [(4, .class_ 6), (1, u "java/lang/Object"), (0, u "<init>"), (0, u "()V"), (5, .class_ 16), (1, u "java/lang/StringLatin1"), (104, u "$assertionsDisabled"), (0, u "Z"), (98, .class_ 223), (1, u "java/lang/StringLatin1$LinesSpliterator"), (166, .class_ 391), (0, u "java/lang/StringLatin1$CharsSpliterator")] 3

def k30m0 : Method := { name := "<init>", desc := "()V", sig := { parameters := [], returnType := none }, accessFlags := 0, code := none }
/-- java/lang/StringLatin1 -/
def k30 : Class := { plain "java/lang/StringLatin1" (some 0) with
  accessFlags := 48
  interfaces := #[]
  cf := some (fileOf pool30 14 #[.nestMembers #[390, 221]] #[{ accessFlags := 0, nameIndex := 7, descriptorIndex := 8, attributes := #[] }] 48 4 #[] #[{ accessFlags := 4120, nameIndex := 121, descriptorIndex := 122, attributes := #[] }])
  fields := #[{ name := "$assertionsDisabled", type := .boolean, accessFlags := 4120, slot := 0, constantValue := 0 }]
  methods := #[k30m0]
  instanceTypes := #[]
  staticTypes := #[.boolean]
  resolved := Array.replicate 395 none
  statics := none }

def pool31 : Array CpInfo := pool [(2, .class_ 4), (1, u "java/lang/Object"), (0, u "<init>"), (0, u "()V"), (17, .class_ 26), (1, u "jdk/internal/util/Preconditions"), (28, .class_ 56), (0, u "jdk/internal/util/Preconditions$4"), (57, .class_ 115), (0, u "jdk/internal/util/Preconditions$1"), (7, u "SIOOBE_FORMATTER"), (0, u "Ljava/util/function/BiFunction;"), (0, .class_ 126), (0, u "jdk/internal/util/Preconditions$2"), (3, u "AIOOBE_FORMATTER"), (0, .class_ 132), (0, u "jdk/internal/util/Preconditions$3"), (3, u "IOOBE_FORMATTER")] 57

def k31m0 : Method := { name := "<init>", desc := "()V", sig := { parameters := [], returnType := none }, accessFlags := 1, code := none }
/-- jdk/internal/util/Preconditions -/
def k31 : Class := { plain "jdk/internal/util/Preconditions" (some 0) with
  accessFlags := 33
  interfaces := #[]
  cf := some (fileOf pool31 24 #[.nestMembers #[55, 131, 125, 114]] #[{ accessFlags := 1, nameIndex := 5, descriptorIndex := 6, attributes := #[] }] 33 2 #[] #[{ accessFlags := 25, nameIndex := 123, descriptorIndex := 124, attributes := #[] }, { accessFlags := 25, nameIndex := 130, descriptorIndex := 124, attributes := #[] }, { accessFlags := 25, nameIndex := 136, descriptorIndex := 124, attributes := #[] }])
  fields := #[{ name := "SIOOBE_FORMATTER", type := (.object "java/util/function/BiFunction"), accessFlags := 25, slot := 0, constantValue := 0 }, { name := "AIOOBE_FORMATTER", type := (.object "java/util/function/BiFunction"), accessFlags := 25, slot := 1, constantValue := 0 }, { name := "IOOBE_FORMATTER", type := (.object "java/util/function/BiFunction"), accessFlags := 25, slot := 2, constantValue := 0 }]
  methods := #[k31m0]
  instanceTypes := #[]
  staticTypes := #[(.object "java/util/function/BiFunction"), (.object "java/util/function/BiFunction"), (.object "java/util/function/BiFunction")]
  resolved := Array.replicate 194 none
  statics := some 3 }

def pool32 : Array CpInfo := pool [(9, u "<init>"), (6, .class_ 18), (1, u "java/lang/Object"), (0, u "()V"), (1, .class_ 23), (1, u "jdk/internal/util/ArraysSupport"), (0, u "LOG2_ARRAY_LONG_INDEX_SCALE"), (0, u "I"), (2, u "U"), (0, u "Ljdk/internal/misc/Unsafe;"), (8, u "BIG_ENDIAN"), (0, u "Z"), (8, u "LOG2_BYTE_BIT_SIZE"), (4, u "LOG2_ARRAY_INT_INDEX_SCALE"), (54, u "JLA"), (0, u "Ljdk/internal/access/JavaLangAccess;"), (11, u "LOG2_ARRAY_BOOLEAN_INDEX_SCALE"), (9, u "LOG2_ARRAY_BYTE_INDEX_SCALE"), (5, u "LOG2_ARRAY_CHAR_INDEX_SCALE"), (5, u "LOG2_ARRAY_SHORT_INDEX_SCALE"), (18, u "LOG2_ARRAY_FLOAT_INDEX_SCALE"), (24, u "LOG2_ARRAY_DOUBLE_INDEX_SCALE"), (89, u "T_BOOLEAN"), (2, u "T_CHAR"), (1, u "T_FLOAT"), (1, u "T_DOUBLE"), (1, u "T_BYTE"), (1, u "T_SHORT"), (1, u "T_INT"), (1, u "T_LONG"), (1, u "SOFT_MAX_ARRAY_LENGTH")] 83

def k32m0 : Method := { name := "<init>", desc := "()V", sig := { parameters := [], returnType := none }, accessFlags := 2, code := none }
/-- jdk/internal/util/ArraysSupport -/
def k32 : Class := { plain "jdk/internal/util/ArraysSupport" (some 0) with
  accessFlags := 33
  interfaces := #[]
  cf := some (fileOf pool32 21 #[] #[{ accessFlags := 2, nameIndex := 9, descriptorIndex := 19, attributes := #[] }] 33 16 #[] #[{ accessFlags := 24, nameIndex := 28, descriptorIndex := 29, attributes := #[] }, { accessFlags := 26, nameIndex := 38, descriptorIndex := 39, attributes := #[] }, { accessFlags := 25, nameIndex := 121, descriptorIndex := 25, attributes := #[] }, { accessFlags := 25, nameIndex := 131, descriptorIndex := 25, attributes := #[] }, { accessFlags := 25, nameIndex := 137, descriptorIndex := 25, attributes := #[] }, { accessFlags := 25, nameIndex := 143, descriptorIndex := 25, attributes := #[] }, { accessFlags := 25, nameIndex := 53, descriptorIndex := 25, attributes := #[] }, { accessFlags := 25, nameIndex := 24, descriptorIndex := 25, attributes := #[] }, { accessFlags := 25, nameIndex := 162, descriptorIndex := 25, attributes := #[] }, { accessFlags := 25, nameIndex := 187, descriptorIndex := 25, attributes := #[] }, { accessFlags := 26, nameIndex := 48, descriptorIndex := 25, attributes := #[] }, { accessFlags := 25, nameIndex := 277, descriptorIndex := 25, attributes := #[] }, { accessFlags := 25, nameIndex := 280, descriptorIndex := 25, attributes := #[] }, { accessFlags := 25, nameIndex := 282, descriptorIndex := 25, attributes := #[] }, { accessFlags := 25, nameIndex := 284, descriptorIndex := 25, attributes := #[] }, { accessFlags := 25, nameIndex := 286, descriptorIndex := 25, attributes := #[] }, { accessFlags := 25, nameIndex := 288, descriptorIndex := 25, attributes := #[] }, { accessFlags := 25, nameIndex := 290, descriptorIndex := 25, attributes := #[] }, { accessFlags := 25, nameIndex := 292, descriptorIndex := 25, attributes := #[] }, { accessFlags := 26, nameIndex := 108, descriptorIndex := 109, attributes := #[] }, { accessFlags := 25, nameIndex := 294, descriptorIndex := 25, attributes := #[] }])
  fields := #[{ name := "U", type := (.object "jdk/internal/misc/Unsafe"), accessFlags := 24, slot := 0, constantValue := 0 }, { name := "BIG_ENDIAN", type := .boolean, accessFlags := 26, slot := 1, constantValue := 0 }, { name := "LOG2_ARRAY_BOOLEAN_INDEX_SCALE", type := .int, accessFlags := 25, slot := 2, constantValue := 0 }, { name := "LOG2_ARRAY_BYTE_INDEX_SCALE", type := .int, accessFlags := 25, slot := 3, constantValue := 0 }, { name := "LOG2_ARRAY_CHAR_INDEX_SCALE", type := .int, accessFlags := 25, slot := 4, constantValue := 0 }, { name := "LOG2_ARRAY_SHORT_INDEX_SCALE", type := .int, accessFlags := 25, slot := 5, constantValue := 0 }, { name := "LOG2_ARRAY_INT_INDEX_SCALE", type := .int, accessFlags := 25, slot := 6, constantValue := 0 }, { name := "LOG2_ARRAY_LONG_INDEX_SCALE", type := .int, accessFlags := 25, slot := 7, constantValue := 0 }, { name := "LOG2_ARRAY_FLOAT_INDEX_SCALE", type := .int, accessFlags := 25, slot := 8, constantValue := 0 }, { name := "LOG2_ARRAY_DOUBLE_INDEX_SCALE", type := .int, accessFlags := 25, slot := 9, constantValue := 0 }, { name := "LOG2_BYTE_BIT_SIZE", type := .int, accessFlags := 26, slot := 10, constantValue := 0 }, { name := "T_BOOLEAN", type := .int, accessFlags := 25, slot := 11, constantValue := 0 }, { name := "T_CHAR", type := .int, accessFlags := 25, slot := 12, constantValue := 0 }, { name := "T_FLOAT", type := .int, accessFlags := 25, slot := 13, constantValue := 0 }, { name := "T_DOUBLE", type := .int, accessFlags := 25, slot := 14, constantValue := 0 }, { name := "T_BYTE", type := .int, accessFlags := 25, slot := 15, constantValue := 0 }, { name := "T_SHORT", type := .int, accessFlags := 25, slot := 16, constantValue := 0 }, { name := "T_INT", type := .int, accessFlags := 25, slot := 17, constantValue := 0 }, { name := "T_LONG", type := .int, accessFlags := 25, slot := 18, constantValue := 0 }, { name := "JLA", type := (.object "jdk/internal/access/JavaLangAccess"), accessFlags := 26, slot := 19, constantValue := 0 }, { name := "SOFT_MAX_ARRAY_LENGTH", type := .int, accessFlags := 25, slot := 20, constantValue := 0 }]
  methods := #[k32m0]
  instanceTypes := #[]
  staticTypes := #[(.object "jdk/internal/misc/Unsafe"), .boolean, .int, .int, .int, .int, .int, .int, .int, .int, .int, .int, .int, .int, .int, .int, .int, .int, .int, (.object "jdk/internal/access/JavaLangAccess"), .int]
  resolved := Array.replicate 378 none
  statics := none }

def pool33 : Array CpInfo := pool [(1, u "java/lang/Class"), (0, .class_ 1), (0, u "java/lang/Object"), (0, .class_ 3)] 0

/-- java/lang/Class -/
def k33 : Class := { plain "java/lang/Class" (some 0) with
  accessFlags := 49
  interfaces := #[]
  cf := some (fileOf pool33 2 #[] #[] 49 4 #[] #[])
  fields := #[]
  methods := #[]
  instanceTypes := #[]
  staticTypes := #[]
  resolved := Array.replicate 5 none
  statics := none }

/-- the primitive byte -/
def k34 : Class := { plain "byte" none with kind := .primitive 'B', accessFlags := 0x411 }
/-- [B -/
def k35 : Class := { plain "[B" (some 0) with kind := .array 34 .byte, interfaces := #[18, 4], accessFlags := 1041 }

/-- the primitive char -/
def k36 : Class := { plain "char" none with kind := .primitive 'C', accessFlags := 0x411 }
/-- [C -/
def k37 : Class := { plain "[C" (some 0) with kind := .array 36 .char, interfaces := #[18, 4], accessFlags := 1041 }

/-- the primitive int -/
def k38 : Class := { plain "int" none with kind := .primitive 'I', accessFlags := 0x411 }
/-- [I -/
def k39 : Class := { plain "[I" (some 0) with kind := .array 38 .int, interfaces := #[18, 4], accessFlags := 1041 }

/-- [Ljava/lang/Object; -/
def k40 : Class := { plain "[Ljava/lang/Object;" (some 0) with kind := .array 0 (.object "java/lang/Object"), interfaces := #[18, 4], accessFlags := 1041, mirror := some 4 }

def heap : Heap := #[{ cls := 9, slots := #[.long 0, .int 1, .null, .int 0, .null, .int 0, .int 0], vm := .statics 9 },
  { cls := 19, slots := #[.long 0, .int 0, .ref 5, .ref 6], vm := .statics 19 },
  { cls := 22, slots := #[.long 0, .int 0, .null, .ref 7, .ref 8, .null, .null, .null, .int 0, .int 1], vm := .statics 22 },
  { cls := 31, slots := #[.null, .null, .null], vm := .statics 31 },
  { cls := 33, slots := #[], vm := .mirror 40 },
  { cls := 40, slots := #[], vm := .none },
  { cls := 40, slots := #[], vm := .none },
  { cls := 0, slots := #[], vm := .none },
  { cls := 26, slots := #[.null, .int 0], vm := .none }]
def classes : Array Class := #[k0, k1, k2, k3, k4, k5, k6, k7, k8, k9, k10, k11, k12, k13, k14, k15, k16, k17, k18, k19, k20, k21, k22, k23, k24, k25, k26, k27, k28, k29, k30, k31, k32, k33, k34, k35, k36, k37, k38, k39, k40]
def interned : List (Array UInt16 × Addr) := []
def slotsUsed : Nat := 26
def theMethod : MethodId := ⟨1, 1⟩
def args0 : Array Value := #[.int 5, .int 6, .int 7, .int 2]
def aboutOver (below : List Frame) : State where
  vm := { classes := classes, interned := interned.toArray }
  heap := heap
  slotsUsed := slotsUsed
  threads := #[{ frames := .invoking theMethod args0 :: below }]
def below0 : List Frame := [.native { method := ⟨0, 0⟩, args := #[] }]
def about1 : State := aboutOver below0
def p0 : Program := .bare "" "" ""
def e0 : Env := launch0.env 0 0 0
theorem w_frames : about1.frames = Frame.invoking theMethod args0 :: below0 := rfl
set_option maxRecDepth 65536 in
theorem w_args : argsFit about1.vm theMethod args0 = true := by decide +kernel
set_option maxRecDepth 65536 in
theorem w_heap : heapFits about1 = true := by decide +kernel
set_option maxRecDepth 65536 in
theorem w_runnable : about1.curStatus? = some .runnable := by decide +kernel
set_option maxRecDepth 65536 in
theorem w_alone : about1.alone = true := by decide +kernel
set_option maxRecDepth 65536 in
theorem w_named : about1.methodNamed? x = some theMethod := by decide +kernel
set_option maxRecDepth 65536 in
theorem w_hears : about1.hears theMethod below0 = true := by decide +kernel
set_option maxRecDepth 65536 in
theorem w_ripe : about1.ripe theMethod args0 below0 = true := by decide +kernel
theorem w_running : about1.status = .running := rfl
set_option maxRecDepth 65536 in
theorem w_room : about1.hasRoom e0.platform room_1 = true :=
  launch0.hasRoom_least _ room_1 (by decide +kernel) (by decide +kernel) (by decide +kernel) (by decide +kernel) (by decide +kernel) (by decide +kernel)
theorem allAtoms_all (ts : List Jvm.Cond) (a : Array Jvm.Value) (st : Jvm.State) : (allAtoms ts).before a st = ts.all (fun c => c.before a st) := by
  induction ts with
  | nil => rfl
  | cons c t ih =>
    show (Jvm.Cond.and c (allAtoms t)).before a st = _
    rw [Jvm.Cond.before_and, ih, List.all_cons]
def words1 : List Jvm.Cond := Jvm.Cond.code x code maxLocals ret :: tables_1
/-- a 'code' word, met by the world's own term for the bytes: nothing is compared byte by byte -/
theorem code_word {y : MethodName} {bytes : ByteArray} {mx : Nat} {rt : Option FieldType} {a : Array Value} {s : State} {m : MethodId} {meth : Method} {c : Code} (h1 : s.methodNamed? y = some m) (h2 : s.vm.method? m = some meth) (h3 : meth.code = some c) (h4 : c.code = bytes)
    (h5 : (c.maxLocals == mx && c.exceptionTable.isEmpty && decide (c.maxStack ≤ mostOperands) && decide (meth.sig.returnType = rt) && !meth.locks && decide (parseMethodDescriptor y.desc = some meth.sig)) = true) : (Jvm.Cond.code y bytes mx rt).before a s = true := by
  simp only [Bool.and_eq_true, beq_iff_eq, Bool.not_eq_true', decide_eq_true_eq] at h5
  obtain ⟨⟨⟨⟨⟨g1, g2⟩, g3⟩, g4⟩, g5⟩, g6⟩ := h5
  simp [Cond.before, Cond.holds, Cond.value, h1, h2, h3, h4, g1, g2, g3, g4, g5, g6]
def isCode : Jvm.Cond → Bool
  | .code _ _ _ _ => true
  | _ => false
theorem all_split {L : List Jvm.Cond} {P : Jvm.Cond → Bool} (h1 : L.all (fun c => isCode c || P c) = true) (h2 : ∀ c ∈ L.filter isCode, P c = true) : L.all P = true := by
  refine List.all_eq_true.mpr fun c hc => ?_
  have h := List.all_eq_true.mp h1 c hc
  rcases Bool.eq_false_or_eq_true (isCode c) with hi | hi
  · exact h2 c (List.mem_filter.mpr ⟨hc, hi⟩)
  · simpa [hi] using h
set_option maxRecDepth 65536 in
theorem w_c0 : (Jvm.Cond.code x code maxLocals ret).before args0 about1 = true := code_word (m := ⟨1, 1⟩) (meth := k1m1) (c := k1c1) (by decide +kernel) rfl rfl rfl (by decide +kernel)
set_option maxRecDepth 65536 in
theorem w_c1 : (Jvm.Cond.code ({ cls := "java/lang/String", name := "<init>", desc := "([C)V" } : Jvm.MethodName) jdk_42_method_3_code (2 : Nat) (Option.none : Option Jvm.ClassFile.FieldType)).before args0 about1 = true := code_word (m := ⟨9, 1⟩) (meth := k9m1) (c := k9c1) (by decide +kernel) rfl rfl rfl (by decide +kernel)
set_option maxRecDepth 65536 in
theorem w_c2 : (Jvm.Cond.code ({ cls := "java/lang/String", name := "<init>", desc := "([CIILjava/lang/Void;)V" } : Jvm.MethodName) jdk_42_method_149_code (6 : Nat) (Option.none : Option Jvm.ClassFile.FieldType)).before args0 about1 = true := code_word (m := ⟨9, 2⟩) (meth := k9m2) (c := k9c2) (by decide +kernel) rfl rfl rfl (by decide +kernel)
set_option maxRecDepth 65536 in
theorem w_c3 : (Jvm.Cond.code ({ cls := "java/lang/Object", name := "<init>", desc := "()V" } : Jvm.MethodName) object_method_1_code (1 : Nat) (Option.none : Option Jvm.ClassFile.FieldType)).before args0 about1 = true := code_word (m := ⟨0, 0⟩) (meth := k0m0) (c := k0c0) (by decide +kernel) rfl rfl rfl (by decide +kernel)
set_option maxRecDepth 65536 in
theorem w_c4 : (Jvm.Cond.code ({ cls := "java/lang/StringUTF16", name := "compress", desc := "([CII)[B" } : Jvm.MethodName) jdk_52_method_16_code (6 : Nat) (Option.some (Jvm.ClassFile.FieldType.array Jvm.ClassFile.FieldType.byte))).before args0 about1 = true := code_word (m := ⟨10, 2⟩) (meth := k10m2) (c := k10c2) (by decide +kernel) rfl rfl rfl (by decide +kernel)
set_option maxRecDepth 65536 in
theorem w_c5 : (Jvm.Cond.code ({ cls := "java/lang/StringUTF16", name := "compress", desc := "([CI[BII)I" } : Jvm.MethodName) jdk_52_method_21_code (7 : Nat) (Option.some Jvm.ClassFile.FieldType.int)).before args0 about1 = true := code_word (m := ⟨10, 3⟩) (meth := k10m3) (c := k10c3) (by decide +kernel) rfl rfl rfl (by decide +kernel)
set_option maxRecDepth 65536 in
theorem w_c6 : (Jvm.Cond.code ({ cls := "java/lang/StringUTF16", name := "coderFromArrayLen", desc := "([BI)B" } : Jvm.MethodName) jdk_52_method_15_code (2 : Nat) (Option.some Jvm.ClassFile.FieldType.byte)).before args0 about1 = true := code_word (m := ⟨10, 1⟩) (meth := k10m1) (c := k10c1) (by decide +kernel) rfl rfl rfl (by decide +kernel)
set_option maxRecDepth 65536 in
theorem w_c7 : (Jvm.Cond.code ({ cls := "com/example/tolerant_workflows/tolerantworkflows/model/Task", name := "<init>", desc := "(Ljava/lang/String;ILjava/time/Duration;Ljava/util/Optional;Ljava/util/List;Ljava/util/List;)V" } : Jvm.MethodName) prog_61_method_1_code (7 : Nat) (Option.none : Option Jvm.ClassFile.FieldType)).before args0 about1 = true := code_word (m := ⟨3, 0⟩) (meth := k3m0) (c := k3c0) (by decide +kernel) rfl rfl rfl (by decide +kernel)
set_option maxRecDepth 65536 in
theorem w_c8 : (Jvm.Cond.code ({ cls := "java/lang/Record", name := "<init>", desc := "()V" } : Jvm.MethodName) jdk_30_method_1_code (1 : Nat) (Option.none : Option Jvm.ClassFile.FieldType)).before args0 about1 = true := code_word (m := ⟨2, 0⟩) (meth := k2m0) (c := k2c0) (by decide +kernel) rfl rfl rfl (by decide +kernel)
set_option maxRecDepth 65536 in
theorem w_c9 : (Jvm.Cond.code ({ cls := "java/util/ArrayList", name := "<init>", desc := "()V" } : Jvm.MethodName) jdk_38_method_2_code (1 : Nat) (Option.none : Option Jvm.ClassFile.FieldType)).before args0 about1 = true := code_word (m := ⟨19, 0⟩) (meth := k19m0) (c := k19c0) (by decide +kernel) rfl rfl rfl (by decide +kernel)
set_option maxRecDepth 65536 in
theorem w_c10 : (Jvm.Cond.code ({ cls := "java/util/AbstractList", name := "<init>", desc := "()V" } : Jvm.MethodName) jdk_39_method_1_code (1 : Nat) (Option.none : Option Jvm.ClassFile.FieldType)).before args0 about1 = true := code_word (m := ⟨16, 0⟩) (meth := k16m0) (c := k16c0) (by decide +kernel) rfl rfl rfl (by decide +kernel)
set_option maxRecDepth 65536 in
theorem w_c11 : (Jvm.Cond.code ({ cls := "java/util/AbstractCollection", name := "<init>", desc := "()V" } : Jvm.MethodName) jdk_22_method_1_code (1 : Nat) (Option.none : Option Jvm.ClassFile.FieldType)).before args0 about1 = true := code_word (m := ⟨13, 0⟩) (meth := k13m0) (c := k13c0) (by decide +kernel) rfl rfl rfl (by decide +kernel)
set_option maxRecDepth 65536 in
theorem w_c12 : (Jvm.Cond.code ({ cls := "java/util/ArrayList", name := "add", desc := "(Ljava/lang/Object;)Z" } : Jvm.MethodName) jdk_38_method_25_code (2 : Nat) (Option.some Jvm.ClassFile.FieldType.boolean)).before args0 about1 = true := code_word (m := ⟨19, 6⟩) (meth := k19m6) (c := k19c6) (by decide +kernel) rfl rfl rfl (by decide +kernel)
set_option maxRecDepth 65536 in
theorem w_c13 : (Jvm.Cond.code ({ cls := "java/util/ArrayList", name := "add", desc := "(Ljava/lang/Object;[Ljava/lang/Object;I)V" } : Jvm.MethodName) jdk_38_method_24_code (4 : Nat) (Option.none : Option Jvm.ClassFile.FieldType)).before args0 about1 = true := code_word (m := ⟨19, 5⟩) (meth := k19m5) (c := k19c5) (by decide +kernel) rfl rfl rfl (by decide +kernel)
set_option maxRecDepth 65536 in
theorem w_c14 : (Jvm.Cond.code ({ cls := "java/util/ArrayList", name := "grow", desc := "()[Ljava/lang/Object;" } : Jvm.MethodName) jdk_38_method_7_code (1 : Nat) (Option.some (Jvm.ClassFile.FieldType.array (Jvm.ClassFile.FieldType.object "java/lang/Object")))).before args0 about1 = true := code_word (m := ⟨19, 2⟩) (meth := k19m2) (c := k19c2) (by decide +kernel) rfl rfl rfl (by decide +kernel)
set_option maxRecDepth 65536 in
theorem w_c15 : (Jvm.Cond.code ({ cls := "java/util/ArrayList", name := "grow", desc := "(I)[Ljava/lang/Object;" } : Jvm.MethodName) jdk_38_method_6_code (4 : Nat) (Option.some (Jvm.ClassFile.FieldType.array (Jvm.ClassFile.FieldType.object "java/lang/Object")))).before args0 about1 = true := code_word (m := ⟨19, 1⟩) (meth := k19m1) (c := k19c1) (by decide +kernel) rfl rfl rfl (by decide +kernel)
set_option maxRecDepth 65536 in
theorem w_c16 : (Jvm.Cond.code ({ cls := "java/lang/Math", name := "max", desc := "(II)I" } : Jvm.MethodName) jdk_29_method_65_code (2 : Nat) (Option.some Jvm.ClassFile.FieldType.int)).before args0 about1 = true := code_word (m := ⟨20, 1⟩) (meth := k20m1) (c := k20c1) (by decide +kernel) rfl rfl rfl (by decide +kernel)
set_option maxRecDepth 65536 in
theorem w_c17 : (Jvm.Cond.code ({ cls := "com/example/tolerant_workflows/tolerantworkflows/engine/Job", name := "<init>", desc := "(Ljava/util/List;)V" } : Jvm.MethodName) prog_4_method_1_code (2 : Nat) (Option.none : Option Jvm.ClassFile.FieldType)).before args0 about1 = true := code_word (m := ⟨21, 0⟩) (meth := k21m0) (c := k21c0) (by decide +kernel) rfl rfl rfl (by decide +kernel)
set_option maxRecDepth 65536 in
theorem w_c18 : (Jvm.Cond.code ({ cls := "java/util/ArrayList", name := "isEmpty", desc := "()Z" } : Jvm.MethodName) jdk_38_method_9_code (1 : Nat) (Option.some Jvm.ClassFile.FieldType.boolean)).before args0 about1 = true := code_word (m := ⟨19, 3⟩) (meth := k19m3) (c := k19c3) (by decide +kernel) rfl rfl rfl (by decide +kernel)
set_option maxRecDepth 65536 in
theorem w_c19 : (Jvm.Cond.code ({ cls := "java/util/List", name := "copyOf", desc := "(Ljava/util/Collection;)Ljava/util/List;" } : Jvm.MethodName) jdk_40_method_48_code (1 : Nat) (Option.some (Jvm.ClassFile.FieldType.object "java/util/List"))).before args0 about1 = true := code_word (m := ⟨15, 4⟩) (meth := k15m4) (c := k15c4) (by decide +kernel) rfl rfl rfl (by decide +kernel)
set_option maxRecDepth 65536 in
theorem w_c20 : (Jvm.Cond.code ({ cls := "java/util/ImmutableCollections", name := "listCopy", desc := "(Ljava/util/Collection;)Ljava/util/List;" } : Jvm.MethodName) jdk_56_method_3_code (2 : Nat) (Option.some (Jvm.ClassFile.FieldType.object "java/util/List"))).before args0 about1 = true := code_word (m := ⟨22, 1⟩) (meth := k22m1) (c := k22c1) (by decide +kernel) rfl rfl rfl (by decide +kernel)
set_option maxRecDepth 65536 in
theorem w_c21 : (Jvm.Cond.code ({ cls := "java/util/ArrayList", name := "toArray", desc := "()[Ljava/lang/Object;" } : Jvm.MethodName) jdk_38_method_16_code (1 : Nat) (Option.some (Jvm.ClassFile.FieldType.array (Jvm.ClassFile.FieldType.object "java/lang/Object")))).before args0 about1 = true := code_word (m := ⟨19, 4⟩) (meth := k19m4) (c := k19c4) (by decide +kernel) rfl rfl rfl (by decide +kernel)
set_option maxRecDepth 65536 in
theorem w_c22 : (Jvm.Cond.code ({ cls := "java/util/Arrays", name := "copyOf", desc := "([Ljava/lang/Object;I)[Ljava/lang/Object;" } : Jvm.MethodName) jdk_65_method_119_code (2 : Nat) (Option.some (Jvm.ClassFile.FieldType.array (Jvm.ClassFile.FieldType.object "java/lang/Object")))).before args0 about1 = true := code_word (m := ⟨27, 1⟩) (meth := k27m1) (c := k27c1) (by decide +kernel) rfl rfl rfl (by decide +kernel)
set_option maxRecDepth 65536 in
theorem w_c23 : (Jvm.Cond.code ({ cls := "java/util/Arrays", name := "copyOf", desc := "([Ljava/lang/Object;ILjava/lang/Class;)[Ljava/lang/Object;" } : Jvm.MethodName) jdk_65_method_120_code (4 : Nat) (Option.some (Jvm.ClassFile.FieldType.array (Jvm.ClassFile.FieldType.object "java/lang/Object")))).before args0 about1 = true := code_word (m := ⟨27, 2⟩) (meth := k27m2) (c := k27c2) (by decide +kernel) rfl rfl rfl (by decide +kernel)
set_option maxRecDepth 65536 in
theorem w_c24 : (Jvm.Cond.code ({ cls := "java/lang/Math", name := "min", desc := "(II)I" } : Jvm.MethodName) jdk_29_method_69_code (2 : Nat) (Option.some Jvm.ClassFile.FieldType.int)).before args0 about1 = true := code_word (m := ⟨20, 2⟩) (meth := k20m2) (c := k20c2) (by decide +kernel) rfl rfl rfl (by decide +kernel)
set_option maxRecDepth 65536 in
theorem w_c25 : (Jvm.Cond.code ({ cls := "java/util/List", name := "of", desc := "([Ljava/lang/Object;)Ljava/util/List;" } : Jvm.MethodName) jdk_40_method_47_code (2 : Nat) (Option.some (Jvm.ClassFile.FieldType.object "java/util/List"))).before args0 about1 = true := code_word (m := ⟨15, 3⟩) (meth := k15m3) (c := k15c3) (by decide +kernel) rfl rfl rfl (by decide +kernel)
set_option maxRecDepth 65536 in
theorem w_c26 : (Jvm.Cond.code ({ cls := "java/util/ImmutableCollections$List12", name := "<init>", desc := "(Ljava/lang/Object;Ljava/lang/Object;)V" } : Jvm.MethodName) jdk_44_method_2_code (3 : Nat) (Option.none : Option Jvm.ClassFile.FieldType)).before args0 about1 = true := code_word (m := ⟨25, 1⟩) (meth := k25m1) (c := k25c1) (by decide +kernel) rfl rfl rfl (by decide +kernel)
set_option maxRecDepth 65536 in
theorem w_c27 : (Jvm.Cond.code ({ cls := "java/util/ImmutableCollections$AbstractImmutableList", name := "<init>", desc := "()V" } : Jvm.MethodName) jdk_46_method_1_code (1 : Nat) (Option.none : Option Jvm.ClassFile.FieldType)).before args0 about1 = true := code_word (m := ⟨24, 0⟩) (meth := k24m0) (c := k24c0) (by decide +kernel) rfl rfl rfl (by decide +kernel)
set_option maxRecDepth 65536 in
theorem w_c28 : (Jvm.Cond.code ({ cls := "java/util/ImmutableCollections$AbstractImmutableCollection", name := "<init>", desc := "()V" } : Jvm.MethodName) jdk_47_method_1_code (1 : Nat) (Option.none : Option Jvm.ClassFile.FieldType)).before args0 about1 = true := code_word (m := ⟨23, 0⟩) (meth := k23m0) (c := k23c0) (by decide +kernel) rfl rfl rfl (by decide +kernel)
set_option maxRecDepth 65536 in
theorem w_c29 : (Jvm.Cond.code ({ cls := "java/util/Objects", name := "requireNonNull", desc := "(Ljava/lang/Object;)Ljava/lang/Object;" } : Jvm.MethodName) jdk_31_method_10_code (1 : Nat) (Option.some (Jvm.ClassFile.FieldType.object "java/lang/Object"))).before args0 about1 = true := code_word (m := ⟨29, 1⟩) (meth := k29m1) (c := k29c1) (by decide +kernel) rfl rfl rfl (by decide +kernel)
set_option maxRecDepth 65536 in
theorem w_c30 : (Jvm.Cond.code ({ cls := "com/example/tolerant_workflows/tolerantworkflows/engine/Job", name := "first", desc := "()Lcom/example/tolerant_workflows/tolerantworkflows/model/Task;" } : Jvm.MethodName) prog_4_method_2_code (1 : Nat) (Option.some (Jvm.ClassFile.FieldType.object "com/example/tolerant_workflows/tolerantworkflows/model/Task"))).before args0 about1 = true := code_word (m := ⟨21, 1⟩) (meth := k21m1) (c := k21c1) (by decide +kernel) rfl rfl rfl (by decide +kernel)
set_option maxRecDepth 65536 in
theorem w_c31 : (Jvm.Cond.code ({ cls := "java/util/ImmutableCollections$List12", name := "get", desc := "(I)Ljava/lang/Object;" } : Jvm.MethodName) jdk_44_method_5_code (2 : Nat) (Option.some (Jvm.ClassFile.FieldType.object "java/lang/Object"))).before args0 about1 = true := code_word (m := ⟨25, 2⟩) (meth := k25m2) (c := k25c2) (by decide +kernel) rfl rfl rfl (by decide +kernel)
set_option maxRecDepth 65536 in
theorem w_c32 : (Jvm.Cond.code ({ cls := "com/example/tolerant_workflows/tolerantworkflows/model/Task", name := "index", desc := "()I" } : Jvm.MethodName) prog_61_method_7_code (1 : Nat) (Option.some Jvm.ClassFile.FieldType.int)).before args0 about1 = true := code_word (m := ⟨3, 1⟩) (meth := k3m1) (c := k3c1) (by decide +kernel) rfl rfl rfl (by decide +kernel)
set_option maxRecDepth 65536 in
theorem w_c33 : (Jvm.Cond.code ({ cls := "java/util/ImmutableCollections", name := "listFromArray", desc := "([Ljava/lang/Object;)Ljava/util/List;" } : Jvm.MethodName) jdk_56_method_4_code (3 : Nat) (Option.some (Jvm.ClassFile.FieldType.object "java/util/List"))).before args0 about1 = true := code_word (m := ⟨22, 2⟩) (meth := k22m2) (c := k22c2) (by decide +kernel) rfl rfl rfl (by decide +kernel)
set_option maxRecDepth 65536 in
theorem w_c34 : (Jvm.Cond.code ({ cls := "java/util/ImmutableCollections$ListN", name := "<init>", desc := "([Ljava/lang/Object;Z)V" } : Jvm.MethodName) jdk_45_method_1_code (3 : Nat) (Option.none : Option Jvm.ClassFile.FieldType)).before args0 about1 = true := code_word (m := ⟨26, 0⟩) (meth := k26m0) (c := k26c0) (by decide +kernel) rfl rfl rfl (by decide +kernel)
set_option maxRecDepth 65536 in
theorem w_c35 : (Jvm.Cond.code ({ cls := "java/util/ImmutableCollections$ListN", name := "get", desc := "(I)Ljava/lang/Object;" } : Jvm.MethodName) jdk_45_method_4_code (2 : Nat) (Option.some (Jvm.ClassFile.FieldType.object "java/lang/Object"))).before args0 about1 = true := code_word (m := ⟨26, 1⟩) (meth := k26m1) (c := k26c1) (by decide +kernel) rfl rfl rfl (by decide +kernel)
set_option maxRecDepth 65536 in
theorem w_c36 : (Jvm.Cond.code ({ cls := "java/util/ImmutableCollections$List12", name := "<init>", desc := "(Ljava/lang/Object;)V" } : Jvm.MethodName) jdk_44_method_1_code (2 : Nat) (Option.none : Option Jvm.ClassFile.FieldType)).before args0 about1 = true := code_word (m := ⟨25, 0⟩) (meth := k25m0) (c := k25c0) (by decide +kernel) rfl rfl rfl (by decide +kernel)
def codes1 : List Jvm.Cond := [Jvm.Cond.code x code maxLocals ret, Jvm.Cond.code ({ cls := "java/lang/String", name := "<init>", desc := "([C)V" } : Jvm.MethodName) jdk_42_method_3_code (2 : Nat) (Option.none : Option Jvm.ClassFile.FieldType), Jvm.Cond.code ({ cls := "java/lang/String", name := "<init>", desc := "([CIILjava/lang/Void;)V" } : Jvm.MethodName) jdk_42_method_149_code (6 : Nat) (Option.none : Option Jvm.ClassFile.FieldType), Jvm.Cond.code ({ cls := "java/lang/Object", name := "<init>", desc := "()V" } : Jvm.MethodName) object_method_1_code (1 : Nat) (Option.none : Option Jvm.ClassFile.FieldType), Jvm.Cond.code ({ cls := "java/lang/StringUTF16", name := "compress", desc := "([CII)[B" } : Jvm.MethodName) jdk_52_method_16_code (6 : Nat) (Option.some (Jvm.ClassFile.FieldType.array Jvm.ClassFile.FieldType.byte)), Jvm.Cond.code ({ cls := "java/lang/StringUTF16", name := "compress", desc := "([CI[BII)I" } : Jvm.MethodName) jdk_52_method_21_code (7 : Nat) (Option.some Jvm.ClassFile.FieldType.int), Jvm.Cond.code ({ cls := "java/lang/StringUTF16", name := "coderFromArrayLen", desc := "([BI)B" } : Jvm.MethodName) jdk_52_method_15_code (2 : Nat) (Option.some Jvm.ClassFile.FieldType.byte), Jvm.Cond.code ({ cls := "com/example/tolerant_workflows/tolerantworkflows/model/Task", name := "<init>", desc := "(Ljava/lang/String;ILjava/time/Duration;Ljava/util/Optional;Ljava/util/List;Ljava/util/List;)V" } : Jvm.MethodName) prog_61_method_1_code (7 : Nat) (Option.none : Option Jvm.ClassFile.FieldType), Jvm.Cond.code ({ cls := "java/lang/Record", name := "<init>", desc := "()V" } : Jvm.MethodName) jdk_30_method_1_code (1 : Nat) (Option.none : Option Jvm.ClassFile.FieldType), Jvm.Cond.code ({ cls := "java/util/ArrayList", name := "<init>", desc := "()V" } : Jvm.MethodName) jdk_38_method_2_code (1 : Nat) (Option.none : Option Jvm.ClassFile.FieldType), Jvm.Cond.code ({ cls := "java/util/AbstractList", name := "<init>", desc := "()V" } : Jvm.MethodName) jdk_39_method_1_code (1 : Nat) (Option.none : Option Jvm.ClassFile.FieldType), Jvm.Cond.code ({ cls := "java/util/AbstractCollection", name := "<init>", desc := "()V" } : Jvm.MethodName) jdk_22_method_1_code (1 : Nat) (Option.none : Option Jvm.ClassFile.FieldType), Jvm.Cond.code ({ cls := "java/util/ArrayList", name := "add", desc := "(Ljava/lang/Object;)Z" } : Jvm.MethodName) jdk_38_method_25_code (2 : Nat) (Option.some Jvm.ClassFile.FieldType.boolean), Jvm.Cond.code ({ cls := "java/util/ArrayList", name := "add", desc := "(Ljava/lang/Object;[Ljava/lang/Object;I)V" } : Jvm.MethodName) jdk_38_method_24_code (4 : Nat) (Option.none : Option Jvm.ClassFile.FieldType), Jvm.Cond.code ({ cls := "java/util/ArrayList", name := "grow", desc := "()[Ljava/lang/Object;" } : Jvm.MethodName) jdk_38_method_7_code (1 : Nat) (Option.some (Jvm.ClassFile.FieldType.array (Jvm.ClassFile.FieldType.object "java/lang/Object"))), Jvm.Cond.code ({ cls := "java/util/ArrayList", name := "grow", desc := "(I)[Ljava/lang/Object;" } : Jvm.MethodName) jdk_38_method_6_code (4 : Nat) (Option.some (Jvm.ClassFile.FieldType.array (Jvm.ClassFile.FieldType.object "java/lang/Object"))), Jvm.Cond.code ({ cls := "java/lang/Math", name := "max", desc := "(II)I" } : Jvm.MethodName) jdk_29_method_65_code (2 : Nat) (Option.some Jvm.ClassFile.FieldType.int), Jvm.Cond.code ({ cls := "com/example/tolerant_workflows/tolerantworkflows/engine/Job", name := "<init>", desc := "(Ljava/util/List;)V" } : Jvm.MethodName) prog_4_method_1_code (2 : Nat) (Option.none : Option Jvm.ClassFile.FieldType), Jvm.Cond.code ({ cls := "java/util/ArrayList", name := "isEmpty", desc := "()Z" } : Jvm.MethodName) jdk_38_method_9_code (1 : Nat) (Option.some Jvm.ClassFile.FieldType.boolean), Jvm.Cond.code ({ cls := "java/util/List", name := "copyOf", desc := "(Ljava/util/Collection;)Ljava/util/List;" } : Jvm.MethodName) jdk_40_method_48_code (1 : Nat) (Option.some (Jvm.ClassFile.FieldType.object "java/util/List")), Jvm.Cond.code ({ cls := "java/util/ImmutableCollections", name := "listCopy", desc := "(Ljava/util/Collection;)Ljava/util/List;" } : Jvm.MethodName) jdk_56_method_3_code (2 : Nat) (Option.some (Jvm.ClassFile.FieldType.object "java/util/List")), Jvm.Cond.code ({ cls := "java/util/ArrayList", name := "toArray", desc := "()[Ljava/lang/Object;" } : Jvm.MethodName) jdk_38_method_16_code (1 : Nat) (Option.some (Jvm.ClassFile.FieldType.array (Jvm.ClassFile.FieldType.object "java/lang/Object"))), Jvm.Cond.code ({ cls := "java/util/Arrays", name := "copyOf", desc := "([Ljava/lang/Object;I)[Ljava/lang/Object;" } : Jvm.MethodName) jdk_65_method_119_code (2 : Nat) (Option.some (Jvm.ClassFile.FieldType.array (Jvm.ClassFile.FieldType.object "java/lang/Object"))), Jvm.Cond.code ({ cls := "java/util/Arrays", name := "copyOf", desc := "([Ljava/lang/Object;ILjava/lang/Class;)[Ljava/lang/Object;" } : Jvm.MethodName) jdk_65_method_120_code (4 : Nat) (Option.some (Jvm.ClassFile.FieldType.array (Jvm.ClassFile.FieldType.object "java/lang/Object"))), Jvm.Cond.code ({ cls := "java/lang/Math", name := "min", desc := "(II)I" } : Jvm.MethodName) jdk_29_method_69_code (2 : Nat) (Option.some Jvm.ClassFile.FieldType.int), Jvm.Cond.code ({ cls := "java/util/List", name := "of", desc := "([Ljava/lang/Object;)Ljava/util/List;" } : Jvm.MethodName) jdk_40_method_47_code (2 : Nat) (Option.some (Jvm.ClassFile.FieldType.object "java/util/List")), Jvm.Cond.code ({ cls := "java/util/ImmutableCollections$List12", name := "<init>", desc := "(Ljava/lang/Object;Ljava/lang/Object;)V" } : Jvm.MethodName) jdk_44_method_2_code (3 : Nat) (Option.none : Option Jvm.ClassFile.FieldType), Jvm.Cond.code ({ cls := "java/util/ImmutableCollections$AbstractImmutableList", name := "<init>", desc := "()V" } : Jvm.MethodName) jdk_46_method_1_code (1 : Nat) (Option.none : Option Jvm.ClassFile.FieldType), Jvm.Cond.code ({ cls := "java/util/ImmutableCollections$AbstractImmutableCollection", name := "<init>", desc := "()V" } : Jvm.MethodName) jdk_47_method_1_code (1 : Nat) (Option.none : Option Jvm.ClassFile.FieldType), Jvm.Cond.code ({ cls := "java/util/Objects", name := "requireNonNull", desc := "(Ljava/lang/Object;)Ljava/lang/Object;" } : Jvm.MethodName) jdk_31_method_10_code (1 : Nat) (Option.some (Jvm.ClassFile.FieldType.object "java/lang/Object")), Jvm.Cond.code ({ cls := "com/example/tolerant_workflows/tolerantworkflows/engine/Job", name := "first", desc := "()Lcom/example/tolerant_workflows/tolerantworkflows/model/Task;" } : Jvm.MethodName) prog_4_method_2_code (1 : Nat) (Option.some (Jvm.ClassFile.FieldType.object "com/example/tolerant_workflows/tolerantworkflows/model/Task")), Jvm.Cond.code ({ cls := "java/util/ImmutableCollections$List12", name := "get", desc := "(I)Ljava/lang/Object;" } : Jvm.MethodName) jdk_44_method_5_code (2 : Nat) (Option.some (Jvm.ClassFile.FieldType.object "java/lang/Object")), Jvm.Cond.code ({ cls := "com/example/tolerant_workflows/tolerantworkflows/model/Task", name := "index", desc := "()I" } : Jvm.MethodName) prog_61_method_7_code (1 : Nat) (Option.some Jvm.ClassFile.FieldType.int), Jvm.Cond.code ({ cls := "java/util/ImmutableCollections", name := "listFromArray", desc := "([Ljava/lang/Object;)Ljava/util/List;" } : Jvm.MethodName) jdk_56_method_4_code (3 : Nat) (Option.some (Jvm.ClassFile.FieldType.object "java/util/List")), Jvm.Cond.code ({ cls := "java/util/ImmutableCollections$ListN", name := "<init>", desc := "([Ljava/lang/Object;Z)V" } : Jvm.MethodName) jdk_45_method_1_code (3 : Nat) (Option.none : Option Jvm.ClassFile.FieldType), Jvm.Cond.code ({ cls := "java/util/ImmutableCollections$ListN", name := "get", desc := "(I)Ljava/lang/Object;" } : Jvm.MethodName) jdk_45_method_4_code (2 : Nat) (Option.some (Jvm.ClassFile.FieldType.object "java/lang/Object")), Jvm.Cond.code ({ cls := "java/util/ImmutableCollections$List12", name := "<init>", desc := "(Ljava/lang/Object;)V" } : Jvm.MethodName) jdk_44_method_1_code (2 : Nat) (Option.none : Option Jvm.ClassFile.FieldType)]
set_option maxRecDepth 65536 in
theorem codes_eq : words1.filter isCode = codes1 := rfl
theorem w_codes : ∀ c ∈ words1.filter isCode, c.before args0 about1 = true := by
  rw [codes_eq]
  intro c hc
  simp only [codes1, List.mem_cons, List.not_mem_nil, or_false] at hc
  rcases hc with rfl | rfl | rfl | rfl | rfl | rfl | rfl | rfl | rfl | rfl | rfl | rfl | rfl | rfl | rfl | rfl | rfl | rfl | rfl | rfl | rfl | rfl | rfl | rfl | rfl | rfl | rfl | rfl | rfl | rfl | rfl | rfl | rfl | rfl | rfl | rfl | rfl
  · exact w_c0
  · exact w_c1
  · exact w_c2
  · exact w_c3
  · exact w_c4
  · exact w_c5
  · exact w_c6
  · exact w_c7
  · exact w_c8
  · exact w_c9
  · exact w_c10
  · exact w_c11
  · exact w_c12
  · exact w_c13
  · exact w_c14
  · exact w_c15
  · exact w_c16
  · exact w_c17
  · exact w_c18
  · exact w_c19
  · exact w_c20
  · exact w_c21
  · exact w_c22
  · exact w_c23
  · exact w_c24
  · exact w_c25
  · exact w_c26
  · exact w_c27
  · exact w_c28
  · exact w_c29
  · exact w_c30
  · exact w_c31
  · exact w_c32
  · exact w_c33
  · exact w_c34
  · exact w_c35
  · exact w_c36
set_option maxRecDepth 65536 in
theorem w_t1 : (words1.take 24).all (fun c => isCode c || c.before args0 about1) = true := by decide +kernel
set_option maxRecDepth 65536 in
theorem w_t2 : ((words1.drop 24).take 24).all (fun c => isCode c || c.before args0 about1) = true := by decide +kernel
set_option maxRecDepth 65536 in
theorem w_t3 : (((words1.drop 24).drop 24).take 24).all (fun c => isCode c || c.before args0 about1) = true := by decide +kernel
set_option maxRecDepth 65536 in
theorem w_t4 : ((((words1.drop 24).drop 24).drop 24).take 24).all (fun c => isCode c || c.before args0 about1) = true := by decide +kernel
set_option maxRecDepth 65536 in
theorem w_t5 : (((((words1.drop 24).drop 24).drop 24).drop 24).take 24).all (fun c => isCode c || c.before args0 about1) = true := by decide +kernel
set_option maxRecDepth 65536 in
theorem w_t6 : ((((((words1.drop 24).drop 24).drop 24).drop 24).drop 24).take 24).all (fun c => isCode c || c.before args0 about1) = true := by decide +kernel
set_option maxRecDepth 65536 in
theorem w_t7 : (((((((words1.drop 24).drop 24).drop 24).drop 24).drop 24).drop 24).take 24).all (fun c => isCode c || c.before args0 about1) = true := by decide +kernel
set_option maxRecDepth 65536 in
theorem w_t8 : ((((((((words1.drop 24).drop 24).drop 24).drop 24).drop 24).drop 24).drop 24).take 24).all (fun c => isCode c || c.before args0 about1) = true := by decide +kernel
set_option maxRecDepth 65536 in
theorem w_t9 : (((((((((words1.drop 24).drop 24).drop 24).drop 24).drop 24).drop 24).drop 24).drop 24).take 24).all (fun c => isCode c || c.before args0 about1) = true := by decide +kernel
set_option maxRecDepth 65536 in
theorem w_t10 : ((((((((((words1.drop 24).drop 24).drop 24).drop 24).drop 24).drop 24).drop 24).drop 24).drop 24).take 24).all (fun c => isCode c || c.before args0 about1) = true := by decide +kernel
set_option maxRecDepth 65536 in
theorem w_t11 : ((((((((((words1.drop 24).drop 24).drop 24).drop 24).drop 24).drop 24).drop 24).drop 24).drop 24).drop 24).all (fun c => isCode c || c.before args0 about1) = true := by decide +kernel
theorem w_tables : (allAtoms (Jvm.Cond.code x code maxLocals ret :: tables_1)).before args0 about1 = true := by
  rw [allAtoms_all]
  show words1.all (fun c => c.before args0 about1) = true
  refine all_split ?_ w_codes
  rw [← List.take_append_drop 24 words1, List.all_append, w_t1, ← List.take_append_drop 24 (words1.drop 24), List.all_append, w_t2, ← List.take_append_drop 24 ((words1.drop 24).drop 24), List.all_append, w_t3, ← List.take_append_drop 24 (((words1.drop 24).drop 24).drop 24), List.all_append, w_t4, ← List.take_append_drop 24 ((((words1.drop 24).drop 24).drop 24).drop 24), List.all_append, w_t5, ← List.take_append_drop 24 (((((words1.drop 24).drop 24).drop 24).drop 24).drop 24), List.all_append, w_t6, ← List.take_append_drop 24 ((((((words1.drop 24).drop 24).drop 24).drop 24).drop 24).drop 24), List.all_append, w_t7, ← List.take_append_drop 24 (((((((words1.drop 24).drop 24).drop 24).drop 24).drop 24).drop 24).drop 24), List.all_append, w_t8, ← List.take_append_drop 24 ((((((((words1.drop 24).drop 24).drop 24).drop 24).drop 24).drop 24).drop 24).drop 24), List.all_append, w_t9, ← List.take_append_drop 24 (((((((((words1.drop 24).drop 24).drop 24).drop 24).drop 24).drop 24).drop 24).drop 24).drop 24), List.all_append, w_t10, w_t11]
  rfl
set_option maxRecDepth 65536 in
theorem w_rest : rest_1_c.before args0 about1 = true := by decide +kernel
set_option maxRecDepth 65536 in
theorem w_case : (Jvm.Cond.and given_1 narrow_1).before args0 about1 = true := by decide +kernel
theorem w_applies : (headSpec (Jvm.Cond.code x code maxLocals ret :: tables_1) room_1).applies x e0.platform about1 = true :=
  (Spec.applies_iff w_frames).mpr ⟨w_running, w_runnable, w_alone, w_named, w_hears, w_ripe, w_room, w_tables⟩
theorem atStart : AtStart classFile x code maxLocals ret World_1 tables_1 room_1 Calls_1 rest_1 Pre_1 launch0 p0 e0 about1 theMethod args0 below0 :=
  ⟨lists_1, trivial, launch0.admits_env _ _ _, launch0.least_env, fairChoices_fair.cas, fairChoices_fair.clock, w_frames, w_args, w_heap, w_applies, ⟨⟨40, k40, 4, by decide +kernel, rfl, rfl, _, rfl, rfl⟩, trivial⟩, w_rest, w_case⟩
end start1
theorem witness_1 : WitnessClaimed_1 := ⟨start1.p0, start1.e0, start1.about1, start1.theMethod, start1.args0, start1.below0, start1.atStart⟩
end Jvm.Pilot.@@N@@
