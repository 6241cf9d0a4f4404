import JvmDerived
import JvmDerived.Pilot.@@N@@Statement
import JvmDerived.Pilot.@@N@@Code
set_option linter.unusedVariables false
set_option linter.unusedSimpArgs false

/- laws to paste: Road.backV (cut by pick.py; bodies as the Statement names them) -/
namespace Jvm.Pilot.@@N@@
namespace StrChars
open Jvm Sem ClassFile Op Lib Jvm.Stand Jvm.Free.XT Jvm.Free.ALB Jvm.Free.JM Jvm.Free
open Jvm.Lib.Cold (StaticIs)
/-- a char array whose places are chars -/
def Ch (a : Addr) (A : Cell) (U : State) : Prop := Arr .char a A U ∧ Typed .char A
theorem Ch.mv {a : Addr} {A : Cell} {U U' : State} (h : Ch a A U) (hal : U.vm.Alike U'.vm) (hh : U'.heap = U.heap) : Ch a A U' := ⟨h.1.mv hal hh, h.2⟩
theorem Ch.keep {a : Addr} {A : Cell} {U U' : State} (h : Ch a A U) (hal : U.vm.Alike U'.vm) (hk : U'.heap[a]? = some A) : Ch a A U' := ⟨h.1.keep hal hk, h.2⟩
/-- what place i of a char[]'s cell holds -/
def cv (A : Cell) (i : Nat) : Int32 := match A.slots[i]? with | some (.int x) => x | _ => 0
theorem Ch.get {a : Addr} {A : Cell} {U : State} (h : Ch a A U) {i : Nat} (hi : i < A.slots.size) : A.slots[i]? = some (.int (cv A i)) := by
  have e := Array.getElem?_eq_getElem hi
  have f := h.2 i _ e
  unfold cv; rw [e]
  generalize A.slots[i] = v at f
  cases v <;> simp [fits] at f ⊢
/-- the byte that i2b leaves of a char -/
def lo8 (x : Int32) : Int32 := x.toInt8.toInt32
theorem fits_lo8 (y : Int32) : fits .byte (.int (lo8 y)) = true := by
  have h1 := y.toInt8.le_toInt
  have h2 := y.toInt8.toInt_lt
  simp only [lo8, fits, Bool.and_eq_true, decide_eq_true_eq, Int32.le_iff_toInt_le, Int8.toInt_toInt32, show (-128 : Int32).toInt = -128 from by decide, show (127 : Int32).toInt = 127 from by decide]
  omega
/-- A' is A but that each place j of lo .. hi - 1 holds f j -/
def Laid (A A' : Cell) (lo hi : Nat) (f : Nat → Value) : Prop := A'.cls = A.cls ∧ A'.vm = A.vm ∧ A'.slots.size = A.slots.size ∧ ∀ i, A'.slots[i]? = if lo ≤ i ∧ i < hi then some (f i) else A.slots[i]?
theorem Laid.zero (A : Cell) (lo : Nat) (f : Nat → Value) : Laid A A lo (lo + 0) f := ⟨rfl, rfl, rfl, fun i => by rw [if_neg (by omega)]⟩
theorem Laid.step {A Ak : Cell} {lo k : Nat} {f : Nat → Value} {v : Value} (h : Laid A Ak lo k f) (hlo : lo ≤ k) (hk : k < Ak.slots.size) (hv : v = f k) : Laid A (Ak.setSlot k v) lo (k + 1) f := by
  refine ⟨h.1, h.2.1, by simpa [Cell.setSlot] using h.2.2.1, fun i => ?_⟩
  by_cases e : k = i
  · subst e; rw [Cell.slots_setSlot_self v hk, if_pos (by omega), hv]
  · rw [Cell.slots_setSlot_ne v e, h.2.2.2 i]
    by_cases q : lo ≤ i ∧ i < k
    · rw [if_pos q, if_pos (by omega)]
    · rw [if_neg q, if_neg (by omega)]
def U16 : String := "java/lang/StringUTF16"
namespace Cmp5
def yN : MethodName := ⟨"java/lang/StringUTF16", "compress", "([CI[BII)I"⟩
abbrev yB : ByteArray := jdk_52_method_21_code
theorem d0 : decode yB 0 = .ok (.iconst 0, 1) := by decide +kernel
theorem d1 : decode yB 1 = .ok (.istore 5, 2) := by decide +kernel
theorem d3 : decode yB 3 = .ok (.iload 5, 2) := by decide +kernel
theorem d5 : decode yB 5 = .ok (.iload 4, 2) := by decide +kernel
theorem d7 : decode yB 7 = .ok (.if_icmp (.ge) 37, 3) := by decide +kernel
theorem d10 : decode yB 10 = .ok (.aload_n 0, 1) := by decide +kernel
theorem d11 : decode yB 11 = .ok (.iload_n 1, 1) := by decide +kernel
theorem d12 : decode yB 12 = .ok (.caload, 1) := by decide +kernel
theorem d13 : decode yB 13 = .ok (.istore 6, 2) := by decide +kernel
theorem d15 : decode yB 15 = .ok (.iload 6, 2) := by decide +kernel
theorem d17 : decode yB 17 = .ok (.sipush 255, 3) := by decide +kernel
theorem d20 : decode yB 20 = .ok (.if_icmp (.le) 6, 3) := by decide +kernel
theorem d26 : decode yB 26 = .ok (.aload_n 2, 1) := by decide +kernel
theorem d27 : decode yB 27 = .ok (.iload_n 3, 1) := by decide +kernel
theorem d28 : decode yB 28 = .ok (.iload 6, 2) := by decide +kernel
theorem d30 : decode yB 30 = .ok (.i2b, 1) := by decide +kernel
theorem d31 : decode yB 31 = .ok (.bastore, 1) := by decide +kernel
theorem d32 : decode yB 32 = .ok (.iinc 1 1, 3) := by decide +kernel
theorem d35 : decode yB 35 = .ok (.iinc 3 1, 3) := by decide +kernel
theorem d38 : decode yB 38 = .ok (.iinc 5 1, 3) := by decide +kernel
theorem d41 : decode yB 41 = .ok (.goto (-38), 3) := by decide +kernel
theorem d44 : decode yB 44 = .ok (.iload 4, 2) := by decide +kernel
theorem d46 : decode yB 46 = .ok (.ireturn, 1) := by decide +kernel
def site : List Cond := []
def tab : Cond := tabOf yN yB 7 (some .int) site
def P (b : Addr) (A : Cell) (d : Addr) (B : Cell) (o q len : Nat) (args : Array Value) (s : State) : Prop := args = #[.ref b, .int (Int32.ofNat o), .ref d, .int (Int32.ofNat q), .int (Int32.ofNat len)] ∧ Ch b A s ∧ Arr .byte d B s ∧ b ≠ d ∧ o + len ≤ A.slots.size ∧ q + len ≤ B.slots.size ∧ ∀ i, i < len → ¬ 255 < cv A (o + i)
def E (b : Addr) (A : Cell) (d : Addr) (B : Cell) (o q len : Nat) (r : Option Value) (s u : State) : Prop := r = some (.int (Int32.ofNat len)) ∧ ∃ B', Put d B' s u ∧ Laid B B' q (q + len) (fun j => Value.int (lo8 (cv A (o + (j - q)))))
/-- no char of the range above 255: len; the places written hold each char's low byte -/
theorem law (l : Launch) (b : Addr) (A : Cell) (d : Addr) (B : Cell) (o q len : Nat) : Law l yN 5 5 0 0 yB 7 (some .int) site (P b A d B o q len) (E b A d B o q len) (copyLocs d q len) 0 0 := by
  refine Law.of_walk (plainFor_of_name (by decide +kernel)) (by decide +kernel) (by decide +kernel) (by decide) (fun _ _ h => by rw [h.1]; rfl) (fun _ U U' hal hh h => ⟨h.1, h.2.1.mv hal hh, h.2.2.1.mv hal hh, h.2.2.2⟩) (fun r U U' V V' h1 hal h2 h => ⟨h.1, h.2.elim fun B' q => ⟨B', q.1.mv h1 h2, q.2⟩⟩) ?_
  intro p e s m args below meth c s₁ X0 hexec hbytes hml hret hlk hnm hown hh0 W hP
  obtain ⟨rfl, hA, hB, hne, l1, l2, hp⟩ := hP
  have c1 : Steps p.tables e below (s₁.setTop (entryFrame m #[.ref b, .int (Int32.ofNat o), .ref d, .int (Int32.ofNat q), .int (Int32.ofNat len)] 7)) (s₁.setTop (mkF m 0 #[.val (.ref b), .val (.int (Int32.ofNat o)), .val (.ref d), .val (.int (Int32.ofNat q)), .val (.int (Int32.ofNat len)), .unset, .unset] [])) := entry rfl
  have hA0 := hA.1.mv X0.warmed.alike hh0
  have hB0 := hB.mv X0.warmed.alike hh0
  have a31 := hA.1.2.2.2
  have c2 : Steps p.tables e below (s₁.setTop (entryFrame m #[.ref b, .int (Int32.ofNat o), .ref d, .int (Int32.ofNat q), .int (Int32.ofNat len)] 7)) (s₁.setTop (mkF m 3 #[.val (.ref b), .val (.int (Int32.ofNat o)), .val (.ref d), .val (.int (Int32.ofNat q)), .val (.int (Int32.ofNat len)), .val (.int 0), .unset] [])) := c1.trans (by
    refine iconstV X0.here hexec rfl 0 (hb hbytes d0) (by decide) ?_
    refine XS.istore X0.here hexec rfl (hb hbytes d1) rfl rfl ?_
    exact Steps.refl _)
  have loop : ∀ (r i : Nat), i + r = len → ∀ (z : Slot), (z = .unset ∨ ∃ w, z = .val w ∧ w.category = 1) → ∀ (Tl : State) (Bk : Cell), Stand p l e { frames := 0, locals := 0, cells := 0, slots := 0 } s m #[.ref b, .int (Int32.ofNat o), .ref d, .int (Int32.ofNat q), .int (Int32.ofNat len)] below meth c Tl ([] ++ copyLocs d q i) 0 0 → Put d Bk s₁ Tl → Laid B Bk q (q + i) (fun j => Value.int (lo8 (cv A (o + (j - q))))) →
      Steps p.tables e below (s₁.setTop (entryFrame m #[.ref b, .int (Int32.ofNat o), .ref d, .int (Int32.ofNat q), .int (Int32.ofNat len)] 7)) (Tl.setTop (mkF m 3 #[.val (.ref b), .val (.int (Int32.ofNat (o + i))), .val (.ref d), .val (.int (Int32.ofNat (q + i))), .val (.int (Int32.ofNat len)), .val (.int (Int32.ofNat i)), z] [])) → ∃ (T' : State) (B' : Cell) (z' : Slot), Stand p l e { frames := 0, locals := 0, cells := 0, slots := 0 } s m #[.ref b, .int (Int32.ofNat o), .ref d, .int (Int32.ofNat q), .int (Int32.ofNat len)] below meth c T' ([] ++ copyLocs d q len) 0 0 ∧ Put d B' s₁ T' ∧ Laid B B' q (q + len) (fun j => Value.int (lo8 (cv A (o + (j - q))))) ∧
      Steps p.tables e below (s₁.setTop (entryFrame m #[.ref b, .int (Int32.ofNat o), .ref d, .int (Int32.ofNat q), .int (Int32.ofNat len)] 7)) (T'.setTop (mkF m 3 #[.val (.ref b), .val (.int (Int32.ofNat (o + len))), .val (.ref d), .val (.int (Int32.ofNat (q + len))), .val (.int (Int32.ofNat len)), .val (.int (Int32.ofNat len)), z'] [])) := by
    intro r
    induction r with
    | zero =>
      intro i hi z hz Tl Bk Xl pl fl cl
      have hil : i = len := by omega
      rw [hil] at Xl fl cl
      exact ⟨Tl, Bk, z, Xl, pl, fl, cl⟩
    | succ r ih =>
      intro i hi z hz Tl Bk Xl pl fl cl
      have all := X0.warmed.alike.symm.trans Xl.warmed.alike
      have hAl := hA0.keep all (pl.other hne hA0.1)
      have hBk := hB0.like all pl.1 fl.1 fl.2.1 fl.2.2.1
      have hlt : q + i < Bk.slots.size := by rw [fl.2.2.1]; omega
      have c3 : Steps p.tables e below (s₁.setTop (entryFrame m #[.ref b, .int (Int32.ofNat o), .ref d, .int (Int32.ofNat q), .int (Int32.ofNat len)] 7)) (Tl.setTop (mkF m 12 #[.val (.ref b), .val (.int (Int32.ofNat (o + i))), .val (.ref d), .val (.int (Int32.ofNat (q + i))), .val (.int (Int32.ofNat len)), .val (.int (Int32.ofNat i)), z] [.int (Int32.ofNat (o + i)), .ref b])) := cl.trans (by
        refine XS.iload Xl.here hexec rfl (hb hbytes d3) rfl ?_
        refine XS.iload Xl.here hexec rfl (hb hbytes d5) rfl ?_
        refine XS.icmpNo Xl.here hexec rfl (hb hbytes d7) rfl (ii_ge_f (lt32 (by omega) (by omega))) ?_
        refine XS.aloadN Xl.here hexec rfl (hb hbytes d10) rfl rfl ?_
        refine XS.iloadN Xl.here hexec rfl (hb hbytes d11) rfl ?_
        exact Steps.refl _)
      have c4 : Steps p.tables e below (s₁.setTop (entryFrame m #[.ref b, .int (Int32.ofNat o), .ref d, .int (Int32.ofNat q), .int (Int32.ofNat len)] 7)) (Tl.setTop (mkF m 13 #[.val (.ref b), .val (.int (Int32.ofNat (o + i))), .val (.ref d), .val (.int (Int32.ofNat (q + i))), .val (.int (Int32.ofNat len)), .val (.int (Int32.ofNat i)), z] [.int (cv A (o + i))])) := c3.trans (by
        refine Xl.aget hexec hAl rfl (hA.get (i := o + i) (by omega)) rfl rfl (hb hbytes d12) ?_
        exact Steps.refl _)
      have c5 : Steps p.tables e below (s₁.setTop (entryFrame m #[.ref b, .int (Int32.ofNat o), .ref d, .int (Int32.ofNat q), .int (Int32.ofNat len)] 7)) (Tl.setTop (mkF m 15 #[.val (.ref b), .val (.int (Int32.ofNat (o + i))), .val (.ref d), .val (.int (Int32.ofNat (q + i))), .val (.int (Int32.ofNat len)), .val (.int (Int32.ofNat i)), .val (.int (cv A (o + i)))] [])) := c4.trans (by
        refine XS.istoreS Xl.here hexec rfl (hb hbytes d13) rfl rfl hz ?_
        exact Steps.refl _)
      have c6 : Steps p.tables e below (s₁.setTop (entryFrame m #[.ref b, .int (Int32.ofNat o), .ref d, .int (Int32.ofNat q), .int (Int32.ofNat len)] 7)) (Tl.setTop (mkF m 31 #[.val (.ref b), .val (.int (Int32.ofNat (o + i))), .val (.ref d), .val (.int (Int32.ofNat (q + i))), .val (.int (Int32.ofNat len)), .val (.int (Int32.ofNat i)), .val (.int (cv A (o + i)))] [.int (lo8 (cv A (o + i))), .int (Int32.ofNat (q + i)), .ref d])) := c5.trans (by
        refine XS.iload Xl.here hexec rfl (hb hbytes d15) rfl ?_
        refine sipushV Xl.here hexec rfl 255 (hb hbytes d17) (by decide) ?_
        refine XS.icmpYes Xl.here hexec rfl (pc0 := 20) rfl (hb hbytes d20) rfl (ii_le_t (hp i (by omega))) (by decide) rfl ?_
        refine XS.aloadN Xl.here hexec rfl (hb hbytes d26) rfl rfl ?_
        refine XS.iloadN Xl.here hexec rfl (hb hbytes d27) rfl ?_
        refine XS.iload Xl.here hexec rfl (hb hbytes d28) rfl ?_
        refine i2b Xl.here hexec rfl (hb hbytes d30) rfl ?_
        exact Steps.refl _)
      obtain ⟨T7, X7, p7, st7⟩ := Xl.aput hexec hBk rfl hlt rfl (fits_lo8 (cv A (o + i))) (g := (mkF m 31 #[.val (.ref b), .val (.int (Int32.ofNat (o + i))), .val (.ref d), .val (.int (Int32.ofNat (q + i))), .val (.int (Int32.ofNat len)), .val (.int (Int32.ofNat i)), .val (.int (cv A (o + i)))] [.int (lo8 (cv A (o + i))), .int (Int32.ofNat (q + i)), .ref d])) rfl (rest := []) rfl (hb hbytes d31)
      have c8 : Steps p.tables e below (s₁.setTop (entryFrame m #[.ref b, .int (Int32.ofNat o), .ref d, .int (Int32.ofNat q), .int (Int32.ofNat len)] 7)) (T7.setTop (mkF m 32 #[.val (.ref b), .val (.int (Int32.ofNat (o + i))), .val (.ref d), .val (.int (Int32.ofNat (q + i))), .val (.int (Int32.ofNat len)), .val (.int (Int32.ofNat i)), .val (.int (cv A (o + i)))] [])) := c6.trans (st7 _ (Steps.refl _))
      have c9 : Steps p.tables e below (s₁.setTop (entryFrame m #[.ref b, .int (Int32.ofNat o), .ref d, .int (Int32.ofNat q), .int (Int32.ofNat len)] 7)) (T7.setTop (mkF m 3 #[.val (.ref b), .val (.int (Int32.ofNat (o + i) + 1)), .val (.ref d), .val (.int (Int32.ofNat (q + i) + 1)), .val (.int (Int32.ofNat len)), .val (.int (Int32.ofNat i + 1)), .val (.int (cv A (o + i)))] [])) := c8.trans (by
        refine iincV X7.here hexec rfl 1 (hb hbytes d32) (by decide) rfl rfl ?_
        refine iincV X7.here hexec rfl 1 (hb hbytes d35) (by decide) rfl rfl ?_
        refine iincV X7.here hexec rfl 1 (hb hbytes d38) (by decide) rfl rfl ?_
        refine XS.goto X7.here hexec rfl (pc0 := 41) rfl (hb hbytes d41) (by decide) rfl ?_
        exact Steps.refl _)
      have c10 : Steps p.tables e below (s₁.setTop (entryFrame m #[.ref b, .int (Int32.ofNat o), .ref d, .int (Int32.ofNat q), .int (Int32.ofNat len)] 7)) (T7.setTop (mkF m 3 #[.val (.ref b), .val (.int (Int32.ofNat (o + (i + 1)))), .val (.ref d), .val (.int (Int32.ofNat (q + (i + 1)))), .val (.int (Int32.ofNat len)), .val (.int (Int32.ofNat (i + 1))), .val (.int (cv A (o + i)))] [])) := by
        have := c9
        rw [succ32, succ32, succ32] at this
        exact this
      exact ih (i + 1) (by omega) _ (Or.inr ⟨_, rfl, rfl⟩) T7 _ (by rw [copyLocs_step, ← List.append_assoc]; exact X7) (pl.trans p7) (fl.step (by omega) hlt (by simp)) c10
  obtain ⟨T9, B9, z9, X9, p9, f9, g9⟩ := loop len 0 (by omega) .unset (Or.inl rfl) s₁ B (by simpa [copyLocs] using X0) ⟨hB0.1, fun _ _ => rfl, rfl⟩ (Laid.zero _ _ _) c2
  have c11 : Steps p.tables e below (s₁.setTop (entryFrame m #[.ref b, .int (Int32.ofNat o), .ref d, .int (Int32.ofNat q), .int (Int32.ofNat len)] 7)) (T9.setTop (mkF m 46 #[.val (.ref b), .val (.int (Int32.ofNat (o + len))), .val (.ref d), .val (.int (Int32.ofNat (q + len))), .val (.int (Int32.ofNat len)), .val (.int (Int32.ofNat len)), z9] [.int (Int32.ofNat len)])) := g9.trans (by
    refine XS.iload X9.here hexec rfl (hb hbytes d3) rfl ?_
    refine XS.iload X9.here hexec rfl (hb hbytes d5) rfl ?_
    refine XS.icmpYes X9.here hexec rfl (pc0 := 7) rfl (hb hbytes d7) rfl (ii_ge_t (nlt32 (by omega) (Nat.le_refl _))) (by decide) rfl ?_
    refine XS.iload X9.here hexec rfl (hb hbytes d44) rfl ?_
    exact Steps.refl _)
  exact ⟨T9, some (.int (Int32.ofNat len)), _, _, _, X9, by simp, rfl, rfl, (fun h => by cases h), ⟨rfl, B9, p9.from hh0, f9⟩, fun fs hl => c11.trans (X9.ireturnOut hexec hret rfl (Or.inl rfl) (hb hbytes d46) hl)⟩
end Cmp5
namespace Cmp3
def yN : MethodName := ⟨"java/lang/StringUTF16", "compress", "([CII)[B"⟩
abbrev yB : ByteArray := jdk_52_method_16_code
theorem d0 : decode yB 0 = .ok (.iload_n 2, 1) := by decide +kernel
theorem d1 : decode yB 1 = .ok (.newarray .byte, 2) := by decide +kernel
theorem d3 : decode yB 3 = .ok (.astore_n 3, 1) := by decide +kernel
theorem d4 : decode yB 4 = .ok (.aload_n 0, 1) := by decide +kernel
theorem d5 : decode yB 5 = .ok (.iload_n 1, 1) := by decide +kernel
theorem d6 : decode yB 6 = .ok (.aload_n 3, 1) := by decide +kernel
theorem d7 : decode yB 7 = .ok (.iconst 0, 1) := by decide +kernel
theorem d8 : decode yB 8 = .ok (.iload_n 2, 1) := by decide +kernel
theorem d9 : decode yB 9 = .ok (.invokestatic 115, 3) := by decide +kernel
theorem d12 : decode yB 12 = .ok (.istore 4, 2) := by decide +kernel
theorem d14 : decode yB 14 = .ok (.iload 4, 2) := by decide +kernel
theorem d16 : decode yB 16 = .ok (.iload_n 2, 1) := by decide +kernel
theorem d17 : decode yB 17 = .ok (.if_icmp (.eq) 40, 3) := by decide +kernel
theorem d57 : decode yB 57 = .ok (.aload_n 3, 1) := by decide +kernel
theorem d58 : decode yB 58 = .ok (.areturn, 1) := by decide +kernel
def site : List Cond := [.arrayClass .byte, Cmp5.tab] ++ staticW U16 115 Cmp5.yN
def tab : Cond := tabOf yN yB 6 (some (.array .byte)) site
def P (b : Addr) (A : Cell) (o len : Nat) (args : Array Value) (s : State) : Prop := args = #[.ref b, .int (Int32.ofNat o), .int (Int32.ofNat len)] ∧ Ch b A s ∧ o + len ≤ A.slots.size ∧ len ≤ 536870912 ∧ ∀ i, i < len → ¬ 255 < cv A (o + i)
def E (b : Addr) (A : Cell) (o len : Nat) (r : Option Value) (s u : State) : Prop := NewArr .byte "[B" len (fun j => .int (lo8 (cv A (o + j)))) r s u ∧ u.heap.size = s.heap.size + 1
/-- no char of the range above 255: a new byte[] of their low bytes -/
theorem law (l : Launch) (b : Addr) (A : Cell) (o len : Nat) : Law l yN 3 3 1 18 yB 6 (some (.array .byte)) site (P b A o len) (E b A o len) [] 1 len := by
  refine Law.of_walk (plainFor_of_name (by decide +kernel)) (by decide +kernel) (by decide +kernel) (by decide) (fun _ _ h => by rw [h.1]; rfl) (fun _ U U' hal hh h => ⟨h.1, h.2.1.mv hal hh, h.2.2⟩) (fun r U U' V V' h1 hal h2 h => ⟨NewArr.mv r U U' V V' h1 hal h2 h.1, by rw [h1, h2]; exact h.2⟩) ?_
  intro p e s m args below meth c s₁ X0 hexec hbytes hml hret hlk hnm hown hh0 W hP
  obtain ⟨rfl, hA, l1, l2, hp⟩ := hP
  have a31 := hA.1.2.2.2
  have c1 : Steps p.tables e below (s₁.setTop (entryFrame m #[.ref b, .int (Int32.ofNat o), .int (Int32.ofNat len)] 6)) (s₁.setTop (mkF m 0 #[.val (.ref b), .val (.int (Int32.ofNat o)), .val (.int (Int32.ofNat len)), .unset, .unset, .unset] [])) := entry rfl
  have c2 : Steps p.tables e below (s₁.setTop (entryFrame m #[.ref b, .int (Int32.ofNat o), .int (Int32.ofNat len)] 6)) (s₁.setTop (mkF m 1 #[.val (.ref b), .val (.int (Int32.ofNat o)), .val (.int (Int32.ofNat len)), .unset, .unset, .unset] [.int (Int32.ofNat len)])) := c1.trans (by
    refine XS.iloadN X0.here hexec rfl (hb hbytes d0) rfl ?_
    exact Steps.refl _)
  obtain ⟨T3, B3, X3, ba3, bs3, bv3, bh3, bf3, st3⟩ := X0.anew hexec (atype := .byte) (wk W (.arrayClass .byte)) rfl (by show len * 1 ≤ _; omega) (by omega) (g := (mkF m 1 #[.val (.ref b), .val (.int (Int32.ofNat o)), .val (.int (Int32.ofNat len)), .unset, .unset, .unset] [.int (Int32.ofNat len)])) rfl (hb hbytes d1) (rest := []) rfl (Nat.le_refl _) (by show 0 + len ≤ len; omega)
  rw [hh0] at ba3 st3
  have kp3 : XT.Kept s T3 := (XT.Kept.of_eq hh0).push bh3
  have hA3 := hA.keep X3.warmed.alike (kp3 _ _ hA.1.1)
  have hne : b ≠ s.heap.size := hA.1.ne
  have c4 : Steps p.tables e below (s₁.setTop (entryFrame m #[.ref b, .int (Int32.ofNat o), .int (Int32.ofNat len)] 6)) (T3.setTop (mkF m 3 #[.val (.ref b), .val (.int (Int32.ofNat o)), .val (.int (Int32.ofNat len)), .unset, .unset, .unset] [.ref s.heap.size])) := c2.trans (st3 _ (Steps.refl _))
  have c5 : Steps p.tables e below (s₁.setTop (entryFrame m #[.ref b, .int (Int32.ofNat o), .int (Int32.ofNat len)] 6)) (T3.setTop (mkF m 9 #[.val (.ref b), .val (.int (Int32.ofNat o)), .val (.int (Int32.ofNat len)), .val (.ref s.heap.size), .unset, .unset] [.int (Int32.ofNat len), .int 0, .ref s.heap.size, .int (Int32.ofNat o), .ref b])) := c4.trans (by
    refine XS.astoreN X3.here hexec rfl (hb hbytes d3) rfl rfl rfl ?_
    refine XS.aloadN X3.here hexec rfl (hb hbytes d4) rfl rfl ?_
    refine XS.iloadN X3.here hexec rfl (hb hbytes d5) rfl ?_
    refine XS.aloadN X3.here hexec rfl (hb hbytes d6) rfl rfl ?_
    refine iconstV X3.here hexec rfl 0 (hb hbytes d7) (by decide) ?_
    refine XS.iloadN X3.here hexec rfl (hb hbytes d8) rfl ?_
    exact Steps.refl _)
  obtain ⟨v6, T6, X6, E6, g6⟩ := X3.callS hexec (Cmp5.law l b A s.heap.size B3 o 0 len) hown (wks W (staticW U16 115 Cmp5.yN)) (wk W Cmp5.tab) (W := 0) (Nat.le_of_ble_eq_true rfl) (Nat.le_of_ble_eq_true rfl) (Nat.le_refl _) (by show 0 + len + 0 ≤ len; omega) (g := (mkF m 9 #[.val (.ref b), .val (.int (Int32.ofNat o)), .val (.int (Int32.ofNat len)), .val (.ref s.heap.size), .unset, .unset] [.int (Int32.ofNat len), .int (Int32.ofNat 0), .ref s.heap.size, .int (Int32.ofNat o), .ref b])) rfl (by rw [hml]; rfl) c5 (argsL := [.ref b, .int (Int32.ofNat o), .ref s.heap.size, .int (Int32.ofNat 0), .int (Int32.ofNat len)]) (rest := []) rfl rfl (by show 2 * 0 + 0 ≤ _; decide) (hb hbytes d9) (⟨rfl, hA3, ba3, hne, l1, by rw [bs3]; simp, hp⟩)
  obtain ⟨rfl, B6, p6, f6⟩ := E6
  have c7 : Steps p.tables e below (s₁.setTop (entryFrame m #[.ref b, .int (Int32.ofNat o), .int (Int32.ofNat len)] 6)) (T6.setTop (mkF m 12 #[.val (.ref b), .val (.int (Int32.ofNat o)), .val (.int (Int32.ofNat len)), .val (.ref s.heap.size), .unset, .unset] [.int (Int32.ofNat len)])) := g6
  have c8 : Steps p.tables e below (s₁.setTop (entryFrame m #[.ref b, .int (Int32.ofNat o), .int (Int32.ofNat len)] 6)) (T6.setTop (mkF m 58 #[.val (.ref b), .val (.int (Int32.ofNat o)), .val (.int (Int32.ofNat len)), .val (.ref s.heap.size), .val (.int (Int32.ofNat len)), .unset] [.ref s.heap.size])) := c7.trans (by
    refine XS.istore X6.here hexec rfl (hb hbytes d12) rfl rfl ?_
    refine XS.iload X6.here hexec rfl (hb hbytes d14) rfl ?_
    refine XS.iloadN X6.here hexec rfl (hb hbytes d16) rfl ?_
    refine XS.icmpYes X6.here hexec rfl (pc0 := 17) rfl (hb hbytes d17) rfl (ii_eq_t rfl) (by decide) rfl ?_
    refine XS.aloadN X6.here hexec rfl (hb hbytes d57) rfl rfl ?_
    exact Steps.refl _)
  have X8 := X6.wide (L' := []) (cells' := 1) (slots' := len) (fun x hx hlt => by
    simp only [List.nil_append, copyLocs, List.mem_map, List.mem_range] at hx
    obtain ⟨i, -, rfl⟩ := hx
    exact absurd hlt (Nat.lt_irrefl _)) (Nat.le_refl _) (by omega)
  exact ⟨T6, some (.ref s.heap.size), _, _, _, X8, rfl, rfl, rfl, (fun h => by cases h), ⟨⟨rfl, B6, ba3.like (X3.warmed.alike.symm.trans X6.warmed.alike) p6.1 f6.1 f6.2.1 f6.2.2.1, f6.2.1.trans bv3, by rw [X6.warmed.alike.findClass, f6.1]; exact bf3, by rw [f6.2.2.1, bs3]; simp, fun j hj => by rw [f6.2.2.2 j, if_pos (by omega)]; rfl, kp3.put p6 (Nat.le_refl _)⟩, by rw [p6.2.2, bh3, hh0]; simp⟩, fun fs hl => c8.trans (X8.areturnOut hexec rfl hret rfl (hb hbytes d58) hl)⟩
end Cmp3
namespace CodL
def yN : MethodName := ⟨"java/lang/StringUTF16", "coderFromArrayLen", "([BI)B"⟩
abbrev yB : ByteArray := jdk_52_method_15_code
theorem d0 : decode yB 0 = .ok (.iload_n 1, 1) := by decide +kernel
theorem d1 : decode yB 1 = .ok (.aload_n 0, 1) := by decide +kernel
theorem d2 : decode yB 2 = .ok (.arraylength, 1) := by decide +kernel
theorem d3 : decode yB 3 = .ok (.isub, 1) := by decide +kernel
theorem d4 : decode yB 4 = .ok (.bipush 31, 2) := by decide +kernel
theorem d6 : decode yB 6 = .ok (.iushr, 1) := by decide +kernel
theorem d7 : decode yB 7 = .ok (.i2b, 1) := by decide +kernel
theorem d8 : decode yB 8 = .ok (.ireturn, 1) := by decide +kernel
def site : List Cond := []
def tab : Cond := tabOf yN yB 2 (some .byte) site
def P (d : Addr) (B : Cell) (args : Array Value) (s : State) : Prop := args = #[.ref d, .int (Int32.ofNat B.slots.size)] ∧ Arr .byte d B s
def E (r : Option Value) (s u : State) : Prop := XT.PureE (some (.int 0)) r s u
/-- an array as long as the number of chars: LATIN1 -/
theorem law (l : Launch) (d : Addr) (B : Cell) : Law l yN 2 2 0 0 yB 2 (some .byte) site (P d B) E [] 0 0 := by
  refine Law.of_walk (plainFor_of_name (by decide +kernel)) (by decide +kernel) (by decide +kernel) (by decide) (fun _ _ h => by rw [h.1]; rfl) (fun _ U U' hal hh h => ⟨h.1, h.2.mv hal hh⟩) (fun r U U' V V' h1 hal h2 h => XT.PureE.mv r U U' V V' h1 hal h2 h) ?_
  intro p e s m args below meth c s₁ X0 hexec hbytes hml hret hlk hnm hown hh0 W hP
  obtain ⟨rfl, hB⟩ := hP
  have hB0 := hB.mv X0.warmed.alike hh0
  have c1 : Steps p.tables e below (s₁.setTop (entryFrame m #[.ref d, .int (Int32.ofNat B.slots.size)] 2)) (s₁.setTop (mkF m 0 #[.val (.ref d), .val (.int (Int32.ofNat B.slots.size))] [])) := entry rfl
  have c2 : Steps p.tables e below (s₁.setTop (entryFrame m #[.ref d, .int (Int32.ofNat B.slots.size)] 2)) (s₁.setTop (mkF m 2 #[.val (.ref d), .val (.int (Int32.ofNat B.slots.size))] [.ref d, .int (Int32.ofNat B.slots.size)])) := c1.trans (by
    refine XS.iloadN X0.here hexec rfl (hb hbytes d0) rfl ?_
    refine XS.aloadN X0.here hexec rfl (hb hbytes d1) rfl rfl ?_
    exact Steps.refl _)
  have c3 : Steps p.tables e below (s₁.setTop (entryFrame m #[.ref d, .int (Int32.ofNat B.slots.size)] 2)) (s₁.setTop (mkF m 8 #[.val (.ref d), .val (.int (Int32.ofNat B.slots.size))] [.int (lo8 (ushr (Int32.ofNat B.slots.size - Int32.ofNat B.slots.size) 31))])) := c2.trans (by
    refine X0.alen hexec hB0 rfl rfl (hb hbytes d2) ?_
    refine XS.isub X0.here hexec rfl (hb hbytes d3) rfl ?_
    refine bipushV X0.here hexec rfl 31 (hb hbytes d4) (by decide) ?_
    refine iushr X0.here hexec rfl (hb hbytes d6) rfl ?_
    refine i2b X0.here hexec rfl (hb hbytes d7) rfl ?_
    exact Steps.refl _)
  have e0 : lo8 (ushr (Int32.ofNat B.slots.size - Int32.ofNat B.slots.size) 31) = 0 := by rw [Int32.sub_self]; decide
  rw [e0] at c3
  exact ⟨s₁, some (.int 0), _, _, _, X0, rfl, rfl, rfl, (fun h => by cases h), ⟨rfl, hh0⟩, fun fs hl => c3.trans (X0.ireturnOut hexec hret rfl (Or.inr (Or.inr (Or.inl rfl))) (hb hbytes d8) hl)⟩
end CodL
/-- the String at a is Latin-1 over a new byte[] (the heap's one new cell): the low bytes of the len chars of A from o on; every cell but a is kept -/
def Got (a : Addr) (D : Cell) (fV fC : Field) (A : Cell) (o len : Nat) (r : Option Value) (s u : State) : Prop := r = none ∧ ∃ D' V : Cell, Blank "java/lang/String" a D' u ∧ Same D D' [fV.slot, fC.slot] ∧ D'.slots[fV.slot]? = some (.ref s.heap.size) ∧ D'.slots[fC.slot]? = some (.int 0) ∧ Arr .byte s.heap.size V u ∧ V.vm = .none ∧ u.vm.findClass "[B" = some V.cls ∧ V.slots.size = len ∧ (∀ j, j < len → V.slots[j]? = some (.int (lo8 (cv A (o + j))))) ∧ (∀ (y : Addr) (c : Cell), y ≠ a → s.heap[y]? = some c → u.heap[y]? = some c) ∧ u.heap.size = s.heap.size + 1
theorem Got.mv {a : Addr} {D A : Cell} {fV fC : Field} {o len : Nat} : ∀ r (U U' V V' : State), U'.heap = U.heap → V.vm.Alike V'.vm → V'.heap = V.heap → Got a D fV fC A o len r U V → Got a D fV fC A o len r U' V' :=
  fun r U U' V V' h1 hal h2 ⟨e0, D', X, a1, a2, a3, a4, a5, a6, a7, a8, a9, a10, a11⟩ => ⟨e0, D', X, a1.mv hal h2, a2, by rw [h1]; exact a3, a4, by rw [h1]; exact a5.mv hal h2, a6, by rw [hal.findClass]; exact a7, a8, a9, by rw [h1, h2]; exact a10, by rw [h1, h2]; exact a11⟩
namespace New4
def yN : MethodName := ⟨"java/lang/String", "<init>", "([CIILjava/lang/Void;)V"⟩
abbrev yB : ByteArray := jdk_42_method_149_code
theorem d0 : decode yB 0 = .ok (.aload_n 0, 1) := by decide +kernel
theorem d1 : decode yB 1 = .ok (.invokespecial 1, 3) := by decide +kernel
theorem d4 : decode yB 4 = .ok (.iload_n 3, 1) := by decide +kernel
theorem d5 : decode yB 5 = .ok (.ifCond (.ne) 22, 3) := by decide +kernel
theorem d27 : decode yB 27 = .ok (.getstatic 38, 3) := by decide +kernel
theorem d30 : decode yB 30 = .ok (.ifCond (.eq) 28, 3) := by decide +kernel
theorem d33 : decode yB 33 = .ok (.aload_n 1, 1) := by decide +kernel
theorem d34 : decode yB 34 = .ok (.iload_n 2, 1) := by decide +kernel
theorem d35 : decode yB 35 = .ok (.iload_n 3, 1) := by decide +kernel
theorem d36 : decode yB 36 = .ok (.invokestatic 177, 3) := by decide +kernel
theorem d39 : decode yB 39 = .ok (.astore 5, 2) := by decide +kernel
theorem d41 : decode yB 41 = .ok (.aload_n 0, 1) := by decide +kernel
theorem d42 : decode yB 42 = .ok (.aload 5, 2) := by decide +kernel
theorem d44 : decode yB 44 = .ok (.iload_n 3, 1) := by decide +kernel
theorem d45 : decode yB 45 = .ok (.invokestatic 47, 3) := by decide +kernel
theorem d48 : decode yB 48 = .ok (.putfield 15, 3) := by decide +kernel
theorem d51 : decode yB 51 = .ok (.aload_n 0, 1) := by decide +kernel
theorem d52 : decode yB 52 = .ok (.aload 5, 2) := by decide +kernel
theorem d54 : decode yB 54 = .ok (.putfield 9, 3) := by decide +kernel
theorem d57 : decode yB 57 = .ok (.return_, 1) := by decide +kernel
def site : List Cond := [.fieldLink "java/lang/String" 38 "java/lang/String" "COMPACT_STRINGS" "Z", Cmp3.tab, CodL.tab, .laysFinal "java/lang/String" "java/lang/String" "value" "[B", .fieldLink "java/lang/String" 9 "java/lang/String" "value" "[B", .laysFinal "java/lang/String" "java/lang/String" "coder" "B", .fieldLink "java/lang/String" 15 "java/lang/String" "coder" "B"] ++ objW "java/lang/String" 1 ++ staticW "java/lang/String" 177 Cmp3.yN ++ staticW "java/lang/String" 47 CodL.yN
def tab : Cond := tabOf yN yB 6 none site
def P (a : Addr) (D : Cell) (fV fC : Field) (b : Addr) (A : Cell) (z : Int32) (o len : Nat) (args : Array Value) (s : State) : Prop := args = #[.ref a, .ref b, .int (Int32.ofNat o), .int (Int32.ofNat len), .null] ∧ Blank "java/lang/String" a D s ∧ Found "java/lang/String" "value" "[B" fV s ∧ Found "java/lang/String" "coder" "B" fC s ∧ Ch b A s ∧ StaticIs s "java/lang/String" "COMPACT_STRINGS" "Z" (.int z) ∧ ¬ z = 0 ∧ 0 < len ∧ o + len ≤ A.slots.size ∧ len ≤ 536870912 ∧ ∀ i, i < len → ¬ 255 < cv A (o + i)
def E (a : Addr) (D : Cell) (fV fC : Field) (A : Cell) (o len : Nat) (r : Option Value) (s u : State) : Prop := Got a D fV fC A o len r s u
/-- len > 0, no char of the range above 255: a Latin-1 String of their low bytes -/
theorem law (l : Launch) (a : Addr) (D : Cell) (fV fC : Field) (b : Addr) (A : Cell) (z : Int32) (o len : Nat) : Law l yN 5 4 2 35 yB 6 none site (P a D fV fC b A z o len) (E a D fV fC A o len) [⟨a, fC.slot⟩, ⟨a, fV.slot⟩] 1 len := by
  refine Law.of_walk (plainFor_of_name (by decide +kernel)) (by decide +kernel) (by decide +kernel) (by decide) (fun _ _ h => by rw [h.1]; rfl) (fun _ U U' hal hh h => ⟨h.1, h.2.1.mv hal hh, h.2.2.1.al hal, h.2.2.2.1.al hal, h.2.2.2.2.1.mv hal hh, h.2.2.2.2.2.1.there hal hh, h.2.2.2.2.2.2⟩) (fun r U U' V V' h1 hal h2 h => Got.mv r U U' V V' h1 hal h2 h) ?_
  intro p e s m args below meth c s₁ X0 hexec hbytes hml hret hlk hnm hown hh0 W hP
  obtain ⟨rfl, hB, f1, f2, hA, s1, hz, l0, l1, l2, hp⟩ := hP
  have a31 := hA.1.2.2.2
  have c1 : Steps p.tables e below (s₁.setTop (entryFrame m #[.ref a, .ref b, .int (Int32.ofNat o), .int (Int32.ofNat len), .null] 6)) (s₁.setTop (mkF m 0 #[.val (.ref a), .val (.ref b), .val (.int (Int32.ofNat o)), .val (.int (Int32.ofNat len)), .val .null, .unset] [])) := entry rfl
  have c2 : Steps p.tables e below (s₁.setTop (entryFrame m #[.ref a, .ref b, .int (Int32.ofNat o), .int (Int32.ofNat len), .null] 6)) (s₁.setTop (mkF m 1 #[.val (.ref a), .val (.ref b), .val (.int (Int32.ofNat o)), .val (.int (Int32.ofNat len)), .val .null, .unset] [.ref a])) := c1.trans (by
    refine XS.aloadN X0.here hexec rfl (hb hbytes d0) rfl rfl ?_
    exact Steps.refl _)
  obtain ⟨T3, X3, q3, st3⟩ := X0.oinit hexec hown (wks W (objW "java/lang/String" 1)) (g := (mkF m 1 #[.val (.ref a), .val (.ref b), .val (.int (Int32.ofNat o)), .val (.int (Int32.ofNat len)), .val .null, .unset] [.ref a])) rfl (by rw [hml]; rfl) (rest := []) rfl (hb hbytes d1) (W := 0) (by show 2 * 0 + 0 ≤ _; decide) (Nat.le_of_ble_eq_true rfl) (Nat.le_of_ble_eq_true rfl)
  have hh3 := q3.trans hh0
  have c4 : Steps p.tables e below (s₁.setTop (entryFrame m #[.ref a, .ref b, .int (Int32.ofNat o), .int (Int32.ofNat len), .null] 6)) (T3.setTop (mkF m 27 #[.val (.ref a), .val (.ref b), .val (.int (Int32.ofNat o)), .val (.int (Int32.ofNat len)), .val .null, .unset] [])) := (c2.trans (st3 _ (Steps.refl _))).trans (by
    refine XS.iloadN X3.here hexec rfl (hb hbytes d4) rfl ?_
    refine XS.ifYes X3.here hexec rfl (pc0 := 5) rfl (hb hbytes d5) rfl (i0_ne_t (nz32 (by omega) l0)) (by decide) rfl ?_
    exact Steps.refl _)
  obtain ⟨T5, X5, q5, st5⟩ := X3.sget hexec hown (wk W (.fieldLink "java/lang/String" 38 "java/lang/String" "COMPACT_STRINGS" "Z")) s1 (fun _ _ h => by rw [hh3]; exact h) (g := (mkF m 27 #[.val (.ref a), .val (.ref b), .val (.int (Int32.ofNat o)), .val (.int (Int32.ofNat len)), .val .null, .unset] [])) rfl (hb hbytes d27)
  have hh5 := q5.trans hh3
  have c6 : Steps p.tables e below (s₁.setTop (entryFrame m #[.ref a, .ref b, .int (Int32.ofNat o), .int (Int32.ofNat len), .null] 6)) (T5.setTop (mkF m 30 #[.val (.ref a), .val (.ref b), .val (.int (Int32.ofNat o)), .val (.int (Int32.ofNat len)), .val .null, .unset] [.int z])) := c4.trans (st5 _ (Steps.refl _))
  have c7 : Steps p.tables e below (s₁.setTop (entryFrame m #[.ref a, .ref b, .int (Int32.ofNat o), .int (Int32.ofNat len), .null] 6)) (T5.setTop (mkF m 36 #[.val (.ref a), .val (.ref b), .val (.int (Int32.ofNat o)), .val (.int (Int32.ofNat len)), .val .null, .unset] [.int (Int32.ofNat len), .int (Int32.ofNat o), .ref b])) := c6.trans (by
    refine XS.ifNo X5.here hexec rfl (hb hbytes d30) rfl (i0_eq_f hz) ?_
    refine XS.aloadN X5.here hexec rfl (hb hbytes d33) rfl rfl ?_
    refine XS.iloadN X5.here hexec rfl (hb hbytes d34) rfl ?_
    refine XS.iloadN X5.here hexec rfl (hb hbytes d35) rfl ?_
    exact Steps.refl _)
  obtain ⟨v8, T8, X8, E8, g8⟩ := X5.callS hexec (Cmp3.law l b A o len) hown (wks W (staticW "java/lang/String" 177 Cmp3.yN)) (wk W Cmp3.tab) (W := 0) (Nat.le_of_ble_eq_true rfl) (Nat.le_of_ble_eq_true rfl) (Nat.le_refl _) (by show 0 + len ≤ len; omega) (g := (mkF m 36 #[.val (.ref a), .val (.ref b), .val (.int (Int32.ofNat o)), .val (.int (Int32.ofNat len)), .val .null, .unset] [.int (Int32.ofNat len), .int (Int32.ofNat o), .ref b])) rfl (by rw [hml]; rfl) c7 (argsL := [.ref b, .int (Int32.ofNat o), .int (Int32.ofNat len)]) (rest := []) rfl rfl (by show 2 * 0 + 0 ≤ _; decide) (hb hbytes d36) (⟨rfl, hA.mv X5.warmed.alike hh5, l1, l2, hp⟩)
  obtain ⟨e8, z8⟩ := E8
  obtain ⟨rfl, N, n1, n2, n3, n4, n5, n6⟩ := NewArr.mv _ T5 s _ _ hh5.symm (Vm.Alike.refl _) rfl e8
  rw [hh5] at z8
  have hB1 := hB.keep X8.warmed.alike (n6 _ _ hB.1)
  have hne : s.heap.size ≠ a := (Nat.ne_of_lt (Array.getElem?_eq_some_iff.mp hB.1).1).symm
  have c9 : Steps p.tables e below (s₁.setTop (entryFrame m #[.ref a, .ref b, .int (Int32.ofNat o), .int (Int32.ofNat len), .null] 6)) (T8.setTop (mkF m 39 #[.val (.ref a), .val (.ref b), .val (.int (Int32.ofNat o)), .val (.int (Int32.ofNat len)), .val .null, .unset] [.ref s.heap.size])) := g8
  have c10 : Steps p.tables e below (s₁.setTop (entryFrame m #[.ref a, .ref b, .int (Int32.ofNat o), .int (Int32.ofNat len), .null] 6)) (T8.setTop (mkF m 45 #[.val (.ref a), .val (.ref b), .val (.int (Int32.ofNat o)), .val (.int (Int32.ofNat len)), .val .null, .val (.ref s.heap.size)] [.int (Int32.ofNat N.slots.size), .ref s.heap.size, .ref a])) := by
    have hc : Steps p.tables e below (s₁.setTop (entryFrame m #[.ref a, .ref b, .int (Int32.ofNat o), .int (Int32.ofNat len), .null] 6)) (T8.setTop (mkF m 45 #[.val (.ref a), .val (.ref b), .val (.int (Int32.ofNat o)), .val (.int (Int32.ofNat len)), .val .null, .val (.ref s.heap.size)] [.int (Int32.ofNat len), .ref s.heap.size, .ref a])) := c9.trans (by
      refine XS.astore X8.here hexec rfl (hb hbytes d39) rfl rfl rfl ?_
      refine XS.aloadN X8.here hexec rfl (hb hbytes d41) rfl rfl ?_
      refine XS.aload X8.here hexec rfl (hb hbytes d42) rfl rfl ?_
      refine XS.iloadN X8.here hexec rfl (hb hbytes d44) rfl ?_
      exact Steps.refl _)
    rw [n4]; exact hc
  obtain ⟨v11, T11, X11, E11, g11⟩ := X8.callS hexec (CodL.law l s.heap.size N) hown (wks W (staticW "java/lang/String" 47 CodL.yN)) (wk W CodL.tab) (W := 1) (Nat.le_of_ble_eq_true rfl) (Nat.le_of_ble_eq_true rfl) (Nat.le_refl _) (by show 0 + len + 0 ≤ len; omega) (g := (mkF m 45 #[.val (.ref a), .val (.ref b), .val (.int (Int32.ofNat o)), .val (.int (Int32.ofNat len)), .val .null, .val (.ref s.heap.size)] [.int (Int32.ofNat N.slots.size), .ref s.heap.size, .ref a])) rfl (by rw [hml]; rfl) c10 (argsL := [.ref s.heap.size, .int (Int32.ofNat N.slots.size)]) (rest := [.ref a]) rfl rfl (by show 2 * 0 + (1 + 0) ≤ _; decide) (hb hbytes d45) (⟨rfl, n1⟩)
  obtain ⟨rfl, q11⟩ := E11
  have hB11 := hB1.mv (X8.warmed.alike.symm.trans X11.warmed.alike) q11
  have c12 : Steps p.tables e below (s₁.setTop (entryFrame m #[.ref a, .ref b, .int (Int32.ofNat o), .int (Int32.ofNat len), .null] 6)) (T11.setTop (mkF m 48 #[.val (.ref a), .val (.ref b), .val (.int (Int32.ofNat o)), .val (.int (Int32.ofNat len)), .val .null, .val (.ref s.heap.size)] [.int 0, .ref a])) := g11
  obtain ⟨T13, X13, p13, bl13, sl13, st13⟩ := X11.finit hexec hown (wk W (.fieldLink "java/lang/String" 15 "java/lang/String" "coder" "B")) (Or.inr ⟨_, (wk W (.laysFinal "java/lang/String" "java/lang/String" "coder" "B"))⟩) (Or.inl ⟨rfl, hnm⟩) f2 (Or.inl rfl) hB11 (t := .byte) (by decide +kernel) rfl (g := (mkF m 48 #[.val (.ref a), .val (.ref b), .val (.int (Int32.ofNat o)), .val (.int (Int32.ofNat len)), .val .null, .val (.ref s.heap.size)] [.int 0, .ref a])) rfl (rest := []) rfl (hb hbytes d48)
  have c14 : Steps p.tables e below (s₁.setTop (entryFrame m #[.ref a, .ref b, .int (Int32.ofNat o), .int (Int32.ofNat len), .null] 6)) (T13.setTop (mkF m 54 #[.val (.ref a), .val (.ref b), .val (.int (Int32.ofNat o)), .val (.int (Int32.ofNat len)), .val .null, .val (.ref s.heap.size)] [.ref s.heap.size, .ref a])) := (c12.trans (st13 _ (Steps.refl _))).trans (by
    refine XS.aloadN X13.here hexec rfl (hb hbytes d51) rfl rfl ?_
    refine XS.aload X13.here hexec rfl (hb hbytes d52) rfl rfl ?_
    exact Steps.refl _)
  obtain ⟨T15, X15, p15, bl15, sl15, st15⟩ := X13.finit hexec hown (wk W (.fieldLink "java/lang/String" 9 "java/lang/String" "value" "[B")) (Or.inr ⟨_, (wk W (.laysFinal "java/lang/String" "java/lang/String" "value" "[B"))⟩) (Or.inl ⟨rfl, hnm⟩) f1 (Or.inl rfl) bl13 (t := (.array .byte)) (by decide +kernel) rfl (g := (mkF m 54 #[.val (.ref a), .val (.ref b), .val (.int (Int32.ofNat o)), .val (.int (Int32.ofNat len)), .val .null, .val (.ref s.heap.size)] [.ref s.heap.size, .ref a])) rfl (rest := []) rfl (hb hbytes d54)
  have c16 : Steps p.tables e below (s₁.setTop (entryFrame m #[.ref a, .ref b, .int (Int32.ofNat o), .int (Int32.ofNat len), .null] 6)) (T15.setTop (mkF m 57 #[.val (.ref a), .val (.ref b), .val (.int (Int32.ofNat o)), .val (.int (Int32.ofNat len)), .val .null, .val (.ref s.heap.size)] [])) := c14.trans (st15 _ (Steps.refl _))
  have ap := apart (Or.inr ⟨_, (wk W (.laysFinal "java/lang/String" "java/lang/String" "value" "[B"))⟩) (Or.inr ⟨_, (wk W (.laysFinal "java/lang/String" "java/lang/String" "coder" "B"))⟩) f1 f2 (t₁ := .array .byte) (t₂ := .byte) (by decide +kernel) (by decide +kernel) (by decide)
  have al := X8.warmed.alike.symm.trans X15.warmed.alike
  have n7 : T11.heap[s.heap.size]? = some N := by rw [q11]; exact n1.1
  exact ⟨T15, none, _, _, _, X15, by simp, rfl, by omega, (fun _ => rfl), ⟨rfl, _, N, bl15, ((Same.refl D _).set _ (by simp)).set _ (by simp), sl15, (Cell.slots_setSlot_ne _ ap).trans sl13, n1.keep al (p15.other hne (p13.other hne n7)), n2, by rw [al.findClass]; exact n3, n4, n5, fun y c h1 h2 => p15.other h1 (p13.other h1 (by rw [q11]; exact n6 y c h2)), by rw [p15.2.2, p13.2.2, q11]; exact z8⟩, fun fs hl => c16.trans (X15.returnOut hexec hret (hb hbytes d57) hl)⟩
end New4
namespace New1
def yN : MethodName := ⟨"java/lang/String", "<init>", "([C)V"⟩
abbrev yB : ByteArray := jdk_42_method_3_code
theorem d0 : decode yB 0 = .ok (.aload_n 0, 1) := by decide +kernel
theorem d1 : decode yB 1 = .ok (.aload_n 1, 1) := by decide +kernel
theorem d2 : decode yB 2 = .ok (.iconst 0, 1) := by decide +kernel
theorem d3 : decode yB 3 = .ok (.aload_n 1, 1) := by decide +kernel
theorem d4 : decode yB 4 = .ok (.arraylength, 1) := by decide +kernel
theorem d5 : decode yB 5 = .ok (.aconst_null, 1) := by decide +kernel
theorem d6 : decode yB 6 = .ok (.invokespecial 27, 3) := by decide +kernel
theorem d9 : decode yB 9 = .ok (.return_, 1) := by decide +kernel
def site : List Cond := [New4.tab] ++ initW "java/lang/String" 27 New4.yN
def tab : Cond := tabOf yN yB 2 none site
def P (a : Addr) (D : Cell) (fV fC : Field) (b : Addr) (A : Cell) (z : Int32) (args : Array Value) (s : State) : Prop := args = #[.ref a, .ref b] ∧ Blank "java/lang/String" a D s ∧ Found "java/lang/String" "value" "[B" fV s ∧ Found "java/lang/String" "coder" "B" fC s ∧ Ch b A s ∧ StaticIs s "java/lang/String" "COMPACT_STRINGS" "Z" (.int z) ∧ ¬ z = 0 ∧ 0 < A.slots.size ∧ A.slots.size ≤ 536870912 ∧ ∀ i, i < A.slots.size → ¬ 255 < cv A i
def E (a : Addr) (D : Cell) (fV fC : Field) (A : Cell) (r : Option Value) (s u : State) : Prop := Got a D fV fC A 0 A.slots.size r s u
/-- new String(chars), not empty, no char above 255: a Latin-1 String of their low bytes -/
theorem law (l : Launch) (a : Addr) (D : Cell) (fV fC : Field) (b : Addr) (A : Cell) (z : Int32) : Law l yN 2 1 3 52 yB 2 none site (P a D fV fC b A z) (E a D fV fC A) [⟨a, fC.slot⟩, ⟨a, fV.slot⟩] 1 A.slots.size := by
  refine Law.of_walk (plainFor_of_name (by decide +kernel)) (by decide +kernel) (by decide +kernel) (by decide) (fun _ _ h => by rw [h.1]; rfl) (fun _ U U' hal hh h => ⟨h.1, h.2.1.mv hal hh, h.2.2.1.al hal, h.2.2.2.1.al hal, h.2.2.2.2.1.mv hal hh, h.2.2.2.2.2.1.there hal hh, h.2.2.2.2.2.2⟩) (fun r U U' V V' h1 hal h2 h => Got.mv r U U' V V' h1 hal h2 h) ?_
  intro p e s m args below meth c s₁ X0 hexec hbytes hml hret hlk hnm hown hh0 W hP
  obtain ⟨rfl, hB, f1, f2, hA, s1, hz, l0, l2, hp⟩ := hP
  have c1 : Steps p.tables e below (s₁.setTop (entryFrame m #[.ref a, .ref b] 2)) (s₁.setTop (mkF m 0 #[.val (.ref a), .val (.ref b)] [])) := entry rfl
  have c2 : Steps p.tables e below (s₁.setTop (entryFrame m #[.ref a, .ref b] 2)) (s₁.setTop (mkF m 6 #[.val (.ref a), .val (.ref b)] [.null, .int (Int32.ofNat A.slots.size), .int 0, .ref b, .ref a])) := c1.trans (by
    refine XS.aloadN X0.here hexec rfl (hb hbytes d0) rfl rfl ?_
    refine XS.aloadN X0.here hexec rfl (hb hbytes d1) rfl rfl ?_
    refine iconstV X0.here hexec rfl 0 (hb hbytes d2) (by decide) ?_
    refine XS.aloadN X0.here hexec rfl (hb hbytes d3) rfl rfl ?_
    refine X0.alen hexec (hA.1.mv X0.warmed.alike hh0) rfl rfl (hb hbytes d4) ?_
    refine XS.aconstNull X0.here hexec rfl (hb hbytes d5) ?_
    exact Steps.refl _)
  obtain ⟨v3, T3, X3, E3, g3⟩ := X0.callN hexec (New4.law l a D fV fC b A z 0 A.slots.size) rfl hown (wks W (initW "java/lang/String" 27 New4.yN)) (W New4.tab (by simp only [site, List.mem_cons, List.mem_append, true_or, or_true])) (W := 0) (Nat.le_of_ble_eq_true rfl) (Nat.le_of_ble_eq_true rfl) (Nat.le_refl _) (by show 0 + A.slots.size ≤ A.slots.size; omega) (g := (mkF m 6 #[.val (.ref a), .val (.ref b)] [.null, .int (Int32.ofNat A.slots.size), .int (Int32.ofNat 0), .ref b, .ref a])) rfl (by rw [hml]; rfl) c2 (argsL := [.ref b, .int (Int32.ofNat 0), .int (Int32.ofNat A.slots.size), .null]) (rest := []) rfl rfl (by show 2 * 0 + 0 ≤ _; decide) (hb hbytes d6) (⟨rfl, hB.mv X0.warmed.alike hh0, f1.al X0.warmed.alike, f2.al X0.warmed.alike, hA.mv X0.warmed.alike hh0, s1.there X0.warmed.alike hh0, hz, l0, by omega, l2, fun i hi => by rw [Nat.zero_add]; exact hp i hi⟩)
  have e0 := Got.mv _ s₁ s _ _ hh0.symm (Vm.Alike.refl _) rfl E3
  obtain rfl := e0.1
  have c4 : Steps p.tables e below (s₁.setTop (entryFrame m #[.ref a, .ref b] 2)) (T3.setTop (mkF m 9 #[.val (.ref a), .val (.ref b)] [])) := g3
  exact ⟨T3, none, _, _, _, X3, by simp, rfl, by omega, (fun _ => rfl), e0, fun fs hl => c4.trans (X3.returnOut hexec hret (hb hbytes d9) hl)⟩
theorem pays {l : Launch} {R : Room} {p : Program} {e : Env} {below : List Frame} {s : State} {sargs : Array Value} {len W : Nat} (a : Addr) (D : Cell) (fV fC : Field) (b : Addr) (A : Cell) (z : Int32) (htab : tab.before sargs s = true) (hfr : 4 ≤ R.frames) (hlo : W + 65 ≤ R.locals) :
    Back l R p e below s sargs yN len W (fun A₁ a₁ => A₁.cells + 1 ≤ R.cells ∧ A₁.slots + A.slots.size ≤ R.slots ∧ P a D fV fC b A z a₁ A₁.U) (fun A₁ _ v₁ B₁ => E a D fV fC A v₁ A₁.U B₁.U ∧ B₁.locs = A₁.locs ++ [⟨a, fC.slot⟩, ⟨a, fV.slot⟩] ∧ B₁.cells = A₁.cells + 1 ∧ B₁.slots = A₁.slots + A.slots.size) :=
  (law l a D fV fC b A z).pays htab hfr (by omega)
end New1
end StrChars
namespace StrChars.Road
open Jvm Sem ClassFile Op Lib Jvm.Stand Jvm.Free Jvm.Free.XT
open Jvm.Lib.Cold (StaticIs)
abbrev ST : String := "java/lang/String"
/-- every table word that New1's law asks, flat -/
abbrev words : List Jvm.Cond := [.code New1.yN New1.yB 2 none, .initialized ST, .methodLink ST 27 New4.yN, .instanceMethod New4.yN,
  .code New4.yN New4.yB 6 none, .fieldLink ST 38 ST "COMPACT_STRINGS" "Z", .laysFinal ST ST "value" "[B", .fieldLink ST 9 ST "value" "[B", .laysFinal ST ST "coder" "B", .fieldLink ST 15 ST "coder" "B",
  .methodLink ST 1 Lib.objectInit, .instanceMethod Lib.objectInit, .code Lib.objectInit ⟨#[0xb1]⟩ 1 none, .methodLink ST 177 Cmp3.yN, .static Cmp3.yN, .methodLink ST 47 CodL.yN, .static CodL.yN,
  .code Cmp3.yN Cmp3.yB 6 (some (.array .byte)), .initialized U16, .arrayClass .byte, .methodLink U16 115 Cmp5.yN, .static Cmp5.yN, .code Cmp5.yN Cmp5.yB 7 (some .int), .code CodL.yN CodL.yB 2 (some .byte)]
theorem tab_of {a : Array Value} {s : State} (h : ∀ w ∈ words, w.before a s = true) : New1.tab.before a s = true := by
  have h5 : Cmp5.tab.before a s = true := unparts (wk h (.code Cmp5.yN Cmp5.yB 7 (some .int))) (wks h (.initialized Cmp5.yN.cls :: Cmp5.site))
  have hc : CodL.tab.before a s = true := unparts (wk h (.code CodL.yN CodL.yB 2 (some .byte))) (wks h (.initialized CodL.yN.cls :: CodL.site))
  have q5 : ∀ w ∈ Cmp5.tab :: words, w.before a s = true := fun w hw => (List.mem_cons.mp hw).elim (fun e => e ▸ h5) (h w)
  have h3 : Cmp3.tab.before a s = true := unparts (wk q5 (.code Cmp3.yN Cmp3.yB 6 (some (.array .byte)))) (wks q5 (.initialized Cmp3.yN.cls :: Cmp3.site))
  have q3 : ∀ w ∈ Cmp3.tab :: CodL.tab :: words, w.before a s = true := fun w hw => (List.mem_cons.mp hw).elim (fun e => e ▸ h3) fun hw => (List.mem_cons.mp hw).elim (fun e => e ▸ hc) (h w)
  have h4 : New4.tab.before a s = true := unparts (wk q3 (.code New4.yN New4.yB 6 none)) (wks q3 (.initialized New4.yN.cls :: New4.site))
  have q4 : ∀ w ∈ New4.tab :: words, w.before a s = true := fun w hw => (List.mem_cons.mp hw).elim (fun e => e ▸ h4) (h w)
  exact unparts (wk q4 (.code New1.yN New1.yB 2 none)) (wks q4 (.initialized New1.yN.cls :: New1.site))
/-- the words ride from the start Z to the walk's own state -/
theorem moved {Z s : State} {a0 args : Array Value} (hZ : Z.Warmed39 s.vm) (hw : ∀ d ∈ words, d.before a0 Z = true) : ∀ d ∈ words, d.before args s = true := fun d hd => by
  have q := hw d hd
  have t : ∀ d ∈ words, d = .arrayClass .byte ∨ (d.onTables && d.keepsFace) = true := by decide +kernel
  rcases t d hd with rfl | t
  · exact RoadKit.mvA hZ q
  · exact RoadKit.mv hZ q t
/-- WHAT COMES BACK, over the tables of the start Z: h the heap at the call, h' behind it -/
def Q (Z : State) (x : Addr) (A : Cell) (h : Heap) (v : Option Value) (h' : Heap) (L : List Loc) : Prop := v = none ∧ (∀ y ∈ L, y.base = x) ∧ RoadKit.Keep h h' [x] ∧ h'.size = h.size + 1 ∧ RoadKit.Exa Z h' x ST ∧ RoadKit.Fld Z h' x ST "value" "[B" (.ref h.size) ∧ RoadKit.Fld Z h' x ST "coder" "B" (.int 0) ∧
  (∃ V : Cell, RoadKit.Arr Z h' h.size V .byte ∧ V.vm = .none ∧ Z.vm.findClass "[B" = some V.cls ∧ V.slots.size = A.slots.size ∧ ∀ j, j < A.slots.size → V.slots[j]? = some (.int (lo8 (cv A j)))) ∧
  ∀ (O n d : String) (w : Value), RoadKit.Fld Z h x O n d w → RoadKit.slotOf Z O n d ≠ RoadKit.slotOf Z ST "value" "[B" → RoadKit.slotOf Z O n d ≠ RoadKit.slotOf Z ST "coder" "B" → RoadKit.Fld Z h' x O n d w
/-- **new String(chars) AT A CALL, IN THE ROAD'S FORM**: for specialBack behind newO: x the fresh String, b the char[] with the cell A -/
theorem back {p : Program} {l : Launch} {e : Env} {R : Room} {s : State} {args : Array Value} {below : List Frame} {len W : Nat} {Z : State} {a0 : Array Value} {h : Heap} (hZ : Z.Warmed39 s.vm) (hw : ∀ d ∈ words, d.before a0 Z = true) {kI : Nat} (wi : (Jvm.Cond.instantiable ST kI).before a0 Z = true)
    {x b : Addr} {A : Cell} {z : Int32} {v0 c0 : Value} (E : RoadKit.Exa Z h x ST) (V : RoadKit.Fld Z h x ST "value" "[B" v0) (C : RoadKit.Fld Z h x ST "coder" "B" c0) (K : RoadKit.Arr Z h b A .char) (hty : Typed .char A) (S : RoadKit.Sta Z h ST "COMPACT_STRINGS" "Z" (.int z)) (hz : ¬ z = 0)
    (l0 : 0 < A.slots.size) (l2 : A.slots.size ≤ 536870912) (hp : ∀ i, i < A.slots.size → ¬ 255 < cv A i) (hfr : 4 ≤ R.frames) (hlo : W + 65 ≤ R.locals) :
    Back l R p e below s args New1.yN len W (fun P a => a = #[.ref x, .ref b] ∧ P.U.heap = h ∧ P.cells + 1 ≤ R.cells ∧ P.slots + A.slots.size ≤ R.slots)
      (fun P _ v B => ∃ L, Q Z x A h v B.U.heap L ∧ B.locs = P.locs ++ L ∧ B.cells = P.cells + 1 ∧ B.slots = P.slots + A.slots.size) := by
  intro m meth c P g ig mk a X hg hsize hdg hW hn hp'
  obtain ⟨rfl, rfl, r1, r2⟩ := hp'
  have al : Z.vm.Alike P.U.vm := hZ.alike.trans X.warmed.alike
  obtain ⟨D, cfV, kV, iV, fV, hD, gV, stV, knV, obV, asV, slV⟩ := id V
  obtain ⟨D', cfC, kC, iC, fC, hD', gC, stC, -, -, asC, slC⟩ := id C
  cases hD.symm.trans hD'
  obtain ⟨D2, kD, e1, e2, e3, e4, e5⟩ := id E
  cases hD.symm.trans e1
  obtain ⟨c2, k2, i1, i2, i3, -⟩ := Cond.instantiable_spec wi
  cases e2.symm.trans i1
  cases e3.symm.trans i2
  obtain ⟨kU, u1, u2⟩ := al.2.2 _ _ e3
  have hB : Blank ST x D P.U := ⟨hD, ⟨knV, fun q hq => by rw [hq] at obV; cases obV⟩, by rw [al.findClass]; exact e2, kU, u1, by rw [u2]; exact i3, by rw [u2]; exact e5 i3⟩
  have F1 : Found ST "value" "[B" fV P.U := ⟨SBG.found_only al ⟨cfV, kV, iV, gV⟩, stV⟩
  have F2 : Found ST "coder" "B" fC P.U := ⟨SBG.found_only al ⟨cfC, kC, iC, gC⟩, stC⟩
  have hA : Ch b A P.U := ⟨⟨K.1, State.isArrayOf_alike al K.2.1, K.2.2, by omega⟩, hty⟩
  have hS : StaticIs P.U ST "COMPACT_STRINGS" "Z" (.int z) := by
    obtain ⟨cfS, iS, kS, fS, st, cS, t1, t2, t3, t4, t5, t6, t7⟩ := S
    exact StaticIs.there (s := { Z with heap := P.U.heap }) ⟨cfS, iS, kS, fS, st, cS, t1, t2, t3, t4, t5, (fun q => by rw [q] at t6; cases t6), t7⟩ al rfl
  obtain ⟨v, B, X', ⟨⟨hv, E', V', q1, q2, q3, q4, q5, q6, q7, q8, q9, q10, q11⟩, hl, hc, hs⟩, st⟩ := New1.pays x D fV fC b A z (tab_of (moved hZ hw)) hfr hlo m meth c P g ig mk _ X hg hsize hdg hW hn ⟨r1, r2, rfl, hB, F1, F2, hA, hS, hz, l0, l2, hp⟩
  have al' : Z.vm.Alike B.U.vm := hZ.alike.trans X'.warmed.alike
  have hsz : E'.slots.size = D.slots.size := by
    obtain ⟨-, -, -, kB, w1, w2, w3⟩ := q1
    obtain ⟨kB', y1, y2⟩ := al'.2.2 _ _ e3
    rw [q2.2.1] at w1
    cases w1.symm.trans y1
    rw [w3, e5 i3, y2]
  refine ⟨v, B, X', ⟨_, ⟨hv, ?_, ⟨by omega, fun y cy hy hn' => q10 y cy (by simpa using hn') hy, fun y cy hy => ?_⟩, q11, ⟨E', _, q1.1, by rw [q2.2.1]; exact e2, by rw [q2.2.1]; exact e3, by rw [q2.1]; exact obV, fun _ => by rw [hsz]; exact e5 i3⟩,
    ⟨E', cfV, kV, iV, fV, q1.1, gV, stV, by rw [q2.1]; exact knV, by rw [q2.1]; exact obV, by rw [q2.2.1]; exact asV, q3⟩, ⟨E', cfC, kC, iC, fC, q1.1, gC, stC, by rw [q2.1]; exact knV, by rw [q2.1]; exact obV, by rw [q2.2.1]; exact asC, q4⟩,
    ⟨V', ⟨q5.1, State.isArrayOf_alike al'.symm q5.2.1, q5.2.2.1⟩, q6, by rw [← al'.findClass]; exact q7, q8, fun j hj => by have := q9 j hj; rwa [Nat.zero_add] at this⟩, fun O n d w F n1 n2 => ?_⟩, hl, hc, hs⟩, st⟩
  · intro y hy
    simp only [List.mem_cons, List.not_mem_nil, or_false] at hy
    rcases hy with rfl | rfl <;> rfl
  · by_cases q : y = x
    · subst q
      cases hD.symm.trans hy
      exact ⟨E', q1.1, q2.2.1, q2.1, hsz⟩
    · exact ⟨cy, q10 y cy q hy, rfl, rfl, rfl⟩
  · obtain ⟨D3, cf, k, i, f, g1, g2, g3, g4, g5, g6, g7⟩ := F
    cases hD.symm.trans g1
    simp only [RoadKit.slotOf, g2, gV, gC, Option.map_some, Option.getD_some] at n1 n2
    exact ⟨E', cf, k, i, f, q1.1, g2, g3, by rw [q2.1]; exact g4, by rw [q2.1]; exact g5, by rw [q2.2.1]; exact g6, by rw [q2.2.2 f.slot (by simp [n1, n2])]; exact g7⟩
end StrChars.Road
namespace StrChars.Road
open Jvm Sem ClassFile Op Lib Jvm.Stand Jvm.Free Jvm.Free.XT
/-- WHAT COMES BACK, the byte[] as a list of values -/
def QA (Z : State) (x : Addr) (zn : Int32) (cs : List Int32) (h : Heap) (v : Option Value) (h' : Heap) (L : List Loc) : Prop := v = none ∧ (∀ y ∈ L, y.base = x) ∧ RoadKit.Keep h h' [x] ∧ h'.size = h.size + 1 ∧ RoadKit.Exa Z h' x ST ∧ RoadKit.Fld Z h' x ST "value" "[B" (.ref h.size) ∧ RoadKit.Fld Z h' x ST "coder" "B" (.int 0) ∧
  (∃ kb, Z.vm.findClass "[B" = some kb ∧ RoadKit.Arv Z h' h.size kb .byte zn (cs.map fun c => .int (lo8 c)) (.int 0)) ∧
  ∀ (O n d : String) (w : Value), RoadKit.Fld Z h x O n d w → RoadKit.slotOf Z O n d ≠ RoadKit.slotOf Z ST "value" "[B" → RoadKit.slotOf Z O n d ≠ RoadKit.slotOf Z ST "coder" "B" → RoadKit.Fld Z h' x O n d w
/-- **new String(chars) AT A CALL, THE ARRAYS AS LISTS**: the char[] at b holds cs, not empty, no char above 255 -/
theorem backArv {p : Program} {l : Launch} {e : Env} {R : Room} {s : State} {args : Array Value} {below : List Frame} {len W : Nat} {Z : State} {a0 : Array Value} {h : Heap} (hZ : Z.Warmed39 s.vm) (hw : ∀ d ∈ words, d.before a0 Z = true) {kI : Nat} (wi : (Jvm.Cond.instantiable ST kI).before a0 Z = true)
    {x b : Addr} {k : ClassId} {zn z : Int32} {cs : List Int32} {dv v0 c0 : Value} (E : RoadKit.Exa Z h x ST) (V : RoadKit.Fld Z h x ST "value" "[B" v0) (C : RoadKit.Fld Z h x ST "coder" "B" c0) (K : RoadKit.Arv Z h b k .char zn (cs.map Value.int) dv) (S : RoadKit.Sta Z h ST "COMPACT_STRINGS" "Z" (.int z)) (hz : ¬ z = 0)
    (hlen : zn.toNatClampNeg = cs.length) (h0 : 0 < cs.length) (hbig : cs.length ≤ 536870912) (hall : ∀ c ∈ cs, ¬ 255 < c) (hfr : 4 ≤ R.frames) (hlo : W + 65 ≤ R.locals) :
    Back l R p e below s args New1.yN len W (fun P a => a = #[.ref x, .ref b] ∧ P.U.heap = h ∧ P.cells + 1 ≤ R.cells ∧ P.slots + cs.length ≤ R.slots)
      (fun P _ v B => ∃ L, QA Z x zn cs h v B.U.heap L ∧ B.locs = P.locs ++ L ∧ B.cells = P.cells + 1 ∧ B.slots = P.slots + cs.length) := by
  obtain ⟨A, K1, K2, K3, K4, K5, K6⟩ := K
  have e : A.slots.size = cs.length := K3.trans hlen
  have hat : ∀ (i : Nat) (hi : i < cs.length), A.slots[i]? = some (.int cs[i]) := fun i hi => by rw [K5 i (by omega)]; simp [List.getD_eq_getElem?_getD, hi]
  have hcv : ∀ (i : Nat) (hi : i < cs.length), cv A i = cs[i] := fun i hi => by unfold cv; rw [hat i hi]
  have hty : Typed .char A := fun i v hv => by
    have hi : i < A.slots.size := (Array.getElem?_eq_some_iff.mp hv).1
    have q := K5 i hi
    rw [hv] at q
    rw [Option.some.inj q]
    exact K6 i hi
  refine Back.mono (back hZ hw wi E V C K1 hty S hz (by omega) (by omega) (fun i hi => by rw [hcv i (by omega)]; exact hall _ (List.getElem_mem _)) hfr hlo) (fun P a hp => ⟨hp.1, hp.2.1, hp.2.2.1, by rw [e]; exact hp.2.2.2⟩) (fun P a v B hp hq => ?_)
  obtain ⟨L, ⟨q1, q2, q3, q4, q5, q6, q7, ⟨V', v1, v2, v3, v4, v5⟩, q9⟩, hl, hc, hs⟩ := hq
  refine ⟨L, ⟨q1, q2, q3, q4, q5, q6, q7, ⟨V'.cls, v3, V', v1, rfl, by rw [v4, e, hlen], K4, fun i hi => ?_, fun i hi => ?_⟩, q9⟩, hl, hc, by rw [hs, e]⟩
  · have hi' : i < cs.length := by omega
    rw [v5 i (by omega), hcv i hi']; simp [List.getD_eq_getElem?_getD, hi']
  · have hi' : i < cs.length := by omega
    simp only [List.getD_eq_getElem?_getD, List.getElem?_map, List.getElem?_eq_getElem hi', Option.map_some, Option.getD_some]
    exact fits_lo8 _
end StrChars.Road
namespace StrChars.Road
open Jvm Sem ClassFile Op Lib Jvm.Stand Jvm.Free Jvm.Free.XT
/-- WHAT COMES BACK, in the writer's own shape -/
def QV (Z : State) (x : Addr) (N : Int32) (bs : List Int32) (h : Heap) (n0 : Nat) (v : Option Value) (h' : Heap) (L : List Loc) : Prop := v = none ∧ RoadKit.Fr n0 L ∧ RoadKit.Keep h h' [x] ∧ RoadKit.Exa Z h' x ST ∧ RoadKit.Fld Z h' x ST "coder" "B" (.int 0) ∧
  ∃ (t : Addr) (kb : ClassId), n0 ≤ t ∧ h.size ≤ t ∧ ¬ t = x ∧ RoadKit.Fld Z h' x ST "value" "[B" (.ref t) ∧ RoadKit.Arv Z h' t kb .byte N (bs.map Value.int) (.int 0)
/-- **new String(chars) AT A CALL, FOR THE WRITER**: a char[] of n known ints, each 0 to 255 -/
theorem backV {p : Program} {l : Launch} {e : Env} {R : Room} {s : State} {args : Array Value} {below : List Frame} {len W : Nat} {Z : State} {a0 : Array Value} {h : Heap} (hZ : Z.Warmed39 s.vm) (hw : ∀ d ∈ words, d.before a0 Z = true) {kI : Nat} (wi : (Jvm.Cond.instantiable ST kI).before a0 Z = true)
    {x b : Addr} {kC : ClassId} {cs bs : List Int32} {d v0 c0 : Value} {z N : Int32} {n n0 : Nat} (hx0 : n0 ≤ x) (hh0 : n0 ≤ h.size) (E : RoadKit.Exa Z h x ST) (V : RoadKit.Fld Z h x ST "value" "[B" v0) (C : RoadKit.Fld Z h x ST "coder" "B" c0) (K : RoadKit.Arv Z h b kC .char N (cs.map Value.int) d) (S : RoadKit.Sta Z h ST "COMPACT_STRINGS" "Z" (.int z)) (hz : ¬ z = 0)
    (hn : cs.length = n) (hN : N = Int32.ofNat n) (l0 : 0 < n) (l2 : n ≤ 4000) (hp : ∀ c ∈ cs, ¬ c < 0 ∧ ¬ (255 : Int32) < c) (hb : bs = cs.map (fun c => c.toInt8.toInt32)) (hfr : 4 ≤ R.frames) (hlo : W + 65 ≤ R.locals) :
    Back l R p e below s args (⟨"java/lang/String", "<init>", "([C)V"⟩ : MethodName) len W (fun P a => a = #[.ref x, .ref b] ∧ P.U.heap = h ∧ P.cells + 1 ≤ R.cells ∧ P.slots + n ≤ R.slots)
      (fun P _ v B => ∃ L, QV Z x N bs h n0 v B.U.heap L ∧ B.locs = P.locs ++ L ∧ B.cells = P.cells + 1 ∧ B.slots = P.slots + n) := by
  subst hn hN hb
  refine Back.mono (backArv hZ hw wi E V C K S hz (n32 (by omega)) l0 (by omega) (fun c hc => (hp c hc).2) hfr hlo) (fun P a hp => hp) (fun P a v B hp hq => ?_)
  obtain ⟨L, ⟨q1, q2, q3, q4, q5, q6, q7, ⟨kb, v1, v2⟩, q9⟩, hl, hc, hs⟩ := hq
  exact ⟨L, ⟨q1, fun y hy => by rw [q2 y hy]; exact hx0, q3, q5, q7, h.size, kb, hh0, Nat.le_refl _, Nat.ne_of_gt E.lt, q6, by rw [List.map_map]; exact v2⟩, hl, hc, hs⟩
end StrChars.Road
end Jvm.Pilot.@@N@@

namespace Jvm.Pilot.@@N@@
open Jvm Jvm.ClassFile Sem Op Lib Jvm.Free Jvm.Stand Jvm.LawKit Jvm.RoadKit Bundle Jvm.Pilot.@@N@@.Jvm.D
section OwnKit
/-- where a walk stands: the library's Stand, and what stays the same throughout -/
def On (l : Launch) (Z : State) (p : Program) (e : Env) (R : Room) (s : State) (m : MethodId) (args : Array Value) (below : List Frame) (meth : Method) (c : Code) (y : MethodName) (code : ByteArray) (maxL : Nat) (ret : Option FieldType) (T : State) (h : Heap) (locs : List Loc) (cells slots : Nat) : Prop :=
  Stand p l e R s m args below meth c T locs cells slots ∧ (p.tables.exec = Jvm.exec ∧ c.code = code ∧ Z.Warmed39 s.vm ∧ s.vm.findClass y.cls = some m.cls ∧ meth.sig.returnType = ret ∧ meth.locks = false ∧ meth.name = y.name ∧ c.maxLocals = maxL) ∧ T.heap = h ∧ Fr Z.heap.size locs ∧ Ext Z.heap h
/-- the run from here ends as F says -/
def Goes (p : Program) (e : Env) (below : List Frame) (F : State → Outcome → Prop) (T : State) (g : JFrame) : Prop :=
  ∃ s₂ o, Steps p.tables e below (T.setTop g) s₂ ∧ s₂.status = .running ∧ Ended s₂ below o ∧ F s₂ o
def FinQ (Z s : State) (Q : Option Value → Heap → Prop) (rc rs : Nat) (s₂ : State) (o : Outcome) : Prop :=
  ∃ v L, o = .returned v ∧ (Q v s₂.heap ∧ Fr Z.heap.size L ∧ Ext Z.heap s₂.heap) ∧ FrameEnd s o s₂ L rc rs
/-- a method's contract: called with these arguments on this heap it returns, and Q holds -/
def Con (l : Launch) (Z : State) (y : MethodName) (code : ByteArray) (maxL : Nat) (ret : Option FieldType) (rm : Room) (as : Array Value) (h : Heap) (Q : Option Value → Heap → Prop) : Prop :=
  Ext Z.heap h → ∀ ws : List Jvm.Cond, MetFree l y (head1 (Jvm.Cond.code y code maxL ret :: ws) rm) (fun a U => a = as ∧ Z.Warmed39 U.vm ∧ U.heap = h) (fun _ _ _ _ _ => True) (fun _ U o U' => ∃ v L, o = .returned v ∧ (Q v U'.heap ∧ Fr Z.heap.size L ∧ Ext Z.heap U'.heap) ∧ FrameEnd U o U' L rm.cells rm.slots)
theorem Goes.step {p : Program} {e : Env} {below : List Frame} {F : State → Outcome → Prop} {T T' : State} {g g' : JFrame} (st : ∀ t, Steps p.tables e below (T'.setTop g') t → Steps p.tables e below (T.setTop g) t) (k : Goes p e below F T' g') : Goes p e below F T g := by
  obtain ⟨s₂, o, h1, h2⟩ := k
  exact ⟨s₂, o, st _ h1, h2⟩
theorem Goes.cast {p : Program} {e : Env} {below : List Frame} {F : State → Outcome → Prop} {T : State} {g g' : JFrame} (q : g = g') (k : Goes p e below F T g') : Goes p e below F T g := q ▸ k
theorem Goes.mono {p : Program} {e : Env} {below : List Frame} {F F' : State → Outcome → Prop} {T : State} {g : JFrame} (q : ∀ s o, F s o → F' s o) (k : Goes p e below F T g) : Goes p e below F' T g := by
  obtain ⟨s₂, o, h1, h2, h3, h4⟩ := k
  exact ⟨s₂, o, h1, h2, h3, q _ _ h4⟩
variable {l : Launch} {Z : State} {p : Program} {e : Env} {R : Room} {s : State} {m : MethodId} {args : Array Value} {below : List Frame} {meth : Method} {c : Code} {y : MethodName} {code : ByteArray} {maxL : Nat} {ret : Option FieldType} {T : State} {h : Heap} {locs : List Loc} {cells slots : Nat} {F : State → Outcome → Prop} {pc : Nat} {L L' : Array Slot} {S : List Value} {a0 : Array Value}
theorem Con.intro {rm : Room} {as : Array Value} {Q : Option Value → Heap → Prop} (hp : plainFor y = true)
    (body : ∀ (p : Program) (e : Env) (s : State) (m : MethodId) (below : List Frame) (meth : Method) (c : Code) (T : State), On l Z p e rm s m as below meth c y code maxL ret T h [] 0 0 → Goes p e below (FinQ Z s Q rm.cells rm.slots) T (entryFrame m as maxL)) : Con l Z y code maxL ret rm as h Q := by
  intro hE ws
  refine MetFree.of_bodySF hp hisR ?_
  intro p e s m args below meth c s₁ Bd hml0 hP hK
  obtain ⟨rfl, hZ, hh⟩ := hP
  have hnm := (name_of_methodNamed Bd.named Bd.method).1
  obtain ⟨s₂, o, k1, k2, k3, k4⟩ := body p e s m below meth c s₁ ⟨Stand.of_body Bd, ⟨Bd.exec, Bd.bytes, hZ, findClass_of_methodNamed Bd.named, Bd.returns, Bd.notSynchronized, hnm, hml0⟩, by rw [← hh, Bd.state]; rfl, Fr.nil _, hE⟩
  exact ⟨s₂, o, k1, k2, k3, k4⟩
theorem Con.mono {rm : Room} {as : Array Value} {Q Q' : Option Value → Heap → Prop} (hC : Con l Z y code maxL ret rm as h Q) (hq : ∀ v h', Q v h' → Q' v h') : Con l Z y code maxL ret rm as h Q' := by
  intro hE ws p e ha hc hk s m args below hf happ hP hK
  obtain ⟨n, o, h1, h2, h3, v, L, h4, ⟨h5, h6⟩, h7⟩ := hC hE ws p e ha hc hk s m args below hf happ hP hK
  exact ⟨n, o, h1, h2, h3, v, L, h4, ⟨hq _ _ h5, h6⟩, h7⟩
theorem On.size (X : On l Z p e R s m args below meth c y code maxL ret T h locs cells slots) : Z.heap.size ≤ h.size := X.2.2.2.2.1
theorem On.ext (X : On l Z p e R s m args below meth c y code maxL ret T h locs cells slots) : Ext Z.heap h := X.2.2.2.2
theorem On.sta (X : On l Z p e R s m args below meth c y code maxL ret T h locs cells slots) {C n d : String} {v : Value} (S : Sta Z Z.heap C n d v) : Sta Z h C n d v := S.ext X.ext
theorem ext_wr {Z : State} {h h' : Heap} {a : Addr} {sl : Nat} {v : Value} (E : Ext Z.heap h) (W : Wr h h' a sl v) (q : Z.heap.size ≤ a) : Ext Z.heap h' := (Old.wr (Z := Z) (n0 := Z.heap.size) ⟨rfl, E⟩ W q).2
theorem ext_keep {Z : State} {h h' : Heap} {ws : List Addr} (E : Ext Z.heap h) (K : Keep h h' ws) (q : ∀ x ∈ ws, Z.heap.size ≤ x) : Ext Z.heap h' := (Old.keep (Z := Z) (n0 := Z.heap.size) ⟨rfl, E⟩ K q).2
theorem ext_trans {h h' h'' : Heap} (E : Ext h h') (E' : Ext h' h'') : Ext h h'' := ⟨Nat.le_trans E.1 E'.1, fun a c q => E'.2 a c (E.2 a c q)⟩
theorem keep_ext {h h' : Heap} (E : Ext h h') : Keep h h' [] := (Keep.refl h []).ext E
theorem ext_of_keep {h h' : Heap} (K : Keep h h' []) : Ext h h' := ⟨K.1, fun a c q => K.2.1 a c q nin0⟩
theorem o_iload (X : On l Z p e R s m args below meth c y code maxL ret T h locs cells slots) {k : Nat} {v : Int32} {q : Nat} (hd : decode code pc = .ok (.iload k, 2)) (hl : L[k]? = some (.val (.int v))) (hp : pc + 2 = q) (K : Goes p e below F T (mkF m q L (.int v :: S))) : Goes p e below F T (mkF m pc L S) := by
  subst hp
  exact Goes.step (fun _ k => XS.iload X.1.here X.2.1.1 (g := mkF m pc L S) rfl (hb X.2.1.2.1 hd) hl k) K
theorem o_iloadN (X : On l Z p e R s m args below meth c y code maxL ret T h locs cells slots) {k : Fin 4} {v : Int32} {q : Nat} (hd : decode code pc = .ok (.iload_n k, 1)) (hl : L[k.val]? = some (.val (.int v))) (hp : pc + 1 = q) (K : Goes p e below F T (mkF m q L (.int v :: S))) : Goes p e below F T (mkF m pc L S) := by
  subst hp
  exact Goes.step (fun _ k => XS.iloadN X.1.here X.2.1.1 (g := mkF m pc L S) rfl (hb X.2.1.2.1 hd) hl k) K
theorem o_lload (X : On l Z p e R s m args below meth c y code maxL ret T h locs cells slots) {k : Nat} {v : Int64} {q : Nat} (hd : decode code pc = .ok (.lload k, 2)) (hl : L[k]? = some (.val (.long v))) (hp : pc + 2 = q) (K : Goes p e below F T (mkF m q L (.long v :: S))) : Goes p e below F T (mkF m pc L S) := by
  subst hp
  exact Goes.step (fun _ k => XS.lload X.1.here X.2.1.1 (g := mkF m pc L S) rfl (hb X.2.1.2.1 hd) hl k) K
theorem o_lloadN (X : On l Z p e R s m args below meth c y code maxL ret T h locs cells slots) {k : Fin 4} {v : Int64} {q : Nat} (hd : decode code pc = .ok (.lload_n k, 1)) (hl : L[k.val]? = some (.val (.long v))) (hp : pc + 1 = q) (K : Goes p e below F T (mkF m q L (.long v :: S))) : Goes p e below F T (mkF m pc L S) := by
  subst hp
  exact Goes.step (fun _ k => XS.lloadN X.1.here X.2.1.1 (g := mkF m pc L S) rfl (hb X.2.1.2.1 hd) hl k) K
theorem o_aload (X : On l Z p e R s m args below meth c y code maxL ret T h locs cells slots) {k : Nat} {v : Value} {q : Nat} (hd : decode code pc = .ok (.aload k, 2)) (hl : L[k]? = some (.val v)) (hv : v.isRef = true) (hp : pc + 2 = q) (K : Goes p e below F T (mkF m q L (v :: S))) : Goes p e below F T (mkF m pc L S) := by
  subst hp
  exact Goes.step (fun _ k => XS.aload X.1.here X.2.1.1 (g := mkF m pc L S) rfl (hb X.2.1.2.1 hd) hl hv k) K
theorem o_aloadN (X : On l Z p e R s m args below meth c y code maxL ret T h locs cells slots) {k : Fin 4} {v : Value} {q : Nat} (hd : decode code pc = .ok (.aload_n k, 1)) (hl : L[k.val]? = some (.val v)) (hv : v.isRef = true) (hp : pc + 1 = q) (K : Goes p e below F T (mkF m q L (v :: S))) : Goes p e below F T (mkF m pc L S) := by
  subst hp
  exact Goes.step (fun _ k => XS.aloadN X.1.here X.2.1.1 (g := mkF m pc L S) rfl (hb X.2.1.2.1 hd) hl hv k) K
theorem o_istore (X : On l Z p e R s m args below meth c y code maxL ret T h locs cells slots) {k : Nat} {x z : Int32} {q : Nat} (hd : decode code pc = .ok (.istore k, 2)) (hz : x = z) (hl : storeLocals L k (.int z) = some L') (hp : pc + 2 = q) (K : Goes p e below F T (mkF m q L' S)) : Goes p e below F T (mkF m pc L (.int x :: S)) := by
  subst hz hp
  exact Goes.step (fun _ k => XS.istore X.1.here X.2.1.1 (g := mkF m pc L (.int x :: S)) rfl (hb X.2.1.2.1 hd) rfl hl k) K
theorem o_istoreN (X : On l Z p e R s m args below meth c y code maxL ret T h locs cells slots) {k : Fin 4} {x z : Int32} {q : Nat} (hd : decode code pc = .ok (.istore_n k, 1)) (hz : x = z) (hl : storeLocals L k.val (.int z) = some L') (hp : pc + 1 = q) (K : Goes p e below F T (mkF m q L' S)) : Goes p e below F T (mkF m pc L (.int x :: S)) := by
  subst hz hp
  exact Goes.step (fun _ k => XS.istoreN X.1.here X.2.1.1 (g := mkF m pc L (.int x :: S)) rfl (hb X.2.1.2.1 hd) rfl hl k) K
theorem o_lstore (X : On l Z p e R s m args below meth c y code maxL ret T h locs cells slots) {k : Nat} {x z : Int64} {q : Nat} (hd : decode code pc = .ok (.lstore k, 2)) (hz : x = z) (hl : storeLocals L k (.long z) = some L') (hp : pc + 2 = q) (K : Goes p e below F T (mkF m q L' S)) : Goes p e below F T (mkF m pc L (.long x :: S)) := by
  subst hz hp
  exact Goes.step (fun _ k => XS.lstore X.1.here X.2.1.1 (g := mkF m pc L (.long x :: S)) rfl (hb X.2.1.2.1 hd) rfl hl k) K
theorem o_lstoreN (X : On l Z p e R s m args below meth c y code maxL ret T h locs cells slots) {k : Fin 4} {x z : Int64} {q : Nat} (hd : decode code pc = .ok (.lstore_n k, 1)) (hz : x = z) (hl : storeLocals L k.val (.long z) = some L') (hp : pc + 1 = q) (K : Goes p e below F T (mkF m q L' S)) : Goes p e below F T (mkF m pc L (.long x :: S)) := by
  subst hz hp
  exact Goes.step (fun _ k => XS.lstoreN X.1.here X.2.1.1 (g := mkF m pc L (.long x :: S)) rfl (hb X.2.1.2.1 hd) rfl hl k) K
theorem o_astore (X : On l Z p e R s m args below meth c y code maxL ret T h locs cells slots) {k : Nat} {x : Value} {q : Nat} (hd : decode code pc = .ok (.astore k, 2)) (hv : x.isRef = true) (hl : storeLocals L k x = some L') (hp : pc + 2 = q) (K : Goes p e below F T (mkF m q L' S)) : Goes p e below F T (mkF m pc L (x :: S)) := by
  subst hp
  exact Goes.step (fun _ k => XS.astore X.1.here X.2.1.1 (g := mkF m pc L (x :: S)) rfl (hb X.2.1.2.1 hd) rfl hv hl k) K
theorem o_astoreN (X : On l Z p e R s m args below meth c y code maxL ret T h locs cells slots) {k : Fin 4} {x : Value} {q : Nat} (hd : decode code pc = .ok (.astore_n k, 1)) (hv : x.isRef = true) (hl : storeLocals L k.val x = some L') (hp : pc + 1 = q) (K : Goes p e below F T (mkF m q L' S)) : Goes p e below F T (mkF m pc L (x :: S)) := by
  subst hp
  exact Goes.step (fun _ k => XS.astoreN X.1.here X.2.1.1 (g := mkF m pc L (x :: S)) rfl (hb X.2.1.2.1 hd) rfl hv hl k) K
theorem o_iconst (X : On l Z p e R s m args below meth c y code maxL ret T h locs cells slots) {i : Int} {w : Int32} {q : Nat} (hd : decode code pc = .ok (.iconst i, 1)) (hw : Int32.ofInt i = w) (hp : pc + 1 = q) (K : Goes p e below F T (mkF m q L (.int w :: S))) : Goes p e below F T (mkF m pc L S) := by
  subst hw hp
  exact Goes.step (fun _ k => XS.iconst X.1.here X.2.1.1 (g := mkF m pc L S) rfl (hb X.2.1.2.1 hd) k) K
theorem o_bipush (X : On l Z p e R s m args below meth c y code maxL ret T h locs cells slots) {i : Int} {w : Int32} {q : Nat} (hd : decode code pc = .ok (.bipush i, 2)) (hw : (Int8.ofInt i).toInt32 = w) (hp : pc + 2 = q) (K : Goes p e below F T (mkF m q L (.int w :: S))) : Goes p e below F T (mkF m pc L S) := by
  subst hw hp
  exact Goes.step (fun _ k => XS.bipush X.1.here X.2.1.1 (g := mkF m pc L S) rfl (hb X.2.1.2.1 hd) k) K
theorem o_sipush (X : On l Z p e R s m args below meth c y code maxL ret T h locs cells slots) {i : Int} {w : Int32} {q : Nat} (hd : decode code pc = .ok (.sipush i, 3)) (hw : (Int16.ofInt i).toInt32 = w) (hp : pc + 3 = q) (K : Goes p e below F T (mkF m q L (.int w :: S))) : Goes p e below F T (mkF m pc L S) := by
  subst hw hp
  exact Goes.step (fun _ k => XS.sipush X.1.here X.2.1.1 (g := mkF m pc L S) rfl (hb X.2.1.2.1 hd) k) K
theorem o_lconst (X : On l Z p e R s m args below meth c y code maxL ret T h locs cells slots) {i : Fin 2} {w : Int64} {q : Nat} (hd : decode code pc = .ok (.lconst i, 1)) (hw : Int64.ofNat i = w) (hp : pc + 1 = q) (K : Goes p e below F T (mkF m q L (.long w :: S))) : Goes p e below F T (mkF m pc L S) := by
  subst hw hp
  exact Goes.step (fun _ k => XS.lconst X.1.here X.2.1.1 (g := mkF m pc L S) rfl (hb X.2.1.2.1 hd) k) K
theorem o_null (X : On l Z p e R s m args below meth c y code maxL ret T h locs cells slots)  {q : Nat} (hd : decode code pc = .ok (.aconst_null, 1)) (hp : pc + 1 = q) (K : Goes p e below F T (mkF m q L (.null :: S))) : Goes p e below F T (mkF m pc L S) := by
  subst hp
  exact Goes.step (fun _ k => XS.aconstNull X.1.here X.2.1.1 (g := mkF m pc L S) rfl (hb X.2.1.2.1 hd)  k) K
theorem o_iadd (X : On l Z p e R s m args below meth c y code maxL ret T h locs cells slots) {x : Int32} {z : Int32} {w : Int32} {q : Nat} (hd : decode code pc = .ok (.iadd, 1)) (hw : x + z = w) (hp : pc + 1 = q) (K : Goes p e below F T (mkF m q L (.int w :: S))) : Goes p e below F T (mkF m pc L (.int z :: .int x :: S)) := by
  subst hw hp
  exact Goes.step (fun _ k => XS.iadd X.1.here X.2.1.1 (g := mkF m pc L (.int z :: .int x :: S)) rfl (hb X.2.1.2.1 hd) rfl  k) K
theorem o_isub (X : On l Z p e R s m args below meth c y code maxL ret T h locs cells slots) {x : Int32} {z : Int32} {w : Int32} {q : Nat} (hd : decode code pc = .ok (.isub, 1)) (hw : x - z = w) (hp : pc + 1 = q) (K : Goes p e below F T (mkF m q L (.int w :: S))) : Goes p e below F T (mkF m pc L (.int z :: .int x :: S)) := by
  subst hw hp
  exact Goes.step (fun _ k => XS.isub X.1.here X.2.1.1 (g := mkF m pc L (.int z :: .int x :: S)) rfl (hb X.2.1.2.1 hd) rfl  k) K
theorem o_imul (X : On l Z p e R s m args below meth c y code maxL ret T h locs cells slots) {x : Int32} {z : Int32} {w : Int32} {q : Nat} (hd : decode code pc = .ok (.imul, 1)) (hw : x * z = w) (hp : pc + 1 = q) (K : Goes p e below F T (mkF m q L (.int w :: S))) : Goes p e below F T (mkF m pc L (.int z :: .int x :: S)) := by
  subst hw hp
  exact Goes.step (fun _ k => XS.imul X.1.here X.2.1.1 (g := mkF m pc L (.int z :: .int x :: S)) rfl (hb X.2.1.2.1 hd) rfl  k) K
theorem o_iand (X : On l Z p e R s m args below meth c y code maxL ret T h locs cells slots) {x : Int32} {z : Int32} {w : Int32} {q : Nat} (hd : decode code pc = .ok (.iand, 1)) (hw : x &&& z = w) (hp : pc + 1 = q) (K : Goes p e below F T (mkF m q L (.int w :: S))) : Goes p e below F T (mkF m pc L (.int z :: .int x :: S)) := by
  subst hw hp
  exact Goes.step (fun _ k => XS.iand X.1.here X.2.1.1 (g := mkF m pc L (.int z :: .int x :: S)) rfl (hb X.2.1.2.1 hd) rfl  k) K
theorem o_ior (X : On l Z p e R s m args below meth c y code maxL ret T h locs cells slots) {x : Int32} {z : Int32} {w : Int32} {q : Nat} (hd : decode code pc = .ok (.ior, 1)) (hw : x ||| z = w) (hp : pc + 1 = q) (K : Goes p e below F T (mkF m q L (.int w :: S))) : Goes p e below F T (mkF m pc L (.int z :: .int x :: S)) := by
  subst hw hp
  exact Goes.step (fun _ k => XS.ior X.1.here X.2.1.1 (g := mkF m pc L (.int z :: .int x :: S)) rfl (hb X.2.1.2.1 hd) rfl  k) K
theorem o_ixor (X : On l Z p e R s m args below meth c y code maxL ret T h locs cells slots) {x : Int32} {z : Int32} {w : Int32} {q : Nat} (hd : decode code pc = .ok (.ixor, 1)) (hw : x ^^^ z = w) (hp : pc + 1 = q) (K : Goes p e below F T (mkF m q L (.int w :: S))) : Goes p e below F T (mkF m pc L (.int z :: .int x :: S)) := by
  subst hw hp
  exact Goes.step (fun _ k => XS.ixor X.1.here X.2.1.1 (g := mkF m pc L (.int z :: .int x :: S)) rfl (hb X.2.1.2.1 hd) rfl  k) K
theorem o_ishl (X : On l Z p e R s m args below meth c y code maxL ret T h locs cells slots) {x : Int32} {z : Int32} {w : Int32} {q : Nat} (hd : decode code pc = .ok (.ishl, 1)) (hw : x <<< (z &&& 31) = w) (hp : pc + 1 = q) (K : Goes p e below F T (mkF m q L (.int w :: S))) : Goes p e below F T (mkF m pc L (.int z :: .int x :: S)) := by
  subst hw hp
  exact Goes.step (fun _ k => XS.ishl X.1.here X.2.1.1 (g := mkF m pc L (.int z :: .int x :: S)) rfl (hb X.2.1.2.1 hd) rfl  k) K
theorem o_ishr (X : On l Z p e R s m args below meth c y code maxL ret T h locs cells slots) {x : Int32} {z : Int32} {w : Int32} {q : Nat} (hd : decode code pc = .ok (.ishr, 1)) (hw : x >>> (z &&& 31) = w) (hp : pc + 1 = q) (K : Goes p e below F T (mkF m q L (.int w :: S))) : Goes p e below F T (mkF m pc L (.int z :: .int x :: S)) := by
  subst hw hp
  exact Goes.step (fun _ k => XS.ishr X.1.here X.2.1.1 (g := mkF m pc L (.int z :: .int x :: S)) rfl (hb X.2.1.2.1 hd) rfl  k) K
theorem o_iushr (X : On l Z p e R s m args below meth c y code maxL ret T h locs cells slots) {x : Int32} {z : Int32} {w : Int32} {q : Nat} (hd : decode code pc = .ok (.iushr, 1)) (hw : (x.toUInt32 >>> (z &&& 31).toUInt32).toInt32 = w) (hp : pc + 1 = q) (K : Goes p e below F T (mkF m q L (.int w :: S))) : Goes p e below F T (mkF m pc L (.int z :: .int x :: S)) := by
  subst hw hp
  exact Goes.step (fun _ k => XS.iushr X.1.here X.2.1.1 (g := mkF m pc L (.int z :: .int x :: S)) rfl (hb X.2.1.2.1 hd) rfl  k) K
theorem o_ladd (X : On l Z p e R s m args below meth c y code maxL ret T h locs cells slots) {x : Int64} {z : Int64} {w : Int64} {q : Nat} (hd : decode code pc = .ok (.ladd, 1)) (hw : x + z = w) (hp : pc + 1 = q) (K : Goes p e below F T (mkF m q L (.long w :: S))) : Goes p e below F T (mkF m pc L (.long z :: .long x :: S)) := by
  subst hw hp
  exact Goes.step (fun _ k => XS.ladd X.1.here X.2.1.1 (g := mkF m pc L (.long z :: .long x :: S)) rfl (hb X.2.1.2.1 hd) rfl  k) K
theorem o_lsub (X : On l Z p e R s m args below meth c y code maxL ret T h locs cells slots) {x : Int64} {z : Int64} {w : Int64} {q : Nat} (hd : decode code pc = .ok (.lsub, 1)) (hw : x - z = w) (hp : pc + 1 = q) (K : Goes p e below F T (mkF m q L (.long w :: S))) : Goes p e below F T (mkF m pc L (.long z :: .long x :: S)) := by
  subst hw hp
  exact Goes.step (fun _ k => XS.lsub X.1.here X.2.1.1 (g := mkF m pc L (.long z :: .long x :: S)) rfl (hb X.2.1.2.1 hd) rfl  k) K
theorem o_lmul (X : On l Z p e R s m args below meth c y code maxL ret T h locs cells slots) {x : Int64} {z : Int64} {w : Int64} {q : Nat} (hd : decode code pc = .ok (.lmul, 1)) (hw : x * z = w) (hp : pc + 1 = q) (K : Goes p e below F T (mkF m q L (.long w :: S))) : Goes p e below F T (mkF m pc L (.long z :: .long x :: S)) := by
  subst hw hp
  exact Goes.step (fun _ k => XS.lmul X.1.here X.2.1.1 (g := mkF m pc L (.long z :: .long x :: S)) rfl (hb X.2.1.2.1 hd) rfl  k) K
theorem o_land (X : On l Z p e R s m args below meth c y code maxL ret T h locs cells slots) {x : Int64} {z : Int64} {w : Int64} {q : Nat} (hd : decode code pc = .ok (.land, 1)) (hw : x &&& z = w) (hp : pc + 1 = q) (K : Goes p e below F T (mkF m q L (.long w :: S))) : Goes p e below F T (mkF m pc L (.long z :: .long x :: S)) := by
  subst hw hp
  exact Goes.step (fun _ k => XS.land X.1.here X.2.1.1 (g := mkF m pc L (.long z :: .long x :: S)) rfl (hb X.2.1.2.1 hd) rfl  k) K
theorem o_lor (X : On l Z p e R s m args below meth c y code maxL ret T h locs cells slots) {x : Int64} {z : Int64} {w : Int64} {q : Nat} (hd : decode code pc = .ok (.lor, 1)) (hw : x ||| z = w) (hp : pc + 1 = q) (K : Goes p e below F T (mkF m q L (.long w :: S))) : Goes p e below F T (mkF m pc L (.long z :: .long x :: S)) := by
  subst hw hp
  exact Goes.step (fun _ k => XS.lor X.1.here X.2.1.1 (g := mkF m pc L (.long z :: .long x :: S)) rfl (hb X.2.1.2.1 hd) rfl  k) K
theorem o_lxor (X : On l Z p e R s m args below meth c y code maxL ret T h locs cells slots) {x : Int64} {z : Int64} {w : Int64} {q : Nat} (hd : decode code pc = .ok (.lxor, 1)) (hw : x ^^^ z = w) (hp : pc + 1 = q) (K : Goes p e below F T (mkF m q L (.long w :: S))) : Goes p e below F T (mkF m pc L (.long z :: .long x :: S)) := by
  subst hw hp
  exact Goes.step (fun _ k => XS.lxor X.1.here X.2.1.1 (g := mkF m pc L (.long z :: .long x :: S)) rfl (hb X.2.1.2.1 hd) rfl  k) K
theorem o_lshl (X : On l Z p e R s m args below meth c y code maxL ret T h locs cells slots) {x : Int64} {z : Int32} {w : Int64} {q : Nat} (hd : decode code pc = .ok (.lshl, 1)) (hw : x <<< (z &&& 0x3f).toInt64 = w) (hp : pc + 1 = q) (K : Goes p e below F T (mkF m q L (.long w :: S))) : Goes p e below F T (mkF m pc L (.int z :: .long x :: S)) := by
  subst hw hp
  exact Goes.step (fun _ k => XS.lshl X.1.here X.2.1.1 (g := mkF m pc L (.int z :: .long x :: S)) rfl (hb X.2.1.2.1 hd) rfl  k) K
theorem o_lshr (X : On l Z p e R s m args below meth c y code maxL ret T h locs cells slots) {x : Int64} {z : Int32} {w : Int64} {q : Nat} (hd : decode code pc = .ok (.lshr, 1)) (hw : x >>> (z &&& 0x3f).toInt64 = w) (hp : pc + 1 = q) (K : Goes p e below F T (mkF m q L (.long w :: S))) : Goes p e below F T (mkF m pc L (.int z :: .long x :: S)) := by
  subst hw hp
  exact Goes.step (fun _ k => XS.lshr X.1.here X.2.1.1 (g := mkF m pc L (.int z :: .long x :: S)) rfl (hb X.2.1.2.1 hd) rfl  k) K
theorem o_lushr (X : On l Z p e R s m args below meth c y code maxL ret T h locs cells slots) {x : Int64} {z : Int32} {w : Int64} {q : Nat} (hd : decode code pc = .ok (.lushr, 1)) (hw : (x.toUInt64 >>> (z &&& 0x3f).toInt64.toUInt64).toInt64 = w) (hp : pc + 1 = q) (K : Goes p e below F T (mkF m q L (.long w :: S))) : Goes p e below F T (mkF m pc L (.int z :: .long x :: S)) := by
  subst hw hp
  exact Goes.step (fun _ k => XS.lushr X.1.here X.2.1.1 (g := mkF m pc L (.int z :: .long x :: S)) rfl (hb X.2.1.2.1 hd) rfl  k) K
theorem o_idiv (X : On l Z p e R s m args below meth c y code maxL ret T h locs cells slots) {x : Int32} {z : Int32} {w : Int32} {q : Nat} (hd : decode code pc = .ok (.idiv, 1)) (hn : z ≠ 0) (hw : x / z = w) (hp : pc + 1 = q) (K : Goes p e below F T (mkF m q L (.int w :: S))) : Goes p e below F T (mkF m pc L (.int z :: .int x :: S)) := by
  subst hw hp
  exact Goes.step (fun _ k => XS.idiv X.1.here X.2.1.1 (g := mkF m pc L (.int z :: .int x :: S)) rfl (hb X.2.1.2.1 hd) rfl hn k) K
theorem o_irem (X : On l Z p e R s m args below meth c y code maxL ret T h locs cells slots) {x : Int32} {z : Int32} {w : Int32} {q : Nat} (hd : decode code pc = .ok (.irem, 1)) (hn : z ≠ 0) (hw : x % z = w) (hp : pc + 1 = q) (K : Goes p e below F T (mkF m q L (.int w :: S))) : Goes p e below F T (mkF m pc L (.int z :: .int x :: S)) := by
  subst hw hp
  exact Goes.step (fun _ k => iremM (g := mkF m pc L (.int z :: .int x :: S)) X.1 X.2.1.1 rfl (hb X.2.1.2.1 hd) rfl hn k) K
theorem o_lcmp (X : On l Z p e R s m args below meth c y code maxL ret T h locs cells slots) {x : Int64} {z : Int64} {w : Int32} {q : Nat} (hd : decode code pc = .ok (.lcmp, 1)) (hw : lcmpW x z = w) (hp : pc + 1 = q) (K : Goes p e below F T (mkF m q L (.int w :: S))) : Goes p e below F T (mkF m pc L (.long z :: .long x :: S)) := by
  subst hw hp
  exact Goes.step (fun _ k => XS.lcmp X.1.here X.2.1.1 (g := mkF m pc L (.long z :: .long x :: S)) rfl (hb X.2.1.2.1 hd) rfl  k) K
theorem o_ineg (X : On l Z p e R s m args below meth c y code maxL ret T h locs cells slots) {x : Int32} {w : Int32} {q : Nat} (hd : decode code pc = .ok (.ineg, 1)) (hw : -x = w) (hp : pc + 1 = q) (K : Goes p e below F T (mkF m q L (.int w :: S))) : Goes p e below F T (mkF m pc L (.int x :: S)) := by
  subst hw hp
  exact Goes.step (fun _ k => XS.ineg X.1.here X.2.1.1 (g := mkF m pc L (.int x :: S)) rfl (hb X.2.1.2.1 hd) rfl k) K
theorem o_lneg (X : On l Z p e R s m args below meth c y code maxL ret T h locs cells slots) {x : Int64} {w : Int64} {q : Nat} (hd : decode code pc = .ok (.lneg, 1)) (hw : -x = w) (hp : pc + 1 = q) (K : Goes p e below F T (mkF m q L (.long w :: S))) : Goes p e below F T (mkF m pc L (.long x :: S)) := by
  subst hw hp
  exact Goes.step (fun _ k => XS.lneg X.1.here X.2.1.1 (g := mkF m pc L (.long x :: S)) rfl (hb X.2.1.2.1 hd) rfl k) K
theorem o_i2l (X : On l Z p e R s m args below meth c y code maxL ret T h locs cells slots) {x : Int32} {w : Int64} {q : Nat} (hd : decode code pc = .ok (.i2l, 1)) (hw : x.toInt64 = w) (hp : pc + 1 = q) (K : Goes p e below F T (mkF m q L (.long w :: S))) : Goes p e below F T (mkF m pc L (.int x :: S)) := by
  subst hw hp
  exact Goes.step (fun _ k => XS.i2l X.1.here X.2.1.1 (g := mkF m pc L (.int x :: S)) rfl (hb X.2.1.2.1 hd) rfl k) K
theorem o_l2i (X : On l Z p e R s m args below meth c y code maxL ret T h locs cells slots) {x : Int64} {w : Int32} {q : Nat} (hd : decode code pc = .ok (.l2i, 1)) (hw : x.toInt32 = w) (hp : pc + 1 = q) (K : Goes p e below F T (mkF m q L (.int w :: S))) : Goes p e below F T (mkF m pc L (.long x :: S)) := by
  subst hw hp
  exact Goes.step (fun _ k => XS.l2i X.1.here X.2.1.1 (g := mkF m pc L (.long x :: S)) rfl (hb X.2.1.2.1 hd) rfl k) K
theorem o_i2b (X : On l Z p e R s m args below meth c y code maxL ret T h locs cells slots) {x : Int32} {w : Int32} {q : Nat} (hd : decode code pc = .ok (.i2b, 1)) (hw : x.toInt8.toInt32 = w) (hp : pc + 1 = q) (K : Goes p e below F T (mkF m q L (.int w :: S))) : Goes p e below F T (mkF m pc L (.int x :: S)) := by
  subst hw hp
  exact Goes.step (fun _ k => XS.i2b X.1.here X.2.1.1 (g := mkF m pc L (.int x :: S)) rfl (hb X.2.1.2.1 hd) rfl k) K
theorem o_i2c (X : On l Z p e R s m args below meth c y code maxL ret T h locs cells slots) {x : Int32} {w : Int32} {q : Nat} (hd : decode code pc = .ok (.i2c, 1)) (hw : x.toUInt32.toUInt16.toUInt32.toInt32 = w) (hp : pc + 1 = q) (K : Goes p e below F T (mkF m q L (.int w :: S))) : Goes p e below F T (mkF m pc L (.int x :: S)) := by
  subst hw hp
  exact Goes.step (fun _ k => XS.i2c X.1.here X.2.1.1 (g := mkF m pc L (.int x :: S)) rfl (hb X.2.1.2.1 hd) rfl k) K
theorem o_i2s (X : On l Z p e R s m args below meth c y code maxL ret T h locs cells slots) {x : Int32} {w : Int32} {q : Nat} (hd : decode code pc = .ok (.i2s, 1)) (hw : x.toInt16.toInt32 = w) (hp : pc + 1 = q) (K : Goes p e below F T (mkF m q L (.int w :: S))) : Goes p e below F T (mkF m pc L (.int x :: S)) := by
  subst hw hp
  exact Goes.step (fun _ k => XS.i2s X.1.here X.2.1.1 (g := mkF m pc L (.int x :: S)) rfl (hb X.2.1.2.1 hd) rfl k) K
theorem o_dup (X : On l Z p e R s m args below meth c y code maxL ret T h locs cells slots) {x : Value} {q : Nat} (hd : decode code pc = .ok (.dup, 1)) (hc : x.category = 1) (hp : pc + 1 = q) (K : Goes p e below F T (mkF m q L (x :: x :: S))) : Goes p e below F T (mkF m pc L (x :: S)) := by
  subst hp
  exact Goes.step (fun _ k => XS.dup X.1.here X.2.1.1 (g := mkF m pc L (x :: S)) rfl (hb X.2.1.2.1 hd) rfl hc k) K
theorem o_pop (X : On l Z p e R s m args below meth c y code maxL ret T h locs cells slots) {x : Value} {q : Nat} (hd : decode code pc = .ok (.pop, 1)) (hc : x.category = 1) (hp : pc + 1 = q) (K : Goes p e below F T (mkF m q L S)) : Goes p e below F T (mkF m pc L (x :: S)) := by
  subst hp
  exact Goes.step (fun _ k => XS.pop X.1.here X.2.1.1 (g := mkF m pc L (x :: S)) rfl (hb X.2.1.2.1 hd) rfl hc k) K
theorem o_dupX1 (X : On l Z p e R s m args below meth c y code maxL ret T h locs cells slots) {x z : Value} {q : Nat} (hd : decode code pc = .ok (.dup_x1, 1)) (hc : x.category = 1) (hc' : z.category = 1) (hp : pc + 1 = q) (K : Goes p e below F T (mkF m q L (x :: z :: x :: S))) : Goes p e below F T (mkF m pc L (x :: z :: S)) := by
  subst hp
  exact Goes.step (fun _ k => XS.dupX1 X.1.here X.2.1.1 (g := mkF m pc L (x :: z :: S)) rfl (hb X.2.1.2.1 hd) rfl hc hc' k) K
theorem o_dup2 (X : On l Z p e R s m args below meth c y code maxL ret T h locs cells slots) {x z : Value} {q : Nat} (hd : decode code pc = .ok (.dup2, 1)) (hc : x.category = 1) (hc' : z.category = 1) (hp : pc + 1 = q) (K : Goes p e below F T (mkF m q L (x :: z :: x :: z :: S))) : Goes p e below F T (mkF m pc L (x :: z :: S)) := by
  subst hp
  exact Goes.step (fun _ k => Jvm.Free.XT.dup2 X.1.here X.2.1.1 (g := mkF m pc L (x :: z :: S)) rfl (hb X.2.1.2.1 hd) rfl hc hc' k) K
theorem o_iinc (X : On l Z p e R s m args below meth c y code maxL ret T h locs cells slots) {k : Nat} {i : Int} {x z : Int32} {q : Nat} (hd : decode code pc = .ok (.iinc k i, 3)) (hl : L[k]? = some (.val (.int x))) (hz : x + Int32.ofInt i = z) (hl' : storeLocals L k (.int z) = some L') (hp : pc + 3 = q) (K : Goes p e below F T (mkF m q L' S)) : Goes p e below F T (mkF m pc L S) := by
  subst hz hp
  exact Goes.step (fun _ k => XS.iinc X.1.here X.2.1.1 (g := mkF m pc L S) rfl (hb X.2.1.2.1 hd) hl hl' k) K
theorem o_goto (X : On l Z p e R s m args below meth c y code maxL ret T h locs cells slots) {i : Int} {q : Nat} (hd : decode code pc = .ok (.goto i, 3)) (ho : 0 ≤ (pc : Int) + i) (hp : ((pc : Int) + i).toNat = q) (K : Goes p e below F T (mkF m q L S)) : Goes p e below F T (mkF m pc L S) := Goes.step (fun _ k => XS.goto X.1.here X.2.1.1 (g := mkF m pc L S) (pc0 := pc) rfl rfl (hb X.2.1.2.1 hd) ho hp k) K
theorem o_ifY (X : On l Z p e R s m args below meth c y code maxL ret T h locs cells slots) {cd : ClassFile.Cond} {i : Int} {x : Int32} {q : Nat} (hd : decode code pc = .ok (.ifCond cd i, 3)) (hc : if_icmp.holds cd x 0 = true) (ho : 0 ≤ (pc : Int) + i) (hp : ((pc : Int) + i).toNat = q) (K : Goes p e below F T (mkF m q L S)) : Goes p e below F T (mkF m pc L (.int x :: S)) := Goes.step (fun _ k => XS.ifYes X.1.here X.2.1.1 (g := mkF m pc L (.int x :: S)) rfl (pc0 := pc) rfl (hb X.2.1.2.1 hd) rfl ((if0 _ _).trans hc) ho hp k) K
theorem o_ifN (X : On l Z p e R s m args below meth c y code maxL ret T h locs cells slots) {cd : ClassFile.Cond} {i : Int} {x : Int32} {q : Nat} (hd : decode code pc = .ok (.ifCond cd i, 3)) (hc : if_icmp.holds cd x 0 = false) (hp : pc + 3 = q) (K : Goes p e below F T (mkF m q L S)) : Goes p e below F T (mkF m pc L (.int x :: S)) := by
  subst hp
  exact Goes.step (fun _ k => XS.ifNo X.1.here X.2.1.1 (g := mkF m pc L (.int x :: S)) rfl (hb X.2.1.2.1 hd) rfl ((if0 _ _).trans hc) k) K
theorem o_icmpY (X : On l Z p e R s m args below meth c y code maxL ret T h locs cells slots) {cd : ClassFile.Cond} {i : Int} {x z : Int32} {q : Nat} (hd : decode code pc = .ok (.if_icmp cd i, 3)) (hc : if_icmp.holds cd x z = true) (ho : 0 ≤ (pc : Int) + i) (hp : ((pc : Int) + i).toNat = q) (K : Goes p e below F T (mkF m q L S)) : Goes p e below F T (mkF m pc L (.int z :: .int x :: S)) := Goes.step (fun _ k => XS.icmpYes X.1.here X.2.1.1 (g := mkF m pc L (.int z :: .int x :: S)) rfl (pc0 := pc) rfl (hb X.2.1.2.1 hd) rfl hc ho hp k) K
theorem o_icmpN (X : On l Z p e R s m args below meth c y code maxL ret T h locs cells slots) {cd : ClassFile.Cond} {i : Int} {x z : Int32} {q : Nat} (hd : decode code pc = .ok (.if_icmp cd i, 3)) (hc : if_icmp.holds cd x z = false) (hp : pc + 3 = q) (K : Goes p e below F T (mkF m q L S)) : Goes p e below F T (mkF m pc L (.int z :: .int x :: S)) := by
  subst hp
  exact Goes.step (fun _ k => XS.icmpNo X.1.here X.2.1.1 (g := mkF m pc L (.int z :: .int x :: S)) rfl (hb X.2.1.2.1 hd) rfl hc k) K
theorem o_ifnullY (X : On l Z p e R s m args below meth c y code maxL ret T h locs cells slots) {i : Int} {q : Nat} (hd : decode code pc = .ok (.ifnull i, 3)) (ho : 0 ≤ (pc : Int) + i) (hp : ((pc : Int) + i).toNat = q) (K : Goes p e below F T (mkF m q L S)) : Goes p e below F T (mkF m pc L (.null :: S)) := Goes.step (fun _ k => XS.ifnullYes X.1.here X.2.1.1 (g := mkF m pc L (.null :: S)) rfl (pc0 := pc) rfl (hb X.2.1.2.1 hd) rfl ho hp k) K
theorem o_ifnullN (X : On l Z p e R s m args below meth c y code maxL ret T h locs cells slots) {i : Int} {q : Nat} {b : Addr} (hd : decode code pc = .ok (.ifnull i, 3)) (hp : pc + 3 = q) (K : Goes p e below F T (mkF m q L S)) : Goes p e below F T (mkF m pc L ((.ref b) :: S)) := by
  subst hp
  exact Goes.step (fun _ k => XS.ifnullNo X.1.here X.2.1.1 (g := mkF m pc L ((.ref b) :: S)) rfl (hb X.2.1.2.1 hd) rfl k) K
theorem o_ifnonnullY (X : On l Z p e R s m args below meth c y code maxL ret T h locs cells slots) {i : Int} {q : Nat} {b : Addr} (hd : decode code pc = .ok (.ifnonnull i, 3)) (ho : 0 ≤ (pc : Int) + i) (hp : ((pc : Int) + i).toNat = q) (K : Goes p e below F T (mkF m q L S)) : Goes p e below F T (mkF m pc L ((.ref b) :: S)) := Goes.step (fun _ k => XS.ifnonnullYes X.1.here X.2.1.1 (g := mkF m pc L ((.ref b) :: S)) rfl (pc0 := pc) rfl (hb X.2.1.2.1 hd) rfl ho hp k) K
theorem o_ifnonnullN (X : On l Z p e R s m args below meth c y code maxL ret T h locs cells slots) {i : Int} {q : Nat} (hd : decode code pc = .ok (.ifnonnull i, 3)) (hp : pc + 3 = q) (K : Goes p e below F T (mkF m q L S)) : Goes p e below F T (mkF m pc L (.null :: S)) := by
  subst hp
  exact Goes.step (fun _ k => XS.ifnonnullNo X.1.here X.2.1.1 (g := mkF m pc L (.null :: S)) rfl (hb X.2.1.2.1 hd) rfl k) K
theorem o_acmp (X : On l Z p e R s m args below meth c y code maxL ret T h locs cells slots) {cd : ACond} {i : Int} {x z : Value} {q : Nat} {same : Bool} (hd : decode code pc = .ok (.if_acmp cd i, 3)) (h1 : x.isRef = true) (h2 : z.isRef = true) (hq : decide (x = z) = same) (ho : 0 ≤ (pc : Int) + i) (hp : q = if acV cd same = true then ((pc : Int) + i).toNat else pc + 3) (K : Goes p e below F T (mkF m q L S)) : Goes p e below F T (mkF m pc L (z :: x :: S)) := Goes.step (fun _ k => Jvm.RoadKit.acmp (g := mkF m pc L (z :: x :: S)) X.1 X.2.1.1 rfl h1 h2 (pc0 := pc) rfl (hb X.2.1.2.1 hd) rfl hq ho hp k) K
theorem o_ldcI (X : On l Z p e R s m args below meth c y code maxL ret T h locs cells slots) {index : Nat} {v : Int32} {q : Nat} (w : (Jvm.Cond.constant y.cls index v).before a0 Z = true) (hd : decode code pc = .ok (.ldc index, 2)) (hp : pc + 2 = q) (K : Goes p e below F T (mkF m q L (.int v :: S))) : Goes p e below F T (mkF m pc L S) := by
  subst hp
  exact Goes.step (X.1.ldcInt X.2.1.1 X.2.1.2.2.2.1 (mvT X.2.1.2.2.1 w) (g := mkF m pc L S) rfl (hb X.2.1.2.1 hd)) K
theorem o_ldcJ (X : On l Z p e R s m args below meth c y code maxL ret T h locs cells slots) {index : Nat} {v : Int64} {q : Nat} (w : (Jvm.Cond.constantLong y.cls index v).before a0 Z = true) (hd : decode code pc = .ok (.ldc2_w index, 3)) (hp : pc + 3 = q) (K : Goes p e below F T (mkF m q L (.long v :: S))) : Goes p e below F T (mkF m pc L S) := by
  subst hp
  exact Goes.step (X.1.ldc2Long X.2.1.1 X.2.1.2.2.2.1 (mvT X.2.1.2.2.1 w) (g := mkF m pc L S) rfl (hb X.2.1.2.1 hd)) K
theorem o_new (X : On l Z p e R s m args below meth c y code maxL ret T h locs cells slots) {C : String} {index n q : Nat} (w : (Jvm.Cond.classLink y.cls index C).before a0 Z = true) (wi : (Jvm.Cond.instantiable C n).before a0 Z = true) (wz : (Jvm.Cond.initialized C).before a0 Z = true) (hd : decode code pc = .ok (.new index, 3)) (hc : cells + 1 ≤ R.cells) (hl : slots + n ≤ R.slots) (hp : pc + 3 = q)
    (K : ∀ (T' : State) (h' : Heap) (a : Addr), a = h.size → On l Z p e R s m args below meth c y code maxL ret T' h' locs (cells + 1) (slots + n) → Ext h h' → Exa Z h' a C → (∀ {O nm d : String} {ty : FieldType}, Laid Z a0 C O nm d → parseFieldDescriptor d = some ty → Fld Z h' a O nm d (defaultValue ty)) → Z.heap.size ≤ a → Goes p e below F T' (mkF m q L (.ref a :: S))) : Goes p e below F T (mkF m pc L S) := by
  subst hp
  obtain ⟨X1, C1, e1, N1, E1⟩ := X
  obtain ⟨T', h', X', e', E', A', D', -, st⟩ := newO X1 C1.1 C1.2.2.1 C1.2.2.2.1 w wi wz e1 (g := mkF m pc L S) rfl (hb C1.2.1 hd) hc hl
  exact Goes.step st (K T' h' h.size rfl ⟨X', C1, e', N1, ext_trans E1 E'⟩ E' A' D' E1.1)
theorem o_newarr (X : On l Z p e R s m args below meth c y code maxL ret T h locs cells slots) {aty : ArrayType} {n : Int32} {cap q : Nat} (N : Nat) (w : (Jvm.Cond.arrayClass (newarray.typeOf aty)).before a0 Z = true) (hd : decode code pc = .ok (.newarray aty, 2)) (hn : ¬ n < 0) (hcap : n.toNatClampNeg ≤ cap) (hb8 : cap * 8 ≤ 536870912) (hc : cells + 1 ≤ R.cells) (hl : slots + cap ≤ R.slots) (hp : pc + 2 = q)
    (K : ∀ (T' : State) (h' : Heap) (a : Addr) (k : ClassId), a = h.size → On l Z p e R s m args below meth c y code maxL ret T' h' locs (cells + 1) (slots + cap) → Ext h h' → Arv Z h' a k (newarray.typeOf aty) n (List.replicate N (defaultValue (newarray.typeOf aty))) (defaultValue (newarray.typeOf aty)) → Z.heap.size ≤ a → Goes p e below F T' (mkF m q L (.ref a :: S))) : Goes p e below F T (mkF m pc L (.int n :: S)) := by
  subst hp
  obtain ⟨X1, C1, e1, N1, E1⟩ := X
  obtain ⟨T', h', k, X', e', E', A', st⟩ := newP X1 C1.1 C1.2.2.1 w e1 (g := mkF m pc L (.int n :: S)) rfl (hb C1.2.1 hd) rfl hn hcap hb8 hc hl
  exact Goes.step st (K T' h' h.size k rfl ⟨X', C1, e', N1, ext_trans E1 E'⟩ E' ((Arv.new A' hn).pad (pad_rep [] _ N)) E1.1)
theorem o_getF (X : On l Z p e R s m args below meth c y code maxL ret T h locs cells slots) {R0 O n d host : String} {index q : Nat} {a : Addr} {v : Value} (Fx : Fld Z h a O n d v) (w : (Jvm.Cond.fieldLink y.cls index R0 n d).before a0 Z = true ∨ (Jvm.Cond.fieldLinkNest y.cls index R0 n d host).before a0 Z = true) (via : Via Z R0 O n d) (hd : decode code pc = .ok (.getfield index, 3)) (hp : pc + 3 = q)
    (K : ∀ T' : State, On l Z p e R s m args below meth c y code maxL ret T' h locs cells slots → Goes p e below F T' (mkF m q L (v :: S))) : Goes p e below F T (mkF m pc L (.ref a :: S)) := by
  subst hp
  obtain ⟨X1, C1, e1, N1, E1⟩ := X
  obtain ⟨T', X', e', st⟩ := getF X1 C1.1 C1.2.2.1 C1.2.2.2.1 w via e1 Fx (g := mkF m pc L (.ref a :: S)) rfl rfl (hb C1.2.1 hd)
  exact Goes.step st (K T' ⟨X', C1, e', N1, E1⟩)
theorem o_getS (X : On l Z p e R s m args below meth c y code maxL ret T h locs cells slots) {R0 O n d host : String} {index q : Nat} {v : Value} (Fx : Sta Z Z.heap O n d v) (w : (Jvm.Cond.fieldLink y.cls index R0 n d).before a0 Z = true ∨ (Jvm.Cond.fieldLinkNest y.cls index R0 n d host).before a0 Z = true) (via : Via Z R0 O n d) (hd : decode code pc = .ok (.getstatic index, 3)) (hp : pc + 3 = q)
    (K : ∀ T' : State, On l Z p e R s m args below meth c y code maxL ret T' h locs cells slots → Goes p e below F T' (mkF m q L (v :: S))) : Goes p e below F T (mkF m pc L S) := by
  subst hp
  obtain ⟨X1, C1, e1, N1, E1⟩ := X
  obtain ⟨T', X', e', st⟩ := getS2 X1 C1.1 C1.2.2.1 C1.2.2.2.1 w via e1 (Fx.ext E1) (g := mkF m pc L S) rfl (hb C1.2.1 hd)
  exact Goes.step st (K T' ⟨X', C1, e', N1, E1⟩)
theorem o_putF (X : On l Z p e R s m args below meth c y code maxL ret T h locs cells slots) {R0 O n d host C : String} {index kk q : Nat} {ty : FieldType} {a : Addr} {v old : Value} (Fx : Fld Z h a O n d old) (E : Exa Z h a C) (ha : Z.heap.size ≤ a) (w : (Jvm.Cond.fieldLink y.cls index R0 n d).before a0 Z = true ∨ (Jvm.Cond.fieldLinkNest y.cls index R0 n d host).before a0 Z = true) (via : Via Z R0 O n d)
    (Lw : (Jvm.Cond.lays C O n d).before a0 Z = true ∨ ((Jvm.Cond.laysFinal C O n d).before a0 Z = true ∧ y.cls = O ∧ y.name = "<init>")) (wi : (Jvm.Cond.instantiable C kk).before a0 Z = true) (hty : parseFieldDescriptor d = some ty) (hn : narrow ty v = v) (hf : fits ty v = true) (hd : decode code pc = .ok (.putfield index, 3)) (hp : pc + 3 = q)
    (K : ∀ (T' : State) (h' : Heap) (locs' : List Loc), On l Z p e R s m args below meth c y code maxL ret T' h' locs' cells slots → Wr h h' a (Jvm.RoadKit.slotOf Z O n d) v → Fld Z h' a O n d v → Goes p e below F T' (mkF m q L S)) : Goes p e below F T (mkF m pc L (v :: .ref a :: S)) := by
  subst hp
  obtain ⟨X1, C1, e1, N1, E1⟩ := X
  obtain ⟨T', h', X', e', W', st⟩ := putF X1 C1.1 C1.2.2.1 C1.2.2.2.1 w via e1 Fx E (Lw.imp_right fun q => ⟨q.1, q.2.1, C1.2.2.2.2.2.2.1.trans q.2.2⟩) wi hty hn hf (g := mkF m pc L (v :: .ref a :: S)) rfl rfl (hb C1.2.1 hd)
  exact Goes.step st (K T' h' _ ⟨X', C1, e', Fr.snoc X' N1 ha, ext_wr E1 W' ha⟩ W' (Fx.same W'))
theorem o_len (X : On l Z p e R s m args below meth c y code maxL ret T h locs cells slots) {a : Addr} {k : ClassId} {ty : FieldType} {n : Int32} {vs : List Value} {dv : Value} {q : Nat} (A : Arv Z h a k ty n vs dv) (hd : decode code pc = .ok (.arraylength, 1)) (hp : pc + 1 = q) (K : Goes p e below F T (mkF m q L (.int n :: S))) : Goes p e below F T (mkF m pc L (.ref a :: S)) := by
  subst hp
  obtain ⟨X1, C1, e1, N1, E1⟩ := X
  obtain ⟨cl, Ar, -, Sz, Nn, -⟩ := A
  refine Goes.step (X1.arraylength C1.1 (by rw [e1]; exact Ar.1) (State.isArrayOf_alike C1.2.2.1.alike Ar.2.1) (g := mkF m pc L (.ref a :: S)) rfl rfl (hb C1.2.1 hd)) ?_
  rw [len_of Sz Nn]
  exact K
theorem o_iaload (X : On l Z p e R s m args below meth c y code maxL ret T h locs cells slots) {a : Addr} {k : ClassId} {n j : Int32} {vs : List Value} {dv v : Value} {q : Nat} (A : Arv Z h a k .int n vs dv) (hj : ¬ j < 0 ∧ j < n) (hv : vs.getD j.toNatClampNeg dv = v) (hd : decode code pc = .ok (.iaload, 1)) (hp : pc + 1 = q) (K : Goes p e below F T (mkF m q L (v :: S))) : Goes p e below F T (mkF m pc L (.int j :: .ref a :: S)) := by
  subst hp
  obtain ⟨X1, C1, e1, N1, E1⟩ := X
  obtain ⟨cl, Ar, -, Sz, Nn, H, -⟩ := A
  have hin := inb_of Sz hj
  exact Goes.step (X1.iaload C1.1 (j := j) (v := v) (by rw [e1]; exact Ar.1) (State.isArrayOf_alike C1.2.2.1.alike Ar.2.1) Ar.2.2 hin (H.at hin hv) (g := mkF m pc L (.int j :: .ref a :: S)) rfl rfl (hb C1.2.1 hd)) K
theorem o_laload (X : On l Z p e R s m args below meth c y code maxL ret T h locs cells slots) {a : Addr} {k : ClassId} {n j : Int32} {vs : List Value} {dv v : Value} {q : Nat} (A : Arv Z h a k .long n vs dv) (hj : ¬ j < 0 ∧ j < n) (hv : vs.getD j.toNatClampNeg dv = v) (hd : decode code pc = .ok (.laload, 1)) (hp : pc + 1 = q) (K : Goes p e below F T (mkF m q L (v :: S))) : Goes p e below F T (mkF m pc L (.int j :: .ref a :: S)) := by
  subst hp
  obtain ⟨X1, C1, e1, N1, E1⟩ := X
  obtain ⟨cl, Ar, -, Sz, Nn, H, -⟩ := A
  have hin := inb_of Sz hj
  exact Goes.step (X1.laload C1.1 (j := j) (v := v) (by rw [e1]; exact Ar.1) (State.isArrayOf_alike C1.2.2.1.alike Ar.2.1) Ar.2.2 hin (H.at hin hv) (g := mkF m pc L (.int j :: .ref a :: S)) rfl rfl (hb C1.2.1 hd)) K
theorem o_caload (X : On l Z p e R s m args below meth c y code maxL ret T h locs cells slots) {a : Addr} {k : ClassId} {n j : Int32} {vs : List Value} {dv v : Value} {q : Nat} (A : Arv Z h a k .char n vs dv) (hj : ¬ j < 0 ∧ j < n) (hv : vs.getD j.toNatClampNeg dv = v) (hd : decode code pc = .ok (.caload, 1)) (hp : pc + 1 = q) (K : Goes p e below F T (mkF m q L (v :: S))) : Goes p e below F T (mkF m pc L (.int j :: .ref a :: S)) := by
  subst hp
  obtain ⟨X1, C1, e1, N1, E1⟩ := X
  obtain ⟨cl, Ar, -, Sz, Nn, H, -⟩ := A
  have hin := inb_of Sz hj
  exact Goes.step (X1.caload C1.1 (j := j) (v := v) (by rw [e1]; exact Ar.1) (State.isArrayOf_alike C1.2.2.1.alike Ar.2.1) Ar.2.2 hin (H.at hin hv) (g := mkF m pc L (.int j :: .ref a :: S)) rfl rfl (hb C1.2.1 hd)) K
theorem o_baload (X : On l Z p e R s m args below meth c y code maxL ret T h locs cells slots) {a : Addr} {k : ClassId} {n j : Int32} {vs : List Value} {dv v : Value} {q : Nat} (A : Arv Z h a k .byte n vs dv) (hj : ¬ j < 0 ∧ j < n) (hv : vs.getD j.toNatClampNeg dv = v) (hd : decode code pc = .ok (.baload, 1)) (hp : pc + 1 = q) (K : Goes p e below F T (mkF m q L (v :: S))) : Goes p e below F T (mkF m pc L (.int j :: .ref a :: S)) := by
  subst hp
  obtain ⟨X1, C1, e1, N1, E1⟩ := X
  obtain ⟨cl, Ar, -, Sz, Nn, H, -⟩ := A
  have hin := inb_of Sz hj
  exact Goes.step (X1.baloadBytes C1.1 (j := j) (v := v) (by rw [e1]; exact Ar.1) (State.isArrayOf_alike C1.2.2.1.alike Ar.2.1) Ar.2.2 hin (H.at hin hv) (g := mkF m pc L (.int j :: .ref a :: S)) rfl rfl (hb C1.2.1 hd)) K
theorem o_aaload (X : On l Z p e R s m args below meth c y code maxL ret T h locs cells slots) {a : Addr} {k : ClassId} {ty : FieldType} {n j : Int32} {vs : List Value} {dv v : Value} {q : Nat} (A : Arv Z h a k ty n vs dv) (hty : ty.isReference = true) (hj : ¬ j < 0 ∧ j < n) (hv : vs.getD j.toNatClampNeg dv = v) (hd : decode code pc = .ok (.aaload, 1)) (hp : pc + 1 = q) (K : Goes p e below F T (mkF m q L (v :: S))) : Goes p e below F T (mkF m pc L (.int j :: .ref a :: S)) := by
  subst hp
  obtain ⟨X1, C1, e1, N1, E1⟩ := X
  obtain ⟨cl, Ar, -, Sz, Nn, H, -⟩ := A
  have hin := inb_of Sz hj
  exact Goes.step (X1.aaload C1.1 (j := j) (v := v) (by rw [e1]; exact Ar.1) (State.isArrayOf_alike C1.2.2.1.alike Ar.2.1) hty Ar.2.2 hin (H.at hin hv) (g := mkF m pc L (.int j :: .ref a :: S)) rfl rfl (hb C1.2.1 hd)) K
theorem o_iastore (X : On l Z p e R s m args below meth c y code maxL ret T h locs cells slots) {a : Addr} {k : ClassId} {n j : Int32} {x : Int32} {v : Value} {vs : List Value} {dv : Value} {q : Nat} (i : Nat) (A : Arv Z h a k .int n vs dv) (ha : Z.heap.size ≤ a) (hj : ¬ j < 0 ∧ j < n) (hi : j.toNatClampNeg = i) (hlt : i < vs.length) (hv : (.int x : Value) = v) (hd : decode code pc = .ok (.iastore, 1)) (hp : pc + 1 = q)
    (K : ∀ (T' : State) (h' : Heap) (locs' : List Loc), On l Z p e R s m args below meth c y code maxL ret T' h' locs' cells slots → Wr h h' a i v → Arv Z h' a k .int n (vs.set i v) dv → Goes p e below F T' (mkF m q L S)) : Goes p e below F T (mkF m pc L (.int x :: .int j :: .ref a :: S)) := by
  subst hp hv
  obtain ⟨X1, C1, e1, N1, E1⟩ := X
  obtain ⟨cl, Ar, q1, Sz, Nn, H, G⟩ := A
  obtain ⟨T', h', X', e', W', st⟩ := stI X1 C1.1 C1.2.2.1 e1 Ar (j := j) (inb_of Sz hj) (g := mkF m pc L (.int x :: .int j :: .ref a :: S)) rfl rfl (hb C1.2.1 hd)
  exact Goes.step st (K T' h' _ ⟨X', C1, e', Fr.snoc X' N1 ha, ext_wr E1 W' ha⟩ (hi ▸ W') (Arv.set Ar q1 Sz Nn H G rfl W' i hi hlt))
theorem o_lastore (X : On l Z p e R s m args below meth c y code maxL ret T h locs cells slots) {a : Addr} {k : ClassId} {n j : Int32} {x : Int64} {v : Value} {vs : List Value} {dv : Value} {q : Nat} (i : Nat) (A : Arv Z h a k .long n vs dv) (ha : Z.heap.size ≤ a) (hj : ¬ j < 0 ∧ j < n) (hi : j.toNatClampNeg = i) (hlt : i < vs.length) (hv : (.long x : Value) = v) (hd : decode code pc = .ok (.lastore, 1)) (hp : pc + 1 = q)
    (K : ∀ (T' : State) (h' : Heap) (locs' : List Loc), On l Z p e R s m args below meth c y code maxL ret T' h' locs' cells slots → Wr h h' a i v → Arv Z h' a k .long n (vs.set i v) dv → Goes p e below F T' (mkF m q L S)) : Goes p e below F T (mkF m pc L (.long x :: .int j :: .ref a :: S)) := by
  subst hp hv
  obtain ⟨X1, C1, e1, N1, E1⟩ := X
  obtain ⟨cl, Ar, q1, Sz, Nn, H, G⟩ := A
  obtain ⟨T', h', X', e', W', st⟩ := stJ X1 C1.1 C1.2.2.1 e1 Ar (j := j) (inb_of Sz hj) (g := mkF m pc L (.long x :: .int j :: .ref a :: S)) rfl rfl (hb C1.2.1 hd)
  exact Goes.step st (K T' h' _ ⟨X', C1, e', Fr.snoc X' N1 ha, ext_wr E1 W' ha⟩ (hi ▸ W') (Arv.set Ar q1 Sz Nn H G rfl W' i hi hlt))
theorem o_castore (X : On l Z p e R s m args below meth c y code maxL ret T h locs cells slots) {a : Addr} {k : ClassId} {n j : Int32} {x : Int32} {v : Value} {vs : List Value} {dv : Value} {q : Nat} (i : Nat) (A : Arv Z h a k .char n vs dv) (ha : Z.heap.size ≤ a) (hj : ¬ j < 0 ∧ j < n) (hi : j.toNatClampNeg = i) (hlt : i < vs.length) (hv : (.int (nar .char x) : Value) = v) (hd : decode code pc = .ok (.castore, 1)) (hp : pc + 1 = q)
    (K : ∀ (T' : State) (h' : Heap) (locs' : List Loc), On l Z p e R s m args below meth c y code maxL ret T' h' locs' cells slots → Wr h h' a i v → Arv Z h' a k .char n (vs.set i v) dv → Goes p e below F T' (mkF m q L S)) : Goes p e below F T (mkF m pc L (.int x :: .int j :: .ref a :: S)) := by
  subst hp hv
  obtain ⟨X1, C1, e1, N1, E1⟩ := X
  obtain ⟨cl, Ar, q1, Sz, Nn, H, G⟩ := A
  obtain ⟨T', h', X', e', W', st⟩ := stC X1 C1.1 C1.2.2.1 e1 Ar (j := j) (inb_of Sz hj) (g := mkF m pc L (.int x :: .int j :: .ref a :: S)) rfl rfl (hb C1.2.1 hd)
  exact Goes.step st (K T' h' _ ⟨X', C1, e', Fr.snoc X' N1 ha, ext_wr E1 W' ha⟩ (hi ▸ W') (Arv.set Ar q1 Sz Nn H G (fits_nar_char x) W' i hi hlt))
theorem o_bastore (X : On l Z p e R s m args below meth c y code maxL ret T h locs cells slots) {a : Addr} {k : ClassId} {n j : Int32} {x : Int32} {v : Value} {vs : List Value} {dv : Value} {q : Nat} (i : Nat) (A : Arv Z h a k .byte n vs dv) (ha : Z.heap.size ≤ a) (hj : ¬ j < 0 ∧ j < n) (hi : j.toNatClampNeg = i) (hlt : i < vs.length) (hv : (.int (nar .byte x) : Value) = v) (hd : decode code pc = .ok (.bastore, 1)) (hp : pc + 1 = q)
    (K : ∀ (T' : State) (h' : Heap) (locs' : List Loc), On l Z p e R s m args below meth c y code maxL ret T' h' locs' cells slots → Wr h h' a i v → Arv Z h' a k .byte n (vs.set i v) dv → Goes p e below F T' (mkF m q L S)) : Goes p e below F T (mkF m pc L (.int x :: .int j :: .ref a :: S)) := by
  subst hp hv
  obtain ⟨X1, C1, e1, N1, E1⟩ := X
  obtain ⟨cl, Ar, q1, Sz, Nn, H, G⟩ := A
  obtain ⟨T', h', X', e', W', st⟩ := stB X1 C1.1 C1.2.2.1 e1 Ar (j := j) (inb_of Sz hj) (g := mkF m pc L (.int x :: .int j :: .ref a :: S)) rfl rfl (hb C1.2.1 hd)
  exact Goes.step st (K T' h' _ ⟨X', C1, e', Fr.snoc X' N1 ha, ext_wr E1 W' ha⟩ (hi ▸ W') (Arv.set Ar q1 Sz Nn H G (fits_nar_byte x) W' i hi hlt))
theorem o_ret (X : On l Z p e R s m args below meth c y code maxL none T h locs cells slots) {Q : Option Value → Heap → Prop} {rc rs : Nat} (hd : decode code pc = .ok (.return_, 1)) (hQ : Q none h) (hc : cells ≤ rc) (hs : slots ≤ rs) : Goes p e below (FinQ Z s Q rc rs) T (mkF m pc L []) := by
  obtain ⟨X1, C1, e1, N1, E1⟩ := X
  obtain ⟨fs, hr, hrun, hended, hW, hsame⟩ := X1.leave (v := none) (fun _ => rfl) C1.2.2.2.2.2.1
  refine ⟨_, _, X1.returnOut C1.1 C1.2.2.2.2.1 (hb C1.2.1 hd) hr, hrun, hended, _, _, rfl, ⟨?_, N1, ?_⟩, ⟨_, rfl⟩, hW, hsame.mono hc hs⟩
  · show Q none T.heap
    rw [e1]; exact hQ
  · show Ext Z.heap T.heap
    rw [e1]; exact E1
theorem o_retI (X : On l Z p e R s m args below meth c y code maxL (some .int) T h locs cells slots) {Q : Option Value → Heap → Prop} {rc rs : Nat} {z : Int32} (hd : decode code pc = .ok (.ireturn, 1)) (hQ : Q (some (.int z)) h) (hc : cells ≤ rc) (hs : slots ≤ rs) : Goes p e below (FinQ Z s Q rc rs) T (mkF m pc L (.int z :: S)) := by
  obtain ⟨X1, C1, e1, N1, E1⟩ := X
  obtain ⟨fs, hr, hrun, hended, hW, hsame⟩ := X1.leave (v := some (.int z)) (fun h => by rw [C1.2.2.2.2.1] at h; cases h) C1.2.2.2.2.2.1
  refine ⟨_, _, retOut X1 C1.1 C1.2.2.2.2.1 rfl (Or.inl ⟨rfl, Or.inl rfl, z, rfl⟩) (hb C1.2.1 hd) hr, hrun, hended, _, _, rfl, ⟨?_, N1, ?_⟩, ⟨_, rfl⟩, hW, hsame.mono hc hs⟩
  · show Q _ T.heap
    rw [e1]; exact hQ
  · show Ext Z.heap T.heap
    rw [e1]; exact E1
theorem o_retN {t : FieldType} (X : On l Z p e R s m args below meth c y code maxL (some t) T h locs cells slots) {Q : Option Value → Heap → Prop} {rc rs : Nat} {z : Int32} (hd : decode code pc = .ok (.ireturn, 1)) (ht : t = .boolean ∨ t = .byte ∨ t = .char ∨ t = .short) (hQ : Q (some (.int (nar t z))) h) (hc : cells ≤ rc) (hs : slots ≤ rs) : Goes p e below (FinQ Z s Q rc rs) T (mkF m pc L (.int z :: S)) := by
  obtain ⟨X1, C1, e1, N1, E1⟩ := X
  obtain ⟨fs, hr, hrun, hended, hW, hsame⟩ := X1.leave (v := some (.int (nar t z))) (fun h => by rw [C1.2.2.2.2.1] at h; cases h) C1.2.2.2.2.2.1
  refine ⟨_, _, retN X1 C1.1 C1.2.2.2.2.1 ht (hb C1.2.1 hd) hr, hrun, hended, _, _, rfl, ⟨?_, N1, ?_⟩, ⟨_, rfl⟩, hW, hsame.mono hc hs⟩
  · show Q _ T.heap
    rw [e1]; exact hQ
  · show Ext Z.heap T.heap
    rw [e1]; exact E1
theorem o_retR {t : FieldType} (X : On l Z p e R s m args below meth c y code maxL (some t) T h locs cells slots) {Q : Option Value → Heap → Prop} {rc rs : Nat} {v : Value} (hd : decode code pc = .ok (.areturn, 1)) (ht : t.isReference = true) (hv : v.isRef = true) (hn : narrow t v = v) (hQ : Q (some v) h) (hc : cells ≤ rc) (hs : slots ≤ rs) : Goes p e below (FinQ Z s Q rc rs) T (mkF m pc L (v :: S)) := by
  obtain ⟨X1, C1, e1, N1, E1⟩ := X
  obtain ⟨fs, hr, hrun, hended, hW, hsame⟩ := X1.leave (v := some v) (fun h => by rw [C1.2.2.2.2.1] at h; cases h) C1.2.2.2.2.2.1
  refine ⟨_, _, retOut X1 C1.1 C1.2.2.2.2.1 hn (Or.inr (Or.inr (Or.inr (Or.inr ⟨rfl, ht, hv⟩)))) (hb C1.2.1 hd) hr, hrun, hended, _, _, rfl, ⟨?_, N1, ?_⟩, ⟨_, rfl⟩, hW, hsame.mono hc hs⟩
  · show Q _ T.heap
    rw [e1]; exact hQ
  · show Ext Z.heap T.heap
    rw [e1]; exact E1
theorem o_retJ (X : On l Z p e R s m args below meth c y code maxL (some .long) T h locs cells slots) {Q : Option Value → Heap → Prop} {rc rs : Nat} {z : Int64} (hd : decode code pc = .ok (.lreturn, 1)) (hQ : Q (some (.long z)) h) (hc : cells ≤ rc) (hs : slots ≤ rs) : Goes p e below (FinQ Z s Q rc rs) T (mkF m pc L (.long z :: S)) := by
  obtain ⟨X1, C1, e1, N1, E1⟩ := X
  obtain ⟨fs, hr, hrun, hended, hW, hsame⟩ := X1.leave (v := some (.long z)) (fun h => by rw [C1.2.2.2.2.1] at h; cases h) C1.2.2.2.2.2.1
  refine ⟨_, _, retOut X1 C1.1 C1.2.2.2.2.1 rfl (Or.inr (Or.inl ⟨rfl, rfl, z, rfl⟩)) (hb C1.2.1 hd) hr, hrun, hended, _, _, rfl, ⟨?_, N1, ?_⟩, ⟨_, rfl⟩, hW, hsame.mono hc hs⟩
  · show Q _ T.heap
    rw [e1]; exact hQ
  · show Ext Z.heap T.heap
    rw [e1]; exact E1
theorem o_initO (X : On l Z p e R s m args below meth c y code maxL ret T h locs cells slots) {idx q : Nat} {a : Addr} (w1 : (Jvm.Cond.methodLink y.cls idx Lib.objectInit).before a0 Z = true) (w2 : (Jvm.Cond.instanceMethod Lib.objectInit).before a0 Z = true) (w3 : (Jvm.Cond.code Lib.objectInit ⟨#[0xb1]⟩ 1 none).before a0 Z = true) (hd : decode code pc = .ok (.invokespecial idx, 3)) (hL : L.size = maxL) (hf : 1 ≤ R.frames) (hl : (S.map fun v => v.category).sum + 12 ≤ R.locals) (hp : pc + 3 = q)
    (K : ∀ T' : State, On l Z p e R s m args below meth c y code maxL ret T' h locs cells slots → Goes p e below F T' (mkF m q L S)) : Goes p e below F T (mkF m pc L (.ref a :: S)) := by
  subst hp
  obtain ⟨X1, C1, e1, N1, E1⟩ := X
  obtain ⟨T', X', e', st⟩ := initO X1 C1.1 C1.2.2.1 C1.2.2.2.1 w1 w2 w3 e1 (g := mkF m pc L (.ref a :: S)) rfl (hL.trans C1.2.2.2.2.2.2.2.symm) rfl (hb C1.2.1 hd) hf (W := (S.map fun v => v.category).sum) (by show 2 * 0 + _ ≤ _; omega) hl
  exact Goes.step st (K T' ⟨X', C1, e', N1, E1⟩)
/-- a call that some Back pays: what its Post says of the heap behind -/
theorem o_specB (X : On l Z p e R s m args below meth c y code maxL ret T h locs cells slots) {y' : MethodName} {index W q : Nat} {bytes : ByteArray} {maxL' : Nat} {Q : Option Value → Heap → List Loc → Prop} {rc rs : Nat} {as : Array Value} (argsL : List Value) {a : Addr} {rest : List Value}
    (hK : Back l R p e below s args y' 3 W (fun A b => b = as ∧ A.U.heap = h ∧ A.cells + rc ≤ R.cells ∧ A.slots + rs ≤ R.slots) (fun A _ v B => ∃ L, Q v B.U.heap L ∧ B.locs = A.locs ++ L ∧ B.cells = A.cells + rc ∧ B.slots = A.slots + rs))
    (hq : ∀ v h' L, Q v h' L → Fr Z.heap.size L ∧ Ext Z.heap h')
    (hy1 : y'.name = "<init>") (w1 : (Jvm.Cond.methodLink y.cls index y').before a0 Z = true) (w2 : (Jvm.Cond.instanceMethod y').before a0 Z = true) (w3 : (Jvm.Cond.code y' bytes maxL' none).before a0 Z = true) (hy : y'.cls ≠ "java/lang/invoke/MethodHandle" ∧ y'.cls ≠ "java/lang/invoke/VarHandle")
    (hd : decode code pc = .ok (.invokespecial index, 3)) (has : (.ref a :: argsL).toArray = as) (hL : L.size = maxL) (hlen : ∀ sig, parseMethodDescriptor y'.desc = some sig → argsL.length = sig.parameters.length) (hS : S = argsL.reverse ++ .ref a :: rest) (hW : (rest.map fun v => v.category).sum ≤ W) (hc : cells + rc ≤ R.cells) (hs : slots + rs ≤ R.slots) (hp : pc + 3 = q)
    (K : ∀ (v : Option Value) (T' : State) (h' : Heap) (L' locs' : List Loc), On l Z p e R s m args below meth c y code maxL ret T' h' locs' (cells + rc) (slots + rs) → Q v h' L' → Goes p e below F T' (mkF m q L (v.toList ++ rest))) : Goes p e below F T (mkF m pc L S) := by
  subst hp hS has
  obtain ⟨X1, C1, e1, N1, E1⟩ := X
  obtain ⟨v, vm1, ⟨T', L1, k1, n1⟩, -, X', ⟨Lc, hQ, e2, e3, e4⟩, st⟩ := X1.specialBack C1.1 hy1 C1.2.2.2.1 (mvT C1.2.2.1 w1) (mvT C1.2.2.1 w2) (mvT C1.2.2.1 w3) hy hK (g := mkF m pc L (argsL.reverse ++ .ref a :: rest)) rfl (hL.trans C1.2.2.2.2.2.2.2.symm) (Steps.refl _) hlen rfl (by show 2 * 0 + _ ≤ _; omega) (hb C1.2.1 hd) (fun _ _ => ⟨rfl, e1, hc, hs⟩)
  dsimp only [Pt.U, Pt.locs, Pt.cells, Pt.slots] at X' hQ e2 e3 e4 st
  subst e2 e3 e4
  obtain ⟨f1, f2⟩ := hq _ _ _ hQ
  exact Goes.step (fun _ k => st.trans k) (K v T' T'.heap Lc _ ⟨X', C1, rfl, Fr.app N1 f1, f2⟩ hQ)
theorem o_virtB (X : On l Z p e R s m args below meth c y code maxL ret T h locs cells slots) {C : String} {y' : MethodName} {index W q : Nat} {Q : Option Value → Heap → List Loc → Prop} {rc rs : Nat} {as : Array Value} (argsL : List Value) {a : Addr} {rest : List Value} (E : Exa Z h a C)
    (hK : Back l R p e below s args y' 3 W (fun A b => b = as ∧ A.U.heap = h ∧ A.cells + rc ≤ R.cells ∧ A.slots + rs ≤ R.slots) (fun A _ v B => ∃ L, Q v B.U.heap L ∧ B.locs = A.locs ++ L ∧ B.cells = A.cells + rc ∧ B.slots = A.slots + rs))
    (hq : ∀ v h' L, Q v h' L → Fr Z.heap.size L ∧ Ext Z.heap h')
    (w1 : (Jvm.Cond.methodLink y.cls index y').before a0 Z = true) (w2 : (Jvm.Cond.declares y').before a0 Z = true) (w3 : (Jvm.Cond.selects C y' y').before a0 Z = true) (w4 : (Jvm.Cond.instanceMethod y').before a0 Z = true) (hy : y'.cls ≠ "java/lang/invoke/MethodHandle" ∧ y'.cls ≠ "java/lang/invoke/VarHandle")
    (hd : decode code pc = .ok (.invokevirtual index, 3)) (has : (.ref a :: argsL).toArray = as) (hL : L.size = maxL) (hlen : ∀ sig, parseMethodDescriptor y'.desc = some sig → argsL.length = sig.parameters.length) (hS : S = argsL.reverse ++ .ref a :: rest) (hW : (rest.map fun v => v.category).sum ≤ W) (hc : cells + rc ≤ R.cells) (hs : slots + rs ≤ R.slots) (hp : pc + 3 = q)
    (K : ∀ (v : Option Value) (T' : State) (h' : Heap) (L' locs' : List Loc), On l Z p e R s m args below meth c y code maxL ret T' h' locs' (cells + rc) (slots + rs) → Q v h' L' → Goes p e below F T' (mkF m q L (v.toList ++ rest))) : Goes p e below F T (mkF m pc L S) := by
  subst hp hS has
  obtain ⟨X1, C1, e1, N1, E1⟩ := X
  obtain ⟨cB, kB, q1, q2, q3⟩ := isOf C1.2.2.1 e1 E
  obtain ⟨v, vm1, ⟨T', L1, k1, n1⟩, -, X', ⟨Lc, hQ, e2, e3, e4⟩, st⟩ := X1.virtualBack C1.1 (y := y') (z := y') C1.2.2.2.1 (mvT C1.2.2.1 w1) (mvT C1.2.2.1 w2) (notFace_of_selects (args := #[]) (mvT C1.2.2.1 w3)) (mvT C1.2.2.1 w3) (mvT C1.2.2.1 w4) hy hK q1 q3 (g := mkF m pc L (argsL.reverse ++ .ref a :: rest)) rfl (hL.trans C1.2.2.2.2.2.2.2.symm) (Steps.refl _) hlen rfl (by show 2 * 0 + _ ≤ _; omega) (hb C1.2.1 hd) (fun _ _ => ⟨rfl, e1, hc, hs⟩)
  dsimp only [Pt.U, Pt.locs, Pt.cells, Pt.slots] at X' hQ e2 e3 e4 st
  subst e2 e3 e4
  obtain ⟨f1, f2⟩ := hq _ _ _ hQ
  exact Goes.step (fun _ k => st.trans k) (K v T' T'.heap Lc _ ⟨X', C1, rfl, Fr.app N1 f1, f2⟩ hQ)
theorem o_statB (X : On l Z p e R s m args below meth c y code maxL ret T h locs cells slots) {y' : MethodName} {index W q : Nat} {bytes : ByteArray} {maxL' : Nat} {ret' : Option FieldType} {Q : Option Value → Heap → List Loc → Prop} {rc rs : Nat} {as : Array Value} (argsL : List Value) {rest : List Value}
    (hK : Back l R p e below s args y' 3 W (fun A b => b = as ∧ A.U.heap = h ∧ A.cells + rc ≤ R.cells ∧ A.slots + rs ≤ R.slots) (fun A _ v B => ∃ L, Q v B.U.heap L ∧ B.locs = A.locs ++ L ∧ B.cells = A.cells + rc ∧ B.slots = A.slots + rs))
    (hq : ∀ v h' L, Q v h' L → Fr Z.heap.size L ∧ Ext Z.heap h')
    (w1 : (Jvm.Cond.methodLink y.cls index y').before a0 Z = true) (w2 : (Jvm.Cond.static y').before a0 Z = true) (w3 : (Jvm.Cond.initialized y'.cls).before a0 Z = true) (w4 : (Jvm.Cond.code y' bytes maxL' ret').before a0 Z = true) (hy : y'.cls ≠ "java/lang/invoke/MethodHandle" ∧ y'.cls ≠ "java/lang/invoke/VarHandle")
    (hd : decode code pc = .ok (.invokestatic index, 3)) (has : argsL.toArray = as) (hL : L.size = maxL) (hlen : ∀ sig, parseMethodDescriptor y'.desc = some sig → argsL.length = sig.parameters.length) (hS : S = argsL.reverse ++ rest) (hW : (rest.map fun v => v.category).sum ≤ W) (hc : cells + rc ≤ R.cells) (hs : slots + rs ≤ R.slots) (hp : pc + 3 = q)
    (K : ∀ (v : Option Value) (T' : State) (h' : Heap) (L' locs' : List Loc), On l Z p e R s m args below meth c y code maxL ret T' h' locs' (cells + rc) (slots + rs) → Q v h' L' → Goes p e below F T' (mkF m q L (v.toList ++ rest))) : Goes p e below F T (mkF m pc L S) := by
  subst hp hS has
  obtain ⟨X1, C1, e1, N1, E1⟩ := X
  obtain ⟨v, vm1, ⟨T', L1, k1, n1⟩, -, X', ⟨Lc, hQ, e2, e3, e4⟩, st⟩ := Jvm.LawKit.callS X1 C1.1 C1.2.2.2.1 (mvT C1.2.2.1 w1) (mvT C1.2.2.1 w2) (mvT C1.2.2.1 w3) (mvT C1.2.2.1 w4) hy hK (g := mkF m pc L (argsL.reverse ++ rest)) rfl (hL.trans C1.2.2.2.2.2.2.2.symm) hlen rfl (by show 2 * 0 + _ ≤ _; omega) (hb C1.2.1 hd) (fun _ _ => ⟨rfl, e1, hc, hs⟩)
  dsimp only [Pt.U, Pt.locs, Pt.cells, Pt.slots] at X' hQ e2 e3 e4 st
  subst e2 e3 e4
  obtain ⟨f1, f2⟩ := hq _ _ _ hQ
  exact Goes.step st (K v T' T'.heap Lc _ ⟨X', C1, rfl, Fr.app N1 f1, f2⟩ hQ)
/-- a contract as a Back -/
theorem Con.back {y' : MethodName} {bytes : ByteArray} {maxL' : Nat} {ret' : Option FieldType} {rm : Room} {as : Array Value} {Q : Option Value → Heap → Prop} {len W : Nat} (X : On l Z p e R s m args below meth c y code maxL ret T h locs cells slots) (hC : Con l Z y' bytes maxL' ret' rm as h Q) (w4 : (Jvm.Cond.code y' bytes maxL' ret').before a0 Z = true) (w3 : (Jvm.Cond.initialized y'.cls).before a0 Z = true) (hf : rm.frames + 1 ≤ R.frames) (hl : W + (maxL' + 11) + rm.locals ≤ R.locals) :
    Back l R p e below s args y' len W (fun A b => b = as ∧ A.U.heap = h ∧ A.cells + rm.cells ≤ R.cells ∧ A.slots + rm.slots ≤ R.slots) (fun A _ v B => ∃ L, (Q v B.U.heap ∧ Fr Z.heap.size L ∧ Ext Z.heap B.U.heap) ∧ B.locs = A.locs ++ L ∧ B.cells = A.cells + rm.cells ∧ B.slots = A.slots + rm.slots) :=
  backOf (Q := fun v h' L => Q v h' ∧ Fr Z.heap.size L ∧ Ext Z.heap h') (hC X.ext []) X.2.1.2.2.1 w4 w3 hf hl
theorem o_spec (X : On l Z p e R s m args below meth c y code maxL ret T h locs cells slots) {y' : MethodName} {index q : Nat} {bytes : ByteArray} {maxL' : Nat} {rm : Room} {as : Array Value} {Q : Option Value → Heap → Prop} (argsL : List Value) {a : Addr} {rest : List Value} (hC : Con l Z y' bytes maxL' none rm as h Q)
    (hy1 : y'.name = "<init>") (w1 : (Jvm.Cond.methodLink y.cls index y').before a0 Z = true) (w2 : (Jvm.Cond.instanceMethod y').before a0 Z = true) (w3 : (Jvm.Cond.code y' bytes maxL' none).before a0 Z = true) (w4 : (Jvm.Cond.initialized y'.cls).before a0 Z = true) (hy : y'.cls ≠ "java/lang/invoke/MethodHandle" ∧ y'.cls ≠ "java/lang/invoke/VarHandle")
    (hd : decode code pc = .ok (.invokespecial index, 3)) (has : (.ref a :: argsL).toArray = as) (hL : L.size = maxL) (hlen : ∀ sig, parseMethodDescriptor y'.desc = some sig → argsL.length = sig.parameters.length) (hS : S = argsL.reverse ++ .ref a :: rest) (hf : rm.frames + 1 ≤ R.frames) (hl : (rest.map fun v => v.category).sum + (maxL' + 11) + rm.locals ≤ R.locals) (hc : cells + rm.cells ≤ R.cells) (hs : slots + rm.slots ≤ R.slots) (hp : pc + 3 = q)
    (K : ∀ (v : Option Value) (T' : State) (h' : Heap) (locs' : List Loc), On l Z p e R s m args below meth c y code maxL ret T' h' locs' (cells + rm.cells) (slots + rm.slots) → Q v h' → Goes p e below F T' (mkF m q L (v.toList ++ rest))) : Goes p e below F T (mkF m pc L S) :=
  o_specB X argsL (Q := fun v h' L => Q v h' ∧ Fr Z.heap.size L ∧ Ext Z.heap h') (Con.back X hC w3 w4 hf hl) (fun _ _ _ q => q.2) hy1 w1 w2 w3 hy hd has hL hlen hS (Nat.le_refl _) hc hs hp (fun v T' h' L' locs' X' hQ => K v T' h' locs' X' hQ.1)
theorem o_virt (X : On l Z p e R s m args below meth c y code maxL ret T h locs cells slots) {C : String} {y' : MethodName} {index q : Nat} {bytes : ByteArray} {maxL' : Nat} {ret' : Option FieldType} {rm : Room} {as : Array Value} {Q : Option Value → Heap → Prop} (argsL : List Value) {a : Addr} {rest : List Value} (E : Exa Z h a C) (hC : Con l Z y' bytes maxL' ret' rm as h Q)
    (w1 : (Jvm.Cond.methodLink y.cls index y').before a0 Z = true) (w2 : (Jvm.Cond.declares y').before a0 Z = true) (w3 : (Jvm.Cond.selects C y' y').before a0 Z = true) (w4 : (Jvm.Cond.instanceMethod y').before a0 Z = true) (w5 : (Jvm.Cond.code y' bytes maxL' ret').before a0 Z = true) (w6 : (Jvm.Cond.initialized y'.cls).before a0 Z = true) (hy : y'.cls ≠ "java/lang/invoke/MethodHandle" ∧ y'.cls ≠ "java/lang/invoke/VarHandle")
    (hd : decode code pc = .ok (.invokevirtual index, 3)) (has : (.ref a :: argsL).toArray = as) (hL : L.size = maxL) (hlen : ∀ sig, parseMethodDescriptor y'.desc = some sig → argsL.length = sig.parameters.length) (hS : S = argsL.reverse ++ .ref a :: rest) (hf : rm.frames + 1 ≤ R.frames) (hl : (rest.map fun v => v.category).sum + (maxL' + 11) + rm.locals ≤ R.locals) (hc : cells + rm.cells ≤ R.cells) (hs : slots + rm.slots ≤ R.slots) (hp : pc + 3 = q)
    (K : ∀ (v : Option Value) (T' : State) (h' : Heap) (locs' : List Loc), On l Z p e R s m args below meth c y code maxL ret T' h' locs' (cells + rm.cells) (slots + rm.slots) → Q v h' → Goes p e below F T' (mkF m q L (v.toList ++ rest))) : Goes p e below F T (mkF m pc L S) :=
  o_virtB X argsL (Q := fun v h' L => Q v h' ∧ Fr Z.heap.size L ∧ Ext Z.heap h') E (Con.back X hC w5 w6 hf hl) (fun _ _ _ q => q.2) w1 w2 w3 w4 hy hd has hL hlen hS (Nat.le_refl _) hc hs hp (fun v T' h' L' locs' X' hQ => K v T' h' locs' X' hQ.1)
theorem o_stat (X : On l Z p e R s m args below meth c y code maxL ret T h locs cells slots) {y' : MethodName} {index q : Nat} {bytes : ByteArray} {maxL' : Nat} {ret' : Option FieldType} {rm : Room} {as : Array Value} {Q : Option Value → Heap → Prop} (argsL : List Value) {rest : List Value} (hC : Con l Z y' bytes maxL' ret' rm as h Q)
    (w1 : (Jvm.Cond.methodLink y.cls index y').before a0 Z = true) (w2 : (Jvm.Cond.static y').before a0 Z = true) (w3 : (Jvm.Cond.initialized y'.cls).before a0 Z = true) (w4 : (Jvm.Cond.code y' bytes maxL' ret').before a0 Z = true) (hy : y'.cls ≠ "java/lang/invoke/MethodHandle" ∧ y'.cls ≠ "java/lang/invoke/VarHandle")
    (hd : decode code pc = .ok (.invokestatic index, 3)) (has : argsL.toArray = as) (hL : L.size = maxL) (hlen : ∀ sig, parseMethodDescriptor y'.desc = some sig → argsL.length = sig.parameters.length) (hS : S = argsL.reverse ++ rest) (hf : rm.frames + 1 ≤ R.frames) (hl : (rest.map fun v => v.category).sum + (maxL' + 11) + rm.locals ≤ R.locals) (hc : cells + rm.cells ≤ R.cells) (hs : slots + rm.slots ≤ R.slots) (hp : pc + 3 = q)
    (K : ∀ (v : Option Value) (T' : State) (h' : Heap) (locs' : List Loc), On l Z p e R s m args below meth c y code maxL ret T' h' locs' (cells + rm.cells) (slots + rm.slots) → Q v h' → Goes p e below F T' (mkF m q L (v.toList ++ rest))) : Goes p e below F T (mkF m pc L S) :=
  o_statB X argsL (Q := fun v h' L => Q v h' ∧ Fr Z.heap.size L ∧ Ext Z.heap h') (Con.back X hC w4 w3 hf hl) (fun _ _ _ q => q.2) w1 w2 w3 w4 hy hd has hL hlen hS (Nat.le_refl _) hc hs hp (fun v T' h' L' locs' X' hQ => K v T' h' locs' X' hQ.1)
end OwnKit
end Jvm.Pilot.@@N@@

namespace Jvm.Pilot.@@N@@
open Jvm Jvm.ClassFile Sem Op Lib Jvm.Free Jvm.Stand Jvm.LawKit Jvm.RoadKit Bundle Jvm.Pilot.@@N@@.Jvm.D
def W (a0 : Array Value) (Z : State) : Prop := ∀ d ∈ tables_1, d.before a0 Z = true
theorem w0 {a0 : Array Value} {Z : State} (hw : W a0 Z) : (Jvm.Cond.constant "com/example/pomona/pomona/index/PostingsListLastDocumentPinLaw" (7 : Nat) (2147483647 : Int32)).before a0 Z = true := hw _ (List.mem_of_getElem? (i := 0) rfl)
theorem w1 {a0 : Array Value} {Z : State} (hw : W a0 Z) : (Jvm.Cond.constant "com/example/pomona/pomona/index/PostingsListLastDocumentPinLaw" (8 : Nat) (1073741823 : Int32)).before a0 Z = true := hw _ (List.mem_of_getElem? (i := 1) rfl)
theorem w2 {a0 : Array Value} {Z : State} (hw : W a0 Z) : (Jvm.Cond.constant "com/example/pomona/pomona/index/PostingsListLastDocumentPinLaw" (9 : Nat) (536870911 : Int32)).before a0 Z = true := hw _ (List.mem_of_getElem? (i := 2) rfl)
theorem w3 {a0 : Array Value} {Z : State} (hw : W a0 Z) : (Jvm.Cond.arrayClass Jvm.ClassFile.FieldType.char).before a0 Z = true := hw _ (List.mem_of_getElem? (i := 3) rfl)
theorem w4 {a0 : Array Value} {Z : State} (hw : W a0 Z) : (Jvm.Cond.classLink "com/example/pomona/pomona/index/PostingsListLastDocumentPinLaw" (10 : Nat) "java/lang/String").before a0 Z = true := hw _ (List.mem_of_getElem? (i := 4) rfl)
theorem w5 {a0 : Array Value} {Z : State} (hw : W a0 Z) : (Jvm.Cond.instantiable "java/lang/String" (4 : Nat)).before a0 Z = true := hw _ (List.mem_of_getElem? (i := 5) rfl)
theorem w6 {a0 : Array Value} {Z : State} (hw : W a0 Z) : (Jvm.Cond.initialized "java/lang/String").before a0 Z = true := hw _ (List.mem_of_getElem? (i := 6) rfl)
theorem w7 {a0 : Array Value} {Z : State} (hw : W a0 Z) : (Jvm.Cond.methodLink "com/example/pomona/pomona/index/PostingsListLastDocumentPinLaw" (12 : Nat) ({ cls := "java/lang/String", name := "<init>", desc := "([C)V" } : Jvm.MethodName)).before a0 Z = true := hw _ (List.mem_of_getElem? (i := 7) rfl)
theorem w8 {a0 : Array Value} {Z : State} (hw : W a0 Z) : (Jvm.Cond.instanceMethod ({ cls := "java/lang/String", name := "<init>", desc := "([C)V" } : Jvm.MethodName)).before a0 Z = true := hw _ (List.mem_of_getElem? (i := 8) rfl)
theorem w9 {a0 : Array Value} {Z : State} (hw : W a0 Z) : (Jvm.Cond.code ({ cls := "java/lang/String", name := "<init>", desc := "([C)V" } : Jvm.MethodName) jdk_42_method_3_code (2 : Nat) (Option.none : Option Jvm.ClassFile.FieldType)).before a0 Z = true := hw _ (List.mem_of_getElem? (i := 9) rfl)
theorem w15 {a0 : Array Value} {Z : State} (hw : W a0 Z) : (Jvm.Cond.instanceMethod ({ cls := "java/lang/Object", name := "<init>", desc := "()V" } : Jvm.MethodName)).before a0 Z = true := hw _ (List.mem_of_getElem? (i := 15) rfl)
theorem w16 {a0 : Array Value} {Z : State} (hw : W a0 Z) : (Jvm.Cond.code ({ cls := "java/lang/Object", name := "<init>", desc := "()V" } : Jvm.MethodName) object_method_1_code (1 : Nat) (Option.none : Option Jvm.ClassFile.FieldType)).before a0 Z = true := hw _ (List.mem_of_getElem? (i := 16) rfl)
theorem w30 {a0 : Array Value} {Z : State} (hw : W a0 Z) : (Jvm.Cond.laysFinal "java/lang/String" "java/lang/String" "coder" "B").before a0 Z = true := hw _ (List.mem_of_getElem? (i := 30) rfl)
theorem w32 {a0 : Array Value} {Z : State} (hw : W a0 Z) : (Jvm.Cond.laysFinal "java/lang/String" "java/lang/String" "value" "[B").before a0 Z = true := hw _ (List.mem_of_getElem? (i := 32) rfl)
theorem w33 {a0 : Array Value} {Z : State} (hw : W a0 Z) : (Jvm.Cond.arrayClass Jvm.ClassFile.FieldType.int).before a0 Z = true := hw _ (List.mem_of_getElem? (i := 33) rfl)
theorem w34 {a0 : Array Value} {Z : State} (hw : W a0 Z) : (Jvm.Cond.classLink "com/example/pomona/pomona/index/PostingsListLastDocumentPinLaw" (15 : Nat) "com/example/pomona/pomona/index/PostingsList").before a0 Z = true := hw _ (List.mem_of_getElem? (i := 34) rfl)
theorem w35 {a0 : Array Value} {Z : State} (hw : W a0 Z) : (Jvm.Cond.instantiable "com/example/pomona/pomona/index/PostingsList" (4 : Nat)).before a0 Z = true := hw _ (List.mem_of_getElem? (i := 35) rfl)
theorem w36 {a0 : Array Value} {Z : State} (hw : W a0 Z) : (Jvm.Cond.initialized "com/example/pomona/pomona/index/PostingsList").before a0 Z = true := hw _ (List.mem_of_getElem? (i := 36) rfl)
theorem w37 {a0 : Array Value} {Z : State} (hw : W a0 Z) : (Jvm.Cond.methodLink "com/example/pomona/pomona/index/PostingsListLastDocumentPinLaw" (17 : Nat) ({ cls := "com/example/pomona/pomona/index/PostingsList", name := "<init>", desc := "(Ljava/lang/String;[I[I)V" } : Jvm.MethodName)).before a0 Z = true := hw _ (List.mem_of_getElem? (i := 37) rfl)
theorem w38 {a0 : Array Value} {Z : State} (hw : W a0 Z) : (Jvm.Cond.instanceMethod ({ cls := "com/example/pomona/pomona/index/PostingsList", name := "<init>", desc := "(Ljava/lang/String;[I[I)V" } : Jvm.MethodName)).before a0 Z = true := hw _ (List.mem_of_getElem? (i := 38) rfl)
theorem w39 {a0 : Array Value} {Z : State} (hw : W a0 Z) : (Jvm.Cond.code ({ cls := "com/example/pomona/pomona/index/PostingsList", name := "<init>", desc := "(Ljava/lang/String;[I[I)V" } : Jvm.MethodName) prog_20_method_1_code (8 : Nat) (Option.none : Option Jvm.ClassFile.FieldType)).before a0 Z = true := hw _ (List.mem_of_getElem? (i := 39) rfl)
theorem w40 {a0 : Array Value} {Z : State} (hw : W a0 Z) : (Jvm.Cond.methodLink "com/example/pomona/pomona/index/PostingsList" (1 : Nat) ({ cls := "java/lang/Object", name := "<init>", desc := "()V" } : Jvm.MethodName)).before a0 Z = true := hw _ (List.mem_of_getElem? (i := 40) rfl)
theorem w41 {a0 : Array Value} {Z : State} (hw : W a0 Z) : (Jvm.Cond.fieldLink "com/example/pomona/pomona/index/PostingsList" (21 : Nat) "com/example/pomona/pomona/index/PostingsList" "term" "Ljava/lang/String;").before a0 Z = true := hw _ (List.mem_of_getElem? (i := 41) rfl)
theorem w42 {a0 : Array Value} {Z : State} (hw : W a0 Z) : (Jvm.Cond.laysFinal "com/example/pomona/pomona/index/PostingsList" "com/example/pomona/pomona/index/PostingsList" "term" "Ljava/lang/String;").before a0 Z = true := hw _ (List.mem_of_getElem? (i := 42) rfl)
theorem w43 {a0 : Array Value} {Z : State} (hw : W a0 Z) : (Jvm.Cond.fieldLink "com/example/pomona/pomona/index/PostingsList" (27 : Nat) "com/example/pomona/pomona/index/PostingsList" "documents" "[I").before a0 Z = true := hw _ (List.mem_of_getElem? (i := 43) rfl)
theorem w44 {a0 : Array Value} {Z : State} (hw : W a0 Z) : (Jvm.Cond.laysFinal "com/example/pomona/pomona/index/PostingsList" "com/example/pomona/pomona/index/PostingsList" "documents" "[I").before a0 Z = true := hw _ (List.mem_of_getElem? (i := 44) rfl)
theorem w45 {a0 : Array Value} {Z : State} (hw : W a0 Z) : (Jvm.Cond.fieldLink "com/example/pomona/pomona/index/PostingsList" (31 : Nat) "com/example/pomona/pomona/index/PostingsList" "frequencies" "[I").before a0 Z = true := hw _ (List.mem_of_getElem? (i := 45) rfl)
theorem w46 {a0 : Array Value} {Z : State} (hw : W a0 Z) : (Jvm.Cond.laysFinal "com/example/pomona/pomona/index/PostingsList" "com/example/pomona/pomona/index/PostingsList" "frequencies" "[I").before a0 Z = true := hw _ (List.mem_of_getElem? (i := 46) rfl)
theorem w47 {a0 : Array Value} {Z : State} (hw : W a0 Z) : (Jvm.Cond.fieldLink "com/example/pomona/pomona/index/PostingsList" (34 : Nat) "com/example/pomona/pomona/index/PostingsList" "collectionFrequency" "J").before a0 Z = true := hw _ (List.mem_of_getElem? (i := 47) rfl)
theorem w48 {a0 : Array Value} {Z : State} (hw : W a0 Z) : (Jvm.Cond.laysFinal "com/example/pomona/pomona/index/PostingsList" "com/example/pomona/pomona/index/PostingsList" "collectionFrequency" "J").before a0 Z = true := hw _ (List.mem_of_getElem? (i := 48) rfl)
theorem w49 {a0 : Array Value} {Z : State} (hw : W a0 Z) : (Jvm.Cond.methodLink "com/example/pomona/pomona/index/PostingsListLastDocumentPinLaw" (20 : Nat) ({ cls := "com/example/pomona/pomona/index/PostingsList", name := "lastDocument", desc := "()I" } : Jvm.MethodName)).before a0 Z = true := hw _ (List.mem_of_getElem? (i := 49) rfl)
theorem w50 {a0 : Array Value} {Z : State} (hw : W a0 Z) : (Jvm.Cond.declares ({ cls := "com/example/pomona/pomona/index/PostingsList", name := "lastDocument", desc := "()I" } : Jvm.MethodName)).before a0 Z = true := hw _ (List.mem_of_getElem? (i := 50) rfl)
theorem w51 {a0 : Array Value} {Z : State} (hw : W a0 Z) : (Jvm.Cond.instanceMethod ({ cls := "com/example/pomona/pomona/index/PostingsList", name := "lastDocument", desc := "()I" } : Jvm.MethodName)).before a0 Z = true := hw _ (List.mem_of_getElem? (i := 51) rfl)
theorem w52 {a0 : Array Value} {Z : State} (hw : W a0 Z) : (Jvm.Cond.selects "com/example/pomona/pomona/index/PostingsList" ({ cls := "com/example/pomona/pomona/index/PostingsList", name := "lastDocument", desc := "()I" } : Jvm.MethodName) ({ cls := "com/example/pomona/pomona/index/PostingsList", name := "lastDocument", desc := "()I" } : Jvm.MethodName)).before a0 Z = true := hw _ (List.mem_of_getElem? (i := 52) rfl)
theorem w53 {a0 : Array Value} {Z : State} (hw : W a0 Z) : (Jvm.Cond.code ({ cls := "com/example/pomona/pomona/index/PostingsList", name := "lastDocument", desc := "()I" } : Jvm.MethodName) prog_20_method_7_code (1 : Nat) (Option.some Jvm.ClassFile.FieldType.int)).before a0 Z = true := hw _ (List.mem_of_getElem? (i := 53) rfl)
theorem w54 {a0 : Array Value} {Z : State} (hw : W a0 Z) : (Jvm.Cond.methodLink "com/example/pomona/pomona/index/PostingsListLastDocumentPinLaw" (24 : Nat) ({ cls := "com/example/pomona/pomona/index/PostingsList", name := "document", desc := "(I)I" } : Jvm.MethodName)).before a0 Z = true := hw _ (List.mem_of_getElem? (i := 54) rfl)
theorem w55 {a0 : Array Value} {Z : State} (hw : W a0 Z) : (Jvm.Cond.declares ({ cls := "com/example/pomona/pomona/index/PostingsList", name := "document", desc := "(I)I" } : Jvm.MethodName)).before a0 Z = true := hw _ (List.mem_of_getElem? (i := 55) rfl)
theorem w56 {a0 : Array Value} {Z : State} (hw : W a0 Z) : (Jvm.Cond.instanceMethod ({ cls := "com/example/pomona/pomona/index/PostingsList", name := "document", desc := "(I)I" } : Jvm.MethodName)).before a0 Z = true := hw _ (List.mem_of_getElem? (i := 56) rfl)
theorem w57 {a0 : Array Value} {Z : State} (hw : W a0 Z) : (Jvm.Cond.selects "com/example/pomona/pomona/index/PostingsList" ({ cls := "com/example/pomona/pomona/index/PostingsList", name := "document", desc := "(I)I" } : Jvm.MethodName) ({ cls := "com/example/pomona/pomona/index/PostingsList", name := "document", desc := "(I)I" } : Jvm.MethodName)).before a0 Z = true := hw _ (List.mem_of_getElem? (i := 57) rfl)
theorem w58 {a0 : Array Value} {Z : State} (hw : W a0 Z) : (Jvm.Cond.code ({ cls := "com/example/pomona/pomona/index/PostingsList", name := "document", desc := "(I)I" } : Jvm.MethodName) prog_20_method_5_code (2 : Nat) (Option.some Jvm.ClassFile.FieldType.int)).before a0 Z = true := hw _ (List.mem_of_getElem? (i := 58) rfl)
theorem d_prog_20_method_1_0 : decode prog_20_method_1_code 0 = .ok (.aload_n 0, 1) := by decide +kernel
theorem d_prog_20_method_1_1 : decode prog_20_method_1_code 1 = .ok (.invokespecial 1, 3) := by decide +kernel
theorem d_prog_20_method_1_4 : decode prog_20_method_1_code 4 = .ok (.aload_n 2, 1) := by decide +kernel
theorem d_prog_20_method_1_5 : decode prog_20_method_1_code 5 = .ok (.arraylength, 1) := by decide +kernel
theorem d_prog_20_method_1_6 : decode prog_20_method_1_code 6 = .ok (.aload_n 3, 1) := by decide +kernel
theorem d_prog_20_method_1_7 : decode prog_20_method_1_code 7 = .ok (.arraylength, 1) := by decide +kernel
theorem d_prog_20_method_1_8 : decode prog_20_method_1_code 8 = .ok (.if_icmp .eq 21, 3) := by decide +kernel
theorem d_prog_20_method_1_29 : decode prog_20_method_1_code 29 = .ok (.aload_n 2, 1) := by decide +kernel
theorem d_prog_20_method_1_30 : decode prog_20_method_1_code 30 = .ok (.arraylength, 1) := by decide +kernel
theorem d_prog_20_method_1_31 : decode prog_20_method_1_code 31 = .ok (.ifCond .ne 17, 3) := by decide +kernel
theorem d_prog_20_method_1_48 : decode prog_20_method_1_code 48 = .ok (.lconst 0, 1) := by decide +kernel
theorem d_prog_20_method_1_49 : decode prog_20_method_1_code 49 = .ok (.lstore 4, 2) := by decide +kernel
theorem d_prog_20_method_1_51 : decode prog_20_method_1_code 51 = .ok (.iconst (-1), 1) := by decide +kernel
theorem d_prog_20_method_1_52 : decode prog_20_method_1_code 52 = .ok (.istore 6, 2) := by decide +kernel
theorem d_prog_20_method_1_54 : decode prog_20_method_1_code 54 = .ok (.iconst 0, 1) := by decide +kernel
theorem d_prog_20_method_1_55 : decode prog_20_method_1_code 55 = .ok (.istore 7, 2) := by decide +kernel
theorem d_prog_20_method_1_57 : decode prog_20_method_1_code 57 = .ok (.iload 7, 2) := by decide +kernel
theorem d_prog_20_method_1_59 : decode prog_20_method_1_code 59 = .ok (.aload_n 2, 1) := by decide +kernel
theorem d_prog_20_method_1_60 : decode prog_20_method_1_code 60 = .ok (.arraylength, 1) := by decide +kernel
theorem d_prog_20_method_1_61 : decode prog_20_method_1_code 61 = .ok (.if_icmp .ge 84, 3) := by decide +kernel
theorem d_prog_20_method_1_64 : decode prog_20_method_1_code 64 = .ok (.aload_n 2, 1) := by decide +kernel
theorem d_prog_20_method_1_65 : decode prog_20_method_1_code 65 = .ok (.iload 7, 2) := by decide +kernel
theorem d_prog_20_method_1_67 : decode prog_20_method_1_code 67 = .ok (.iaload, 1) := by decide +kernel
theorem d_prog_20_method_1_68 : decode prog_20_method_1_code 68 = .ok (.iload 6, 2) := by decide +kernel
theorem d_prog_20_method_1_70 : decode prog_20_method_1_code 70 = .ok (.if_icmp .gt 23, 3) := by decide +kernel
theorem d_prog_20_method_1_93 : decode prog_20_method_1_code 93 = .ok (.aload_n 3, 1) := by decide +kernel
theorem d_prog_20_method_1_94 : decode prog_20_method_1_code 94 = .ok (.iload 7, 2) := by decide +kernel
theorem d_prog_20_method_1_96 : decode prog_20_method_1_code 96 = .ok (.iaload, 1) := by decide +kernel
theorem d_prog_20_method_1_97 : decode prog_20_method_1_code 97 = .ok (.iconst 1, 1) := by decide +kernel
theorem d_prog_20_method_1_98 : decode prog_20_method_1_code 98 = .ok (.if_icmp .ge 25, 3) := by decide +kernel
theorem d_prog_20_method_1_123 : decode prog_20_method_1_code 123 = .ok (.aload_n 2, 1) := by decide +kernel
theorem d_prog_20_method_1_124 : decode prog_20_method_1_code 124 = .ok (.iload 7, 2) := by decide +kernel
theorem d_prog_20_method_1_126 : decode prog_20_method_1_code 126 = .ok (.iaload, 1) := by decide +kernel
theorem d_prog_20_method_1_127 : decode prog_20_method_1_code 127 = .ok (.istore 6, 2) := by decide +kernel
theorem d_prog_20_method_1_129 : decode prog_20_method_1_code 129 = .ok (.lload 4, 2) := by decide +kernel
theorem d_prog_20_method_1_131 : decode prog_20_method_1_code 131 = .ok (.aload_n 3, 1) := by decide +kernel
theorem d_prog_20_method_1_132 : decode prog_20_method_1_code 132 = .ok (.iload 7, 2) := by decide +kernel
theorem d_prog_20_method_1_134 : decode prog_20_method_1_code 134 = .ok (.iaload, 1) := by decide +kernel
theorem d_prog_20_method_1_135 : decode prog_20_method_1_code 135 = .ok (.i2l, 1) := by decide +kernel
theorem d_prog_20_method_1_136 : decode prog_20_method_1_code 136 = .ok (.ladd, 1) := by decide +kernel
theorem d_prog_20_method_1_137 : decode prog_20_method_1_code 137 = .ok (.lstore 4, 2) := by decide +kernel
theorem d_prog_20_method_1_139 : decode prog_20_method_1_code 139 = .ok (.iinc 7 1, 3) := by decide +kernel
theorem d_prog_20_method_1_142 : decode prog_20_method_1_code 142 = .ok (.goto (-85), 3) := by decide +kernel
theorem d_prog_20_method_1_145 : decode prog_20_method_1_code 145 = .ok (.aload_n 0, 1) := by decide +kernel
theorem d_prog_20_method_1_146 : decode prog_20_method_1_code 146 = .ok (.aload_n 1, 1) := by decide +kernel
theorem d_prog_20_method_1_147 : decode prog_20_method_1_code 147 = .ok (.putfield 21, 3) := by decide +kernel
theorem d_prog_20_method_1_150 : decode prog_20_method_1_code 150 = .ok (.aload_n 0, 1) := by decide +kernel
theorem d_prog_20_method_1_151 : decode prog_20_method_1_code 151 = .ok (.aload_n 2, 1) := by decide +kernel
theorem d_prog_20_method_1_152 : decode prog_20_method_1_code 152 = .ok (.putfield 27, 3) := by decide +kernel
theorem d_prog_20_method_1_155 : decode prog_20_method_1_code 155 = .ok (.aload_n 0, 1) := by decide +kernel
theorem d_prog_20_method_1_156 : decode prog_20_method_1_code 156 = .ok (.aload_n 3, 1) := by decide +kernel
theorem d_prog_20_method_1_157 : decode prog_20_method_1_code 157 = .ok (.putfield 31, 3) := by decide +kernel
theorem d_prog_20_method_1_160 : decode prog_20_method_1_code 160 = .ok (.aload_n 0, 1) := by decide +kernel
theorem d_prog_20_method_1_161 : decode prog_20_method_1_code 161 = .ok (.lload 4, 2) := by decide +kernel
theorem d_prog_20_method_1_163 : decode prog_20_method_1_code 163 = .ok (.putfield 34, 3) := by decide +kernel
theorem d_prog_20_method_1_166 : decode prog_20_method_1_code 166 = .ok (.return_, 1) := by decide +kernel
theorem d_prog_20_method_7_0 : decode prog_20_method_7_code 0 = .ok (.aload_n 0, 1) := by decide +kernel
theorem d_prog_20_method_7_1 : decode prog_20_method_7_code 1 = .ok (.getfield 27, 3) := by decide +kernel
theorem d_prog_20_method_7_4 : decode prog_20_method_7_code 4 = .ok (.aload_n 0, 1) := by decide +kernel
theorem d_prog_20_method_7_5 : decode prog_20_method_7_code 5 = .ok (.getfield 27, 3) := by decide +kernel
theorem d_prog_20_method_7_8 : decode prog_20_method_7_code 8 = .ok (.arraylength, 1) := by decide +kernel
theorem d_prog_20_method_7_9 : decode prog_20_method_7_code 9 = .ok (.iconst 1, 1) := by decide +kernel
theorem d_prog_20_method_7_10 : decode prog_20_method_7_code 10 = .ok (.isub, 1) := by decide +kernel
theorem d_prog_20_method_7_11 : decode prog_20_method_7_code 11 = .ok (.iaload, 1) := by decide +kernel
theorem d_prog_20_method_7_12 : decode prog_20_method_7_code 12 = .ok (.ireturn, 1) := by decide +kernel
theorem d_prog_20_method_5_0 : decode prog_20_method_5_code 0 = .ok (.aload_n 0, 1) := by decide +kernel
theorem d_prog_20_method_5_1 : decode prog_20_method_5_code 1 = .ok (.getfield 27, 3) := by decide +kernel
theorem d_prog_20_method_5_4 : decode prog_20_method_5_code 4 = .ok (.iload_n 1, 1) := by decide +kernel
theorem d_prog_20_method_5_5 : decode prog_20_method_5_code 5 = .ok (.iaload, 1) := by decide +kernel
theorem d_prog_20_method_5_6 : decode prog_20_method_5_code 6 = .ok (.ireturn, 1) := by decide +kernel
theorem pd0 : parseMethodDescriptor "([C)V" = some ⟨[(.array .char)], none⟩ := by decide +kernel
theorem pd1 : parseMethodDescriptor "(Ljava/lang/String;[I[I)V" = some ⟨[(.object "java/lang/String"), (.array .int), (.array .int)], none⟩ := by decide +kernel
theorem pd2 : parseMethodDescriptor "()I" = some ⟨[], some .int⟩ := by decide +kernel
theorem pd3 : parseMethodDescriptor "(I)I" = some ⟨[.int], some .int⟩ := by decide +kernel
theorem own_n3 {x n : Int32} (h : (1 : Int32) + ((x &&& (2147483647 : Int32)) % (3 : Int32)) = n) : n = 1 ∨ n = 2 ∨ n = 3 := by
  have m := c_mask x 2147483647 31 (by decide) (by decide)
  have r := (c_irem (x &&& 2147483647) 3 3 rfl).1 (by omega)
  have a := c_iadd 1 ((x &&& (2147483647 : Int32)) % (3 : Int32))
  rw [h] at a
  have e1 : (1 : Int32).toInt = 1 := rfl
  have e2 : (2 : Int32).toInt = 2 := rfl
  have e3 : (3 : Int32).toInt = 3 := rfl
  have b1 := n.toInt_lt
  have b2 := n.le_toInt
  rw [← Int32.toInt_inj, ← Int32.toInt_inj, ← Int32.toInt_inj]
  omega
theorem own_d0 {x d0 : Int32} (h : x &&& (1073741823 : Int32) = d0) : 0 ≤ d0.toInt ∧ d0.toInt ≤ 1073741823 := by
  have m := c_mask x 1073741823 30 (by decide) (by decide)
  rw [h] at m
  omega
theorem own_dn {x d d' : Int32} {M : Int} (h : (d + (1 : Int32)) + (x &&& (536870911 : Int32)) = d') (h0 : 0 ≤ d.toInt) (h1 : d.toInt ≤ M) (hM : M ≤ 1610612735) : d.toInt < d'.toInt ∧ d'.toInt ≤ M + 536870912 := by
  have m := c_mask x 536870911 29 (by decide) (by decide)
  have a := c_iadd d 1
  have b := c_iadd (d + 1) (x &&& 536870911)
  rw [h] at b
  have e1 : (1 : Int32).toInt = 1 := rfl
  have b1 := d'.toInt_lt
  have b2 := d'.le_toInt
  omega
theorem own_hd0 {x d0 : Int32} (h : x &&& (1073741823 : Int32) = d0) : (-1 : Int32) < d0 := by
  have := own_d0 h
  rw [Int32.lt_iff_toInt_lt]
  have e : (-1 : Int32).toInt = -1 := rfl
  omega
theorem own_hd1 {x z d0 d1 : Int32} (h : x &&& (1073741823 : Int32) = d0) (h1 : (d0 + (1 : Int32)) + (z &&& (536870911 : Int32)) = d1) : d0 < d1 := by
  have a := own_d0 h
  have b := own_dn (M := 1073741823) h1 a.1 a.2 (by omega)
  rw [Int32.lt_iff_toInt_lt]; exact b.1
theorem own_hd2 {x z u d0 d1 d2 : Int32} (h : x &&& (1073741823 : Int32) = d0) (h1 : (d0 + (1 : Int32)) + (z &&& (536870911 : Int32)) = d1) (h2 : (d1 + (1 : Int32)) + (u &&& (536870911 : Int32)) = d2) : d1 < d2 := by
  have a := own_d0 h
  have b := own_dn (M := 1073741823) h1 a.1 a.2 (by omega)
  have c := own_dn (M := 1610612735) h2 (by omega) (by omega) (by omega)
  rw [Int32.lt_iff_toInt_lt]; exact c.1
theorem own_irr (x : Int32) : ¬ x < x := fun h => Int32.lt_irrefl h
theorem own_ge1 {x z d0 d1 : Int32} (h : x &&& (1073741823 : Int32) = d0) (h1 : (d0 + (1 : Int32)) + (z &&& (536870911 : Int32)) = d1) : ¬ d1 < d0 := by
  have a := own_hd1 h h1
  rw [Int32.lt_iff_toInt_lt] at *; omega
theorem own_ge2 {x z u d0 d1 d2 : Int32} (h : x &&& (1073741823 : Int32) = d0) (h1 : (d0 + (1 : Int32)) + (z &&& (536870911 : Int32)) = d1) (h2 : (d1 + (1 : Int32)) + (u &&& (536870911 : Int32)) = d2) : ¬ d2 < d0 := by
  have a := own_hd1 h h1
  have b := own_hd2 h h1 h2
  rw [Int32.lt_iff_toInt_lt] at *; omega
theorem own_hf {x f : Int32} (h : (1 : Int32) + (x &&& (255 : Int32)) = f) : ¬ f < (1 : Int32) := by
  have m := c_mask x 255 8 (by decide) (by decide)
  have a := c_iadd 1 (x &&& 255)
  rw [h] at a
  have e1 : (1 : Int32).toInt = 1 := rfl
  have b1 := f.toInt_lt
  have b2 := f.le_toInt
  rw [Int32.lt_iff_toInt_lt]
  omega
theorem own_lat {x ch : Int32} (h : nar .char ((x &&& (255 : Int32)).toUInt32.toUInt16.toUInt32.toInt32) = ch) : ∀ c ∈ ([ch] : List Int32), ¬ c < 0 ∧ ¬ (255 : Int32) < c := by
  intro c hc
  simp only [List.mem_singleton] at hc
  subst hc
  have m := c_mask x 255 8 (by decide) (by decide)
  have a := c_i2c (x &&& 255)
  have b := c_i2c ((x &&& (255 : Int32)).toUInt32.toUInt16.toUInt32.toInt32)
  rw [show ((x &&& (255 : Int32)).toUInt32.toUInt16.toUInt32.toInt32).toUInt32.toUInt16.toUInt32.toInt32 = c from h] at b
  have e0 : (0 : Int32).toInt = 0 := rfl
  have e1 : (255 : Int32).toInt = 255 := rfl
  rw [Int32.lt_iff_toInt_lt, Int32.lt_iff_toInt_lt]
  omega

set_option maxRecDepth 65536 in
set_option maxHeartbeats 40000000 in
theorem c_init1 {l : Launch} {Z : State} {a0 : Array Value} (hw : W a0 Z) (a t bd bf : Addr) (d0 f0 : Int32) (h0 : Heap) (E : Exa Z h0 a "com/example/pomona/pomona/index/PostingsList") (ga : Z.heap.size ≤ a) (F_term : Fld Z h0 a "com/example/pomona/pomona/index/PostingsList" "term" "Ljava/lang/String;" .null) (F_documents : Fld Z h0 a "com/example/pomona/pomona/index/PostingsList" "documents" "[I" .null) (F_frequencies : Fld Z h0 a "com/example/pomona/pomona/index/PostingsList" "frequencies" "[I" .null) (F_collectionFrequency : Fld Z h0 a "com/example/pomona/pomona/index/PostingsList" "collectionFrequency" "J" (.long (0 : Int64))) {k_bd : ClassId} (V_bd : Arv Z h0 bd k_bd .int (1 : Int32) [(.int d0)] (.int (0 : Int32))) {k_bf : ClassId} (V_bf : Arv Z h0 bf k_bf .int (1 : Int32) [(.int f0)] (.int (0 : Int32))) (hd0 : (-1 : Int32) < d0) (hf0 : ¬ (f0 < (1 : Int32))) :
    Con l Z (⟨"com/example/pomona/pomona/index/PostingsList", "<init>", "(Ljava/lang/String;[I[I)V"⟩ : MethodName) prog_20_method_1_code 8 none ({ frames := 1, cells := 0, slots := 0, locals := 12 } : Room) #[(.ref a), (.ref t), (.ref bd), (.ref bf)] h0 (fun v h' => v = none ∧ Keep h0 h' [a] ∧ Fld Z h' a "com/example/pomona/pomona/index/PostingsList" "documents" "[I" (.ref bd)) := by
  have hpn : plainName "com/example/pomona/pomona/index/PostingsList" = true := by first | (simp [plainName, overriddenIn]; done) | decide +kernel
  refine Con.intro (plainFor_of_name hpn) ?_
  intro p e s m below meth c T X
  refine Goes.cast (g' := mkF m 0 #[.val (.ref a), .val (.ref t), .val (.ref bd), .val (.ref bf), .unset, .unset, .unset, .unset] []) (by first | (simp [entryFrame, mkF, argsToLocals, Value.category]; done) | rfl) ?_
  refine o_aloadN X d_prog_20_method_1_0 rfl rfl (q := 1) rfl ?_
  refine o_initO X (w40 hw) (w15 hw) (w16 hw) d_prog_20_method_1_1 rfl (by decide) (Nat.le_of_ble_eq_true rfl) (q := 4) rfl ?_
  intro T1 X1
  refine o_aloadN X1 d_prog_20_method_1_4 rfl rfl (q := 5) rfl ?_
  refine o_len X1 V_bd d_prog_20_method_1_5 (q := 6) rfl ?_
  refine o_aloadN X1 d_prog_20_method_1_6 rfl rfl (q := 7) rfl ?_
  refine o_len X1 V_bf d_prog_20_method_1_7 (q := 8) rfl ?_
  refine o_icmpY X1 d_prog_20_method_1_8 (by decide) (by decide) (q := 29) (by decide) ?_
  refine o_aloadN X1 d_prog_20_method_1_29 rfl rfl (q := 30) rfl ?_
  refine o_len X1 V_bd d_prog_20_method_1_30 (q := 31) rfl ?_
  refine o_ifY X1 d_prog_20_method_1_31 (by decide) (by decide) (q := 48) (by decide) ?_
  refine o_lconst X1 d_prog_20_method_1_48 (w := 0) rfl (q := 49) rfl ?_
  refine o_lstore X1 d_prog_20_method_1_49 rfl (L' := #[.val (.ref a), .val (.ref t), .val (.ref bd), .val (.ref bf), .val (.long (0 : Int64)), .second, .unset, .unset]) rfl (q := 51) rfl ?_
  refine o_iconst X1 d_prog_20_method_1_51 (w := -1) rfl (q := 52) rfl ?_
  refine o_istore X1 d_prog_20_method_1_52 rfl (L' := #[.val (.ref a), .val (.ref t), .val (.ref bd), .val (.ref bf), .val (.long (0 : Int64)), .second, .val (.int (-1 : Int32)), .unset]) rfl (q := 54) rfl ?_
  refine o_iconst X1 d_prog_20_method_1_54 (w := 0) rfl (q := 55) rfl ?_
  refine o_istore X1 d_prog_20_method_1_55 rfl (L' := #[.val (.ref a), .val (.ref t), .val (.ref bd), .val (.ref bf), .val (.long (0 : Int64)), .second, .val (.int (-1 : Int32)), .val (.int (0 : Int32))]) rfl (q := 57) rfl ?_
  refine o_iload X1 d_prog_20_method_1_57 rfl (q := 59) rfl ?_
  refine o_aloadN X1 d_prog_20_method_1_59 rfl rfl (q := 60) rfl ?_
  refine o_len X1 V_bd d_prog_20_method_1_60 (q := 61) rfl ?_
  refine o_icmpN X1 d_prog_20_method_1_61 (by decide) (q := 64) rfl ?_
  refine o_aloadN X1 d_prog_20_method_1_64 rfl rfl (q := 65) rfl ?_
  refine o_iload X1 d_prog_20_method_1_65 rfl (q := 67) rfl ?_
  refine o_iaload X1 V_bd (by decide) (v := (.int d0)) rfl d_prog_20_method_1_67 (q := 68) rfl ?_
  refine o_iload X1 d_prog_20_method_1_68 rfl (q := 70) rfl ?_
  refine o_icmpY X1 d_prog_20_method_1_70 (tlt hd0).2.2.1 (by decide) (q := 93) (by decide) ?_
  refine o_aloadN X1 d_prog_20_method_1_93 rfl rfl (q := 94) rfl ?_
  refine o_iload X1 d_prog_20_method_1_94 rfl (q := 96) rfl ?_
  refine o_iaload X1 V_bf (by decide) (v := (.int f0)) rfl d_prog_20_method_1_96 (q := 97) rfl ?_
  refine o_iconst X1 d_prog_20_method_1_97 (w := 1) rfl (q := 98) rfl ?_
  refine o_icmpY X1 d_prog_20_method_1_98 (flt hf0).2.1 (by decide) (q := 123) (by decide) ?_
  refine o_aloadN X1 d_prog_20_method_1_123 rfl rfl (q := 124) rfl ?_
  refine o_iload X1 d_prog_20_method_1_124 rfl (q := 126) rfl ?_
  refine o_iaload X1 V_bd (by decide) (v := (.int d0)) rfl d_prog_20_method_1_126 (q := 127) rfl ?_
  refine o_istore X1 d_prog_20_method_1_127 rfl (L' := #[.val (.ref a), .val (.ref t), .val (.ref bd), .val (.ref bf), .val (.long (0 : Int64)), .second, .val (.int d0), .val (.int (0 : Int32))]) rfl (q := 129) rfl ?_
  refine o_lload X1 d_prog_20_method_1_129 rfl (q := 131) rfl ?_
  refine o_aloadN X1 d_prog_20_method_1_131 rfl rfl (q := 132) rfl ?_
  refine o_iload X1 d_prog_20_method_1_132 rfl (q := 134) rfl ?_
  refine o_iaload X1 V_bf (by decide) (v := (.int f0)) rfl d_prog_20_method_1_134 (q := 135) rfl ?_
  refine o_i2l X1 d_prog_20_method_1_135 (w := (f0.toInt64)) rfl (q := 136) rfl ?_
  refine o_ladd X1 d_prog_20_method_1_136 (w := ((0 : Int64) + (f0.toInt64))) rfl (q := 137) rfl ?_
  refine o_lstore X1 d_prog_20_method_1_137 rfl (L' := #[.val (.ref a), .val (.ref t), .val (.ref bd), .val (.ref bf), .val (.long ((0 : Int64) + (f0.toInt64))), .second, .val (.int d0), .val (.int (0 : Int32))]) rfl (q := 139) rfl ?_
  refine o_iinc X1 d_prog_20_method_1_139 rfl (z := (1 : Int32)) (by decide) (L' := #[.val (.ref a), .val (.ref t), .val (.ref bd), .val (.ref bf), .val (.long ((0 : Int64) + (f0.toInt64))), .second, .val (.int d0), .val (.int (1 : Int32))]) rfl (q := 142) rfl ?_
  refine o_goto X1 d_prog_20_method_1_142 (by decide) (q := 57) (by decide) ?_
  refine o_iload X1 d_prog_20_method_1_57 rfl (q := 59) rfl ?_
  refine o_aloadN X1 d_prog_20_method_1_59 rfl rfl (q := 60) rfl ?_
  refine o_len X1 V_bd d_prog_20_method_1_60 (q := 61) rfl ?_
  refine o_icmpY X1 d_prog_20_method_1_61 (by decide) (by decide) (q := 145) (by decide) ?_
  refine o_aloadN X1 d_prog_20_method_1_145 rfl rfl (q := 146) rfl ?_
  refine o_aloadN X1 d_prog_20_method_1_146 rfl rfl (q := 147) rfl ?_
  refine o_putF X1 F_term E ga (host := "") (Or.inl (w41 hw)) Via.refl (Or.inr ⟨(w42 hw), rfl, rfl⟩) (w35 hw) (ty := (.object "java/lang/String")) (by decide) rfl rfl d_prog_20_method_1_147 (q := 150) rfl ?_
  intro T2 h2 l2 X2 W2 F2
  refine o_aloadN X2 d_prog_20_method_1_150 rfl rfl (q := 151) rfl ?_
  refine o_aloadN X2 d_prog_20_method_1_151 rfl rfl (q := 152) rfl ?_
  have f3 := (F_documents.other W2 (Or.inr (slot_ne (Or.inr (w44 hw)) (Or.inr (w42 hw)) (by decide) (t := (.array .int)) (t' := (.object "java/lang/String")) (by decide) (by decide))))
  have f4 := (E.wr W2)
  refine o_putF X2 f3 f4 ga (host := "") (Or.inl (w43 hw)) Via.refl (Or.inr ⟨(w44 hw), rfl, rfl⟩) (w35 hw) (ty := (.array .int)) (by decide) rfl rfl d_prog_20_method_1_152 (q := 155) rfl ?_
  intro T5 h5 l5 X5 W5 F5
  refine o_aloadN X5 d_prog_20_method_1_155 rfl rfl (q := 156) rfl ?_
  refine o_aloadN X5 d_prog_20_method_1_156 rfl rfl (q := 157) rfl ?_
  have f6 := ((F_frequencies.other W2 (Or.inr (slot_ne (Or.inr (w46 hw)) (Or.inr (w42 hw)) (by decide) (t := (.array .int)) (t' := (.object "java/lang/String")) (by decide) (by decide)))).other W5 (Or.inr (slot_ne (Or.inr (w46 hw)) (Or.inr (w44 hw)) (by decide) (t := (.array .int)) (t' := (.array .int)) (by decide) (by decide))))
  have f7 := (f4.wr W5)
  refine o_putF X5 f6 f7 ga (host := "") (Or.inl (w45 hw)) Via.refl (Or.inr ⟨(w46 hw), rfl, rfl⟩) (w35 hw) (ty := (.array .int)) (by decide) rfl rfl d_prog_20_method_1_157 (q := 160) rfl ?_
  intro T8 h8 l8 X8 W8 F8
  refine o_aloadN X8 d_prog_20_method_1_160 rfl rfl (q := 161) rfl ?_
  refine o_lload X8 d_prog_20_method_1_161 rfl (q := 163) rfl ?_
  have f9 := (((F_collectionFrequency.other W2 (Or.inr (slot_ne (Or.inr (w48 hw)) (Or.inr (w42 hw)) (by decide) (t := .long) (t' := (.object "java/lang/String")) (by decide) (by decide)))).other W5 (Or.inr (slot_ne (Or.inr (w48 hw)) (Or.inr (w44 hw)) (by decide) (t := .long) (t' := (.array .int)) (by decide) (by decide)))).other W8 (Or.inr (slot_ne (Or.inr (w48 hw)) (Or.inr (w46 hw)) (by decide) (t := .long) (t' := (.array .int)) (by decide) (by decide))))
  have f10 := (f7.wr W8)
  refine o_putF X8 f9 f10 ga (host := "") (Or.inl (w47 hw)) Via.refl (Or.inr ⟨(w48 hw), rfl, rfl⟩) (w35 hw) (ty := .long) (by decide) rfl rfl d_prog_20_method_1_163 (q := 166) rfl ?_
  intro T11 h11 l11 X11 W11 F11
  have f12 := ((F5.other W8 (Or.inr (slot_ne (Or.inr (w44 hw)) (Or.inr (w46 hw)) (by decide) (t := (.array .int)) (t' := (.array .int)) (by decide) (by decide)))).other W11 (Or.inr (slot_ne (Or.inr (w44 hw)) (Or.inr (w48 hw)) (by decide) (t := (.array .int)) (t' := .long) (by decide) (by decide))))
  have k13 := Keep.wr (Keep.refl h0 [a]) W2 (Or.inl (by simp))
  have k14 := Keep.wr k13 W5 (Or.inl (by simp))
  have k15 := Keep.wr k14 W8 (Or.inl (by simp))
  have k16 := Keep.wr k15 W11 (Or.inl (by simp))
  exact o_ret X11 d_prog_20_method_1_166 ⟨rfl, k16, f12⟩ (by decide) (by decide)
set_option maxRecDepth 65536 in
set_option maxHeartbeats 40000000 in
theorem c_last1 {l : Launch} {Z : State} {a0 : Array Value} (hw : W a0 Z) (a bd : Addr) (d0 : Int32) (h0 : Heap) (F : Fld Z h0 a "com/example/pomona/pomona/index/PostingsList" "documents" "[I" (.ref bd)) {k : ClassId} (A : Arv Z h0 bd k .int (1 : Int32) [(.int d0)] (.int (0 : Int32))) :
    Con l Z (⟨"com/example/pomona/pomona/index/PostingsList", "lastDocument", "()I"⟩ : MethodName) prog_20_method_7_code 1 (some .int) ({ frames := 0, cells := 0, slots := 0, locals := 0 } : Room) #[(.ref a)] h0 (fun v h' => v = some (.int d0) ∧ h' = h0) := by
  have hpn : plainName "com/example/pomona/pomona/index/PostingsList" = true := by first | (simp [plainName, overriddenIn]; done) | decide +kernel
  refine Con.intro (plainFor_of_name hpn) ?_
  intro p e s m below meth c T X
  refine Goes.cast (g' := mkF m 0 #[.val (.ref a)] []) (by first | (simp [entryFrame, mkF, argsToLocals, Value.category]; done) | rfl) ?_
  refine o_aloadN X d_prog_20_method_7_0 rfl rfl (q := 1) rfl ?_
  refine o_getF X F (host := "") (Or.inl (w43 hw)) Via.refl d_prog_20_method_7_1 (q := 4) rfl ?_
  intro T1 X1
  refine o_aloadN X1 d_prog_20_method_7_4 rfl rfl (q := 5) rfl ?_
  refine o_getF X1 F (host := "") (Or.inl (w43 hw)) Via.refl d_prog_20_method_7_5 (q := 8) rfl ?_
  intro T2 X2
  refine o_len X2 A d_prog_20_method_7_8 (q := 9) rfl ?_
  refine o_iconst X2 d_prog_20_method_7_9 (w := 1) rfl (q := 10) rfl ?_
  refine o_isub X2 d_prog_20_method_7_10 (w := (0 : Int32)) (by decide) (q := 11) rfl ?_
  refine o_iaload X2 A (by decide) (v := (.int d0)) rfl d_prog_20_method_7_11 (q := 12) rfl ?_
  exact o_retI X2 d_prog_20_method_7_12 ⟨rfl, rfl⟩ (by decide) (by decide)
set_option maxRecDepth 65536 in
set_option maxHeartbeats 40000000 in
theorem c_doc1 {l : Launch} {Z : State} {a0 : Array Value} (hw : W a0 Z) (a bd : Addr) (d0 : Int32) (h0 : Heap) (F : Fld Z h0 a "com/example/pomona/pomona/index/PostingsList" "documents" "[I" (.ref bd)) {k : ClassId} (A : Arv Z h0 bd k .int (1 : Int32) [(.int d0)] (.int (0 : Int32))) :
    Con l Z (⟨"com/example/pomona/pomona/index/PostingsList", "document", "(I)I"⟩ : MethodName) prog_20_method_5_code 2 (some .int) ({ frames := 0, cells := 0, slots := 0, locals := 0 } : Room) #[(.ref a), (.int (0 : Int32))] h0 (fun v h' => v = some (.int d0) ∧ h' = h0) := by
  have hpn : plainName "com/example/pomona/pomona/index/PostingsList" = true := by first | (simp [plainName, overriddenIn]; done) | decide +kernel
  refine Con.intro (plainFor_of_name hpn) ?_
  intro p e s m below meth c T X
  refine Goes.cast (g' := mkF m 0 #[.val (.ref a), .val (.int (0 : Int32))] []) (by first | (simp [entryFrame, mkF, argsToLocals, Value.category]; done) | rfl) ?_
  refine o_aloadN X d_prog_20_method_5_0 rfl rfl (q := 1) rfl ?_
  refine o_getF X F (host := "") (Or.inl (w43 hw)) Via.refl d_prog_20_method_5_1 (q := 4) rfl ?_
  intro T1 X1
  refine o_iloadN X1 d_prog_20_method_5_4 rfl (q := 5) rfl ?_
  refine o_iaload X1 A (by decide) (v := (.int d0)) rfl d_prog_20_method_5_5 (q := 6) rfl ?_
  exact o_retI X1 d_prog_20_method_5_6 ⟨rfl, rfl⟩ (by decide) (by decide)
set_option maxRecDepth 65536 in
set_option maxHeartbeats 40000000 in
theorem c_init2 {l : Launch} {Z : State} {a0 : Array Value} (hw : W a0 Z) (a t bd bf : Addr) (d0 f0 d1 f1 : Int32) (h0 : Heap) (E : Exa Z h0 a "com/example/pomona/pomona/index/PostingsList") (ga : Z.heap.size ≤ a) (F_term : Fld Z h0 a "com/example/pomona/pomona/index/PostingsList" "term" "Ljava/lang/String;" .null) (F_documents : Fld Z h0 a "com/example/pomona/pomona/index/PostingsList" "documents" "[I" .null) (F_frequencies : Fld Z h0 a "com/example/pomona/pomona/index/PostingsList" "frequencies" "[I" .null) (F_collectionFrequency : Fld Z h0 a "com/example/pomona/pomona/index/PostingsList" "collectionFrequency" "J" (.long (0 : Int64))) {k_bd : ClassId} (V_bd : Arv Z h0 bd k_bd .int (2 : Int32) [(.int d0), (.int d1)] (.int (0 : Int32))) {k_bf : ClassId} (V_bf : Arv Z h0 bf k_bf .int (2 : Int32) [(.int f0), (.int f1)] (.int (0 : Int32))) (hd0 : (-1 : Int32) < d0) (hf0 : ¬ (f0 < (1 : Int32))) (hd1 : d0 < d1) (hf1 : ¬ (f1 < (1 : Int32))) :
    Con l Z (⟨"com/example/pomona/pomona/index/PostingsList", "<init>", "(Ljava/lang/String;[I[I)V"⟩ : MethodName) prog_20_method_1_code 8 none ({ frames := 1, cells := 0, slots := 0, locals := 12 } : Room) #[(.ref a), (.ref t), (.ref bd), (.ref bf)] h0 (fun v h' => v = none ∧ Keep h0 h' [a] ∧ Fld Z h' a "com/example/pomona/pomona/index/PostingsList" "documents" "[I" (.ref bd)) := by
  have hpn : plainName "com/example/pomona/pomona/index/PostingsList" = true := by first | (simp [plainName, overriddenIn]; done) | decide +kernel
  refine Con.intro (plainFor_of_name hpn) ?_
  intro p e s m below meth c T X
  refine Goes.cast (g' := mkF m 0 #[.val (.ref a), .val (.ref t), .val (.ref bd), .val (.ref bf), .unset, .unset, .unset, .unset] []) (by first | (simp [entryFrame, mkF, argsToLocals, Value.category]; done) | rfl) ?_
  refine o_aloadN X d_prog_20_method_1_0 rfl rfl (q := 1) rfl ?_
  refine o_initO X (w40 hw) (w15 hw) (w16 hw) d_prog_20_method_1_1 rfl (by decide) (Nat.le_of_ble_eq_true rfl) (q := 4) rfl ?_
  intro T1 X1
  refine o_aloadN X1 d_prog_20_method_1_4 rfl rfl (q := 5) rfl ?_
  refine o_len X1 V_bd d_prog_20_method_1_5 (q := 6) rfl ?_
  refine o_aloadN X1 d_prog_20_method_1_6 rfl rfl (q := 7) rfl ?_
  refine o_len X1 V_bf d_prog_20_method_1_7 (q := 8) rfl ?_
  refine o_icmpY X1 d_prog_20_method_1_8 (by decide) (by decide) (q := 29) (by decide) ?_
  refine o_aloadN X1 d_prog_20_method_1_29 rfl rfl (q := 30) rfl ?_
  refine o_len X1 V_bd d_prog_20_method_1_30 (q := 31) rfl ?_
  refine o_ifY X1 d_prog_20_method_1_31 (by decide) (by decide) (q := 48) (by decide) ?_
  refine o_lconst X1 d_prog_20_method_1_48 (w := 0) rfl (q := 49) rfl ?_
  refine o_lstore X1 d_prog_20_method_1_49 rfl (L' := #[.val (.ref a), .val (.ref t), .val (.ref bd), .val (.ref bf), .val (.long (0 : Int64)), .second, .unset, .unset]) rfl (q := 51) rfl ?_
  refine o_iconst X1 d_prog_20_method_1_51 (w := -1) rfl (q := 52) rfl ?_
  refine o_istore X1 d_prog_20_method_1_52 rfl (L' := #[.val (.ref a), .val (.ref t), .val (.ref bd), .val (.ref bf), .val (.long (0 : Int64)), .second, .val (.int (-1 : Int32)), .unset]) rfl (q := 54) rfl ?_
  refine o_iconst X1 d_prog_20_method_1_54 (w := 0) rfl (q := 55) rfl ?_
  refine o_istore X1 d_prog_20_method_1_55 rfl (L' := #[.val (.ref a), .val (.ref t), .val (.ref bd), .val (.ref bf), .val (.long (0 : Int64)), .second, .val (.int (-1 : Int32)), .val (.int (0 : Int32))]) rfl (q := 57) rfl ?_
  refine o_iload X1 d_prog_20_method_1_57 rfl (q := 59) rfl ?_
  refine o_aloadN X1 d_prog_20_method_1_59 rfl rfl (q := 60) rfl ?_
  refine o_len X1 V_bd d_prog_20_method_1_60 (q := 61) rfl ?_
  refine o_icmpN X1 d_prog_20_method_1_61 (by decide) (q := 64) rfl ?_
  refine o_aloadN X1 d_prog_20_method_1_64 rfl rfl (q := 65) rfl ?_
  refine o_iload X1 d_prog_20_method_1_65 rfl (q := 67) rfl ?_
  refine o_iaload X1 V_bd (by decide) (v := (.int d0)) rfl d_prog_20_method_1_67 (q := 68) rfl ?_
  refine o_iload X1 d_prog_20_method_1_68 rfl (q := 70) rfl ?_
  refine o_icmpY X1 d_prog_20_method_1_70 (tlt hd0).2.2.1 (by decide) (q := 93) (by decide) ?_
  refine o_aloadN X1 d_prog_20_method_1_93 rfl rfl (q := 94) rfl ?_
  refine o_iload X1 d_prog_20_method_1_94 rfl (q := 96) rfl ?_
  refine o_iaload X1 V_bf (by decide) (v := (.int f0)) rfl d_prog_20_method_1_96 (q := 97) rfl ?_
  refine o_iconst X1 d_prog_20_method_1_97 (w := 1) rfl (q := 98) rfl ?_
  refine o_icmpY X1 d_prog_20_method_1_98 (flt hf0).2.1 (by decide) (q := 123) (by decide) ?_
  refine o_aloadN X1 d_prog_20_method_1_123 rfl rfl (q := 124) rfl ?_
  refine o_iload X1 d_prog_20_method_1_124 rfl (q := 126) rfl ?_
  refine o_iaload X1 V_bd (by decide) (v := (.int d0)) rfl d_prog_20_method_1_126 (q := 127) rfl ?_
  refine o_istore X1 d_prog_20_method_1_127 rfl (L' := #[.val (.ref a), .val (.ref t), .val (.ref bd), .val (.ref bf), .val (.long (0 : Int64)), .second, .val (.int d0), .val (.int (0 : Int32))]) rfl (q := 129) rfl ?_
  refine o_lload X1 d_prog_20_method_1_129 rfl (q := 131) rfl ?_
  refine o_aloadN X1 d_prog_20_method_1_131 rfl rfl (q := 132) rfl ?_
  refine o_iload X1 d_prog_20_method_1_132 rfl (q := 134) rfl ?_
  refine o_iaload X1 V_bf (by decide) (v := (.int f0)) rfl d_prog_20_method_1_134 (q := 135) rfl ?_
  refine o_i2l X1 d_prog_20_method_1_135 (w := (f0.toInt64)) rfl (q := 136) rfl ?_
  refine o_ladd X1 d_prog_20_method_1_136 (w := ((0 : Int64) + (f0.toInt64))) rfl (q := 137) rfl ?_
  refine o_lstore X1 d_prog_20_method_1_137 rfl (L' := #[.val (.ref a), .val (.ref t), .val (.ref bd), .val (.ref bf), .val (.long ((0 : Int64) + (f0.toInt64))), .second, .val (.int d0), .val (.int (0 : Int32))]) rfl (q := 139) rfl ?_
  refine o_iinc X1 d_prog_20_method_1_139 rfl (z := (1 : Int32)) (by decide) (L' := #[.val (.ref a), .val (.ref t), .val (.ref bd), .val (.ref bf), .val (.long ((0 : Int64) + (f0.toInt64))), .second, .val (.int d0), .val (.int (1 : Int32))]) rfl (q := 142) rfl ?_
  refine o_goto X1 d_prog_20_method_1_142 (by decide) (q := 57) (by decide) ?_
  refine o_iload X1 d_prog_20_method_1_57 rfl (q := 59) rfl ?_
  refine o_aloadN X1 d_prog_20_method_1_59 rfl rfl (q := 60) rfl ?_
  refine o_len X1 V_bd d_prog_20_method_1_60 (q := 61) rfl ?_
  refine o_icmpN X1 d_prog_20_method_1_61 (by decide) (q := 64) rfl ?_
  refine o_aloadN X1 d_prog_20_method_1_64 rfl rfl (q := 65) rfl ?_
  refine o_iload X1 d_prog_20_method_1_65 rfl (q := 67) rfl ?_
  refine o_iaload X1 V_bd (by decide) (v := (.int d1)) rfl d_prog_20_method_1_67 (q := 68) rfl ?_
  refine o_iload X1 d_prog_20_method_1_68 rfl (q := 70) rfl ?_
  refine o_icmpY X1 d_prog_20_method_1_70 (tlt hd1).2.2.1 (by decide) (q := 93) (by decide) ?_
  refine o_aloadN X1 d_prog_20_method_1_93 rfl rfl (q := 94) rfl ?_
  refine o_iload X1 d_prog_20_method_1_94 rfl (q := 96) rfl ?_
  refine o_iaload X1 V_bf (by decide) (v := (.int f1)) rfl d_prog_20_method_1_96 (q := 97) rfl ?_
  refine o_iconst X1 d_prog_20_method_1_97 (w := 1) rfl (q := 98) rfl ?_
  refine o_icmpY X1 d_prog_20_method_1_98 (flt hf1).2.1 (by decide) (q := 123) (by decide) ?_
  refine o_aloadN X1 d_prog_20_method_1_123 rfl rfl (q := 124) rfl ?_
  refine o_iload X1 d_prog_20_method_1_124 rfl (q := 126) rfl ?_
  refine o_iaload X1 V_bd (by decide) (v := (.int d1)) rfl d_prog_20_method_1_126 (q := 127) rfl ?_
  refine o_istore X1 d_prog_20_method_1_127 rfl (L' := #[.val (.ref a), .val (.ref t), .val (.ref bd), .val (.ref bf), .val (.long ((0 : Int64) + (f0.toInt64))), .second, .val (.int d1), .val (.int (1 : Int32))]) rfl (q := 129) rfl ?_
  refine o_lload X1 d_prog_20_method_1_129 rfl (q := 131) rfl ?_
  refine o_aloadN X1 d_prog_20_method_1_131 rfl rfl (q := 132) rfl ?_
  refine o_iload X1 d_prog_20_method_1_132 rfl (q := 134) rfl ?_
  refine o_iaload X1 V_bf (by decide) (v := (.int f1)) rfl d_prog_20_method_1_134 (q := 135) rfl ?_
  refine o_i2l X1 d_prog_20_method_1_135 (w := (f1.toInt64)) rfl (q := 136) rfl ?_
  refine o_ladd X1 d_prog_20_method_1_136 (w := (((0 : Int64) + (f0.toInt64)) + (f1.toInt64))) rfl (q := 137) rfl ?_
  refine o_lstore X1 d_prog_20_method_1_137 rfl (L' := #[.val (.ref a), .val (.ref t), .val (.ref bd), .val (.ref bf), .val (.long (((0 : Int64) + (f0.toInt64)) + (f1.toInt64))), .second, .val (.int d1), .val (.int (1 : Int32))]) rfl (q := 139) rfl ?_
  refine o_iinc X1 d_prog_20_method_1_139 rfl (z := (2 : Int32)) (by decide) (L' := #[.val (.ref a), .val (.ref t), .val (.ref bd), .val (.ref bf), .val (.long (((0 : Int64) + (f0.toInt64)) + (f1.toInt64))), .second, .val (.int d1), .val (.int (2 : Int32))]) rfl (q := 142) rfl ?_
  refine o_goto X1 d_prog_20_method_1_142 (by decide) (q := 57) (by decide) ?_
  refine o_iload X1 d_prog_20_method_1_57 rfl (q := 59) rfl ?_
  refine o_aloadN X1 d_prog_20_method_1_59 rfl rfl (q := 60) rfl ?_
  refine o_len X1 V_bd d_prog_20_method_1_60 (q := 61) rfl ?_
  refine o_icmpY X1 d_prog_20_method_1_61 (by decide) (by decide) (q := 145) (by decide) ?_
  refine o_aloadN X1 d_prog_20_method_1_145 rfl rfl (q := 146) rfl ?_
  refine o_aloadN X1 d_prog_20_method_1_146 rfl rfl (q := 147) rfl ?_
  refine o_putF X1 F_term E ga (host := "") (Or.inl (w41 hw)) Via.refl (Or.inr ⟨(w42 hw), rfl, rfl⟩) (w35 hw) (ty := (.object "java/lang/String")) (by decide) rfl rfl d_prog_20_method_1_147 (q := 150) rfl ?_
  intro T2 h2 l2 X2 W2 F2
  refine o_aloadN X2 d_prog_20_method_1_150 rfl rfl (q := 151) rfl ?_
  refine o_aloadN X2 d_prog_20_method_1_151 rfl rfl (q := 152) rfl ?_
  have f3 := (F_documents.other W2 (Or.inr (slot_ne (Or.inr (w44 hw)) (Or.inr (w42 hw)) (by decide) (t := (.array .int)) (t' := (.object "java/lang/String")) (by decide) (by decide))))
  have f4 := (E.wr W2)
  refine o_putF X2 f3 f4 ga (host := "") (Or.inl (w43 hw)) Via.refl (Or.inr ⟨(w44 hw), rfl, rfl⟩) (w35 hw) (ty := (.array .int)) (by decide) rfl rfl d_prog_20_method_1_152 (q := 155) rfl ?_
  intro T5 h5 l5 X5 W5 F5
  refine o_aloadN X5 d_prog_20_method_1_155 rfl rfl (q := 156) rfl ?_
  refine o_aloadN X5 d_prog_20_method_1_156 rfl rfl (q := 157) rfl ?_
  have f6 := ((F_frequencies.other W2 (Or.inr (slot_ne (Or.inr (w46 hw)) (Or.inr (w42 hw)) (by decide) (t := (.array .int)) (t' := (.object "java/lang/String")) (by decide) (by decide)))).other W5 (Or.inr (slot_ne (Or.inr (w46 hw)) (Or.inr (w44 hw)) (by decide) (t := (.array .int)) (t' := (.array .int)) (by decide) (by decide))))
  have f7 := (f4.wr W5)
  refine o_putF X5 f6 f7 ga (host := "") (Or.inl (w45 hw)) Via.refl (Or.inr ⟨(w46 hw), rfl, rfl⟩) (w35 hw) (ty := (.array .int)) (by decide) rfl rfl d_prog_20_method_1_157 (q := 160) rfl ?_
  intro T8 h8 l8 X8 W8 F8
  refine o_aloadN X8 d_prog_20_method_1_160 rfl rfl (q := 161) rfl ?_
  refine o_lload X8 d_prog_20_method_1_161 rfl (q := 163) rfl ?_
  have f9 := (((F_collectionFrequency.other W2 (Or.inr (slot_ne (Or.inr (w48 hw)) (Or.inr (w42 hw)) (by decide) (t := .long) (t' := (.object "java/lang/String")) (by decide) (by decide)))).other W5 (Or.inr (slot_ne (Or.inr (w48 hw)) (Or.inr (w44 hw)) (by decide) (t := .long) (t' := (.array .int)) (by decide) (by decide)))).other W8 (Or.inr (slot_ne (Or.inr (w48 hw)) (Or.inr (w46 hw)) (by decide) (t := .long) (t' := (.array .int)) (by decide) (by decide))))
  have f10 := (f7.wr W8)
  refine o_putF X8 f9 f10 ga (host := "") (Or.inl (w47 hw)) Via.refl (Or.inr ⟨(w48 hw), rfl, rfl⟩) (w35 hw) (ty := .long) (by decide) rfl rfl d_prog_20_method_1_163 (q := 166) rfl ?_
  intro T11 h11 l11 X11 W11 F11
  have f12 := ((F5.other W8 (Or.inr (slot_ne (Or.inr (w44 hw)) (Or.inr (w46 hw)) (by decide) (t := (.array .int)) (t' := (.array .int)) (by decide) (by decide)))).other W11 (Or.inr (slot_ne (Or.inr (w44 hw)) (Or.inr (w48 hw)) (by decide) (t := (.array .int)) (t' := .long) (by decide) (by decide))))
  have k13 := Keep.wr (Keep.refl h0 [a]) W2 (Or.inl (by simp))
  have k14 := Keep.wr k13 W5 (Or.inl (by simp))
  have k15 := Keep.wr k14 W8 (Or.inl (by simp))
  have k16 := Keep.wr k15 W11 (Or.inl (by simp))
  exact o_ret X11 d_prog_20_method_1_166 ⟨rfl, k16, f12⟩ (by decide) (by decide)
set_option maxRecDepth 65536 in
set_option maxHeartbeats 40000000 in
theorem c_last2 {l : Launch} {Z : State} {a0 : Array Value} (hw : W a0 Z) (a bd : Addr) (d0 d1 : Int32) (h0 : Heap) (F : Fld Z h0 a "com/example/pomona/pomona/index/PostingsList" "documents" "[I" (.ref bd)) {k : ClassId} (A : Arv Z h0 bd k .int (2 : Int32) [(.int d0), (.int d1)] (.int (0 : Int32))) :
    Con l Z (⟨"com/example/pomona/pomona/index/PostingsList", "lastDocument", "()I"⟩ : MethodName) prog_20_method_7_code 1 (some .int) ({ frames := 0, cells := 0, slots := 0, locals := 0 } : Room) #[(.ref a)] h0 (fun v h' => v = some (.int d1) ∧ h' = h0) := by
  have hpn : plainName "com/example/pomona/pomona/index/PostingsList" = true := by first | (simp [plainName, overriddenIn]; done) | decide +kernel
  refine Con.intro (plainFor_of_name hpn) ?_
  intro p e s m below meth c T X
  refine Goes.cast (g' := mkF m 0 #[.val (.ref a)] []) (by first | (simp [entryFrame, mkF, argsToLocals, Value.category]; done) | rfl) ?_
  refine o_aloadN X d_prog_20_method_7_0 rfl rfl (q := 1) rfl ?_
  refine o_getF X F (host := "") (Or.inl (w43 hw)) Via.refl d_prog_20_method_7_1 (q := 4) rfl ?_
  intro T1 X1
  refine o_aloadN X1 d_prog_20_method_7_4 rfl rfl (q := 5) rfl ?_
  refine o_getF X1 F (host := "") (Or.inl (w43 hw)) Via.refl d_prog_20_method_7_5 (q := 8) rfl ?_
  intro T2 X2
  refine o_len X2 A d_prog_20_method_7_8 (q := 9) rfl ?_
  refine o_iconst X2 d_prog_20_method_7_9 (w := 1) rfl (q := 10) rfl ?_
  refine o_isub X2 d_prog_20_method_7_10 (w := (1 : Int32)) (by decide) (q := 11) rfl ?_
  refine o_iaload X2 A (by decide) (v := (.int d1)) rfl d_prog_20_method_7_11 (q := 12) rfl ?_
  exact o_retI X2 d_prog_20_method_7_12 ⟨rfl, rfl⟩ (by decide) (by decide)
set_option maxRecDepth 65536 in
set_option maxHeartbeats 40000000 in
theorem c_doc2 {l : Launch} {Z : State} {a0 : Array Value} (hw : W a0 Z) (a bd : Addr) (d0 d1 : Int32) (h0 : Heap) (F : Fld Z h0 a "com/example/pomona/pomona/index/PostingsList" "documents" "[I" (.ref bd)) {k : ClassId} (A : Arv Z h0 bd k .int (2 : Int32) [(.int d0), (.int d1)] (.int (0 : Int32))) :
    Con l Z (⟨"com/example/pomona/pomona/index/PostingsList", "document", "(I)I"⟩ : MethodName) prog_20_method_5_code 2 (some .int) ({ frames := 0, cells := 0, slots := 0, locals := 0 } : Room) #[(.ref a), (.int (1 : Int32))] h0 (fun v h' => v = some (.int d1) ∧ h' = h0) := by
  have hpn : plainName "com/example/pomona/pomona/index/PostingsList" = true := by first | (simp [plainName, overriddenIn]; done) | decide +kernel
  refine Con.intro (plainFor_of_name hpn) ?_
  intro p e s m below meth c T X
  refine Goes.cast (g' := mkF m 0 #[.val (.ref a), .val (.int (1 : Int32))] []) (by first | (simp [entryFrame, mkF, argsToLocals, Value.category]; done) | rfl) ?_
  refine o_aloadN X d_prog_20_method_5_0 rfl rfl (q := 1) rfl ?_
  refine o_getF X F (host := "") (Or.inl (w43 hw)) Via.refl d_prog_20_method_5_1 (q := 4) rfl ?_
  intro T1 X1
  refine o_iloadN X1 d_prog_20_method_5_4 rfl (q := 5) rfl ?_
  refine o_iaload X1 A (by decide) (v := (.int d1)) rfl d_prog_20_method_5_5 (q := 6) rfl ?_
  exact o_retI X1 d_prog_20_method_5_6 ⟨rfl, rfl⟩ (by decide) (by decide)
set_option maxRecDepth 65536 in
set_option maxHeartbeats 40000000 in
theorem c_init3 {l : Launch} {Z : State} {a0 : Array Value} (hw : W a0 Z) (a t bd bf : Addr) (d0 f0 d1 f1 d2 f2 : Int32) (h0 : Heap) (E : Exa Z h0 a "com/example/pomona/pomona/index/PostingsList") (ga : Z.heap.size ≤ a) (F_term : Fld Z h0 a "com/example/pomona/pomona/index/PostingsList" "term" "Ljava/lang/String;" .null) (F_documents : Fld Z h0 a "com/example/pomona/pomona/index/PostingsList" "documents" "[I" .null) (F_frequencies : Fld Z h0 a "com/example/pomona/pomona/index/PostingsList" "frequencies" "[I" .null) (F_collectionFrequency : Fld Z h0 a "com/example/pomona/pomona/index/PostingsList" "collectionFrequency" "J" (.long (0 : Int64))) {k_bd : ClassId} (V_bd : Arv Z h0 bd k_bd .int (3 : Int32) [(.int d0), (.int d1), (.int d2)] (.int (0 : Int32))) {k_bf : ClassId} (V_bf : Arv Z h0 bf k_bf .int (3 : Int32) [(.int f0), (.int f1), (.int f2)] (.int (0 : Int32))) (hd0 : (-1 : Int32) < d0) (hf0 : ¬ (f0 < (1 : Int32))) (hd1 : d0 < d1) (hf1 : ¬ (f1 < (1 : Int32))) (hd2 : d1 < d2) (hf2 : ¬ (f2 < (1 : Int32))) :
    Con l Z (⟨"com/example/pomona/pomona/index/PostingsList", "<init>", "(Ljava/lang/String;[I[I)V"⟩ : MethodName) prog_20_method_1_code 8 none ({ frames := 1, cells := 0, slots := 0, locals := 12 } : Room) #[(.ref a), (.ref t), (.ref bd), (.ref bf)] h0 (fun v h' => v = none ∧ Keep h0 h' [a] ∧ Fld Z h' a "com/example/pomona/pomona/index/PostingsList" "documents" "[I" (.ref bd)) := by
  have hpn : plainName "com/example/pomona/pomona/index/PostingsList" = true := by first | (simp [plainName, overriddenIn]; done) | decide +kernel
  refine Con.intro (plainFor_of_name hpn) ?_
  intro p e s m below meth c T X
  refine Goes.cast (g' := mkF m 0 #[.val (.ref a), .val (.ref t), .val (.ref bd), .val (.ref bf), .unset, .unset, .unset, .unset] []) (by first | (simp [entryFrame, mkF, argsToLocals, Value.category]; done) | rfl) ?_
  refine o_aloadN X d_prog_20_method_1_0 rfl rfl (q := 1) rfl ?_
  refine o_initO X (w40 hw) (w15 hw) (w16 hw) d_prog_20_method_1_1 rfl (by decide) (Nat.le_of_ble_eq_true rfl) (q := 4) rfl ?_
  intro T1 X1
  refine o_aloadN X1 d_prog_20_method_1_4 rfl rfl (q := 5) rfl ?_
  refine o_len X1 V_bd d_prog_20_method_1_5 (q := 6) rfl ?_
  refine o_aloadN X1 d_prog_20_method_1_6 rfl rfl (q := 7) rfl ?_
  refine o_len X1 V_bf d_prog_20_method_1_7 (q := 8) rfl ?_
  refine o_icmpY X1 d_prog_20_method_1_8 (by decide) (by decide) (q := 29) (by decide) ?_
  refine o_aloadN X1 d_prog_20_method_1_29 rfl rfl (q := 30) rfl ?_
  refine o_len X1 V_bd d_prog_20_method_1_30 (q := 31) rfl ?_
  refine o_ifY X1 d_prog_20_method_1_31 (by decide) (by decide) (q := 48) (by decide) ?_
  refine o_lconst X1 d_prog_20_method_1_48 (w := 0) rfl (q := 49) rfl ?_
  refine o_lstore X1 d_prog_20_method_1_49 rfl (L' := #[.val (.ref a), .val (.ref t), .val (.ref bd), .val (.ref bf), .val (.long (0 : Int64)), .second, .unset, .unset]) rfl (q := 51) rfl ?_
  refine o_iconst X1 d_prog_20_method_1_51 (w := -1) rfl (q := 52) rfl ?_
  refine o_istore X1 d_prog_20_method_1_52 rfl (L' := #[.val (.ref a), .val (.ref t), .val (.ref bd), .val (.ref bf), .val (.long (0 : Int64)), .second, .val (.int (-1 : Int32)), .unset]) rfl (q := 54) rfl ?_
  refine o_iconst X1 d_prog_20_method_1_54 (w := 0) rfl (q := 55) rfl ?_
  refine o_istore X1 d_prog_20_method_1_55 rfl (L' := #[.val (.ref a), .val (.ref t), .val (.ref bd), .val (.ref bf), .val (.long (0 : Int64)), .second, .val (.int (-1 : Int32)), .val (.int (0 : Int32))]) rfl (q := 57) rfl ?_
  refine o_iload X1 d_prog_20_method_1_57 rfl (q := 59) rfl ?_
  refine o_aloadN X1 d_prog_20_method_1_59 rfl rfl (q := 60) rfl ?_
  refine o_len X1 V_bd d_prog_20_method_1_60 (q := 61) rfl ?_
  refine o_icmpN X1 d_prog_20_method_1_61 (by decide) (q := 64) rfl ?_
  refine o_aloadN X1 d_prog_20_method_1_64 rfl rfl (q := 65) rfl ?_
  refine o_iload X1 d_prog_20_method_1_65 rfl (q := 67) rfl ?_
  refine o_iaload X1 V_bd (by decide) (v := (.int d0)) rfl d_prog_20_method_1_67 (q := 68) rfl ?_
  refine o_iload X1 d_prog_20_method_1_68 rfl (q := 70) rfl ?_
  refine o_icmpY X1 d_prog_20_method_1_70 (tlt hd0).2.2.1 (by decide) (q := 93) (by decide) ?_
  refine o_aloadN X1 d_prog_20_method_1_93 rfl rfl (q := 94) rfl ?_
  refine o_iload X1 d_prog_20_method_1_94 rfl (q := 96) rfl ?_
  refine o_iaload X1 V_bf (by decide) (v := (.int f0)) rfl d_prog_20_method_1_96 (q := 97) rfl ?_
  refine o_iconst X1 d_prog_20_method_1_97 (w := 1) rfl (q := 98) rfl ?_
  refine o_icmpY X1 d_prog_20_method_1_98 (flt hf0).2.1 (by decide) (q := 123) (by decide) ?_
  refine o_aloadN X1 d_prog_20_method_1_123 rfl rfl (q := 124) rfl ?_
  refine o_iload X1 d_prog_20_method_1_124 rfl (q := 126) rfl ?_
  refine o_iaload X1 V_bd (by decide) (v := (.int d0)) rfl d_prog_20_method_1_126 (q := 127) rfl ?_
  refine o_istore X1 d_prog_20_method_1_127 rfl (L' := #[.val (.ref a), .val (.ref t), .val (.ref bd), .val (.ref bf), .val (.long (0 : Int64)), .second, .val (.int d0), .val (.int (0 : Int32))]) rfl (q := 129) rfl ?_
  refine o_lload X1 d_prog_20_method_1_129 rfl (q := 131) rfl ?_
  refine o_aloadN X1 d_prog_20_method_1_131 rfl rfl (q := 132) rfl ?_
  refine o_iload X1 d_prog_20_method_1_132 rfl (q := 134) rfl ?_
  refine o_iaload X1 V_bf (by decide) (v := (.int f0)) rfl d_prog_20_method_1_134 (q := 135) rfl ?_
  refine o_i2l X1 d_prog_20_method_1_135 (w := (f0.toInt64)) rfl (q := 136) rfl ?_
  refine o_ladd X1 d_prog_20_method_1_136 (w := ((0 : Int64) + (f0.toInt64))) rfl (q := 137) rfl ?_
  refine o_lstore X1 d_prog_20_method_1_137 rfl (L' := #[.val (.ref a), .val (.ref t), .val (.ref bd), .val (.ref bf), .val (.long ((0 : Int64) + (f0.toInt64))), .second, .val (.int d0), .val (.int (0 : Int32))]) rfl (q := 139) rfl ?_
  refine o_iinc X1 d_prog_20_method_1_139 rfl (z := (1 : Int32)) (by decide) (L' := #[.val (.ref a), .val (.ref t), .val (.ref bd), .val (.ref bf), .val (.long ((0 : Int64) + (f0.toInt64))), .second, .val (.int d0), .val (.int (1 : Int32))]) rfl (q := 142) rfl ?_
  refine o_goto X1 d_prog_20_method_1_142 (by decide) (q := 57) (by decide) ?_
  refine o_iload X1 d_prog_20_method_1_57 rfl (q := 59) rfl ?_
  refine o_aloadN X1 d_prog_20_method_1_59 rfl rfl (q := 60) rfl ?_
  refine o_len X1 V_bd d_prog_20_method_1_60 (q := 61) rfl ?_
  refine o_icmpN X1 d_prog_20_method_1_61 (by decide) (q := 64) rfl ?_
  refine o_aloadN X1 d_prog_20_method_1_64 rfl rfl (q := 65) rfl ?_
  refine o_iload X1 d_prog_20_method_1_65 rfl (q := 67) rfl ?_
  refine o_iaload X1 V_bd (by decide) (v := (.int d1)) rfl d_prog_20_method_1_67 (q := 68) rfl ?_
  refine o_iload X1 d_prog_20_method_1_68 rfl (q := 70) rfl ?_
  refine o_icmpY X1 d_prog_20_method_1_70 (tlt hd1).2.2.1 (by decide) (q := 93) (by decide) ?_
  refine o_aloadN X1 d_prog_20_method_1_93 rfl rfl (q := 94) rfl ?_
  refine o_iload X1 d_prog_20_method_1_94 rfl (q := 96) rfl ?_
  refine o_iaload X1 V_bf (by decide) (v := (.int f1)) rfl d_prog_20_method_1_96 (q := 97) rfl ?_
  refine o_iconst X1 d_prog_20_method_1_97 (w := 1) rfl (q := 98) rfl ?_
  refine o_icmpY X1 d_prog_20_method_1_98 (flt hf1).2.1 (by decide) (q := 123) (by decide) ?_
  refine o_aloadN X1 d_prog_20_method_1_123 rfl rfl (q := 124) rfl ?_
  refine o_iload X1 d_prog_20_method_1_124 rfl (q := 126) rfl ?_
  refine o_iaload X1 V_bd (by decide) (v := (.int d1)) rfl d_prog_20_method_1_126 (q := 127) rfl ?_
  refine o_istore X1 d_prog_20_method_1_127 rfl (L' := #[.val (.ref a), .val (.ref t), .val (.ref bd), .val (.ref bf), .val (.long ((0 : Int64) + (f0.toInt64))), .second, .val (.int d1), .val (.int (1 : Int32))]) rfl (q := 129) rfl ?_
  refine o_lload X1 d_prog_20_method_1_129 rfl (q := 131) rfl ?_
  refine o_aloadN X1 d_prog_20_method_1_131 rfl rfl (q := 132) rfl ?_
  refine o_iload X1 d_prog_20_method_1_132 rfl (q := 134) rfl ?_
  refine o_iaload X1 V_bf (by decide) (v := (.int f1)) rfl d_prog_20_method_1_134 (q := 135) rfl ?_
  refine o_i2l X1 d_prog_20_method_1_135 (w := (f1.toInt64)) rfl (q := 136) rfl ?_
  refine o_ladd X1 d_prog_20_method_1_136 (w := (((0 : Int64) + (f0.toInt64)) + (f1.toInt64))) rfl (q := 137) rfl ?_
  refine o_lstore X1 d_prog_20_method_1_137 rfl (L' := #[.val (.ref a), .val (.ref t), .val (.ref bd), .val (.ref bf), .val (.long (((0 : Int64) + (f0.toInt64)) + (f1.toInt64))), .second, .val (.int d1), .val (.int (1 : Int32))]) rfl (q := 139) rfl ?_
  refine o_iinc X1 d_prog_20_method_1_139 rfl (z := (2 : Int32)) (by decide) (L' := #[.val (.ref a), .val (.ref t), .val (.ref bd), .val (.ref bf), .val (.long (((0 : Int64) + (f0.toInt64)) + (f1.toInt64))), .second, .val (.int d1), .val (.int (2 : Int32))]) rfl (q := 142) rfl ?_
  refine o_goto X1 d_prog_20_method_1_142 (by decide) (q := 57) (by decide) ?_
  refine o_iload X1 d_prog_20_method_1_57 rfl (q := 59) rfl ?_
  refine o_aloadN X1 d_prog_20_method_1_59 rfl rfl (q := 60) rfl ?_
  refine o_len X1 V_bd d_prog_20_method_1_60 (q := 61) rfl ?_
  refine o_icmpN X1 d_prog_20_method_1_61 (by decide) (q := 64) rfl ?_
  refine o_aloadN X1 d_prog_20_method_1_64 rfl rfl (q := 65) rfl ?_
  refine o_iload X1 d_prog_20_method_1_65 rfl (q := 67) rfl ?_
  refine o_iaload X1 V_bd (by decide) (v := (.int d2)) rfl d_prog_20_method_1_67 (q := 68) rfl ?_
  refine o_iload X1 d_prog_20_method_1_68 rfl (q := 70) rfl ?_
  refine o_icmpY X1 d_prog_20_method_1_70 (tlt hd2).2.2.1 (by decide) (q := 93) (by decide) ?_
  refine o_aloadN X1 d_prog_20_method_1_93 rfl rfl (q := 94) rfl ?_
  refine o_iload X1 d_prog_20_method_1_94 rfl (q := 96) rfl ?_
  refine o_iaload X1 V_bf (by decide) (v := (.int f2)) rfl d_prog_20_method_1_96 (q := 97) rfl ?_
  refine o_iconst X1 d_prog_20_method_1_97 (w := 1) rfl (q := 98) rfl ?_
  refine o_icmpY X1 d_prog_20_method_1_98 (flt hf2).2.1 (by decide) (q := 123) (by decide) ?_
  refine o_aloadN X1 d_prog_20_method_1_123 rfl rfl (q := 124) rfl ?_
  refine o_iload X1 d_prog_20_method_1_124 rfl (q := 126) rfl ?_
  refine o_iaload X1 V_bd (by decide) (v := (.int d2)) rfl d_prog_20_method_1_126 (q := 127) rfl ?_
  refine o_istore X1 d_prog_20_method_1_127 rfl (L' := #[.val (.ref a), .val (.ref t), .val (.ref bd), .val (.ref bf), .val (.long (((0 : Int64) + (f0.toInt64)) + (f1.toInt64))), .second, .val (.int d2), .val (.int (2 : Int32))]) rfl (q := 129) rfl ?_
  refine o_lload X1 d_prog_20_method_1_129 rfl (q := 131) rfl ?_
  refine o_aloadN X1 d_prog_20_method_1_131 rfl rfl (q := 132) rfl ?_
  refine o_iload X1 d_prog_20_method_1_132 rfl (q := 134) rfl ?_
  refine o_iaload X1 V_bf (by decide) (v := (.int f2)) rfl d_prog_20_method_1_134 (q := 135) rfl ?_
  refine o_i2l X1 d_prog_20_method_1_135 (w := (f2.toInt64)) rfl (q := 136) rfl ?_
  refine o_ladd X1 d_prog_20_method_1_136 (w := ((((0 : Int64) + (f0.toInt64)) + (f1.toInt64)) + (f2.toInt64))) rfl (q := 137) rfl ?_
  refine o_lstore X1 d_prog_20_method_1_137 rfl (L' := #[.val (.ref a), .val (.ref t), .val (.ref bd), .val (.ref bf), .val (.long ((((0 : Int64) + (f0.toInt64)) + (f1.toInt64)) + (f2.toInt64))), .second, .val (.int d2), .val (.int (2 : Int32))]) rfl (q := 139) rfl ?_
  refine o_iinc X1 d_prog_20_method_1_139 rfl (z := (3 : Int32)) (by decide) (L' := #[.val (.ref a), .val (.ref t), .val (.ref bd), .val (.ref bf), .val (.long ((((0 : Int64) + (f0.toInt64)) + (f1.toInt64)) + (f2.toInt64))), .second, .val (.int d2), .val (.int (3 : Int32))]) rfl (q := 142) rfl ?_
  refine o_goto X1 d_prog_20_method_1_142 (by decide) (q := 57) (by decide) ?_
  refine o_iload X1 d_prog_20_method_1_57 rfl (q := 59) rfl ?_
  refine o_aloadN X1 d_prog_20_method_1_59 rfl rfl (q := 60) rfl ?_
  refine o_len X1 V_bd d_prog_20_method_1_60 (q := 61) rfl ?_
  refine o_icmpY X1 d_prog_20_method_1_61 (by decide) (by decide) (q := 145) (by decide) ?_
  refine o_aloadN X1 d_prog_20_method_1_145 rfl rfl (q := 146) rfl ?_
  refine o_aloadN X1 d_prog_20_method_1_146 rfl rfl (q := 147) rfl ?_
  refine o_putF X1 F_term E ga (host := "") (Or.inl (w41 hw)) Via.refl (Or.inr ⟨(w42 hw), rfl, rfl⟩) (w35 hw) (ty := (.object "java/lang/String")) (by decide) rfl rfl d_prog_20_method_1_147 (q := 150) rfl ?_
  intro T2 h2 l2 X2 W2 F2
  refine o_aloadN X2 d_prog_20_method_1_150 rfl rfl (q := 151) rfl ?_
  refine o_aloadN X2 d_prog_20_method_1_151 rfl rfl (q := 152) rfl ?_
  have f3 := (F_documents.other W2 (Or.inr (slot_ne (Or.inr (w44 hw)) (Or.inr (w42 hw)) (by decide) (t := (.array .int)) (t' := (.object "java/lang/String")) (by decide) (by decide))))
  have f4 := (E.wr W2)
  refine o_putF X2 f3 f4 ga (host := "") (Or.inl (w43 hw)) Via.refl (Or.inr ⟨(w44 hw), rfl, rfl⟩) (w35 hw) (ty := (.array .int)) (by decide) rfl rfl d_prog_20_method_1_152 (q := 155) rfl ?_
  intro T5 h5 l5 X5 W5 F5
  refine o_aloadN X5 d_prog_20_method_1_155 rfl rfl (q := 156) rfl ?_
  refine o_aloadN X5 d_prog_20_method_1_156 rfl rfl (q := 157) rfl ?_
  have f6 := ((F_frequencies.other W2 (Or.inr (slot_ne (Or.inr (w46 hw)) (Or.inr (w42 hw)) (by decide) (t := (.array .int)) (t' := (.object "java/lang/String")) (by decide) (by decide)))).other W5 (Or.inr (slot_ne (Or.inr (w46 hw)) (Or.inr (w44 hw)) (by decide) (t := (.array .int)) (t' := (.array .int)) (by decide) (by decide))))
  have f7 := (f4.wr W5)
  refine o_putF X5 f6 f7 ga (host := "") (Or.inl (w45 hw)) Via.refl (Or.inr ⟨(w46 hw), rfl, rfl⟩) (w35 hw) (ty := (.array .int)) (by decide) rfl rfl d_prog_20_method_1_157 (q := 160) rfl ?_
  intro T8 h8 l8 X8 W8 F8
  refine o_aloadN X8 d_prog_20_method_1_160 rfl rfl (q := 161) rfl ?_
  refine o_lload X8 d_prog_20_method_1_161 rfl (q := 163) rfl ?_
  have f9 := (((F_collectionFrequency.other W2 (Or.inr (slot_ne (Or.inr (w48 hw)) (Or.inr (w42 hw)) (by decide) (t := .long) (t' := (.object "java/lang/String")) (by decide) (by decide)))).other W5 (Or.inr (slot_ne (Or.inr (w48 hw)) (Or.inr (w44 hw)) (by decide) (t := .long) (t' := (.array .int)) (by decide) (by decide)))).other W8 (Or.inr (slot_ne (Or.inr (w48 hw)) (Or.inr (w46 hw)) (by decide) (t := .long) (t' := (.array .int)) (by decide) (by decide))))
  have f10 := (f7.wr W8)
  refine o_putF X8 f9 f10 ga (host := "") (Or.inl (w47 hw)) Via.refl (Or.inr ⟨(w48 hw), rfl, rfl⟩) (w35 hw) (ty := .long) (by decide) rfl rfl d_prog_20_method_1_163 (q := 166) rfl ?_
  intro T11 h11 l11 X11 W11 F11
  have f12 := ((F5.other W8 (Or.inr (slot_ne (Or.inr (w44 hw)) (Or.inr (w46 hw)) (by decide) (t := (.array .int)) (t' := (.array .int)) (by decide) (by decide)))).other W11 (Or.inr (slot_ne (Or.inr (w44 hw)) (Or.inr (w48 hw)) (by decide) (t := (.array .int)) (t' := .long) (by decide) (by decide))))
  have k13 := Keep.wr (Keep.refl h0 [a]) W2 (Or.inl (by simp))
  have k14 := Keep.wr k13 W5 (Or.inl (by simp))
  have k15 := Keep.wr k14 W8 (Or.inl (by simp))
  have k16 := Keep.wr k15 W11 (Or.inl (by simp))
  exact o_ret X11 d_prog_20_method_1_166 ⟨rfl, k16, f12⟩ (by decide) (by decide)
set_option maxRecDepth 65536 in
set_option maxHeartbeats 40000000 in
theorem c_last3 {l : Launch} {Z : State} {a0 : Array Value} (hw : W a0 Z) (a bd : Addr) (d0 d1 d2 : Int32) (h0 : Heap) (F : Fld Z h0 a "com/example/pomona/pomona/index/PostingsList" "documents" "[I" (.ref bd)) {k : ClassId} (A : Arv Z h0 bd k .int (3 : Int32) [(.int d0), (.int d1), (.int d2)] (.int (0 : Int32))) :
    Con l Z (⟨"com/example/pomona/pomona/index/PostingsList", "lastDocument", "()I"⟩ : MethodName) prog_20_method_7_code 1 (some .int) ({ frames := 0, cells := 0, slots := 0, locals := 0 } : Room) #[(.ref a)] h0 (fun v h' => v = some (.int d2) ∧ h' = h0) := by
  have hpn : plainName "com/example/pomona/pomona/index/PostingsList" = true := by first | (simp [plainName, overriddenIn]; done) | decide +kernel
  refine Con.intro (plainFor_of_name hpn) ?_
  intro p e s m below meth c T X
  refine Goes.cast (g' := mkF m 0 #[.val (.ref a)] []) (by first | (simp [entryFrame, mkF, argsToLocals, Value.category]; done) | rfl) ?_
  refine o_aloadN X d_prog_20_method_7_0 rfl rfl (q := 1) rfl ?_
  refine o_getF X F (host := "") (Or.inl (w43 hw)) Via.refl d_prog_20_method_7_1 (q := 4) rfl ?_
  intro T1 X1
  refine o_aloadN X1 d_prog_20_method_7_4 rfl rfl (q := 5) rfl ?_
  refine o_getF X1 F (host := "") (Or.inl (w43 hw)) Via.refl d_prog_20_method_7_5 (q := 8) rfl ?_
  intro T2 X2
  refine o_len X2 A d_prog_20_method_7_8 (q := 9) rfl ?_
  refine o_iconst X2 d_prog_20_method_7_9 (w := 1) rfl (q := 10) rfl ?_
  refine o_isub X2 d_prog_20_method_7_10 (w := (2 : Int32)) (by decide) (q := 11) rfl ?_
  refine o_iaload X2 A (by decide) (v := (.int d2)) rfl d_prog_20_method_7_11 (q := 12) rfl ?_
  exact o_retI X2 d_prog_20_method_7_12 ⟨rfl, rfl⟩ (by decide) (by decide)
set_option maxRecDepth 65536 in
set_option maxHeartbeats 40000000 in
theorem c_doc3 {l : Launch} {Z : State} {a0 : Array Value} (hw : W a0 Z) (a bd : Addr) (d0 d1 d2 : Int32) (h0 : Heap) (F : Fld Z h0 a "com/example/pomona/pomona/index/PostingsList" "documents" "[I" (.ref bd)) {k : ClassId} (A : Arv Z h0 bd k .int (3 : Int32) [(.int d0), (.int d1), (.int d2)] (.int (0 : Int32))) :
    Con l Z (⟨"com/example/pomona/pomona/index/PostingsList", "document", "(I)I"⟩ : MethodName) prog_20_method_5_code 2 (some .int) ({ frames := 0, cells := 0, slots := 0, locals := 0 } : Room) #[(.ref a), (.int (2 : Int32))] h0 (fun v h' => v = some (.int d2) ∧ h' = h0) := by
  have hpn : plainName "com/example/pomona/pomona/index/PostingsList" = true := by first | (simp [plainName, overriddenIn]; done) | decide +kernel
  refine Con.intro (plainFor_of_name hpn) ?_
  intro p e s m below meth c T X
  refine Goes.cast (g' := mkF m 0 #[.val (.ref a), .val (.int (2 : Int32))] []) (by first | (simp [entryFrame, mkF, argsToLocals, Value.category]; done) | rfl) ?_
  refine o_aloadN X d_prog_20_method_5_0 rfl rfl (q := 1) rfl ?_
  refine o_getF X F (host := "") (Or.inl (w43 hw)) Via.refl d_prog_20_method_5_1 (q := 4) rfl ?_
  intro T1 X1
  refine o_iloadN X1 d_prog_20_method_5_4 rfl (q := 5) rfl ?_
  refine o_iaload X1 A (by decide) (v := (.int d2)) rfl d_prog_20_method_5_5 (q := 6) rfl ?_
  exact o_retI X1 d_prog_20_method_5_6 ⟨rfl, rfl⟩ (by decide) (by decide)
set_option maxRecDepth 65536 in
set_option maxHeartbeats 40000000 in
theorem c_law {l : Launch} {Z : State} {a0 : Array Value} (hw : W a0 Z) (p0 p1 p2 p3 p4 : Int32) (cs : Int32) (O2 : Sta Z Z.heap "java/lang/String" "COMPACT_STRINGS" "Z" (.int cs)) (P5 : ¬ cs = 0) :
    Con l Z x code maxLocals ret room_1 #[(.int p0), (.int p1), (.int p2), (.int p3), (.int p4)] Z.heap (fun v h' => v = some (.int 1)) := by
  have hpn : plainName "com/example/pomona/pomona/index/PostingsListLastDocumentPinLaw" = true := by first | (simp [plainName, overriddenIn]; done) | decide +kernel
  refine Con.intro (plainFor_of_name hpn) ?_
  intro p e s m below meth c T X
  refine Goes.cast (g' := mkF m 0 #[.val (.int p0), .val (.int p1), .val (.int p2), .val (.int p3), .val (.int p4), .unset, .unset, .unset, .unset, .unset, .unset, .unset, .unset, .unset, .unset, .unset, .unset, .unset, .unset] []) (by first | (simp [entryFrame, mkF, argsToLocals, Value.category, maxLocals]; done) | rfl) ?_
  have hws : ∀ d ∈ StrChars.Road.words, d.before a0 Z = true := fun d hd => hw d ((by decide +kernel : ∀ d ∈ StrChars.Road.words, d ∈ tables_1) d hd)
  refine o_iconst X at_0 (w := 1) rfl (q := 1) rfl ?_
  refine o_iloadN X at_1 rfl (q := 2) rfl ?_
  refine o_ldcI X (w0 hw) at_2 (q := 4) rfl ?_
  refine o_iand X at_4 (w := (p0 &&& (2147483647 : Int32))) rfl (q := 5) rfl ?_
  refine o_iconst X at_5 (w := 3) rfl (q := 6) rfl ?_
  refine o_irem X at_6 (by decide) (w := ((p0 &&& (2147483647 : Int32)) % (3 : Int32))) rfl (q := 7) rfl ?_
  refine o_iadd X at_7 (w := ((1 : Int32) + ((p0 &&& (2147483647 : Int32)) % (3 : Int32)))) rfl (q := 8) rfl ?_
  obtain ⟨n, h_n⟩ : ∃ z : Int32, ((1 : Int32) + ((p0 &&& (2147483647 : Int32)) % (3 : Int32))) = z := ⟨_, rfl⟩
  refine o_istore X at_8 h_n (L' := #[.val (.int p0), .val (.int p1), .val (.int p2), .val (.int p3), .val (.int p4), .val (.int n), .unset, .unset, .unset, .unset, .unset, .unset, .unset, .unset, .unset, .unset, .unset, .unset, .unset]) rfl (q := 10) rfl ?_
  refine o_iloadN X at_10 rfl (q := 11) rfl ?_
  refine o_ldcI X (w1 hw) at_11 (q := 13) rfl ?_
  refine o_iand X at_13 (w := (p1 &&& (1073741823 : Int32))) rfl (q := 14) rfl ?_
  obtain ⟨d0, h_d0⟩ : ∃ z : Int32, (p1 &&& (1073741823 : Int32)) = z := ⟨_, rfl⟩
  refine o_istore X at_14 h_d0 (L' := #[.val (.int p0), .val (.int p1), .val (.int p2), .val (.int p3), .val (.int p4), .val (.int n), .val (.int d0), .unset, .unset, .unset, .unset, .unset, .unset, .unset, .unset, .unset, .unset, .unset, .unset]) rfl (q := 16) rfl ?_
  refine o_iload X at_16 rfl (q := 18) rfl ?_
  refine o_iconst X at_18 (w := 1) rfl (q := 19) rfl ?_
  refine o_iadd X at_19 (w := (d0 + (1 : Int32))) rfl (q := 20) rfl ?_
  refine o_iloadN X at_20 rfl (q := 21) rfl ?_
  refine o_ldcI X (w2 hw) at_21 (q := 23) rfl ?_
  refine o_iand X at_23 (w := (p2 &&& (536870911 : Int32))) rfl (q := 24) rfl ?_
  refine o_iadd X at_24 (w := ((d0 + (1 : Int32)) + (p2 &&& (536870911 : Int32)))) rfl (q := 25) rfl ?_
  obtain ⟨d1, h_d1⟩ : ∃ z : Int32, ((d0 + (1 : Int32)) + (p2 &&& (536870911 : Int32))) = z := ⟨_, rfl⟩
  refine o_istore X at_25 h_d1 (L' := #[.val (.int p0), .val (.int p1), .val (.int p2), .val (.int p3), .val (.int p4), .val (.int n), .val (.int d0), .val (.int d1), .unset, .unset, .unset, .unset, .unset, .unset, .unset, .unset, .unset, .unset, .unset]) rfl (q := 27) rfl ?_
  refine o_iload X at_27 rfl (q := 29) rfl ?_
  refine o_iconst X at_29 (w := 1) rfl (q := 30) rfl ?_
  refine o_iadd X at_30 (w := (d1 + (1 : Int32))) rfl (q := 31) rfl ?_
  refine o_iloadN X at_31 rfl (q := 32) rfl ?_
  refine o_ldcI X (w2 hw) at_32 (q := 34) rfl ?_
  refine o_iand X at_34 (w := (p3 &&& (536870911 : Int32))) rfl (q := 35) rfl ?_
  refine o_iadd X at_35 (w := ((d1 + (1 : Int32)) + (p3 &&& (536870911 : Int32)))) rfl (q := 36) rfl ?_
  obtain ⟨d2, h_d2⟩ : ∃ z : Int32, ((d1 + (1 : Int32)) + (p3 &&& (536870911 : Int32))) = z := ⟨_, rfl⟩
  refine o_istore X at_36 h_d2 (L' := #[.val (.int p0), .val (.int p1), .val (.int p2), .val (.int p3), .val (.int p4), .val (.int n), .val (.int d0), .val (.int d1), .val (.int d2), .unset, .unset, .unset, .unset, .unset, .unset, .unset, .unset, .unset, .unset]) rfl (q := 38) rfl ?_
  refine o_iconst X at_38 (w := 1) rfl (q := 39) rfl ?_
  refine o_iload X at_39 rfl (q := 41) rfl ?_
  refine o_sipush X at_41 (w := 255) rfl (q := 44) rfl ?_
  refine o_iand X at_44 (w := (p4 &&& (255 : Int32))) rfl (q := 45) rfl ?_
  refine o_iadd X at_45 (w := ((1 : Int32) + (p4 &&& (255 : Int32)))) rfl (q := 46) rfl ?_
  obtain ⟨f0, h_f0⟩ : ∃ z : Int32, ((1 : Int32) + (p4 &&& (255 : Int32))) = z := ⟨_, rfl⟩
  refine o_istore X at_46 h_f0 (L' := #[.val (.int p0), .val (.int p1), .val (.int p2), .val (.int p3), .val (.int p4), .val (.int n), .val (.int d0), .val (.int d1), .val (.int d2), .val (.int f0), .unset, .unset, .unset, .unset, .unset, .unset, .unset, .unset, .unset]) rfl (q := 48) rfl ?_
  refine o_iconst X at_48 (w := 1) rfl (q := 49) rfl ?_
  refine o_iload X at_49 rfl (q := 51) rfl ?_
  refine o_bipush X at_51 (w := 8) rfl (q := 53) rfl ?_
  refine o_iushr X at_53 (w := ((p4.toUInt32 >>> ((8 : Int32) &&& 31).toUInt32).toInt32)) rfl (q := 54) rfl ?_
  refine o_sipush X at_54 (w := 255) rfl (q := 57) rfl ?_
  refine o_iand X at_57 (w := (((p4.toUInt32 >>> ((8 : Int32) &&& 31).toUInt32).toInt32) &&& (255 : Int32))) rfl (q := 58) rfl ?_
  refine o_iadd X at_58 (w := ((1 : Int32) + (((p4.toUInt32 >>> ((8 : Int32) &&& 31).toUInt32).toInt32) &&& (255 : Int32)))) rfl (q := 59) rfl ?_
  obtain ⟨f1, h_f1⟩ : ∃ z : Int32, ((1 : Int32) + (((p4.toUInt32 >>> ((8 : Int32) &&& 31).toUInt32).toInt32) &&& (255 : Int32))) = z := ⟨_, rfl⟩
  refine o_istore X at_59 h_f1 (L' := #[.val (.int p0), .val (.int p1), .val (.int p2), .val (.int p3), .val (.int p4), .val (.int n), .val (.int d0), .val (.int d1), .val (.int d2), .val (.int f0), .val (.int f1), .unset, .unset, .unset, .unset, .unset, .unset, .unset, .unset]) rfl (q := 61) rfl ?_
  refine o_iconst X at_61 (w := 1) rfl (q := 62) rfl ?_
  refine o_iload X at_62 rfl (q := 64) rfl ?_
  refine o_bipush X at_64 (w := 16) rfl (q := 66) rfl ?_
  refine o_iushr X at_66 (w := ((p4.toUInt32 >>> ((16 : Int32) &&& 31).toUInt32).toInt32)) rfl (q := 67) rfl ?_
  refine o_sipush X at_67 (w := 255) rfl (q := 70) rfl ?_
  refine o_iand X at_70 (w := (((p4.toUInt32 >>> ((16 : Int32) &&& 31).toUInt32).toInt32) &&& (255 : Int32))) rfl (q := 71) rfl ?_
  refine o_iadd X at_71 (w := ((1 : Int32) + (((p4.toUInt32 >>> ((16 : Int32) &&& 31).toUInt32).toInt32) &&& (255 : Int32)))) rfl (q := 72) rfl ?_
  obtain ⟨f2, h_f2⟩ : ∃ z : Int32, ((1 : Int32) + (((p4.toUInt32 >>> ((16 : Int32) &&& 31).toUInt32).toInt32) &&& (255 : Int32))) = z := ⟨_, rfl⟩
  refine o_istore X at_72 h_f2 (L' := #[.val (.int p0), .val (.int p1), .val (.int p2), .val (.int p3), .val (.int p4), .val (.int n), .val (.int d0), .val (.int d1), .val (.int d2), .val (.int f0), .val (.int f1), .val (.int f2), .unset, .unset, .unset, .unset, .unset, .unset, .unset]) rfl (q := 74) rfl ?_
  refine o_iconst X at_74 (w := 1) rfl (q := 75) rfl ?_
  refine o_newarr X (aty := .char) (cap := 1) 1 (w3 hw) at_75 (by decide) (by decide) (by decide) (by decide) (by decide) (q := 77) rfl ?_
  intro T1 h1 b1 k1 gb1 X1 E1 V1 g0_b1
  have V1 : Arv Z h1 b1 k1 .char (1 : Int32) [(.int (0 : Int32))] (.int (0 : Int32)) := V1
  refine o_astore X1 at_77 rfl (L' := #[.val (.int p0), .val (.int p1), .val (.int p2), .val (.int p3), .val (.int p4), .val (.int n), .val (.int d0), .val (.int d1), .val (.int d2), .val (.int f0), .val (.int f1), .val (.int f2), .val (.ref b1), .unset, .unset, .unset, .unset, .unset, .unset]) rfl (q := 79) rfl ?_
  refine o_aload X1 at_79 rfl rfl (q := 81) rfl ?_
  refine o_iconst X1 at_81 (w := 0) rfl (q := 82) rfl ?_
  refine o_iloadN X1 at_82 rfl (q := 83) rfl ?_
  refine o_bipush X1 at_83 (w := 8) rfl (q := 85) rfl ?_
  refine o_iushr X1 at_85 (w := ((p0.toUInt32 >>> ((8 : Int32) &&& 31).toUInt32).toInt32)) rfl (q := 86) rfl ?_
  refine o_sipush X1 at_86 (w := 255) rfl (q := 89) rfl ?_
  refine o_iand X1 at_89 (w := (((p0.toUInt32 >>> ((8 : Int32) &&& 31).toUInt32).toInt32) &&& (255 : Int32))) rfl (q := 90) rfl ?_
  refine o_i2c X1 at_90 (w := ((((p0.toUInt32 >>> ((8 : Int32) &&& 31).toUInt32).toInt32) &&& (255 : Int32)).toUInt32.toUInt16.toUInt32.toInt32)) rfl (q := 91) rfl ?_
  obtain ⟨ch, h_ch⟩ : ∃ z : Int32, nar .char ((((p0.toUInt32 >>> ((8 : Int32) &&& 31).toUInt32).toInt32) &&& (255 : Int32)).toUInt32.toUInt16.toUInt32.toInt32) = z := ⟨_, rfl⟩
  refine o_castore X1 0 V1 g0_b1 (by decide) rfl (Nat.le_of_ble_eq_true rfl) (v := (.int ch)) (by rw [h_ch]) at_91 (q := 92) rfl ?_
  intro T2 h2 l2 X2 W2 V2
  have V2 : Arv Z h2 b1 k1 .char (1 : Int32) [(.int ch)] (.int (0 : Int32)) := V2
  refine o_new X2 (w4 hw) (w5 hw) (w6 hw) at_92 (by decide) (by decide) (q := 95) rfl ?_
  intro T3 h3 b3 gb3 X3 E3 A3 D3 g0_b3
  have f4 : Fld Z h3 b3 "java/lang/String" "coder" "B" (.int (0 : Int32)) := D3 (Or.inr (w30 hw)) (ty := .byte) (by decide)
  have f5 : Fld Z h3 b3 "java/lang/String" "value" "[B" .null := D3 (Or.inr (w32 hw)) (ty := (.array .byte)) (by decide)
  refine o_dup X3 at_95 rfl (q := 96) rfl ?_
  refine o_aload X3 at_96 rfl rfl (q := 98) rfl ?_
  have f6 := (V2.ext E3)
  have hlat : ∀ c ∈ ([ch] : List Int32), ¬ c < 0 ∧ ¬ (255 : Int32) < c := own_lat h_ch
  refine o_specB X3 [(.ref b1)] (y' := (⟨"java/lang/String", "<init>", "([C)V"⟩ : MethodName)) (StrChars.Road.backV (W := 1) X3.2.1.2.2.1 hws (kI := 4) (w5 hw) (cs := [ch]) (bs := [ch.toInt8.toInt32]) (n := 1) (n0 := Z.heap.size) g0_b3 X3.size A3 f5 f4 f6 (X3.sta O2) P5 rfl rfl (by decide) (by decide) hlat rfl (by decide) (by decide)) (fun _ _ _ q => ⟨q.2.1, ext_keep X3.ext q.2.2.1 (allS g0_b3 all0)⟩) rfl (w7 hw) (w8 hw) (w9 hw) (by decide) at_98 (rest := [(.ref b3)]) rfl rfl (lenOf pd0 rfl) rfl (Nat.le_of_ble_eq_true rfl) (by decide) (by decide) (q := 101) rfl ?_
  intro v7 T7 h7 L7 l7 X7 q7
  obtain ⟨rfl, -, K7, -⟩ := q7
  show Goes p e below _ T7 (mkF m 101 #[.val (.int p0), .val (.int p1), .val (.int p2), .val (.int p3), .val (.int p4), .val (.int n), .val (.int d0), .val (.int d1), .val (.int d2), .val (.int f0), .val (.int f1), .val (.int f2), .val (.ref b1), .unset, .unset, .unset, .unset, .unset, .unset] [(.ref b3)])
  refine o_astore X7 at_101 rfl (L' := #[.val (.int p0), .val (.int p1), .val (.int p2), .val (.int p3), .val (.int p4), .val (.int n), .val (.int d0), .val (.int d1), .val (.int d2), .val (.int f0), .val (.int f1), .val (.int f2), .val (.ref b1), .val (.ref b3), .unset, .unset, .unset, .unset, .unset]) rfl (q := 103) rfl ?_
  refine o_iload X7 at_103 rfl (q := 105) rfl ?_
  refine o_iconst X7 at_105 (w := 1) rfl (q := 106) rfl ?_
  rcases own_n3 h_n with rfl | rfl | rfl
  · refine o_icmpN X7 at_106 (by decide) (q := 109) rfl ?_
    refine o_iconst X7 at_109 (w := 1) rfl (q := 110) rfl ?_
    refine o_newarr X7 (aty := .int) (cap := 1) 1 (w33 hw) at_110 (by decide) (by decide) (by decide) (by decide) (by decide) (q := 112) rfl ?_
    intro T8 h8 b8 k8 gb8 X8 E8 V8 g0_b8
    have V8 : Arv Z h8 b8 k8 .int (1 : Int32) [(.int (0 : Int32))] (.int (0 : Int32)) := V8
    refine o_dup X8 at_112 rfl (q := 113) rfl ?_
    refine o_iconst X8 at_113 (w := 0) rfl (q := 114) rfl ?_
    refine o_iload X8 at_114 rfl (q := 116) rfl ?_
    refine o_iastore X8 0 V8 g0_b8 (by decide) rfl (Nat.le_of_ble_eq_true rfl) (v := (.int d0)) rfl at_116 (q := 117) rfl ?_
    intro T9 h9 l9 X9 W9 V9
    have V9 : Arv Z h9 b8 k8 .int (1 : Int32) [(.int d0)] (.int (0 : Int32)) := V9
    refine o_astore X9 at_117 rfl (L' := #[.val (.int p0), .val (.int p1), .val (.int p2), .val (.int p3), .val (.int p4), .val (.int (1 : Int32)), .val (.int d0), .val (.int d1), .val (.int d2), .val (.int f0), .val (.int f1), .val (.int f2), .val (.ref b1), .val (.ref b3), .val (.ref b8), .unset, .unset, .unset, .unset]) rfl (q := 119) rfl ?_
    refine o_iconst X9 at_119 (w := 1) rfl (q := 120) rfl ?_
    refine o_newarr X9 (aty := .int) (cap := 1) 1 (w33 hw) at_120 (by decide) (by decide) (by decide) (by decide) (by decide) (q := 122) rfl ?_
    intro T10 h10 b10 k10 gb10 X10 E10 V10 g0_b10
    have V10 : Arv Z h10 b10 k10 .int (1 : Int32) [(.int (0 : Int32))] (.int (0 : Int32)) := V10
    refine o_dup X10 at_122 rfl (q := 123) rfl ?_
    refine o_iconst X10 at_123 (w := 0) rfl (q := 124) rfl ?_
    refine o_iload X10 at_124 rfl (q := 126) rfl ?_
    refine o_iastore X10 0 V10 g0_b10 (by decide) rfl (Nat.le_of_ble_eq_true rfl) (v := (.int f0)) rfl at_126 (q := 127) rfl ?_
    intro T11 h11 l11 X11 W11 V11
    have V11 : Arv Z h11 b10 k10 .int (1 : Int32) [(.int f0)] (.int (0 : Int32)) := V11
    refine o_astore X11 at_127 rfl (L' := #[.val (.int p0), .val (.int p1), .val (.int p2), .val (.int p3), .val (.int p4), .val (.int (1 : Int32)), .val (.int d0), .val (.int d1), .val (.int d2), .val (.int f0), .val (.int f1), .val (.int f2), .val (.ref b1), .val (.ref b3), .val (.ref b8), .val (.ref b10), .unset, .unset, .unset]) rfl (q := 129) rfl ?_
    refine o_iload X11 at_129 rfl (q := 131) rfl ?_
    refine o_istore X11 at_131 rfl (L' := #[.val (.int p0), .val (.int p1), .val (.int p2), .val (.int p3), .val (.int p4), .val (.int (1 : Int32)), .val (.int d0), .val (.int d1), .val (.int d2), .val (.int f0), .val (.int f1), .val (.int f2), .val (.ref b1), .val (.ref b3), .val (.ref b8), .val (.ref b10), .val (.int d0), .unset, .unset]) rfl (q := 133) rfl ?_
    refine o_goto X11 at_133 (by decide) (q := 223) (by decide) ?_
    refine o_new X11 (w34 hw) (w35 hw) (w36 hw) at_223 (by decide) (by decide) (q := 226) rfl ?_
    intro T12 h12 b12 gb12 X12 E12 A12 D12 g0_b12
    have f13 : Fld Z h12 b12 "com/example/pomona/pomona/index/PostingsList" "term" "Ljava/lang/String;" .null := D12 (Or.inr (w42 hw)) (ty := (.object "java/lang/String")) (by decide)
    have f14 : Fld Z h12 b12 "com/example/pomona/pomona/index/PostingsList" "documents" "[I" .null := D12 (Or.inr (w44 hw)) (ty := (.array .int)) (by decide)
    have f15 : Fld Z h12 b12 "com/example/pomona/pomona/index/PostingsList" "frequencies" "[I" .null := D12 (Or.inr (w46 hw)) (ty := (.array .int)) (by decide)
    have f16 : Fld Z h12 b12 "com/example/pomona/pomona/index/PostingsList" "collectionFrequency" "J" (.long (0 : Int64)) := D12 (Or.inr (w48 hw)) (ty := .long) (by decide)
    refine o_dup X12 at_226 rfl (q := 227) rfl ?_
    refine o_aload X12 at_227 rfl rfl (q := 229) rfl ?_
    refine o_aload X12 at_229 rfl rfl (q := 231) rfl ?_
    refine o_aload X12 at_231 rfl rfl (q := 233) rfl ?_
    have f17 := (((V9.ext E10).other W11 (Nat.ne_of_lt (Nat.lt_of_lt_of_le V9.lt (Nat.le_of_eq gb10.symm)))).ext E12)
    have f18 := (V11.ext E12)
    refine o_spec X12 [(.ref b3), (.ref b8), (.ref b10)] (y' := (⟨"com/example/pomona/pomona/index/PostingsList", "<init>", "(Ljava/lang/String;[I[I)V"⟩ : MethodName)) (c_init1 hw b12 b3 b8 b10 d0 f0 _ A12 g0_b12 f13 f14 f15 f16 f17 f18 (own_hd0 h_d0) (own_hf h_f0)) rfl (w37 hw) (w38 hw) (w39 hw) (w36 hw) (by decide) at_233 (rest := [(.ref b12)]) rfl rfl (lenOf pd1 rfl) rfl (by decide) (Nat.le_of_ble_eq_true rfl) (by decide) (by decide) (q := 236) rfl ?_
    intro v19 T19 h19 l19 X19 q19
    obtain ⟨rfl, K19, F19⟩ := q19
    show Goes p e below _ T19 (mkF m 236 #[.val (.int p0), .val (.int p1), .val (.int p2), .val (.int p3), .val (.int p4), .val (.int (1 : Int32)), .val (.int d0), .val (.int d1), .val (.int d2), .val (.int f0), .val (.int f1), .val (.int f2), .val (.ref b1), .val (.ref b3), .val (.ref b8), .val (.ref b10), .val (.int d0), .unset, .unset] [(.ref b12)])
    refine o_astore X19 at_236 rfl (L' := #[.val (.int p0), .val (.int p1), .val (.int p2), .val (.int p3), .val (.int p4), .val (.int (1 : Int32)), .val (.int d0), .val (.int d1), .val (.int d2), .val (.int f0), .val (.int f1), .val (.int f2), .val (.ref b1), .val (.ref b3), .val (.ref b8), .val (.ref b10), .val (.int d0), .val (.ref b12), .unset]) rfl (q := 238) rfl ?_
    refine o_aload X19 at_238 rfl rfl (q := 240) rfl ?_
    have f20 := (f17.keep K19 (ninS (Nat.ne_of_lt (Nat.lt_of_lt_of_le (Nat.lt_of_lt_of_le (Nat.lt_of_lt_of_le V9.lt E10.1) (Keep.of_wr W11).1) (Nat.le_of_eq gb12.symm))) nin0))
    have f22 := (A12.keep K19)
    refine o_virt X19 [] (y' := (⟨"com/example/pomona/pomona/index/PostingsList", "lastDocument", "()I"⟩ : MethodName)) f22 (c_last1 hw b12 b8 d0 _ F19 f20) (w49 hw) (w50 hw) (w52 hw) (w51 hw) (w53 hw) (w36 hw) (by decide) at_240 (rest := []) rfl rfl (lenOf pd2 rfl) rfl (by decide) (Nat.le_of_ble_eq_true rfl) (by decide) (by decide) (q := 243) rfl ?_
    intro v21 T21 h21 l21 X21 q21
    obtain ⟨rfl, e21⟩ := q21
    subst e21
    show Goes p e below _ T21 (mkF m 243 #[.val (.int p0), .val (.int p1), .val (.int p2), .val (.int p3), .val (.int p4), .val (.int (1 : Int32)), .val (.int d0), .val (.int d1), .val (.int d2), .val (.int f0), .val (.int f1), .val (.int f2), .val (.ref b1), .val (.ref b3), .val (.ref b8), .val (.ref b10), .val (.int d0), .val (.ref b12), .unset] [(.int d0)])
    refine o_istore X21 at_243 rfl (L' := #[.val (.int p0), .val (.int p1), .val (.int p2), .val (.int p3), .val (.int p4), .val (.int (1 : Int32)), .val (.int d0), .val (.int d1), .val (.int d2), .val (.int f0), .val (.int f1), .val (.int f2), .val (.ref b1), .val (.ref b3), .val (.ref b8), .val (.ref b10), .val (.int d0), .val (.ref b12), .val (.int d0)]) rfl (q := 245) rfl ?_
    refine o_iload X21 at_245 rfl (q := 247) rfl ?_
    refine o_iload X21 at_247 rfl (q := 249) rfl ?_
    refine o_icmpN X21 at_249 (teq rfl).2 (q := 252) rfl ?_
    refine o_iload X21 at_252 rfl (q := 254) rfl ?_
    refine o_aload X21 at_254 rfl rfl (q := 256) rfl ?_
    refine o_iload X21 at_256 rfl (q := 258) rfl ?_
    refine o_iconst X21 at_258 (w := 1) rfl (q := 259) rfl ?_
    refine o_isub X21 at_259 (w := (0 : Int32)) (by decide) (q := 260) rfl ?_
    refine o_virt X21 [(.int (0 : Int32))] (y' := (⟨"com/example/pomona/pomona/index/PostingsList", "document", "(I)I"⟩ : MethodName)) f22 (c_doc1 hw b12 b8 d0 _ F19 f20) (w54 hw) (w55 hw) (w57 hw) (w56 hw) (w58 hw) (w36 hw) (by decide) at_260 (rest := [(.int d0)]) rfl rfl (lenOf pd3 rfl) rfl (by decide) (Nat.le_of_ble_eq_true rfl) (by decide) (by decide) (q := 263) rfl ?_
    intro v23 T23 h23 l23 X23 q23
    obtain ⟨rfl, e23⟩ := q23
    subst e23
    show Goes p e below _ T23 (mkF m 263 #[.val (.int p0), .val (.int p1), .val (.int p2), .val (.int p3), .val (.int p4), .val (.int (1 : Int32)), .val (.int d0), .val (.int d1), .val (.int d2), .val (.int f0), .val (.int f1), .val (.int f2), .val (.ref b1), .val (.ref b3), .val (.ref b8), .val (.ref b10), .val (.int d0), .val (.ref b12), .val (.int d0)] [(.int d0), (.int d0)])
    refine o_icmpN X23 at_263 (teq rfl).2 (q := 266) rfl ?_
    refine o_iload X23 at_266 rfl (q := 268) rfl ?_
    refine o_iload X23 at_268 rfl (q := 270) rfl ?_
    refine o_icmpN X23 at_270 (flt (own_irr d0)).1 (q := 273) rfl ?_
    refine o_iconst X23 at_273 (w := 1) rfl (q := 274) rfl ?_
    refine o_goto X23 at_274 (by decide) (q := 278) (by decide) ?_
    exact o_retN X23 at_278 (by simp) rfl (by decide) (by decide)
  · refine o_icmpY X7 at_106 (by decide) (by decide) (q := 136) (by decide) ?_
    refine o_iload X7 at_136 rfl (q := 138) rfl ?_
    refine o_iconst X7 at_138 (w := 2) rfl (q := 139) rfl ?_
    refine o_icmpN X7 at_139 (by decide) (q := 142) rfl ?_
    refine o_iconst X7 at_142 (w := 2) rfl (q := 143) rfl ?_
    refine o_newarr X7 (aty := .int) (cap := 2) 2 (w33 hw) at_143 (by decide) (by decide) (by decide) (by decide) (by decide) (q := 145) rfl ?_
    intro T24 h24 b24 k24 gb24 X24 E24 V24 g0_b24
    have V24 : Arv Z h24 b24 k24 .int (2 : Int32) [(.int (0 : Int32)), (.int (0 : Int32))] (.int (0 : Int32)) := V24
    refine o_dup X24 at_145 rfl (q := 146) rfl ?_
    refine o_iconst X24 at_146 (w := 0) rfl (q := 147) rfl ?_
    refine o_iload X24 at_147 rfl (q := 149) rfl ?_
    refine o_iastore X24 0 V24 g0_b24 (by decide) rfl (Nat.le_of_ble_eq_true rfl) (v := (.int d0)) rfl at_149 (q := 150) rfl ?_
    intro T25 h25 l25 X25 W25 V25
    have V25 : Arv Z h25 b24 k24 .int (2 : Int32) [(.int d0), (.int (0 : Int32))] (.int (0 : Int32)) := V25
    refine o_dup X25 at_150 rfl (q := 151) rfl ?_
    refine o_iconst X25 at_151 (w := 1) rfl (q := 152) rfl ?_
    refine o_iload X25 at_152 rfl (q := 154) rfl ?_
    refine o_iastore X25 1 V25 g0_b24 (by decide) rfl (Nat.le_of_ble_eq_true rfl) (v := (.int d1)) rfl at_154 (q := 155) rfl ?_
    intro T26 h26 l26 X26 W26 V26
    have V26 : Arv Z h26 b24 k24 .int (2 : Int32) [(.int d0), (.int d1)] (.int (0 : Int32)) := V26
    refine o_astore X26 at_155 rfl (L' := #[.val (.int p0), .val (.int p1), .val (.int p2), .val (.int p3), .val (.int p4), .val (.int (2 : Int32)), .val (.int d0), .val (.int d1), .val (.int d2), .val (.int f0), .val (.int f1), .val (.int f2), .val (.ref b1), .val (.ref b3), .val (.ref b24), .unset, .unset, .unset, .unset]) rfl (q := 157) rfl ?_
    refine o_iconst X26 at_157 (w := 2) rfl (q := 158) rfl ?_
    refine o_newarr X26 (aty := .int) (cap := 2) 2 (w33 hw) at_158 (by decide) (by decide) (by decide) (by decide) (by decide) (q := 160) rfl ?_
    intro T27 h27 b27 k27 gb27 X27 E27 V27 g0_b27
    have V27 : Arv Z h27 b27 k27 .int (2 : Int32) [(.int (0 : Int32)), (.int (0 : Int32))] (.int (0 : Int32)) := V27
    refine o_dup X27 at_160 rfl (q := 161) rfl ?_
    refine o_iconst X27 at_161 (w := 0) rfl (q := 162) rfl ?_
    refine o_iload X27 at_162 rfl (q := 164) rfl ?_
    refine o_iastore X27 0 V27 g0_b27 (by decide) rfl (Nat.le_of_ble_eq_true rfl) (v := (.int f0)) rfl at_164 (q := 165) rfl ?_
    intro T28 h28 l28 X28 W28 V28
    have V28 : Arv Z h28 b27 k27 .int (2 : Int32) [(.int f0), (.int (0 : Int32))] (.int (0 : Int32)) := V28
    refine o_dup X28 at_165 rfl (q := 166) rfl ?_
    refine o_iconst X28 at_166 (w := 1) rfl (q := 167) rfl ?_
    refine o_iload X28 at_167 rfl (q := 169) rfl ?_
    refine o_iastore X28 1 V28 g0_b27 (by decide) rfl (Nat.le_of_ble_eq_true rfl) (v := (.int f1)) rfl at_169 (q := 170) rfl ?_
    intro T29 h29 l29 X29 W29 V29
    have V29 : Arv Z h29 b27 k27 .int (2 : Int32) [(.int f0), (.int f1)] (.int (0 : Int32)) := V29
    refine o_astore X29 at_170 rfl (L' := #[.val (.int p0), .val (.int p1), .val (.int p2), .val (.int p3), .val (.int p4), .val (.int (2 : Int32)), .val (.int d0), .val (.int d1), .val (.int d2), .val (.int f0), .val (.int f1), .val (.int f2), .val (.ref b1), .val (.ref b3), .val (.ref b24), .val (.ref b27), .unset, .unset, .unset]) rfl (q := 172) rfl ?_
    refine o_iload X29 at_172 rfl (q := 174) rfl ?_
    refine o_istore X29 at_174 rfl (L' := #[.val (.int p0), .val (.int p1), .val (.int p2), .val (.int p3), .val (.int p4), .val (.int (2 : Int32)), .val (.int d0), .val (.int d1), .val (.int d2), .val (.int f0), .val (.int f1), .val (.int f2), .val (.ref b1), .val (.ref b3), .val (.ref b24), .val (.ref b27), .val (.int d1), .unset, .unset]) rfl (q := 176) rfl ?_
    refine o_goto X29 at_176 (by decide) (q := 223) (by decide) ?_
    refine o_new X29 (w34 hw) (w35 hw) (w36 hw) at_223 (by decide) (by decide) (q := 226) rfl ?_
    intro T30 h30 b30 gb30 X30 E30 A30 D30 g0_b30
    have f31 : Fld Z h30 b30 "com/example/pomona/pomona/index/PostingsList" "term" "Ljava/lang/String;" .null := D30 (Or.inr (w42 hw)) (ty := (.object "java/lang/String")) (by decide)
    have f32 : Fld Z h30 b30 "com/example/pomona/pomona/index/PostingsList" "documents" "[I" .null := D30 (Or.inr (w44 hw)) (ty := (.array .int)) (by decide)
    have f33 : Fld Z h30 b30 "com/example/pomona/pomona/index/PostingsList" "frequencies" "[I" .null := D30 (Or.inr (w46 hw)) (ty := (.array .int)) (by decide)
    have f34 : Fld Z h30 b30 "com/example/pomona/pomona/index/PostingsList" "collectionFrequency" "J" (.long (0 : Int64)) := D30 (Or.inr (w48 hw)) (ty := .long) (by decide)
    refine o_dup X30 at_226 rfl (q := 227) rfl ?_
    refine o_aload X30 at_227 rfl rfl (q := 229) rfl ?_
    refine o_aload X30 at_229 rfl rfl (q := 231) rfl ?_
    refine o_aload X30 at_231 rfl rfl (q := 233) rfl ?_
    have f35 := ((((V26.ext E27).other W28 (Nat.ne_of_lt (Nat.lt_of_lt_of_le V26.lt (Nat.le_of_eq gb27.symm)))).other W29 (Nat.ne_of_lt (Nat.lt_of_lt_of_le V26.lt (Nat.le_of_eq gb27.symm)))).ext E30)
    have f36 := (V29.ext E30)
    refine o_spec X30 [(.ref b3), (.ref b24), (.ref b27)] (y' := (⟨"com/example/pomona/pomona/index/PostingsList", "<init>", "(Ljava/lang/String;[I[I)V"⟩ : MethodName)) (c_init2 hw b30 b3 b24 b27 d0 f0 d1 f1 _ A30 g0_b30 f31 f32 f33 f34 f35 f36 (own_hd0 h_d0) (own_hf h_f0) (own_hd1 h_d0 h_d1) (own_hf h_f1)) rfl (w37 hw) (w38 hw) (w39 hw) (w36 hw) (by decide) at_233 (rest := [(.ref b30)]) rfl rfl (lenOf pd1 rfl) rfl (by decide) (Nat.le_of_ble_eq_true rfl) (by decide) (by decide) (q := 236) rfl ?_
    intro v37 T37 h37 l37 X37 q37
    obtain ⟨rfl, K37, F37⟩ := q37
    show Goes p e below _ T37 (mkF m 236 #[.val (.int p0), .val (.int p1), .val (.int p2), .val (.int p3), .val (.int p4), .val (.int (2 : Int32)), .val (.int d0), .val (.int d1), .val (.int d2), .val (.int f0), .val (.int f1), .val (.int f2), .val (.ref b1), .val (.ref b3), .val (.ref b24), .val (.ref b27), .val (.int d1), .unset, .unset] [(.ref b30)])
    refine o_astore X37 at_236 rfl (L' := #[.val (.int p0), .val (.int p1), .val (.int p2), .val (.int p3), .val (.int p4), .val (.int (2 : Int32)), .val (.int d0), .val (.int d1), .val (.int d2), .val (.int f0), .val (.int f1), .val (.int f2), .val (.ref b1), .val (.ref b3), .val (.ref b24), .val (.ref b27), .val (.int d1), .val (.ref b30), .unset]) rfl (q := 238) rfl ?_
    refine o_aload X37 at_238 rfl rfl (q := 240) rfl ?_
    have f38 := (f35.keep K37 (ninS (Nat.ne_of_lt (Nat.lt_of_lt_of_le (Nat.lt_of_lt_of_le (Nat.lt_of_lt_of_le (Nat.lt_of_lt_of_le V26.lt E27.1) (Keep.of_wr W28).1) (Keep.of_wr W29).1) (Nat.le_of_eq gb30.symm))) nin0))
    have f40 := (A30.keep K37)
    refine o_virt X37 [] (y' := (⟨"com/example/pomona/pomona/index/PostingsList", "lastDocument", "()I"⟩ : MethodName)) f40 (c_last2 hw b30 b24 d0 d1 _ F37 f38) (w49 hw) (w50 hw) (w52 hw) (w51 hw) (w53 hw) (w36 hw) (by decide) at_240 (rest := []) rfl rfl (lenOf pd2 rfl) rfl (by decide) (Nat.le_of_ble_eq_true rfl) (by decide) (by decide) (q := 243) rfl ?_
    intro v39 T39 h39 l39 X39 q39
    obtain ⟨rfl, e39⟩ := q39
    subst e39
    show Goes p e below _ T39 (mkF m 243 #[.val (.int p0), .val (.int p1), .val (.int p2), .val (.int p3), .val (.int p4), .val (.int (2 : Int32)), .val (.int d0), .val (.int d1), .val (.int d2), .val (.int f0), .val (.int f1), .val (.int f2), .val (.ref b1), .val (.ref b3), .val (.ref b24), .val (.ref b27), .val (.int d1), .val (.ref b30), .unset] [(.int d1)])
    refine o_istore X39 at_243 rfl (L' := #[.val (.int p0), .val (.int p1), .val (.int p2), .val (.int p3), .val (.int p4), .val (.int (2 : Int32)), .val (.int d0), .val (.int d1), .val (.int d2), .val (.int f0), .val (.int f1), .val (.int f2), .val (.ref b1), .val (.ref b3), .val (.ref b24), .val (.ref b27), .val (.int d1), .val (.ref b30), .val (.int d1)]) rfl (q := 245) rfl ?_
    refine o_iload X39 at_245 rfl (q := 247) rfl ?_
    refine o_iload X39 at_247 rfl (q := 249) rfl ?_
    refine o_icmpN X39 at_249 (teq rfl).2 (q := 252) rfl ?_
    refine o_iload X39 at_252 rfl (q := 254) rfl ?_
    refine o_aload X39 at_254 rfl rfl (q := 256) rfl ?_
    refine o_iload X39 at_256 rfl (q := 258) rfl ?_
    refine o_iconst X39 at_258 (w := 1) rfl (q := 259) rfl ?_
    refine o_isub X39 at_259 (w := (1 : Int32)) (by decide) (q := 260) rfl ?_
    refine o_virt X39 [(.int (1 : Int32))] (y' := (⟨"com/example/pomona/pomona/index/PostingsList", "document", "(I)I"⟩ : MethodName)) f40 (c_doc2 hw b30 b24 d0 d1 _ F37 f38) (w54 hw) (w55 hw) (w57 hw) (w56 hw) (w58 hw) (w36 hw) (by decide) at_260 (rest := [(.int d1)]) rfl rfl (lenOf pd3 rfl) rfl (by decide) (Nat.le_of_ble_eq_true rfl) (by decide) (by decide) (q := 263) rfl ?_
    intro v41 T41 h41 l41 X41 q41
    obtain ⟨rfl, e41⟩ := q41
    subst e41
    show Goes p e below _ T41 (mkF m 263 #[.val (.int p0), .val (.int p1), .val (.int p2), .val (.int p3), .val (.int p4), .val (.int (2 : Int32)), .val (.int d0), .val (.int d1), .val (.int d2), .val (.int f0), .val (.int f1), .val (.int f2), .val (.ref b1), .val (.ref b3), .val (.ref b24), .val (.ref b27), .val (.int d1), .val (.ref b30), .val (.int d1)] [(.int d1), (.int d1)])
    refine o_icmpN X41 at_263 (teq rfl).2 (q := 266) rfl ?_
    refine o_iload X41 at_266 rfl (q := 268) rfl ?_
    refine o_iload X41 at_268 rfl (q := 270) rfl ?_
    refine o_icmpN X41 at_270 (flt (own_ge1 h_d0 h_d1)).1 (q := 273) rfl ?_
    refine o_iconst X41 at_273 (w := 1) rfl (q := 274) rfl ?_
    refine o_goto X41 at_274 (by decide) (q := 278) (by decide) ?_
    exact o_retN X41 at_278 (by simp) rfl (by decide) (by decide)
  · refine o_icmpY X7 at_106 (by decide) (by decide) (q := 136) (by decide) ?_
    refine o_iload X7 at_136 rfl (q := 138) rfl ?_
    refine o_iconst X7 at_138 (w := 2) rfl (q := 139) rfl ?_
    refine o_icmpY X7 at_139 (by decide) (by decide) (q := 179) (by decide) ?_
    refine o_iconst X7 at_179 (w := 3) rfl (q := 180) rfl ?_
    refine o_newarr X7 (aty := .int) (cap := 3) 3 (w33 hw) at_180 (by decide) (by decide) (by decide) (by decide) (by decide) (q := 182) rfl ?_
    intro T42 h42 b42 k42 gb42 X42 E42 V42 g0_b42
    have V42 : Arv Z h42 b42 k42 .int (3 : Int32) [(.int (0 : Int32)), (.int (0 : Int32)), (.int (0 : Int32))] (.int (0 : Int32)) := V42
    refine o_dup X42 at_182 rfl (q := 183) rfl ?_
    refine o_iconst X42 at_183 (w := 0) rfl (q := 184) rfl ?_
    refine o_iload X42 at_184 rfl (q := 186) rfl ?_
    refine o_iastore X42 0 V42 g0_b42 (by decide) rfl (Nat.le_of_ble_eq_true rfl) (v := (.int d0)) rfl at_186 (q := 187) rfl ?_
    intro T43 h43 l43 X43 W43 V43
    have V43 : Arv Z h43 b42 k42 .int (3 : Int32) [(.int d0), (.int (0 : Int32)), (.int (0 : Int32))] (.int (0 : Int32)) := V43
    refine o_dup X43 at_187 rfl (q := 188) rfl ?_
    refine o_iconst X43 at_188 (w := 1) rfl (q := 189) rfl ?_
    refine o_iload X43 at_189 rfl (q := 191) rfl ?_
    refine o_iastore X43 1 V43 g0_b42 (by decide) rfl (Nat.le_of_ble_eq_true rfl) (v := (.int d1)) rfl at_191 (q := 192) rfl ?_
    intro T44 h44 l44 X44 W44 V44
    have V44 : Arv Z h44 b42 k42 .int (3 : Int32) [(.int d0), (.int d1), (.int (0 : Int32))] (.int (0 : Int32)) := V44
    refine o_dup X44 at_192 rfl (q := 193) rfl ?_
    refine o_iconst X44 at_193 (w := 2) rfl (q := 194) rfl ?_
    refine o_iload X44 at_194 rfl (q := 196) rfl ?_
    refine o_iastore X44 2 V44 g0_b42 (by decide) rfl (Nat.le_of_ble_eq_true rfl) (v := (.int d2)) rfl at_196 (q := 197) rfl ?_
    intro T45 h45 l45 X45 W45 V45
    have V45 : Arv Z h45 b42 k42 .int (3 : Int32) [(.int d0), (.int d1), (.int d2)] (.int (0 : Int32)) := V45
    refine o_astore X45 at_197 rfl (L' := #[.val (.int p0), .val (.int p1), .val (.int p2), .val (.int p3), .val (.int p4), .val (.int (3 : Int32)), .val (.int d0), .val (.int d1), .val (.int d2), .val (.int f0), .val (.int f1), .val (.int f2), .val (.ref b1), .val (.ref b3), .val (.ref b42), .unset, .unset, .unset, .unset]) rfl (q := 199) rfl ?_
    refine o_iconst X45 at_199 (w := 3) rfl (q := 200) rfl ?_
    refine o_newarr X45 (aty := .int) (cap := 3) 3 (w33 hw) at_200 (by decide) (by decide) (by decide) (by decide) (by decide) (q := 202) rfl ?_
    intro T46 h46 b46 k46 gb46 X46 E46 V46 g0_b46
    have V46 : Arv Z h46 b46 k46 .int (3 : Int32) [(.int (0 : Int32)), (.int (0 : Int32)), (.int (0 : Int32))] (.int (0 : Int32)) := V46
    refine o_dup X46 at_202 rfl (q := 203) rfl ?_
    refine o_iconst X46 at_203 (w := 0) rfl (q := 204) rfl ?_
    refine o_iload X46 at_204 rfl (q := 206) rfl ?_
    refine o_iastore X46 0 V46 g0_b46 (by decide) rfl (Nat.le_of_ble_eq_true rfl) (v := (.int f0)) rfl at_206 (q := 207) rfl ?_
    intro T47 h47 l47 X47 W47 V47
    have V47 : Arv Z h47 b46 k46 .int (3 : Int32) [(.int f0), (.int (0 : Int32)), (.int (0 : Int32))] (.int (0 : Int32)) := V47
    refine o_dup X47 at_207 rfl (q := 208) rfl ?_
    refine o_iconst X47 at_208 (w := 1) rfl (q := 209) rfl ?_
    refine o_iload X47 at_209 rfl (q := 211) rfl ?_
    refine o_iastore X47 1 V47 g0_b46 (by decide) rfl (Nat.le_of_ble_eq_true rfl) (v := (.int f1)) rfl at_211 (q := 212) rfl ?_
    intro T48 h48 l48 X48 W48 V48
    have V48 : Arv Z h48 b46 k46 .int (3 : Int32) [(.int f0), (.int f1), (.int (0 : Int32))] (.int (0 : Int32)) := V48
    refine o_dup X48 at_212 rfl (q := 213) rfl ?_
    refine o_iconst X48 at_213 (w := 2) rfl (q := 214) rfl ?_
    refine o_iload X48 at_214 rfl (q := 216) rfl ?_
    refine o_iastore X48 2 V48 g0_b46 (by decide) rfl (Nat.le_of_ble_eq_true rfl) (v := (.int f2)) rfl at_216 (q := 217) rfl ?_
    intro T49 h49 l49 X49 W49 V49
    have V49 : Arv Z h49 b46 k46 .int (3 : Int32) [(.int f0), (.int f1), (.int f2)] (.int (0 : Int32)) := V49
    refine o_astore X49 at_217 rfl (L' := #[.val (.int p0), .val (.int p1), .val (.int p2), .val (.int p3), .val (.int p4), .val (.int (3 : Int32)), .val (.int d0), .val (.int d1), .val (.int d2), .val (.int f0), .val (.int f1), .val (.int f2), .val (.ref b1), .val (.ref b3), .val (.ref b42), .val (.ref b46), .unset, .unset, .unset]) rfl (q := 219) rfl ?_
    refine o_iload X49 at_219 rfl (q := 221) rfl ?_
    refine o_istore X49 at_221 rfl (L' := #[.val (.int p0), .val (.int p1), .val (.int p2), .val (.int p3), .val (.int p4), .val (.int (3 : Int32)), .val (.int d0), .val (.int d1), .val (.int d2), .val (.int f0), .val (.int f1), .val (.int f2), .val (.ref b1), .val (.ref b3), .val (.ref b42), .val (.ref b46), .val (.int d2), .unset, .unset]) rfl (q := 223) rfl ?_
    refine o_new X49 (w34 hw) (w35 hw) (w36 hw) at_223 (by decide) (by decide) (q := 226) rfl ?_
    intro T50 h50 b50 gb50 X50 E50 A50 D50 g0_b50
    have f51 : Fld Z h50 b50 "com/example/pomona/pomona/index/PostingsList" "term" "Ljava/lang/String;" .null := D50 (Or.inr (w42 hw)) (ty := (.object "java/lang/String")) (by decide)
    have f52 : Fld Z h50 b50 "com/example/pomona/pomona/index/PostingsList" "documents" "[I" .null := D50 (Or.inr (w44 hw)) (ty := (.array .int)) (by decide)
    have f53 : Fld Z h50 b50 "com/example/pomona/pomona/index/PostingsList" "frequencies" "[I" .null := D50 (Or.inr (w46 hw)) (ty := (.array .int)) (by decide)
    have f54 : Fld Z h50 b50 "com/example/pomona/pomona/index/PostingsList" "collectionFrequency" "J" (.long (0 : Int64)) := D50 (Or.inr (w48 hw)) (ty := .long) (by decide)
    refine o_dup X50 at_226 rfl (q := 227) rfl ?_
    refine o_aload X50 at_227 rfl rfl (q := 229) rfl ?_
    refine o_aload X50 at_229 rfl rfl (q := 231) rfl ?_
    refine o_aload X50 at_231 rfl rfl (q := 233) rfl ?_
    have f55 := (((((V45.ext E46).other W47 (Nat.ne_of_lt (Nat.lt_of_lt_of_le V45.lt (Nat.le_of_eq gb46.symm)))).other W48 (Nat.ne_of_lt (Nat.lt_of_lt_of_le V45.lt (Nat.le_of_eq gb46.symm)))).other W49 (Nat.ne_of_lt (Nat.lt_of_lt_of_le V45.lt (Nat.le_of_eq gb46.symm)))).ext E50)
    have f56 := (V49.ext E50)
    refine o_spec X50 [(.ref b3), (.ref b42), (.ref b46)] (y' := (⟨"com/example/pomona/pomona/index/PostingsList", "<init>", "(Ljava/lang/String;[I[I)V"⟩ : MethodName)) (c_init3 hw b50 b3 b42 b46 d0 f0 d1 f1 d2 f2 _ A50 g0_b50 f51 f52 f53 f54 f55 f56 (own_hd0 h_d0) (own_hf h_f0) (own_hd1 h_d0 h_d1) (own_hf h_f1) (own_hd2 h_d0 h_d1 h_d2) (own_hf h_f2)) rfl (w37 hw) (w38 hw) (w39 hw) (w36 hw) (by decide) at_233 (rest := [(.ref b50)]) rfl rfl (lenOf pd1 rfl) rfl (by decide) (Nat.le_of_ble_eq_true rfl) (by decide) (by decide) (q := 236) rfl ?_
    intro v57 T57 h57 l57 X57 q57
    obtain ⟨rfl, K57, F57⟩ := q57
    show Goes p e below _ T57 (mkF m 236 #[.val (.int p0), .val (.int p1), .val (.int p2), .val (.int p3), .val (.int p4), .val (.int (3 : Int32)), .val (.int d0), .val (.int d1), .val (.int d2), .val (.int f0), .val (.int f1), .val (.int f2), .val (.ref b1), .val (.ref b3), .val (.ref b42), .val (.ref b46), .val (.int d2), .unset, .unset] [(.ref b50)])
    refine o_astore X57 at_236 rfl (L' := #[.val (.int p0), .val (.int p1), .val (.int p2), .val (.int p3), .val (.int p4), .val (.int (3 : Int32)), .val (.int d0), .val (.int d1), .val (.int d2), .val (.int f0), .val (.int f1), .val (.int f2), .val (.ref b1), .val (.ref b3), .val (.ref b42), .val (.ref b46), .val (.int d2), .val (.ref b50), .unset]) rfl (q := 238) rfl ?_
    refine o_aload X57 at_238 rfl rfl (q := 240) rfl ?_
    have f58 := (f55.keep K57 (ninS (Nat.ne_of_lt (Nat.lt_of_lt_of_le (Nat.lt_of_lt_of_le (Nat.lt_of_lt_of_le (Nat.lt_of_lt_of_le (Nat.lt_of_lt_of_le V45.lt E46.1) (Keep.of_wr W47).1) (Keep.of_wr W48).1) (Keep.of_wr W49).1) (Nat.le_of_eq gb50.symm))) nin0))
    have f60 := (A50.keep K57)
    refine o_virt X57 [] (y' := (⟨"com/example/pomona/pomona/index/PostingsList", "lastDocument", "()I"⟩ : MethodName)) f60 (c_last3 hw b50 b42 d0 d1 d2 _ F57 f58) (w49 hw) (w50 hw) (w52 hw) (w51 hw) (w53 hw) (w36 hw) (by decide) at_240 (rest := []) rfl rfl (lenOf pd2 rfl) rfl (by decide) (Nat.le_of_ble_eq_true rfl) (by decide) (by decide) (q := 243) rfl ?_
    intro v59 T59 h59 l59 X59 q59
    obtain ⟨rfl, e59⟩ := q59
    subst e59
    show Goes p e below _ T59 (mkF m 243 #[.val (.int p0), .val (.int p1), .val (.int p2), .val (.int p3), .val (.int p4), .val (.int (3 : Int32)), .val (.int d0), .val (.int d1), .val (.int d2), .val (.int f0), .val (.int f1), .val (.int f2), .val (.ref b1), .val (.ref b3), .val (.ref b42), .val (.ref b46), .val (.int d2), .val (.ref b50), .unset] [(.int d2)])
    refine o_istore X59 at_243 rfl (L' := #[.val (.int p0), .val (.int p1), .val (.int p2), .val (.int p3), .val (.int p4), .val (.int (3 : Int32)), .val (.int d0), .val (.int d1), .val (.int d2), .val (.int f0), .val (.int f1), .val (.int f2), .val (.ref b1), .val (.ref b3), .val (.ref b42), .val (.ref b46), .val (.int d2), .val (.ref b50), .val (.int d2)]) rfl (q := 245) rfl ?_
    refine o_iload X59 at_245 rfl (q := 247) rfl ?_
    refine o_iload X59 at_247 rfl (q := 249) rfl ?_
    refine o_icmpN X59 at_249 (teq rfl).2 (q := 252) rfl ?_
    refine o_iload X59 at_252 rfl (q := 254) rfl ?_
    refine o_aload X59 at_254 rfl rfl (q := 256) rfl ?_
    refine o_iload X59 at_256 rfl (q := 258) rfl ?_
    refine o_iconst X59 at_258 (w := 1) rfl (q := 259) rfl ?_
    refine o_isub X59 at_259 (w := (2 : Int32)) (by decide) (q := 260) rfl ?_
    refine o_virt X59 [(.int (2 : Int32))] (y' := (⟨"com/example/pomona/pomona/index/PostingsList", "document", "(I)I"⟩ : MethodName)) f60 (c_doc3 hw b50 b42 d0 d1 d2 _ F57 f58) (w54 hw) (w55 hw) (w57 hw) (w56 hw) (w58 hw) (w36 hw) (by decide) at_260 (rest := [(.int d2)]) rfl rfl (lenOf pd3 rfl) rfl (by decide) (Nat.le_of_ble_eq_true rfl) (by decide) (by decide) (q := 263) rfl ?_
    intro v61 T61 h61 l61 X61 q61
    obtain ⟨rfl, e61⟩ := q61
    subst e61
    show Goes p e below _ T61 (mkF m 263 #[.val (.int p0), .val (.int p1), .val (.int p2), .val (.int p3), .val (.int p4), .val (.int (3 : Int32)), .val (.int d0), .val (.int d1), .val (.int d2), .val (.int f0), .val (.int f1), .val (.int f2), .val (.ref b1), .val (.ref b3), .val (.ref b42), .val (.ref b46), .val (.int d2), .val (.ref b50), .val (.int d2)] [(.int d2), (.int d2)])
    refine o_icmpN X61 at_263 (teq rfl).2 (q := 266) rfl ?_
    refine o_iload X61 at_266 rfl (q := 268) rfl ?_
    refine o_iload X61 at_268 rfl (q := 270) rfl ?_
    refine o_icmpN X61 at_270 (flt (own_ge2 h_d0 h_d1 h_d2)).1 (q := 273) rfl ?_
    refine o_iconst X61 at_273 (w := 1) rfl (q := 274) rfl ?_
    refine o_goto X61 at_274 (by decide) (q := 278) (by decide) ?_
    exact o_retN X61 at_278 (by simp) rfl (by decide) (by decide)
set_option maxRecDepth 65536 in
set_option maxHeartbeats 40000000 in
theorem comes_1 {Post : Tables → Env → Array Value → State → Outcome → State → Prop} (hpost : ∀ tb e args s v u, (limb_1_1.after args s (.returned v) u = true ∧ limb_1_2.after args s (.returned v) u = true ∧ True) → FrameEnd s (.returned v) u (Jvm.fieldLocs frame_1_writes args s ++ Jvm.arrayLocs frame_1_arrays args s ++ Jvm.staticLocs frame_1_statics s) 24 128 → Post tb e args s (.returned v) u) :
    ArmFor flags0 classFile x code maxLocals ret World_1 tables_1 room_1 Calls_1 rest_1 Pre_1 Post := by
  intro l hfl _ _ p e ha hc hk s m args below hf hA hF happ hP
  obtain ⟨hcalls, hrest, hpre⟩ := hP
  obtain ⟨-, -, -, hnamed, -, -, -, hat⟩ := (Spec.applies_iff hf).mp happ
  obtain ⟨hg, hn⟩ := and_e (Cond.before_iff.mp (show (Jvm.Cond.and given_1 narrow_1).before args s = true from hpre))
  obtain ⟨hcount, hg0⟩ := and_e hg
  obtain ⟨ga0, hg1⟩ := and_e hg0
  obtain ⟨ga1, hg2⟩ := and_e hg1
  obtain ⟨ga2, hg3⟩ := and_e hg2
  obtain ⟨ga3, hg4⟩ := and_e hg3
  obtain ⟨w0, w1, w2, w3, w4, rfl⟩ : ∃ w0 w1 w2 w3 w4 : Value, args = #[w0, w1, w2, w3, w4] := by
    have hs : args.size = 5 := by simpa [Cond.value, given_1] using hcount
    obtain ⟨L⟩ := args
    match L, hs with
    | [w0, w1, w2, w3, w4], _ => exact ⟨w0, w1, w2, w3, w4, rfl⟩
  have hw : W _ s := fun d (hd : d ∈ tables_1) => atoms_spec (ws := Jvm.Cond.code x code maxLocals ret :: tables_1) hat d (List.mem_cons_of_mem _ hd)
  obtain ⟨hsets, hown0⟩ := atoms_of _ (rest_1_c_eq ▸ (show rest_1_c.before _ s = true from hrest))
  obtain ⟨i0, ei0⟩ := is_v ga0
  obtain rfl : w0 = (.int i0) := Option.some.inj ei0
  obtain ⟨i1, ei1⟩ := is_v ga1
  obtain rfl : w1 = (.int i1) := Option.some.inj ei1
  obtain ⟨i2, ei2⟩ := is_v ga2
  obtain rfl : w2 = (.int i2) := Option.some.inj ei2
  obtain ⟨i3, ei3⟩ := is_v ga3
  obtain rfl : w3 = (.int i3) := Option.some.inj ei3
  obtain ⟨i4, ei4⟩ := is_v hg4
  obtain rfl : w4 = (.int i4) := Option.some.inj ei4
  obtain ⟨zc, ezc⟩ := is_v (Cond.before_iff.mp (hsets _ (List.mem_of_getElem? (i := 1) rfl)))
  have O2 : Sta s s.heap "java/lang/String" "COMPACT_STRINGS" "Z" (.int zc) := Sta.start ezc (Or.inl (hsets _ (List.mem_of_getElem? (i := 0) rfl)))
  have P5 : ¬ (zc = (0 : Int32)) := gotF (Cond.eq_ints ezc (Term.int_eval (0))) (not_v (Cond.before_iff.mp (hsets _ (List.mem_of_getElem? (i := 2) rfl))))
  obtain ⟨n, o, h1, h2, h3, v, L, rfl, ⟨hQ, hN, -⟩, hq⟩ := c_law (l := l) hw i0 i1 i2 i3 i4 zc O2 P5 ⟨Nat.le_refl _, fun _ _ q => q⟩ tables_1 p e ha hc hk s m _ below hf ((Spec.applies_iff_loose hf).mp happ).1 ⟨rfl, State.Warmed39.refl s, rfl⟩ trivial
  subst hQ
  refine ⟨n, _, h1, h2, h3, hpost _ _ _ _ _ _ ⟨Cond.after_iff.mpr rfl, Cond.after_iff.mpr (eq_i res_at (Term.int_eval (1)) rfl), trivial⟩ ⟨hq.1, hq.2.1, (hq.2.2.sift fun y hy => Or.inr (hN y hy)).mono (by decide) (by decide)⟩⟩
theorem main_1_1 : Claimed_1_1 := comes_1 fun _ _ _ _ _ _ h hF => ⟨h.1, hF⟩
theorem main_1_2 : Claimed_1_2 := comes_1 fun _ _ _ _ _ _ h hF => ⟨h.2.1, hF⟩
end Jvm.Pilot.@@N@@
namespace Jvm.Pilot.@@N@@
open Jvm Jvm.ClassFile Sem Op Lib Jvm.Free Jvm.Stand Jvm.Pilot.@@N@@.Jvm.D
/-! MADE BY PROGRAM (witnessworld.py) out of the Statement's table words and the real class files: 20 classes; the members and pool entries that the words name. The judged class is class 1, her method 1. -/
namespace start1
open Jvm.ClassFile
def u (s : String) : CpInfo := .utf8 (stringToUtf16 s)
/-- a pool by its gaps: so many unusable entries, then the entry; so many at the end -/
def gap : Nat → List CpInfo → List CpInfo
  | 0, r => r
  | n + 1, r => .unusable :: gap n r
def poolList (es : List (Nat × CpInfo)) (last : Nat) : List CpInfo := es.foldr (fun e r => gap e.1 (e.2 :: r)) (gap last [])
def pool (es : List (Nat × CpInfo)) (last : Nat) : Array CpInfo := ⟨poolList es last⟩
def fileOf (pool : Array CpInfo) (this : Nat) (attrs : Array Attribute := #[]) (ms : Array MethodInfo := #[]) (fl : Nat := 33) (sup : Nat := 0) (ifs : Array Nat := #[]) (fds : Array FieldInfo := #[]) : ClassFile where
  minorVersion := 0
  majorVersion := 65
  constantPool := pool
  accessFlags := fl
  thisClass := this
  superClass := sup
  interfaces := ifs
  fields := fds
  methods := ms
  attributes := attrs
def plain (name : String) (sup : Option ClassId) : Class where
  name := name
  kind := .ordinary
  loader := none
  accessFlags := 33
  super := sup
  interfaces := #[]
  cf := none
  fields := #[]
  methods := #[]
  instanceTypes := #[]
  staticTypes := #[]
  resolved := #[]
  callSites := []
  init := .initialized
  statics := none
  mirror := none

def pool0 : Array CpInfo := pool [(5, u "<init>"), (0, u "()V"), (1, .class_ 10), (1, u "java/lang/Object")] 113

def k0c0 : Code := { maxStack := 0, maxLocals := 1, code := object_method_1_code, exceptionTable := #[], attributes := #[] }
def k0m0 : Method := { name := "<init>", desc := "()V", sig := { parameters := [], returnType := none }, accessFlags := 1, code := some k0c0 }
/-- java/lang/Object -/
def k0 : Class := { plain "java/lang/Object" none with
  accessFlags := 33
  interfaces := #[]
  cf := some (fileOf pool0 8 #[] #[{ accessFlags := 1, nameIndex := 5, descriptorIndex := 6, attributes := #[] }] 33 0 #[] #[])
  fields := #[]
  methods := #[k0m0]
  instanceTypes := #[]
  staticTypes := #[]
  resolved := Array.replicate 124 none
  statics := none }

def pool1 : Array CpInfo := pool [(2, .class_ 4), (1, u "java/lang/Object"), (0, u "<init>"), (0, u "()V"), (0, .integer 2147483647), (0, .integer 1073741823), (0, .integer 536870911), (0, .class_ 11), (0, u "java/lang/String"), (0, .methodref 10 13), (0, .nameAndType 5 14), (0, u "([C)V"), (0, .class_ 16), (0, u "com/example/pomona/pomona/index/PostingsList"), (0, .methodref 15 18), (0, .nameAndType 5 19), (0, u "(Ljava/lang/String;[I[I)V"), (0, .methodref 15 21), (0, .nameAndType 22 23), (0, u "lastDocument"), (0, u "()I"), (0, .methodref 15 25), (0, .nameAndType 26 27), (0, u "document"), (0, u "(I)I"), (0, .class_ 29), (0, u "com/example/pomona/pomona/index/PostingsListLastDocumentPinLaw"), (2, u "law"), (0, u "(IIIII)Z")] 7

def k1m0 : Method := { name := "<init>", desc := "()V", sig := { parameters := [], returnType := none }, accessFlags := 1, code := none }
def k1c1 : Code := { maxStack := 5, maxLocals := 19, code := code, exceptionTable := #[], attributes := #[] }
def k1m1 : Method := { name := "law", desc := "(IIIII)Z", sig := { parameters := [.int, .int, .int, .int, .int], returnType := some .boolean }, accessFlags := 9, code := some k1c1 }
/-- com/example/pomona/pomona/index/PostingsListLastDocumentPinLaw -/
def k1 : Class := { plain "com/example/pomona/pomona/index/PostingsListLastDocumentPinLaw" (some 0) with
  accessFlags := 49
  interfaces := #[]
  cf := some (fileOf pool1 28 #[] #[{ accessFlags := 1, nameIndex := 5, descriptorIndex := 6, attributes := #[] }, { accessFlags := 9, nameIndex := 32, descriptorIndex := 33, attributes := #[] }] 49 2 #[] #[])
  fields := #[]
  methods := #[k1m0, k1m1]
  instanceTypes := #[]
  staticTypes := #[]
  resolved := Array.replicate 41 none
  statics := none }

def pool2 : Array CpInfo := pool [(1, .class_ 2), (0, u "java/io/Serializable"), (0, .class_ 4), (0, u "java/lang/Object")] 2

/-- java/io/Serializable -/
def k2 : Class := { plain "java/io/Serializable" (some 0) with
  accessFlags := 1537
  interfaces := #[]
  cf := some (fileOf pool2 1 #[] #[] 1537 3 #[] #[])
  fields := #[]
  methods := #[]
  instanceTypes := #[]
  staticTypes := #[]
  resolved := Array.replicate 7 none
  statics := none }

def pool3 : Array CpInfo := pool [(1, .class_ 2), (0, u "java/lang/Comparable"), (0, .class_ 4), (0, u "java/lang/Object")] 7

/-- java/lang/Comparable -/
def k3 : Class := { plain "java/lang/Comparable" (some 0) with
  accessFlags := 1537
  interfaces := #[]
  cf := some (fileOf pool3 1 #[] #[] 1537 3 #[] #[])
  fields := #[]
  methods := #[]
  instanceTypes := #[]
  staticTypes := #[]
  resolved := Array.replicate 12 none
  statics := none }

def pool4 : Array CpInfo := pool [(2, .class_ 4), (1, u "java/lang/CharSequence"), (42, .class_ 48), (0, u "java/lang/CharSequence$1CodePointIterator"), (10, .class_ 60), (0, u "java/lang/CharSequence$1CharIterator"), (5, .class_ 67), (0, u "java/lang/Object")] 63

/-- java/lang/CharSequence -/
def k4 : Class := { plain "java/lang/CharSequence" (some 0) with
  accessFlags := 1537
  interfaces := #[]
  cf := some (fileOf pool4 2 #[.nestMembers #[47, 59]] #[] 1537 66 #[] #[])
  fields := #[]
  methods := #[]
  instanceTypes := #[]
  staticTypes := #[]
  resolved := Array.replicate 131 none
  statics := none }

def pool5 : Array CpInfo := pool [(1, .class_ 2), (0, u "java/lang/constant/Constable"), (0, .class_ 4), (0, u "java/lang/Object")] 6

/-- java/lang/constant/Constable -/
def k5 : Class := { plain "java/lang/constant/Constable" (some 0) with
  accessFlags := 1537
  interfaces := #[]
  cf := some (fileOf pool5 1 #[] #[] 1537 3 #[] #[])
  fields := #[]
  methods := #[]
  instanceTypes := #[]
  staticTypes := #[]
  resolved := Array.replicate 11 none
  statics := none }

def pool6 : Array CpInfo := pool [(1, .class_ 2), (0, u "java/lang/constant/ConstantDesc"), (0, .class_ 4), (0, u "java/lang/Object")] 32

/-- java/lang/constant/ConstantDesc -/
def k6 : Class := { plain "java/lang/constant/ConstantDesc" (some 0) with
  accessFlags := 1537
  interfaces := #[]
  cf := some (fileOf pool6 1 #[] #[] 1537 3 #[] #[])
  fields := #[]
  methods := #[]
  instanceTypes := #[]
  staticTypes := #[]
  resolved := Array.replicate 37 none
  statics := none }

def pool7 : Array CpInfo := pool [(1, .methodref 2 3), (0, .class_ 4), (0, .nameAndType 5 6), (0, u "java/lang/Object"), (0, u "<init>"), (0, u "()V"), (2, .fieldref 10 11), (0, .class_ 12), (0, .nameAndType 13 14), (0, u "java/lang/String"), (0, u "value"), (0, u "[B"), (0, .fieldref 10 16), (0, .nameAndType 17 18), (0, u "coder"), (0, u "B"), (2, u "hash"), (0, u "I"), (2, u "hashIsZero"), (0, u "Z"), (0, .methodref 10 28), (0, .nameAndType 5 29), (0, u "([CIILjava/lang/Void;)V"), (8, .fieldref 10 39), (0, .nameAndType 40 26), (0, u "COMPACT_STRINGS"), (1, .class_ 44), (1, u "java/lang/StringUTF16"), (0, u "compress"), (1, .methodref 42 48), (0, .nameAndType 49 50), (0, u "coderFromArrayLen"), (0, u "([BI)B"), (126, .methodref 42 178), (0, .nameAndType 45 179), (0, u "([CII)[B"), (395, .class_ 576), (0, u "java/lang/CharSequence"), (22, u "CASE_INSENSITIVE_ORDER"), (0, u "Ljava/util/Comparator;"), (409, u "([C)V"), (90, u "serialPersistentFields"), (0, u "[Ljava/io/ObjectStreamField;"), (0, .class_ 1104), (0, u "java/lang/String$CaseInsensitiveComparator"), (1, .class_ 1107), (0, u "java/io/Serializable"), (0, .class_ 1109), (0, u "java/lang/Comparable"), (0, .class_ 1111), (0, u "java/lang/constant/Constable"), (0, .class_ 1113), (0, u "java/lang/constant/ConstantDesc"), (2, u "serialVersionUID"), (0, u "J"), (3, u "REPL"), (0, u "C"), (2, u "LATIN1"), (1, u "UTF16")] 323

def k7m0 : Method := { name := "<init>", desc := "()V", sig := { parameters := [], returnType := none }, accessFlags := 1, code := none }
def k7c1 : Code := { maxStack := 5, maxLocals := 2, code := jdk_42_method_3_code, exceptionTable := #[], attributes := #[] }
def k7m1 : Method := { name := "<init>", desc := "([C)V", sig := { parameters := [(.array .char)], returnType := none }, accessFlags := 1, code := some k7c1 }
def k7c2 : Code := { maxStack := 4, maxLocals := 6, code := jdk_42_method_149_code, exceptionTable := #[], attributes := #[] }
def k7m2 : Method := { name := "<init>", desc := "([CIILjava/lang/Void;)V", sig := { parameters := [(.array .char), .int, .int, (.object "java/lang/Void")], returnType := none }, accessFlags := 2, code := some k7c2 }
/-- java/lang/String -/
def k7 : Class := { plain "java/lang/String" (some 0) with
  accessFlags := 49
  interfaces := #[2, 3, 4, 5, 6]
  cf := some (fileOf pool7 10 #[.nestMembers #[1103]] #[{ accessFlags := 1, nameIndex := 5, descriptorIndex := 6, attributes := #[] }, { accessFlags := 1, nameIndex := 5, descriptorIndex := 1010, attributes := #[] }, { accessFlags := 2, nameIndex := 5, descriptorIndex := 29, attributes := #[] }] 49 2 #[1106, 1108, 575, 1110, 1112] #[{ accessFlags := 18, nameIndex := 13, descriptorIndex := 14, attributes := #[] }, { accessFlags := 18, nameIndex := 17, descriptorIndex := 18, attributes := #[] }, { accessFlags := 2, nameIndex := 21, descriptorIndex := 22, attributes := #[] }, { accessFlags := 2, nameIndex := 25, descriptorIndex := 26, attributes := #[] }, { accessFlags := 26, nameIndex := 1116, descriptorIndex := 1117, attributes := #[] }, { accessFlags := 24, nameIndex := 40, descriptorIndex := 26, attributes := #[] }, { accessFlags := 26, nameIndex := 1101, descriptorIndex := 1102, attributes := #[] }, { accessFlags := 26, nameIndex := 1121, descriptorIndex := 1122, attributes := #[] }, { accessFlags := 25, nameIndex := 599, descriptorIndex := 600, attributes := #[] }, { accessFlags := 24, nameIndex := 1125, descriptorIndex := 18, attributes := #[] }, { accessFlags := 24, nameIndex := 1127, descriptorIndex := 18, attributes := #[] }])
  fields := #[{ name := "value", type := (.array .byte), accessFlags := 18, slot := 0, constantValue := 0 }, { name := "coder", type := .byte, accessFlags := 18, slot := 1, constantValue := 0 }, { name := "hash", type := .int, accessFlags := 2, slot := 2, constantValue := 0 }, { name := "hashIsZero", type := .boolean, accessFlags := 2, slot := 3, constantValue := 0 }, { name := "serialVersionUID", type := .long, accessFlags := 26, slot := 0, constantValue := 0 }, { name := "COMPACT_STRINGS", type := .boolean, accessFlags := 24, slot := 1, constantValue := 0 }, { name := "serialPersistentFields", type := (.array (.object "java/io/ObjectStreamField")), accessFlags := 26, slot := 2, constantValue := 0 }, { name := "REPL", type := .char, accessFlags := 26, slot := 3, constantValue := 0 }, { name := "CASE_INSENSITIVE_ORDER", type := (.object "java/util/Comparator"), accessFlags := 25, slot := 4, constantValue := 0 }, { name := "LATIN1", type := .byte, accessFlags := 24, slot := 5, constantValue := 0 }, { name := "UTF16", type := .byte, accessFlags := 24, slot := 6, constantValue := 0 }]
  methods := #[k7m0, k7m1, k7m2]
  instanceTypes := #[(.array .byte), .byte, .int, .boolean]
  staticTypes := #[.long, .boolean, (.array (.object "java/io/ObjectStreamField")), .char, (.object "java/util/Comparator"), .byte, .byte]
  resolved := Array.replicate 1451 none
  statics := some 0 }

def pool8 : Array CpInfo := pool [(6, .class_ 8), (1, u "java/lang/Object"), (0, u "<init>"), (0, u "()V"), (1, .class_ 14), (1, u "java/lang/StringUTF16"), (31, u "$assertionsDisabled"), (0, u "Z"), (13, u "HI_BYTE_SHIFT"), (0, u "I"), (2, u "LO_BYTE_SHIFT"), (49, .methodref 12 116), (0, .nameAndType 117 118), (0, u "compress"), (0, u "([CI[BII)I"), (3, u "([CII)[B"), (138, u "coderFromArrayLen"), (0, u "([BI)B"), (106, .class_ 371), (1, u "java/lang/StringUTF16$LinesSpliterator"), (58, u "MAX_LENGTH"), (196, .class_ 628), (0, u "java/lang/StringUTF16$CodePointsSpliterator"), (0, .class_ 630), (0, u "java/lang/StringUTF16$CharsSpliterator")] 4

def k8m0 : Method := { name := "<init>", desc := "()V", sig := { parameters := [], returnType := none }, accessFlags := 0, code := none }
def k8c1 : Code := { maxStack := 2, maxLocals := 2, code := jdk_52_method_15_code, exceptionTable := #[], attributes := #[] }
def k8m1 : Method := { name := "coderFromArrayLen", desc := "([BI)B", sig := { parameters := [(.array .byte), .int], returnType := some .byte }, accessFlags := 8, code := some k8c1 }
def k8c2 : Code := { maxStack := 5, maxLocals := 6, code := jdk_52_method_16_code, exceptionTable := #[], attributes := #[] }
def k8m2 : Method := { name := "compress", desc := "([CII)[B", sig := { parameters := [(.array .char), .int, .int], returnType := some (.array .byte) }, accessFlags := 9, code := some k8c2 }
def k8c3 : Code := { maxStack := 3, maxLocals := 7, code := jdk_52_method_21_code, exceptionTable := #[], attributes := #[] }
def k8m3 : Method := { name := "compress", desc := "([CI[BII)I", sig := { parameters := [(.array .char), .int, (.array .byte), .int, .int], returnType := some .int }, accessFlags := 9, code := some k8c3 }
/-- java/lang/StringUTF16 -/
def k8 : Class := { plain "java/lang/StringUTF16" (some 0) with
  accessFlags := 48
  interfaces := #[]
  cf := some (fileOf pool8 12 #[.nestMembers #[627, 629, 369]] #[{ accessFlags := 0, nameIndex := 9, descriptorIndex := 10, attributes := #[] }, { accessFlags := 8, nameIndex := 261, descriptorIndex := 262, attributes := #[] }, { accessFlags := 9, nameIndex := 117, descriptorIndex := 122, attributes := #[] }, { accessFlags := 9, nameIndex := 117, descriptorIndex := 118, attributes := #[] }] 48 6 #[] #[{ accessFlags := 26, nameIndex := 61, descriptorIndex := 62, attributes := #[] }, { accessFlags := 26, nameIndex := 65, descriptorIndex := 62, attributes := #[] }, { accessFlags := 24, nameIndex := 430, descriptorIndex := 62, attributes := #[] }, { accessFlags := 4120, nameIndex := 46, descriptorIndex := 47, attributes := #[] }])
  fields := #[{ name := "HI_BYTE_SHIFT", type := .int, accessFlags := 26, slot := 0, constantValue := 0 }, { name := "LO_BYTE_SHIFT", type := .int, accessFlags := 26, slot := 1, constantValue := 0 }, { name := "MAX_LENGTH", type := .int, accessFlags := 24, slot := 2, constantValue := 0 }, { name := "$assertionsDisabled", type := .boolean, accessFlags := 4120, slot := 3, constantValue := 0 }]
  methods := #[k8m0, k8m1, k8m2, k8m3]
  instanceTypes := #[]
  staticTypes := #[.int, .int, .int, .boolean]
  resolved := Array.replicate 635 none
  statics := none }

def pool9 : Array CpInfo := pool [(1, .methodref 2 3), (0, .class_ 4), (0, .nameAndType 5 6), (0, u "java/lang/Object"), (0, u "<init>"), (0, u "()V"), (14, .fieldref 22 23), (0, .class_ 24), (0, .nameAndType 25 26), (0, u "com/example/pomona/pomona/index/PostingsList"), (0, u "term"), (0, u "Ljava/lang/String;"), (0, .fieldref 22 28), (0, .nameAndType 29 30), (0, u "documents"), (0, u "[I"), (0, .fieldref 22 32), (0, .nameAndType 33 30), (0, u "frequencies"), (0, .fieldref 22 35), (0, .nameAndType 36 37), (0, u "collectionFrequency"), (0, u "J"), (0, u "(Ljava/lang/String;[I[I)V"), (8, u "()I"), (1, u "document"), (0, u "(I)I"), (1, u "lastDocument")] 23

def k9c0 : Code := { maxStack := 6, maxLocals := 8, code := prog_20_method_1_code, exceptionTable := #[], attributes := #[] }
def k9m0 : Method := { name := "<init>", desc := "(Ljava/lang/String;[I[I)V", sig := { parameters := [(.object "java/lang/String"), (.array .int), (.array .int)], returnType := none }, accessFlags := 1, code := some k9c0 }
def k9c1 : Code := { maxStack := 2, maxLocals := 2, code := prog_20_method_5_code, exceptionTable := #[], attributes := #[] }
def k9m1 : Method := { name := "document", desc := "(I)I", sig := { parameters := [.int], returnType := some .int }, accessFlags := 1, code := some k9c1 }
def k9c2 : Code := { maxStack := 3, maxLocals := 1, code := prog_20_method_7_code, exceptionTable := #[], attributes := #[] }
def k9m2 : Method := { name := "lastDocument", desc := "()I", sig := { parameters := [], returnType := some .int }, accessFlags := 0, code := some k9c2 }
/-- com/example/pomona/pomona/index/PostingsList -/
def k9 : Class := { plain "com/example/pomona/pomona/index/PostingsList" (some 0) with
  accessFlags := 33
  interfaces := #[]
  cf := some (fileOf pool9 22 #[] #[{ accessFlags := 1, nameIndex := 5, descriptorIndex := 38, attributes := #[] }, { accessFlags := 1, nameIndex := 49, descriptorIndex := 50, attributes := #[] }, { accessFlags := 0, nameIndex := 52, descriptorIndex := 47, attributes := #[] }] 33 2 #[] #[{ accessFlags := 18, nameIndex := 25, descriptorIndex := 26, attributes := #[] }, { accessFlags := 18, nameIndex := 29, descriptorIndex := 30, attributes := #[] }, { accessFlags := 18, nameIndex := 33, descriptorIndex := 30, attributes := #[] }, { accessFlags := 18, nameIndex := 36, descriptorIndex := 37, attributes := #[] }])
  fields := #[{ name := "term", type := (.object "java/lang/String"), accessFlags := 18, slot := 0, constantValue := 0 }, { name := "documents", type := (.array .int), accessFlags := 18, slot := 1, constantValue := 0 }, { name := "frequencies", type := (.array .int), accessFlags := 18, slot := 2, constantValue := 0 }, { name := "collectionFrequency", type := .long, accessFlags := 18, slot := 3, constantValue := 0 }]
  methods := #[k9m0, k9m1, k9m2]
  instanceTypes := #[(.object "java/lang/String"), (.array .int), (.array .int), .long]
  staticTypes := #[]
  resolved := Array.replicate 76 none
  statics := none }

def pool10 : Array CpInfo := pool [(4, .class_ 6), (1, u "java/lang/Object"), (0, u "<init>"), (0, u "()V"), (5, .class_ 16), (1, u "java/lang/StringLatin1"), (104, u "$assertionsDisabled"), (0, u "Z"), (98, .class_ 223), (1, u "java/lang/StringLatin1$LinesSpliterator"), (166, .class_ 391), (0, u "java/lang/StringLatin1$CharsSpliterator")] 3

def k10m0 : Method := { name := "<init>", desc := "()V", sig := { parameters := [], returnType := none }, accessFlags := 0, code := none }
/-- java/lang/StringLatin1 -/
def k10 : Class := { plain "java/lang/StringLatin1" (some 0) with
  accessFlags := 48
  interfaces := #[]
  cf := some (fileOf pool10 14 #[.nestMembers #[390, 221]] #[{ accessFlags := 0, nameIndex := 7, descriptorIndex := 8, attributes := #[] }] 48 4 #[] #[{ accessFlags := 4120, nameIndex := 121, descriptorIndex := 122, attributes := #[] }])
  fields := #[{ name := "$assertionsDisabled", type := .boolean, accessFlags := 4120, slot := 0, constantValue := 0 }]
  methods := #[k10m0]
  instanceTypes := #[]
  staticTypes := #[.boolean]
  resolved := Array.replicate 395 none
  statics := none }

def pool11 : Array CpInfo := pool [(2, .class_ 4), (1, u "java/lang/Object"), (0, u "<init>"), (0, u "()V"), (17, .class_ 26), (1, u "jdk/internal/util/Preconditions"), (28, .class_ 56), (0, u "jdk/internal/util/Preconditions$4"), (57, .class_ 115), (0, u "jdk/internal/util/Preconditions$1"), (7, u "SIOOBE_FORMATTER"), (0, u "Ljava/util/function/BiFunction;"), (0, .class_ 126), (0, u "jdk/internal/util/Preconditions$2"), (3, u "AIOOBE_FORMATTER"), (0, .class_ 132), (0, u "jdk/internal/util/Preconditions$3"), (3, u "IOOBE_FORMATTER")] 57

def k11m0 : Method := { name := "<init>", desc := "()V", sig := { parameters := [], returnType := none }, accessFlags := 1, code := none }
/-- jdk/internal/util/Preconditions -/
def k11 : Class := { plain "jdk/internal/util/Preconditions" (some 0) with
  accessFlags := 33
  interfaces := #[]
  cf := some (fileOf pool11 24 #[.nestMembers #[55, 131, 125, 114]] #[{ accessFlags := 1, nameIndex := 5, descriptorIndex := 6, attributes := #[] }] 33 2 #[] #[{ accessFlags := 25, nameIndex := 123, descriptorIndex := 124, attributes := #[] }, { accessFlags := 25, nameIndex := 130, descriptorIndex := 124, attributes := #[] }, { accessFlags := 25, nameIndex := 136, descriptorIndex := 124, attributes := #[] }])
  fields := #[{ name := "SIOOBE_FORMATTER", type := (.object "java/util/function/BiFunction"), accessFlags := 25, slot := 0, constantValue := 0 }, { name := "AIOOBE_FORMATTER", type := (.object "java/util/function/BiFunction"), accessFlags := 25, slot := 1, constantValue := 0 }, { name := "IOOBE_FORMATTER", type := (.object "java/util/function/BiFunction"), accessFlags := 25, slot := 2, constantValue := 0 }]
  methods := #[k11m0]
  instanceTypes := #[]
  staticTypes := #[(.object "java/util/function/BiFunction"), (.object "java/util/function/BiFunction"), (.object "java/util/function/BiFunction")]
  resolved := Array.replicate 194 none
  statics := some 1 }

def pool12 : Array CpInfo := pool [(9, u "<init>"), (6, .class_ 18), (1, u "java/lang/Object"), (0, u "()V"), (1, .class_ 23), (1, u "jdk/internal/util/ArraysSupport"), (0, u "LOG2_ARRAY_LONG_INDEX_SCALE"), (0, u "I"), (2, u "U"), (0, u "Ljdk/internal/misc/Unsafe;"), (8, u "BIG_ENDIAN"), (0, u "Z"), (8, u "LOG2_BYTE_BIT_SIZE"), (4, u "LOG2_ARRAY_INT_INDEX_SCALE"), (54, u "JLA"), (0, u "Ljdk/internal/access/JavaLangAccess;"), (11, u "LOG2_ARRAY_BOOLEAN_INDEX_SCALE"), (9, u "LOG2_ARRAY_BYTE_INDEX_SCALE"), (5, u "LOG2_ARRAY_CHAR_INDEX_SCALE"), (5, u "LOG2_ARRAY_SHORT_INDEX_SCALE"), (18, u "LOG2_ARRAY_FLOAT_INDEX_SCALE"), (24, u "LOG2_ARRAY_DOUBLE_INDEX_SCALE"), (89, u "T_BOOLEAN"), (2, u "T_CHAR"), (1, u "T_FLOAT"), (1, u "T_DOUBLE"), (1, u "T_BYTE"), (1, u "T_SHORT"), (1, u "T_INT"), (1, u "T_LONG"), (1, u "SOFT_MAX_ARRAY_LENGTH")] 83

def k12m0 : Method := { name := "<init>", desc := "()V", sig := { parameters := [], returnType := none }, accessFlags := 2, code := none }
/-- jdk/internal/util/ArraysSupport -/
def k12 : Class := { plain "jdk/internal/util/ArraysSupport" (some 0) with
  accessFlags := 33
  interfaces := #[]
  cf := some (fileOf pool12 21 #[] #[{ accessFlags := 2, nameIndex := 9, descriptorIndex := 19, attributes := #[] }] 33 16 #[] #[{ accessFlags := 24, nameIndex := 28, descriptorIndex := 29, attributes := #[] }, { accessFlags := 26, nameIndex := 38, descriptorIndex := 39, attributes := #[] }, { accessFlags := 25, nameIndex := 121, descriptorIndex := 25, attributes := #[] }, { accessFlags := 25, nameIndex := 131, descriptorIndex := 25, attributes := #[] }, { accessFlags := 25, nameIndex := 137, descriptorIndex := 25, attributes := #[] }, { accessFlags := 25, nameIndex := 143, descriptorIndex := 25, attributes := #[] }, { accessFlags := 25, nameIndex := 53, descriptorIndex := 25, attributes := #[] }, { accessFlags := 25, nameIndex := 24, descriptorIndex := 25, attributes := #[] }, { accessFlags := 25, nameIndex := 162, descriptorIndex := 25, attributes := #[] }, { accessFlags := 25, nameIndex := 187, descriptorIndex := 25, attributes := #[] }, { accessFlags := 26, nameIndex := 48, descriptorIndex := 25, attributes := #[] }, { accessFlags := 25, nameIndex := 277, descriptorIndex := 25, attributes := #[] }, { accessFlags := 25, nameIndex := 280, descriptorIndex := 25, attributes := #[] }, { accessFlags := 25, nameIndex := 282, descriptorIndex := 25, attributes := #[] }, { accessFlags := 25, nameIndex := 284, descriptorIndex := 25, attributes := #[] }, { accessFlags := 25, nameIndex := 286, descriptorIndex := 25, attributes := #[] }, { accessFlags := 25, nameIndex := 288, descriptorIndex := 25, attributes := #[] }, { accessFlags := 25, nameIndex := 290, descriptorIndex := 25, attributes := #[] }, { accessFlags := 25, nameIndex := 292, descriptorIndex := 25, attributes := #[] }, { accessFlags := 26, nameIndex := 108, descriptorIndex := 109, attributes := #[] }, { accessFlags := 25, nameIndex := 294, descriptorIndex := 25, attributes := #[] }])
  fields := #[{ name := "U", type := (.object "jdk/internal/misc/Unsafe"), accessFlags := 24, slot := 0, constantValue := 0 }, { name := "BIG_ENDIAN", type := .boolean, accessFlags := 26, slot := 1, constantValue := 0 }, { name := "LOG2_ARRAY_BOOLEAN_INDEX_SCALE", type := .int, accessFlags := 25, slot := 2, constantValue := 0 }, { name := "LOG2_ARRAY_BYTE_INDEX_SCALE", type := .int, accessFlags := 25, slot := 3, constantValue := 0 }, { name := "LOG2_ARRAY_CHAR_INDEX_SCALE", type := .int, accessFlags := 25, slot := 4, constantValue := 0 }, { name := "LOG2_ARRAY_SHORT_INDEX_SCALE", type := .int, accessFlags := 25, slot := 5, constantValue := 0 }, { name := "LOG2_ARRAY_INT_INDEX_SCALE", type := .int, accessFlags := 25, slot := 6, constantValue := 0 }, { name := "LOG2_ARRAY_LONG_INDEX_SCALE", type := .int, accessFlags := 25, slot := 7, constantValue := 0 }, { name := "LOG2_ARRAY_FLOAT_INDEX_SCALE", type := .int, accessFlags := 25, slot := 8, constantValue := 0 }, { name := "LOG2_ARRAY_DOUBLE_INDEX_SCALE", type := .int, accessFlags := 25, slot := 9, constantValue := 0 }, { name := "LOG2_BYTE_BIT_SIZE", type := .int, accessFlags := 26, slot := 10, constantValue := 0 }, { name := "T_BOOLEAN", type := .int, accessFlags := 25, slot := 11, constantValue := 0 }, { name := "T_CHAR", type := .int, accessFlags := 25, slot := 12, constantValue := 0 }, { name := "T_FLOAT", type := .int, accessFlags := 25, slot := 13, constantValue := 0 }, { name := "T_DOUBLE", type := .int, accessFlags := 25, slot := 14, constantValue := 0 }, { name := "T_BYTE", type := .int, accessFlags := 25, slot := 15, constantValue := 0 }, { name := "T_SHORT", type := .int, accessFlags := 25, slot := 16, constantValue := 0 }, { name := "T_INT", type := .int, accessFlags := 25, slot := 17, constantValue := 0 }, { name := "T_LONG", type := .int, accessFlags := 25, slot := 18, constantValue := 0 }, { name := "JLA", type := (.object "jdk/internal/access/JavaLangAccess"), accessFlags := 26, slot := 19, constantValue := 0 }, { name := "SOFT_MAX_ARRAY_LENGTH", type := .int, accessFlags := 25, slot := 20, constantValue := 0 }]
  methods := #[k12m0]
  instanceTypes := #[]
  staticTypes := #[(.object "jdk/internal/misc/Unsafe"), .boolean, .int, .int, .int, .int, .int, .int, .int, .int, .int, .int, .int, .int, .int, .int, .int, .int, .int, (.object "jdk/internal/access/JavaLangAccess"), .int]
  resolved := Array.replicate 378 none
  statics := none }

def pool13 : Array CpInfo := pool [(1, u "java/lang/Cloneable"), (0, .class_ 1), (0, u "java/lang/Object"), (0, .class_ 3)] 3

/-- java/lang/Cloneable -/
def k13 : Class := { plain "java/lang/Cloneable" (some 0) with
  accessFlags := 1537
  interfaces := #[]
  cf := some (fileOf pool13 2 #[] #[] 1537 4 #[] #[])
  fields := #[]
  methods := #[]
  instanceTypes := #[]
  staticTypes := #[]
  resolved := Array.replicate 8 none
  statics := none }

/-- the primitive byte -/
def k14 : Class := { plain "byte" none with kind := .primitive 'B', accessFlags := 0x411 }
/-- [B -/
def k15 : Class := { plain "[B" (some 0) with kind := .array 14 .byte, interfaces := #[13, 2], accessFlags := 1041 }

/-- the primitive char -/
def k16 : Class := { plain "char" none with kind := .primitive 'C', accessFlags := 0x411 }
/-- [C -/
def k17 : Class := { plain "[C" (some 0) with kind := .array 16 .char, interfaces := #[13, 2], accessFlags := 1041 }

/-- the primitive int -/
def k18 : Class := { plain "int" none with kind := .primitive 'I', accessFlags := 0x411 }
/-- [I -/
def k19 : Class := { plain "[I" (some 0) with kind := .array 18 .int, interfaces := #[13, 2], accessFlags := 1041 }

def heap : Heap := #[{ cls := 7, slots := #[.long 0, .int 1, .null, .int 0, .null, .int 0, .int 0], vm := .statics 7 },
  { cls := 11, slots := #[.null, .null, .null], vm := .statics 11 }]
def classes : Array Class := #[k0, k1, k2, k3, k4, k5, k6, k7, k8, k9, k10, k11, k12, k13, k14, k15, k16, k17, k18, k19]
def interned : List (Array UInt16 × Addr) := []
def slotsUsed : Nat := 10
def theMethod : MethodId := ⟨1, 1⟩
def args0 : Array Value := #[.int 5, .int 6, .int 7, .int 8, .int 9]
def aboutOver (below : List Frame) : State where
  vm := { classes := classes, interned := interned.toArray }
  heap := heap
  slotsUsed := slotsUsed
  threads := #[{ frames := .invoking theMethod args0 :: below }]
def below0 : List Frame := [.native { method := ⟨0, 0⟩, args := #[] }]
def about1 : State := aboutOver below0
def p0 : Program := .bare "" "" ""
def e0 : Env := launch0.env 0 0 0
theorem w_frames : about1.frames = Frame.invoking theMethod args0 :: below0 := rfl
set_option maxRecDepth 65536 in
theorem w_args : argsFit about1.vm theMethod args0 = true := by decide +kernel
set_option maxRecDepth 65536 in
theorem w_heap : heapFits about1 = true := by decide +kernel
set_option maxRecDepth 65536 in
theorem w_runnable : about1.curStatus? = some .runnable := by decide +kernel
set_option maxRecDepth 65536 in
theorem w_alone : about1.alone = true := by decide +kernel
set_option maxRecDepth 65536 in
theorem w_named : about1.methodNamed? x = some theMethod := by decide +kernel
set_option maxRecDepth 65536 in
theorem w_hears : about1.hears theMethod below0 = true := by decide +kernel
set_option maxRecDepth 65536 in
theorem w_ripe : about1.ripe theMethod args0 below0 = true := by decide +kernel
theorem w_running : about1.status = .running := rfl
set_option maxRecDepth 65536 in
theorem w_room : about1.hasRoom e0.platform room_1 = true :=
  launch0.hasRoom_least _ room_1 (by decide +kernel) (by decide +kernel) (by decide +kernel) (by decide +kernel) (by decide +kernel) (by decide +kernel)
theorem allAtoms_all (ts : List Jvm.Cond) (a : Array Jvm.Value) (st : Jvm.State) : (allAtoms ts).before a st = ts.all (fun c => c.before a st) := by
  induction ts with
  | nil => rfl
  | cons c t ih =>
    show (Jvm.Cond.and c (allAtoms t)).before a st = _
    rw [Jvm.Cond.before_and, ih, List.all_cons]
def words1 : List Jvm.Cond := Jvm.Cond.code x code maxLocals ret :: tables_1
/-- a 'code' word, met by the world's own term for the bytes: nothing is compared byte by byte -/
theorem code_word {y : MethodName} {bytes : ByteArray} {mx : Nat} {rt : Option FieldType} {a : Array Value} {s : State} {m : MethodId} {meth : Method} {c : Code} (h1 : s.methodNamed? y = some m) (h2 : s.vm.method? m = some meth) (h3 : meth.code = some c) (h4 : c.code = bytes)
    (h5 : (c.maxLocals == mx && c.exceptionTable.isEmpty && decide (c.maxStack ≤ mostOperands) && decide (meth.sig.returnType = rt) && !meth.locks && decide (parseMethodDescriptor y.desc = some meth.sig)) = true) : (Jvm.Cond.code y bytes mx rt).before a s = true := by
  simp only [Bool.and_eq_true, beq_iff_eq, Bool.not_eq_true', decide_eq_true_eq] at h5
  obtain ⟨⟨⟨⟨⟨g1, g2⟩, g3⟩, g4⟩, g5⟩, g6⟩ := h5
  simp [Cond.before, Cond.holds, Cond.value, h1, h2, h3, h4, g1, g2, g3, g4, g5, g6]
def isCode : Jvm.Cond → Bool
  | .code _ _ _ _ => true
  | _ => false
theorem all_split {L : List Jvm.Cond} {P : Jvm.Cond → Bool} (h1 : L.all (fun c => isCode c || P c) = true) (h2 : ∀ c ∈ L.filter isCode, P c = true) : L.all P = true := by
  refine List.all_eq_true.mpr fun c hc => ?_
  have h := List.all_eq_true.mp h1 c hc
  rcases Bool.eq_false_or_eq_true (isCode c) with hi | hi
  · exact h2 c (List.mem_filter.mpr ⟨hc, hi⟩)
  · simpa [hi] using h
set_option maxRecDepth 65536 in
theorem w_c0 : (Jvm.Cond.code x code maxLocals ret).before args0 about1 = true := code_word (m := ⟨1, 1⟩) (meth := k1m1) (c := k1c1) (by decide +kernel) rfl rfl rfl (by decide +kernel)
set_option maxRecDepth 65536 in
theorem w_c1 : (Jvm.Cond.code ({ cls := "java/lang/String", name := "<init>", desc := "([C)V" } : Jvm.MethodName) jdk_42_method_3_code (2 : Nat) (Option.none : Option Jvm.ClassFile.FieldType)).before args0 about1 = true := code_word (m := ⟨7, 1⟩) (meth := k7m1) (c := k7c1) (by decide +kernel) rfl rfl rfl (by decide +kernel)
set_option maxRecDepth 65536 in
theorem w_c2 : (Jvm.Cond.code ({ cls := "java/lang/String", name := "<init>", desc := "([CIILjava/lang/Void;)V" } : Jvm.MethodName) jdk_42_method_149_code (6 : Nat) (Option.none : Option Jvm.ClassFile.FieldType)).before args0 about1 = true := code_word (m := ⟨7, 2⟩) (meth := k7m2) (c := k7c2) (by decide +kernel) rfl rfl rfl (by decide +kernel)
set_option maxRecDepth 65536 in
theorem w_c3 : (Jvm.Cond.code ({ cls := "java/lang/Object", name := "<init>", desc := "()V" } : Jvm.MethodName) object_method_1_code (1 : Nat) (Option.none : Option Jvm.ClassFile.FieldType)).before args0 about1 = true := code_word (m := ⟨0, 0⟩) (meth := k0m0) (c := k0c0) (by decide +kernel) rfl rfl rfl (by decide +kernel)
set_option maxRecDepth 65536 in
theorem w_c4 : (Jvm.Cond.code ({ cls := "java/lang/StringUTF16", name := "compress", desc := "([CII)[B" } : Jvm.MethodName) jdk_52_method_16_code (6 : Nat) (Option.some (Jvm.ClassFile.FieldType.array Jvm.ClassFile.FieldType.byte))).before args0 about1 = true := code_word (m := ⟨8, 2⟩) (meth := k8m2) (c := k8c2) (by decide +kernel) rfl rfl rfl (by decide +kernel)
set_option maxRecDepth 65536 in
theorem w_c5 : (Jvm.Cond.code ({ cls := "java/lang/StringUTF16", name := "compress", desc := "([CI[BII)I" } : Jvm.MethodName) jdk_52_method_21_code (7 : Nat) (Option.some Jvm.ClassFile.FieldType.int)).before args0 about1 = true := code_word (m := ⟨8, 3⟩) (meth := k8m3) (c := k8c3) (by decide +kernel) rfl rfl rfl (by decide +kernel)
set_option maxRecDepth 65536 in
theorem w_c6 : (Jvm.Cond.code ({ cls := "java/lang/StringUTF16", name := "coderFromArrayLen", desc := "([BI)B" } : Jvm.MethodName) jdk_52_method_15_code (2 : Nat) (Option.some Jvm.ClassFile.FieldType.byte)).before args0 about1 = true := code_word (m := ⟨8, 1⟩) (meth := k8m1) (c := k8c1) (by decide +kernel) rfl rfl rfl (by decide +kernel)
set_option maxRecDepth 65536 in
theorem w_c7 : (Jvm.Cond.code ({ cls := "com/example/pomona/pomona/index/PostingsList", name := "<init>", desc := "(Ljava/lang/String;[I[I)V" } : Jvm.MethodName) prog_20_method_1_code (8 : Nat) (Option.none : Option Jvm.ClassFile.FieldType)).before args0 about1 = true := code_word (m := ⟨9, 0⟩) (meth := k9m0) (c := k9c0) (by decide +kernel) rfl rfl rfl (by decide +kernel)
set_option maxRecDepth 65536 in
theorem w_c8 : (Jvm.Cond.code ({ cls := "com/example/pomona/pomona/index/PostingsList", name := "lastDocument", desc := "()I" } : Jvm.MethodName) prog_20_method_7_code (1 : Nat) (Option.some Jvm.ClassFile.FieldType.int)).before args0 about1 = true := code_word (m := ⟨9, 2⟩) (meth := k9m2) (c := k9c2) (by decide +kernel) rfl rfl rfl (by decide +kernel)
set_option maxRecDepth 65536 in
theorem w_c9 : (Jvm.Cond.code ({ cls := "com/example/pomona/pomona/index/PostingsList", name := "document", desc := "(I)I" } : Jvm.MethodName) prog_20_method_5_code (2 : Nat) (Option.some Jvm.ClassFile.FieldType.int)).before args0 about1 = true := code_word (m := ⟨9, 1⟩) (meth := k9m1) (c := k9c1) (by decide +kernel) rfl rfl rfl (by decide +kernel)
def codes1 : List Jvm.Cond := [Jvm.Cond.code x code maxLocals ret, Jvm.Cond.code ({ cls := "java/lang/String", name := "<init>", desc := "([C)V" } : Jvm.MethodName) jdk_42_method_3_code (2 : Nat) (Option.none : Option Jvm.ClassFile.FieldType), Jvm.Cond.code ({ cls := "java/lang/String", name := "<init>", desc := "([CIILjava/lang/Void;)V" } : Jvm.MethodName) jdk_42_method_149_code (6 : Nat) (Option.none : Option Jvm.ClassFile.FieldType), Jvm.Cond.code ({ cls := "java/lang/Object", name := "<init>", desc := "()V" } : Jvm.MethodName) object_method_1_code (1 : Nat) (Option.none : Option Jvm.ClassFile.FieldType), Jvm.Cond.code ({ cls := "java/lang/StringUTF16", name := "compress", desc := "([CII)[B" } : Jvm.MethodName) jdk_52_method_16_code (6 : Nat) (Option.some (Jvm.ClassFile.FieldType.array Jvm.ClassFile.FieldType.byte)), Jvm.Cond.code ({ cls := "java/lang/StringUTF16", name := "compress", desc := "([CI[BII)I" } : Jvm.MethodName) jdk_52_method_21_code (7 : Nat) (Option.some Jvm.ClassFile.FieldType.int), Jvm.Cond.code ({ cls := "java/lang/StringUTF16", name := "coderFromArrayLen", desc := "([BI)B" } : Jvm.MethodName) jdk_52_method_15_code (2 : Nat) (Option.some Jvm.ClassFile.FieldType.byte), Jvm.Cond.code ({ cls := "com/example/pomona/pomona/index/PostingsList", name := "<init>", desc := "(Ljava/lang/String;[I[I)V" } : Jvm.MethodName) prog_20_method_1_code (8 : Nat) (Option.none : Option Jvm.ClassFile.FieldType), Jvm.Cond.code ({ cls := "com/example/pomona/pomona/index/PostingsList", name := "lastDocument", desc := "()I" } : Jvm.MethodName) prog_20_method_7_code (1 : Nat) (Option.some Jvm.ClassFile.FieldType.int), Jvm.Cond.code ({ cls := "com/example/pomona/pomona/index/PostingsList", name := "document", desc := "(I)I" } : Jvm.MethodName) prog_20_method_5_code (2 : Nat) (Option.some Jvm.ClassFile.FieldType.int)]
set_option maxRecDepth 65536 in
theorem codes_eq : words1.filter isCode = codes1 := rfl
theorem w_codes : ∀ c ∈ words1.filter isCode, c.before args0 about1 = true := by
  rw [codes_eq]
  intro c hc
  simp only [codes1, List.mem_cons, List.not_mem_nil, or_false] at hc
  rcases hc with rfl | rfl | rfl | rfl | rfl | rfl | rfl | rfl | rfl | rfl
  · exact w_c0
  · exact w_c1
  · exact w_c2
  · exact w_c3
  · exact w_c4
  · exact w_c5
  · exact w_c6
  · exact w_c7
  · exact w_c8
  · exact w_c9
set_option maxRecDepth 65536 in
theorem w_t1 : (words1.take 24).all (fun c => isCode c || c.before args0 about1) = true := by decide +kernel
set_option maxRecDepth 65536 in
theorem w_t2 : ((words1.drop 24).take 24).all (fun c => isCode c || c.before args0 about1) = true := by decide +kernel
set_option maxRecDepth 65536 in
theorem w_t3 : ((words1.drop 24).drop 24).all (fun c => isCode c || c.before args0 about1) = true := by decide +kernel
theorem w_tables : (allAtoms (Jvm.Cond.code x code maxLocals ret :: tables_1)).before args0 about1 = true := by
  rw [allAtoms_all]
  show words1.all (fun c => c.before args0 about1) = true
  refine all_split ?_ w_codes
  rw [← List.take_append_drop 24 words1, List.all_append, w_t1, ← List.take_append_drop 24 (words1.drop 24), List.all_append, w_t2, w_t3]
  rfl
set_option maxRecDepth 65536 in
theorem w_rest : rest_1_c.before args0 about1 = true := by decide +kernel
set_option maxRecDepth 65536 in
theorem w_case : (Jvm.Cond.and given_1 narrow_1).before args0 about1 = true := by decide +kernel
theorem w_applies : (headSpec (Jvm.Cond.code x code maxLocals ret :: tables_1) room_1).applies x e0.platform about1 = true :=
  (Spec.applies_iff w_frames).mpr ⟨w_running, w_runnable, w_alone, w_named, w_hears, w_ripe, w_room, w_tables⟩
theorem atStart : AtStart classFile x code maxLocals ret World_1 tables_1 room_1 Calls_1 rest_1 Pre_1 launch0 p0 e0 about1 theMethod args0 below0 :=
  ⟨lists_1, trivial, launch0.admits_env _ _ _, launch0.least_env, fairChoices_fair.cas, fairChoices_fair.clock, w_frames, w_args, w_heap, w_applies, trivial, w_rest, w_case⟩
end start1
theorem witness_1 : WitnessClaimed_1 := ⟨start1.p0, start1.e0, start1.about1, start1.theMethod, start1.args0, start1.below0, start1.atStart⟩
end Jvm.Pilot.@@N@@
