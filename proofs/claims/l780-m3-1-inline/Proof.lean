import JvmDerived
import JvmDerived.Pilot.@@N@@Statement
import JvmDerived.Pilot.@@N@@Code
set_option linter.unusedVariables false
set_option linter.unusedSimpArgs false

/- laws to paste: Road.backV, Road.lenW, Road.chN (cut by pick.py; bodies as the Statement names them) -/
namespace Jvm.Pilot.@@N@@
namespace StrChars
open Jvm Sem ClassFile Op Lib Jvm.Stand Jvm.Free.XT Jvm.Free.ALB Jvm.Free.JM Jvm.Free
open Jvm.Lib.Cold (StaticIs)
/-- a char array whose places are chars -/
def Ch (a : Addr) (A : Cell) (U : State) : Prop := Arr .char a A U ∧ Typed .char A
theorem Ch.mv {a : Addr} {A : Cell} {U U' : State} (h : Ch a A U) (hal : U.vm.Alike U'.vm) (hh : U'.heap = U.heap) : Ch a A U' := ⟨h.1.mv hal hh, h.2⟩
theorem Ch.keep {a : Addr} {A : Cell} {U U' : State} (h : Ch a A U) (hal : U.vm.Alike U'.vm) (hk : U'.heap[a]? = some A) : Ch a A U' := ⟨h.1.keep hal hk, h.2⟩
/-- what place i of a char[]'s cell holds -/
def cv (A : Cell) (i : Nat) : Int32 := match A.slots[i]? with | some (.int x) => x | _ => 0
theorem Ch.get {a : Addr} {A : Cell} {U : State} (h : Ch a A U) {i : Nat} (hi : i < A.slots.size) : A.slots[i]? = some (.int (cv A i)) := by
  have e := Array.getElem?_eq_getElem hi
  have f := h.2 i _ e
  unfold cv; rw [e]
  generalize A.slots[i] = v at f
  cases v <;> simp [fits] at f ⊢
/-- the byte that i2b leaves of a char -/
def lo8 (x : Int32) : Int32 := x.toInt8.toInt32
theorem fits_lo8 (y : Int32) : fits .byte (.int (lo8 y)) = true := by
  have h1 := y.toInt8.le_toInt
  have h2 := y.toInt8.toInt_lt
  simp only [lo8, fits, Bool.and_eq_true, decide_eq_true_eq, Int32.le_iff_toInt_le, Int8.toInt_toInt32, show (-128 : Int32).toInt = -128 from by decide, show (127 : Int32).toInt = 127 from by decide]
  omega
/-- A' is A but that each place j of lo .. hi - 1 holds f j -/
def Laid (A A' : Cell) (lo hi : Nat) (f : Nat → Value) : Prop := A'.cls = A.cls ∧ A'.vm = A.vm ∧ A'.slots.size = A.slots.size ∧ ∀ i, A'.slots[i]? = if lo ≤ i ∧ i < hi then some (f i) else A.slots[i]?
theorem Laid.zero (A : Cell) (lo : Nat) (f : Nat → Value) : Laid A A lo (lo + 0) f := ⟨rfl, rfl, rfl, fun i => by rw [if_neg (by omega)]⟩
theorem Laid.step {A Ak : Cell} {lo k : Nat} {f : Nat → Value} {v : Value} (h : Laid A Ak lo k f) (hlo : lo ≤ k) (hk : k < Ak.slots.size) (hv : v = f k) : Laid A (Ak.setSlot k v) lo (k + 1) f := by
  refine ⟨h.1, h.2.1, by simpa [Cell.setSlot] using h.2.2.1, fun i => ?_⟩
  by_cases e : k = i
  · subst e; rw [Cell.slots_setSlot_self v hk, if_pos (by omega), hv]
  · rw [Cell.slots_setSlot_ne v e, h.2.2.2 i]
    by_cases q : lo ≤ i ∧ i < k
    · rw [if_pos q, if_pos (by omega)]
    · rw [if_neg q, if_neg (by omega)]
def U16 : String := "java/lang/StringUTF16"
namespace Cmp5
def yN : MethodName := ⟨"java/lang/StringUTF16", "compress", "([CI[BII)I"⟩
abbrev yB : ByteArray := jdk_52_method_21_code
theorem d0 : decode yB 0 = .ok (.iconst 0, 1) := by decide +kernel
theorem d1 : decode yB 1 = .ok (.istore 5, 2) := by decide +kernel
theorem d3 : decode yB 3 = .ok (.iload 5, 2) := by decide +kernel
theorem d5 : decode yB 5 = .ok (.iload 4, 2) := by decide +kernel
theorem d7 : decode yB 7 = .ok (.if_icmp (.ge) 37, 3) := by decide +kernel
theorem d10 : decode yB 10 = .ok (.aload_n 0, 1) := by decide +kernel
theorem d11 : decode yB 11 = .ok (.iload_n 1, 1) := by decide +kernel
theorem d12 : decode yB 12 = .ok (.caload, 1) := by decide +kernel
theorem d13 : decode yB 13 = .ok (.istore 6, 2) := by decide +kernel
theorem d15 : decode yB 15 = .ok (.iload 6, 2) := by decide +kernel
theorem d17 : decode yB 17 = .ok (.sipush 255, 3) := by decide +kernel
theorem d20 : decode yB 20 = .ok (.if_icmp (.le) 6, 3) := by decide +kernel
theorem d26 : decode yB 26 = .ok (.aload_n 2, 1) := by decide +kernel
theorem d27 : decode yB 27 = .ok (.iload_n 3, 1) := by decide +kernel
theorem d28 : decode yB 28 = .ok (.iload 6, 2) := by decide +kernel
theorem d30 : decode yB 30 = .ok (.i2b, 1) := by decide +kernel
theorem d31 : decode yB 31 = .ok (.bastore, 1) := by decide +kernel
theorem d32 : decode yB 32 = .ok (.iinc 1 1, 3) := by decide +kernel
theorem d35 : decode yB 35 = .ok (.iinc 3 1, 3) := by decide +kernel
theorem d38 : decode yB 38 = .ok (.iinc 5 1, 3) := by decide +kernel
theorem d41 : decode yB 41 = .ok (.goto (-38), 3) := by decide +kernel
theorem d44 : decode yB 44 = .ok (.iload 4, 2) := by decide +kernel
theorem d46 : decode yB 46 = .ok (.ireturn, 1) := by decide +kernel
def site : List Cond := []
def tab : Cond := tabOf yN yB 7 (some .int) site
def P (b : Addr) (A : Cell) (d : Addr) (B : Cell) (o q len : Nat) (args : Array Value) (s : State) : Prop := args = #[.ref b, .int (Int32.ofNat o), .ref d, .int (Int32.ofNat q), .int (Int32.ofNat len)] ∧ Ch b A s ∧ Arr .byte d B s ∧ b ≠ d ∧ o + len ≤ A.slots.size ∧ q + len ≤ B.slots.size ∧ ∀ i, i < len → ¬ 255 < cv A (o + i)
def E (b : Addr) (A : Cell) (d : Addr) (B : Cell) (o q len : Nat) (r : Option Value) (s u : State) : Prop := r = some (.int (Int32.ofNat len)) ∧ ∃ B', Put d B' s u ∧ Laid B B' q (q + len) (fun j => Value.int (lo8 (cv A (o + (j - q)))))
/-- no char of the range above 255: len; the places written hold each char's low byte -/
theorem law (l : Launch) (b : Addr) (A : Cell) (d : Addr) (B : Cell) (o q len : Nat) : Law l yN 5 5 0 0 yB 7 (some .int) site (P b A d B o q len) (E b A d B o q len) (copyLocs d q len) 0 0 := by
  refine Law.of_walk (plainFor_of_name (by decide +kernel)) (by decide +kernel) (by decide +kernel) (by decide) (fun _ _ h => by rw [h.1]; rfl) (fun _ U U' hal hh h => ⟨h.1, h.2.1.mv hal hh, h.2.2.1.mv hal hh, h.2.2.2⟩) (fun r U U' V V' h1 hal h2 h => ⟨h.1, h.2.elim fun B' q => ⟨B', q.1.mv h1 h2, q.2⟩⟩) ?_
  intro p e s m args below meth c s₁ X0 hexec hbytes hml hret hlk hnm hown hh0 W hP
  obtain ⟨rfl, hA, hB, hne, l1, l2, hp⟩ := hP
  have c1 : Steps p.tables e below (s₁.setTop (entryFrame m #[.ref b, .int (Int32.ofNat o), .ref d, .int (Int32.ofNat q), .int (Int32.ofNat len)] 7)) (s₁.setTop (mkF m 0 #[.val (.ref b), .val (.int (Int32.ofNat o)), .val (.ref d), .val (.int (Int32.ofNat q)), .val (.int (Int32.ofNat len)), .unset, .unset] [])) := entry rfl
  have hA0 := hA.1.mv X0.warmed.alike hh0
  have hB0 := hB.mv X0.warmed.alike hh0
  have a31 := hA.1.2.2.2
  have c2 : Steps p.tables e below (s₁.setTop (entryFrame m #[.ref b, .int (Int32.ofNat o), .ref d, .int (Int32.ofNat q), .int (Int32.ofNat len)] 7)) (s₁.setTop (mkF m 3 #[.val (.ref b), .val (.int (Int32.ofNat o)), .val (.ref d), .val (.int (Int32.ofNat q)), .val (.int (Int32.ofNat len)), .val (.int 0), .unset] [])) := c1.trans (by
    refine iconstV X0.here hexec rfl 0 (hb hbytes d0) (by decide) ?_
    refine XS.istore X0.here hexec rfl (hb hbytes d1) rfl rfl ?_
    exact Steps.refl _)
  have loop : ∀ (r i : Nat), i + r = len → ∀ (z : Slot), (z = .unset ∨ ∃ w, z = .val w ∧ w.category = 1) → ∀ (Tl : State) (Bk : Cell), Stand p l e { frames := 0, locals := 0, cells := 0, slots := 0 } s m #[.ref b, .int (Int32.ofNat o), .ref d, .int (Int32.ofNat q), .int (Int32.ofNat len)] below meth c Tl ([] ++ copyLocs d q i) 0 0 → Put d Bk s₁ Tl → Laid B Bk q (q + i) (fun j => Value.int (lo8 (cv A (o + (j - q))))) →
      Steps p.tables e below (s₁.setTop (entryFrame m #[.ref b, .int (Int32.ofNat o), .ref d, .int (Int32.ofNat q), .int (Int32.ofNat len)] 7)) (Tl.setTop (mkF m 3 #[.val (.ref b), .val (.int (Int32.ofNat (o + i))), .val (.ref d), .val (.int (Int32.ofNat (q + i))), .val (.int (Int32.ofNat len)), .val (.int (Int32.ofNat i)), z] [])) → ∃ (T' : State) (B' : Cell) (z' : Slot), Stand p l e { frames := 0, locals := 0, cells := 0, slots := 0 } s m #[.ref b, .int (Int32.ofNat o), .ref d, .int (Int32.ofNat q), .int (Int32.ofNat len)] below meth c T' ([] ++ copyLocs d q len) 0 0 ∧ Put d B' s₁ T' ∧ Laid B B' q (q + len) (fun j => Value.int (lo8 (cv A (o + (j - q))))) ∧
      Steps p.tables e below (s₁.setTop (entryFrame m #[.ref b, .int (Int32.ofNat o), .ref d, .int (Int32.ofNat q), .int (Int32.ofNat len)] 7)) (T'.setTop (mkF m 3 #[.val (.ref b), .val (.int (Int32.ofNat (o + len))), .val (.ref d), .val (.int (Int32.ofNat (q + len))), .val (.int (Int32.ofNat len)), .val (.int (Int32.ofNat len)), z'] [])) := by
    intro r
    induction r with
    | zero =>
      intro i hi z hz Tl Bk Xl pl fl cl
      have hil : i = len := by omega
      rw [hil] at Xl fl cl
      exact ⟨Tl, Bk, z, Xl, pl, fl, cl⟩
    | succ r ih =>
      intro i hi z hz Tl Bk Xl pl fl cl
      have all := X0.warmed.alike.symm.trans Xl.warmed.alike
      have hAl := hA0.keep all (pl.other hne hA0.1)
      have hBk := hB0.like all pl.1 fl.1 fl.2.1 fl.2.2.1
      have hlt : q + i < Bk.slots.size := by rw [fl.2.2.1]; omega
      have c3 : Steps p.tables e below (s₁.setTop (entryFrame m #[.ref b, .int (Int32.ofNat o), .ref d, .int (Int32.ofNat q), .int (Int32.ofNat len)] 7)) (Tl.setTop (mkF m 12 #[.val (.ref b), .val (.int (Int32.ofNat (o + i))), .val (.ref d), .val (.int (Int32.ofNat (q + i))), .val (.int (Int32.ofNat len)), .val (.int (Int32.ofNat i)), z] [.int (Int32.ofNat (o + i)), .ref b])) := cl.trans (by
        refine XS.iload Xl.here hexec rfl (hb hbytes d3) rfl ?_
        refine XS.iload Xl.here hexec rfl (hb hbytes d5) rfl ?_
        refine XS.icmpNo Xl.here hexec rfl (hb hbytes d7) rfl (ii_ge_f (lt32 (by omega) (by omega))) ?_
        refine XS.aloadN Xl.here hexec rfl (hb hbytes d10) rfl rfl ?_
        refine XS.iloadN Xl.here hexec rfl (hb hbytes d11) rfl ?_
        exact Steps.refl _)
      have c4 : Steps p.tables e below (s₁.setTop (entryFrame m #[.ref b, .int (Int32.ofNat o), .ref d, .int (Int32.ofNat q), .int (Int32.ofNat len)] 7)) (Tl.setTop (mkF m 13 #[.val (.ref b), .val (.int (Int32.ofNat (o + i))), .val (.ref d), .val (.int (Int32.ofNat (q + i))), .val (.int (Int32.ofNat len)), .val (.int (Int32.ofNat i)), z] [.int (cv A (o + i))])) := c3.trans (by
        refine Xl.aget hexec hAl rfl (hA.get (i := o + i) (by omega)) rfl rfl (hb hbytes d12) ?_
        exact Steps.refl _)
      have c5 : Steps p.tables e below (s₁.setTop (entryFrame m #[.ref b, .int (Int32.ofNat o), .ref d, .int (Int32.ofNat q), .int (Int32.ofNat len)] 7)) (Tl.setTop (mkF m 15 #[.val (.ref b), .val (.int (Int32.ofNat (o + i))), .val (.ref d), .val (.int (Int32.ofNat (q + i))), .val (.int (Int32.ofNat len)), .val (.int (Int32.ofNat i)), .val (.int (cv A (o + i)))] [])) := c4.trans (by
        refine XS.istoreS Xl.here hexec rfl (hb hbytes d13) rfl rfl hz ?_
        exact Steps.refl _)
      have c6 : Steps p.tables e below (s₁.setTop (entryFrame m #[.ref b, .int (Int32.ofNat o), .ref d, .int (Int32.ofNat q), .int (Int32.ofNat len)] 7)) (Tl.setTop (mkF m 31 #[.val (.ref b), .val (.int (Int32.ofNat (o + i))), .val (.ref d), .val (.int (Int32.ofNat (q + i))), .val (.int (Int32.ofNat len)), .val (.int (Int32.ofNat i)), .val (.int (cv A (o + i)))] [.int (lo8 (cv A (o + i))), .int (Int32.ofNat (q + i)), .ref d])) := c5.trans (by
        refine XS.iload Xl.here hexec rfl (hb hbytes d15) rfl ?_
        refine sipushV Xl.here hexec rfl 255 (hb hbytes d17) (by decide) ?_
        refine XS.icmpYes Xl.here hexec rfl (pc0 := 20) rfl (hb hbytes d20) rfl (ii_le_t (hp i (by omega))) (by decide) rfl ?_
        refine XS.aloadN Xl.here hexec rfl (hb hbytes d26) rfl rfl ?_
        refine XS.iloadN Xl.here hexec rfl (hb hbytes d27) rfl ?_
        refine XS.iload Xl.here hexec rfl (hb hbytes d28) rfl ?_
        refine i2b Xl.here hexec rfl (hb hbytes d30) rfl ?_
        exact Steps.refl _)
      obtain ⟨T7, X7, p7, st7⟩ := Xl.aput hexec hBk rfl hlt rfl (fits_lo8 (cv A (o + i))) (g := (mkF m 31 #[.val (.ref b), .val (.int (Int32.ofNat (o + i))), .val (.ref d), .val (.int (Int32.ofNat (q + i))), .val (.int (Int32.ofNat len)), .val (.int (Int32.ofNat i)), .val (.int (cv A (o + i)))] [.int (lo8 (cv A (o + i))), .int (Int32.ofNat (q + i)), .ref d])) rfl (rest := []) rfl (hb hbytes d31)
      have c8 : Steps p.tables e below (s₁.setTop (entryFrame m #[.ref b, .int (Int32.ofNat o), .ref d, .int (Int32.ofNat q), .int (Int32.ofNat len)] 7)) (T7.setTop (mkF m 32 #[.val (.ref b), .val (.int (Int32.ofNat (o + i))), .val (.ref d), .val (.int (Int32.ofNat (q + i))), .val (.int (Int32.ofNat len)), .val (.int (Int32.ofNat i)), .val (.int (cv A (o + i)))] [])) := c6.trans (st7 _ (Steps.refl _))
      have c9 : Steps p.tables e below (s₁.setTop (entryFrame m #[.ref b, .int (Int32.ofNat o), .ref d, .int (Int32.ofNat q), .int (Int32.ofNat len)] 7)) (T7.setTop (mkF m 3 #[.val (.ref b), .val (.int (Int32.ofNat (o + i) + 1)), .val (.ref d), .val (.int (Int32.ofNat (q + i) + 1)), .val (.int (Int32.ofNat len)), .val (.int (Int32.ofNat i + 1)), .val (.int (cv A (o + i)))] [])) := c8.trans (by
        refine iincV X7.here hexec rfl 1 (hb hbytes d32) (by decide) rfl rfl ?_
        refine iincV X7.here hexec rfl 1 (hb hbytes d35) (by decide) rfl rfl ?_
        refine iincV X7.here hexec rfl 1 (hb hbytes d38) (by decide) rfl rfl ?_
        refine XS.goto X7.here hexec rfl (pc0 := 41) rfl (hb hbytes d41) (by decide) rfl ?_
        exact Steps.refl _)
      have c10 : Steps p.tables e below (s₁.setTop (entryFrame m #[.ref b, .int (Int32.ofNat o), .ref d, .int (Int32.ofNat q), .int (Int32.ofNat len)] 7)) (T7.setTop (mkF m 3 #[.val (.ref b), .val (.int (Int32.ofNat (o + (i + 1)))), .val (.ref d), .val (.int (Int32.ofNat (q + (i + 1)))), .val (.int (Int32.ofNat len)), .val (.int (Int32.ofNat (i + 1))), .val (.int (cv A (o + i)))] [])) := by
        have := c9
        rw [succ32, succ32, succ32] at this
        exact this
      exact ih (i + 1) (by omega) _ (Or.inr ⟨_, rfl, rfl⟩) T7 _ (by rw [copyLocs_step, ← List.append_assoc]; exact X7) (pl.trans p7) (fl.step (by omega) hlt (by simp)) c10
  obtain ⟨T9, B9, z9, X9, p9, f9, g9⟩ := loop len 0 (by omega) .unset (Or.inl rfl) s₁ B (by simpa [copyLocs] using X0) ⟨hB0.1, fun _ _ => rfl, rfl⟩ (Laid.zero _ _ _) c2
  have c11 : Steps p.tables e below (s₁.setTop (entryFrame m #[.ref b, .int (Int32.ofNat o), .ref d, .int (Int32.ofNat q), .int (Int32.ofNat len)] 7)) (T9.setTop (mkF m 46 #[.val (.ref b), .val (.int (Int32.ofNat (o + len))), .val (.ref d), .val (.int (Int32.ofNat (q + len))), .val (.int (Int32.ofNat len)), .val (.int (Int32.ofNat len)), z9] [.int (Int32.ofNat len)])) := g9.trans (by
    refine XS.iload X9.here hexec rfl (hb hbytes d3) rfl ?_
    refine XS.iload X9.here hexec rfl (hb hbytes d5) rfl ?_
    refine XS.icmpYes X9.here hexec rfl (pc0 := 7) rfl (hb hbytes d7) rfl (ii_ge_t (nlt32 (by omega) (Nat.le_refl _))) (by decide) rfl ?_
    refine XS.iload X9.here hexec rfl (hb hbytes d44) rfl ?_
    exact Steps.refl _)
  exact ⟨T9, some (.int (Int32.ofNat len)), _, _, _, X9, by simp, rfl, rfl, (fun h => by cases h), ⟨rfl, B9, p9.from hh0, f9⟩, fun fs hl => c11.trans (X9.ireturnOut hexec hret rfl (Or.inl rfl) (hb hbytes d46) hl)⟩
end Cmp5
namespace Cmp3
def yN : MethodName := ⟨"java/lang/StringUTF16", "compress", "([CII)[B"⟩
abbrev yB : ByteArray := jdk_52_method_16_code
theorem d0 : decode yB 0 = .ok (.iload_n 2, 1) := by decide +kernel
theorem d1 : decode yB 1 = .ok (.newarray .byte, 2) := by decide +kernel
theorem d3 : decode yB 3 = .ok (.astore_n 3, 1) := by decide +kernel
theorem d4 : decode yB 4 = .ok (.aload_n 0, 1) := by decide +kernel
theorem d5 : decode yB 5 = .ok (.iload_n 1, 1) := by decide +kernel
theorem d6 : decode yB 6 = .ok (.aload_n 3, 1) := by decide +kernel
theorem d7 : decode yB 7 = .ok (.iconst 0, 1) := by decide +kernel
theorem d8 : decode yB 8 = .ok (.iload_n 2, 1) := by decide +kernel
theorem d9 : decode yB 9 = .ok (.invokestatic 115, 3) := by decide +kernel
theorem d12 : decode yB 12 = .ok (.istore 4, 2) := by decide +kernel
theorem d14 : decode yB 14 = .ok (.iload 4, 2) := by decide +kernel
theorem d16 : decode yB 16 = .ok (.iload_n 2, 1) := by decide +kernel
theorem d17 : decode yB 17 = .ok (.if_icmp (.eq) 40, 3) := by decide +kernel
theorem d57 : decode yB 57 = .ok (.aload_n 3, 1) := by decide +kernel
theorem d58 : decode yB 58 = .ok (.areturn, 1) := by decide +kernel
def site : List Cond := [.arrayClass .byte, Cmp5.tab] ++ staticW U16 115 Cmp5.yN
def tab : Cond := tabOf yN yB 6 (some (.array .byte)) site
def P (b : Addr) (A : Cell) (o len : Nat) (args : Array Value) (s : State) : Prop := args = #[.ref b, .int (Int32.ofNat o), .int (Int32.ofNat len)] ∧ Ch b A s ∧ o + len ≤ A.slots.size ∧ len ≤ 536870912 ∧ ∀ i, i < len → ¬ 255 < cv A (o + i)
def E (b : Addr) (A : Cell) (o len : Nat) (r : Option Value) (s u : State) : Prop := NewArr .byte "[B" len (fun j => .int (lo8 (cv A (o + j)))) r s u ∧ u.heap.size = s.heap.size + 1
/-- no char of the range above 255: a new byte[] of their low bytes -/
theorem law (l : Launch) (b : Addr) (A : Cell) (o len : Nat) : Law l yN 3 3 1 18 yB 6 (some (.array .byte)) site (P b A o len) (E b A o len) [] 1 len := by
  refine Law.of_walk (plainFor_of_name (by decide +kernel)) (by decide +kernel) (by decide +kernel) (by decide) (fun _ _ h => by rw [h.1]; rfl) (fun _ U U' hal hh h => ⟨h.1, h.2.1.mv hal hh, h.2.2⟩) (fun r U U' V V' h1 hal h2 h => ⟨NewArr.mv r U U' V V' h1 hal h2 h.1, by rw [h1, h2]; exact h.2⟩) ?_
  intro p e s m args below meth c s₁ X0 hexec hbytes hml hret hlk hnm hown hh0 W hP
  obtain ⟨rfl, hA, l1, l2, hp⟩ := hP
  have a31 := hA.1.2.2.2
  have c1 : Steps p.tables e below (s₁.setTop (entryFrame m #[.ref b, .int (Int32.ofNat o), .int (Int32.ofNat len)] 6)) (s₁.setTop (mkF m 0 #[.val (.ref b), .val (.int (Int32.ofNat o)), .val (.int (Int32.ofNat len)), .unset, .unset, .unset] [])) := entry rfl
  have c2 : Steps p.tables e below (s₁.setTop (entryFrame m #[.ref b, .int (Int32.ofNat o), .int (Int32.ofNat len)] 6)) (s₁.setTop (mkF m 1 #[.val (.ref b), .val (.int (Int32.ofNat o)), .val (.int (Int32.ofNat len)), .unset, .unset, .unset] [.int (Int32.ofNat len)])) := c1.trans (by
    refine XS.iloadN X0.here hexec rfl (hb hbytes d0) rfl ?_
    exact Steps.refl _)
  obtain ⟨T3, B3, X3, ba3, bs3, bv3, bh3, bf3, st3⟩ := X0.anew hexec (atype := .byte) (wk W (.arrayClass .byte)) rfl (by show len * 1 ≤ _; omega) (by omega) (g := (mkF m 1 #[.val (.ref b), .val (.int (Int32.ofNat o)), .val (.int (Int32.ofNat len)), .unset, .unset, .unset] [.int (Int32.ofNat len)])) rfl (hb hbytes d1) (rest := []) rfl (Nat.le_refl _) (by show 0 + len ≤ len; omega)
  rw [hh0] at ba3 st3
  have kp3 : XT.Kept s T3 := (XT.Kept.of_eq hh0).push bh3
  have hA3 := hA.keep X3.warmed.alike (kp3 _ _ hA.1.1)
  have hne : b ≠ s.heap.size := hA.1.ne
  have c4 : Steps p.tables e below (s₁.setTop (entryFrame m #[.ref b, .int (Int32.ofNat o), .int (Int32.ofNat len)] 6)) (T3.setTop (mkF m 3 #[.val (.ref b), .val (.int (Int32.ofNat o)), .val (.int (Int32.ofNat len)), .unset, .unset, .unset] [.ref s.heap.size])) := c2.trans (st3 _ (Steps.refl _))
  have c5 : Steps p.tables e below (s₁.setTop (entryFrame m #[.ref b, .int (Int32.ofNat o), .int (Int32.ofNat len)] 6)) (T3.setTop (mkF m 9 #[.val (.ref b), .val (.int (Int32.ofNat o)), .val (.int (Int32.ofNat len)), .val (.ref s.heap.size), .unset, .unset] [.int (Int32.ofNat len), .int 0, .ref s.heap.size, .int (Int32.ofNat o), .ref b])) := c4.trans (by
    refine XS.astoreN X3.here hexec rfl (hb hbytes d3) rfl rfl rfl ?_
    refine XS.aloadN X3.here hexec rfl (hb hbytes d4) rfl rfl ?_
    refine XS.iloadN X3.here hexec rfl (hb hbytes d5) rfl ?_
    refine XS.aloadN X3.here hexec rfl (hb hbytes d6) rfl rfl ?_
    refine iconstV X3.here hexec rfl 0 (hb hbytes d7) (by decide) ?_
    refine XS.iloadN X3.here hexec rfl (hb hbytes d8) rfl ?_
    exact Steps.refl _)
  obtain ⟨v6, T6, X6, E6, g6⟩ := X3.callS hexec (Cmp5.law l b A s.heap.size B3 o 0 len) hown (wks W (staticW U16 115 Cmp5.yN)) (wk W Cmp5.tab) (W := 0) (Nat.le_of_ble_eq_true rfl) (Nat.le_of_ble_eq_true rfl) (Nat.le_refl _) (by show 0 + len + 0 ≤ len; omega) (g := (mkF m 9 #[.val (.ref b), .val (.int (Int32.ofNat o)), .val (.int (Int32.ofNat len)), .val (.ref s.heap.size), .unset, .unset] [.int (Int32.ofNat len), .int (Int32.ofNat 0), .ref s.heap.size, .int (Int32.ofNat o), .ref b])) rfl (by rw [hml]; rfl) c5 (argsL := [.ref b, .int (Int32.ofNat o), .ref s.heap.size, .int (Int32.ofNat 0), .int (Int32.ofNat len)]) (rest := []) rfl rfl (by show 2 * 0 + 0 ≤ _; decide) (hb hbytes d9) (⟨rfl, hA3, ba3, hne, l1, by rw [bs3]; simp, hp⟩)
  obtain ⟨rfl, B6, p6, f6⟩ := E6
  have c7 : Steps p.tables e below (s₁.setTop (entryFrame m #[.ref b, .int (Int32.ofNat o), .int (Int32.ofNat len)] 6)) (T6.setTop (mkF m 12 #[.val (.ref b), .val (.int (Int32.ofNat o)), .val (.int (Int32.ofNat len)), .val (.ref s.heap.size), .unset, .unset] [.int (Int32.ofNat len)])) := g6
  have c8 : Steps p.tables e below (s₁.setTop (entryFrame m #[.ref b, .int (Int32.ofNat o), .int (Int32.ofNat len)] 6)) (T6.setTop (mkF m 58 #[.val (.ref b), .val (.int (Int32.ofNat o)), .val (.int (Int32.ofNat len)), .val (.ref s.heap.size), .val (.int (Int32.ofNat len)), .unset] [.ref s.heap.size])) := c7.trans (by
    refine XS.istore X6.here hexec rfl (hb hbytes d12) rfl rfl ?_
    refine XS.iload X6.here hexec rfl (hb hbytes d14) rfl ?_
    refine XS.iloadN X6.here hexec rfl (hb hbytes d16) rfl ?_
    refine XS.icmpYes X6.here hexec rfl (pc0 := 17) rfl (hb hbytes d17) rfl (ii_eq_t rfl) (by decide) rfl ?_
    refine XS.aloadN X6.here hexec rfl (hb hbytes d57) rfl rfl ?_
    exact Steps.refl _)
  have X8 := X6.wide (L' := []) (cells' := 1) (slots' := len) (fun x hx hlt => by
    simp only [List.nil_append, copyLocs, List.mem_map, List.mem_range] at hx
    obtain ⟨i, -, rfl⟩ := hx
    exact absurd hlt (Nat.lt_irrefl _)) (Nat.le_refl _) (by omega)
  exact ⟨T6, some (.ref s.heap.size), _, _, _, X8, rfl, rfl, rfl, (fun h => by cases h), ⟨⟨rfl, B6, ba3.like (X3.warmed.alike.symm.trans X6.warmed.alike) p6.1 f6.1 f6.2.1 f6.2.2.1, f6.2.1.trans bv3, by rw [X6.warmed.alike.findClass, f6.1]; exact bf3, by rw [f6.2.2.1, bs3]; simp, fun j hj => by rw [f6.2.2.2 j, if_pos (by omega)]; rfl, kp3.put p6 (Nat.le_refl _)⟩, by rw [p6.2.2, bh3, hh0]; simp⟩, fun fs hl => c8.trans (X8.areturnOut hexec rfl hret rfl (hb hbytes d58) hl)⟩
end Cmp3
namespace CodL
def yN : MethodName := ⟨"java/lang/StringUTF16", "coderFromArrayLen", "([BI)B"⟩
abbrev yB : ByteArray := jdk_52_method_15_code
theorem d0 : decode yB 0 = .ok (.iload_n 1, 1) := by decide +kernel
theorem d1 : decode yB 1 = .ok (.aload_n 0, 1) := by decide +kernel
theorem d2 : decode yB 2 = .ok (.arraylength, 1) := by decide +kernel
theorem d3 : decode yB 3 = .ok (.isub, 1) := by decide +kernel
theorem d4 : decode yB 4 = .ok (.bipush 31, 2) := by decide +kernel
theorem d6 : decode yB 6 = .ok (.iushr, 1) := by decide +kernel
theorem d7 : decode yB 7 = .ok (.i2b, 1) := by decide +kernel
theorem d8 : decode yB 8 = .ok (.ireturn, 1) := by decide +kernel
def site : List Cond := []
def tab : Cond := tabOf yN yB 2 (some .byte) site
def P (d : Addr) (B : Cell) (args : Array Value) (s : State) : Prop := args = #[.ref d, .int (Int32.ofNat B.slots.size)] ∧ Arr .byte d B s
def E (r : Option Value) (s u : State) : Prop := XT.PureE (some (.int 0)) r s u
/-- an array as long as the number of chars: LATIN1 -/
theorem law (l : Launch) (d : Addr) (B : Cell) : Law l yN 2 2 0 0 yB 2 (some .byte) site (P d B) E [] 0 0 := by
  refine Law.of_walk (plainFor_of_name (by decide +kernel)) (by decide +kernel) (by decide +kernel) (by decide) (fun _ _ h => by rw [h.1]; rfl) (fun _ U U' hal hh h => ⟨h.1, h.2.mv hal hh⟩) (fun r U U' V V' h1 hal h2 h => XT.PureE.mv r U U' V V' h1 hal h2 h) ?_
  intro p e s m args below meth c s₁ X0 hexec hbytes hml hret hlk hnm hown hh0 W hP
  obtain ⟨rfl, hB⟩ := hP
  have hB0 := hB.mv X0.warmed.alike hh0
  have c1 : Steps p.tables e below (s₁.setTop (entryFrame m #[.ref d, .int (Int32.ofNat B.slots.size)] 2)) (s₁.setTop (mkF m 0 #[.val (.ref d), .val (.int (Int32.ofNat B.slots.size))] [])) := entry rfl
  have c2 : Steps p.tables e below (s₁.setTop (entryFrame m #[.ref d, .int (Int32.ofNat B.slots.size)] 2)) (s₁.setTop (mkF m 2 #[.val (.ref d), .val (.int (Int32.ofNat B.slots.size))] [.ref d, .int (Int32.ofNat B.slots.size)])) := c1.trans (by
    refine XS.iloadN X0.here hexec rfl (hb hbytes d0) rfl ?_
    refine XS.aloadN X0.here hexec rfl (hb hbytes d1) rfl rfl ?_
    exact Steps.refl _)
  have c3 : Steps p.tables e below (s₁.setTop (entryFrame m #[.ref d, .int (Int32.ofNat B.slots.size)] 2)) (s₁.setTop (mkF m 8 #[.val (.ref d), .val (.int (Int32.ofNat B.slots.size))] [.int (lo8 (ushr (Int32.ofNat B.slots.size - Int32.ofNat B.slots.size) 31))])) := c2.trans (by
    refine X0.alen hexec hB0 rfl rfl (hb hbytes d2) ?_
    refine XS.isub X0.here hexec rfl (hb hbytes d3) rfl ?_
    refine bipushV X0.here hexec rfl 31 (hb hbytes d4) (by decide) ?_
    refine iushr X0.here hexec rfl (hb hbytes d6) rfl ?_
    refine i2b X0.here hexec rfl (hb hbytes d7) rfl ?_
    exact Steps.refl _)
  have e0 : lo8 (ushr (Int32.ofNat B.slots.size - Int32.ofNat B.slots.size) 31) = 0 := by rw [Int32.sub_self]; decide
  rw [e0] at c3
  exact ⟨s₁, some (.int 0), _, _, _, X0, rfl, rfl, rfl, (fun h => by cases h), ⟨rfl, hh0⟩, fun fs hl => c3.trans (X0.ireturnOut hexec hret rfl (Or.inr (Or.inr (Or.inl rfl))) (hb hbytes d8) hl)⟩
end CodL
/-- the String at a is Latin-1 over a new byte[] (the heap's one new cell): the low bytes of the len chars of A from o on; every cell but a is kept -/
def Got (a : Addr) (D : Cell) (fV fC : Field) (A : Cell) (o len : Nat) (r : Option Value) (s u : State) : Prop := r = none ∧ ∃ D' V : Cell, Blank "java/lang/String" a D' u ∧ Same D D' [fV.slot, fC.slot] ∧ D'.slots[fV.slot]? = some (.ref s.heap.size) ∧ D'.slots[fC.slot]? = some (.int 0) ∧ Arr .byte s.heap.size V u ∧ V.vm = .none ∧ u.vm.findClass "[B" = some V.cls ∧ V.slots.size = len ∧ (∀ j, j < len → V.slots[j]? = some (.int (lo8 (cv A (o + j))))) ∧ (∀ (y : Addr) (c : Cell), y ≠ a → s.heap[y]? = some c → u.heap[y]? = some c) ∧ u.heap.size = s.heap.size + 1
theorem Got.mv {a : Addr} {D A : Cell} {fV fC : Field} {o len : Nat} : ∀ r (U U' V V' : State), U'.heap = U.heap → V.vm.Alike V'.vm → V'.heap = V.heap → Got a D fV fC A o len r U V → Got a D fV fC A o len r U' V' :=
  fun r U U' V V' h1 hal h2 ⟨e0, D', X, a1, a2, a3, a4, a5, a6, a7, a8, a9, a10, a11⟩ => ⟨e0, D', X, a1.mv hal h2, a2, by rw [h1]; exact a3, a4, by rw [h1]; exact a5.mv hal h2, a6, by rw [hal.findClass]; exact a7, a8, a9, by rw [h1, h2]; exact a10, by rw [h1, h2]; exact a11⟩
namespace New4
def yN : MethodName := ⟨"java/lang/String", "<init>", "([CIILjava/lang/Void;)V"⟩
abbrev yB : ByteArray := jdk_42_method_149_code
theorem d0 : decode yB 0 = .ok (.aload_n 0, 1) := by decide +kernel
theorem d1 : decode yB 1 = .ok (.invokespecial 1, 3) := by decide +kernel
theorem d4 : decode yB 4 = .ok (.iload_n 3, 1) := by decide +kernel
theorem d5 : decode yB 5 = .ok (.ifCond (.ne) 22, 3) := by decide +kernel
theorem d27 : decode yB 27 = .ok (.getstatic 38, 3) := by decide +kernel
theorem d30 : decode yB 30 = .ok (.ifCond (.eq) 28, 3) := by decide +kernel
theorem d33 : decode yB 33 = .ok (.aload_n 1, 1) := by decide +kernel
theorem d34 : decode yB 34 = .ok (.iload_n 2, 1) := by decide +kernel
theorem d35 : decode yB 35 = .ok (.iload_n 3, 1) := by decide +kernel
theorem d36 : decode yB 36 = .ok (.invokestatic 177, 3) := by decide +kernel
theorem d39 : decode yB 39 = .ok (.astore 5, 2) := by decide +kernel
theorem d41 : decode yB 41 = .ok (.aload_n 0, 1) := by decide +kernel
theorem d42 : decode yB 42 = .ok (.aload 5, 2) := by decide +kernel
theorem d44 : decode yB 44 = .ok (.iload_n 3, 1) := by decide +kernel
theorem d45 : decode yB 45 = .ok (.invokestatic 47, 3) := by decide +kernel
theorem d48 : decode yB 48 = .ok (.putfield 15, 3) := by decide +kernel
theorem d51 : decode yB 51 = .ok (.aload_n 0, 1) := by decide +kernel
theorem d52 : decode yB 52 = .ok (.aload 5, 2) := by decide +kernel
theorem d54 : decode yB 54 = .ok (.putfield 9, 3) := by decide +kernel
theorem d57 : decode yB 57 = .ok (.return_, 1) := by decide +kernel
def site : List Cond := [.fieldLink "java/lang/String" 38 "java/lang/String" "COMPACT_STRINGS" "Z", Cmp3.tab, CodL.tab, .laysFinal "java/lang/String" "java/lang/String" "value" "[B", .fieldLink "java/lang/String" 9 "java/lang/String" "value" "[B", .laysFinal "java/lang/String" "java/lang/String" "coder" "B", .fieldLink "java/lang/String" 15 "java/lang/String" "coder" "B"] ++ objW "java/lang/String" 1 ++ staticW "java/lang/String" 177 Cmp3.yN ++ staticW "java/lang/String" 47 CodL.yN
def tab : Cond := tabOf yN yB 6 none site
def P (a : Addr) (D : Cell) (fV fC : Field) (b : Addr) (A : Cell) (z : Int32) (o len : Nat) (args : Array Value) (s : State) : Prop := args = #[.ref a, .ref b, .int (Int32.ofNat o), .int (Int32.ofNat len), .null] ∧ Blank "java/lang/String" a D s ∧ Found "java/lang/String" "value" "[B" fV s ∧ Found "java/lang/String" "coder" "B" fC s ∧ Ch b A s ∧ StaticIs s "java/lang/String" "COMPACT_STRINGS" "Z" (.int z) ∧ ¬ z = 0 ∧ 0 < len ∧ o + len ≤ A.slots.size ∧ len ≤ 536870912 ∧ ∀ i, i < len → ¬ 255 < cv A (o + i)
def E (a : Addr) (D : Cell) (fV fC : Field) (A : Cell) (o len : Nat) (r : Option Value) (s u : State) : Prop := Got a D fV fC A o len r s u
/-- len > 0, no char of the range above 255: a Latin-1 String of their low bytes -/
theorem law (l : Launch) (a : Addr) (D : Cell) (fV fC : Field) (b : Addr) (A : Cell) (z : Int32) (o len : Nat) : Law l yN 5 4 2 35 yB 6 none site (P a D fV fC b A z o len) (E a D fV fC A o len) [⟨a, fC.slot⟩, ⟨a, fV.slot⟩] 1 len := by
  refine Law.of_walk (plainFor_of_name (by decide +kernel)) (by decide +kernel) (by decide +kernel) (by decide) (fun _ _ h => by rw [h.1]; rfl) (fun _ U U' hal hh h => ⟨h.1, h.2.1.mv hal hh, h.2.2.1.al hal, h.2.2.2.1.al hal, h.2.2.2.2.1.mv hal hh, h.2.2.2.2.2.1.there hal hh, h.2.2.2.2.2.2⟩) (fun r U U' V V' h1 hal h2 h => Got.mv r U U' V V' h1 hal h2 h) ?_
  intro p e s m args below meth c s₁ X0 hexec hbytes hml hret hlk hnm hown hh0 W hP
  obtain ⟨rfl, hB, f1, f2, hA, s1, hz, l0, l1, l2, hp⟩ := hP
  have a31 := hA.1.2.2.2
  have c1 : Steps p.tables e below (s₁.setTop (entryFrame m #[.ref a, .ref b, .int (Int32.ofNat o), .int (Int32.ofNat len), .null] 6)) (s₁.setTop (mkF m 0 #[.val (.ref a), .val (.ref b), .val (.int (Int32.ofNat o)), .val (.int (Int32.ofNat len)), .val .null, .unset] [])) := entry rfl
  have c2 : Steps p.tables e below (s₁.setTop (entryFrame m #[.ref a, .ref b, .int (Int32.ofNat o), .int (Int32.ofNat len), .null] 6)) (s₁.setTop (mkF m 1 #[.val (.ref a), .val (.ref b), .val (.int (Int32.ofNat o)), .val (.int (Int32.ofNat len)), .val .null, .unset] [.ref a])) := c1.trans (by
    refine XS.aloadN X0.here hexec rfl (hb hbytes d0) rfl rfl ?_
    exact Steps.refl _)
  obtain ⟨T3, X3, q3, st3⟩ := X0.oinit hexec hown (wks W (objW "java/lang/String" 1)) (g := (mkF m 1 #[.val (.ref a), .val (.ref b), .val (.int (Int32.ofNat o)), .val (.int (Int32.ofNat len)), .val .null, .unset] [.ref a])) rfl (by rw [hml]; rfl) (rest := []) rfl (hb hbytes d1) (W := 0) (by show 2 * 0 + 0 ≤ _; decide) (Nat.le_of_ble_eq_true rfl) (Nat.le_of_ble_eq_true rfl)
  have hh3 := q3.trans hh0
  have c4 : Steps p.tables e below (s₁.setTop (entryFrame m #[.ref a, .ref b, .int (Int32.ofNat o), .int (Int32.ofNat len), .null] 6)) (T3.setTop (mkF m 27 #[.val (.ref a), .val (.ref b), .val (.int (Int32.ofNat o)), .val (.int (Int32.ofNat len)), .val .null, .unset] [])) := (c2.trans (st3 _ (Steps.refl _))).trans (by
    refine XS.iloadN X3.here hexec rfl (hb hbytes d4) rfl ?_
    refine XS.ifYes X3.here hexec rfl (pc0 := 5) rfl (hb hbytes d5) rfl (i0_ne_t (nz32 (by omega) l0)) (by decide) rfl ?_
    exact Steps.refl _)
  obtain ⟨T5, X5, q5, st5⟩ := X3.sget hexec hown (wk W (.fieldLink "java/lang/String" 38 "java/lang/String" "COMPACT_STRINGS" "Z")) s1 (fun _ _ h => by rw [hh3]; exact h) (g := (mkF m 27 #[.val (.ref a), .val (.ref b), .val (.int (Int32.ofNat o)), .val (.int (Int32.ofNat len)), .val .null, .unset] [])) rfl (hb hbytes d27)
  have hh5 := q5.trans hh3
  have c6 : Steps p.tables e below (s₁.setTop (entryFrame m #[.ref a, .ref b, .int (Int32.ofNat o), .int (Int32.ofNat len), .null] 6)) (T5.setTop (mkF m 30 #[.val (.ref a), .val (.ref b), .val (.int (Int32.ofNat o)), .val (.int (Int32.ofNat len)), .val .null, .unset] [.int z])) := c4.trans (st5 _ (Steps.refl _))
  have c7 : Steps p.tables e below (s₁.setTop (entryFrame m #[.ref a, .ref b, .int (Int32.ofNat o), .int (Int32.ofNat len), .null] 6)) (T5.setTop (mkF m 36 #[.val (.ref a), .val (.ref b), .val (.int (Int32.ofNat o)), .val (.int (Int32.ofNat len)), .val .null, .unset] [.int (Int32.ofNat len), .int (Int32.ofNat o), .ref b])) := c6.trans (by
    refine XS.ifNo X5.here hexec rfl (hb hbytes d30) rfl (i0_eq_f hz) ?_
    refine XS.aloadN X5.here hexec rfl (hb hbytes d33) rfl rfl ?_
    refine XS.iloadN X5.here hexec rfl (hb hbytes d34) rfl ?_
    refine XS.iloadN X5.here hexec rfl (hb hbytes d35) rfl ?_
    exact Steps.refl _)
  obtain ⟨v8, T8, X8, E8, g8⟩ := X5.callS hexec (Cmp3.law l b A o len) hown (wks W (staticW "java/lang/String" 177 Cmp3.yN)) (wk W Cmp3.tab) (W := 0) (Nat.le_of_ble_eq_true rfl) (Nat.le_of_ble_eq_true rfl) (Nat.le_refl _) (by show 0 + len ≤ len; omega) (g := (mkF m 36 #[.val (.ref a), .val (.ref b), .val (.int (Int32.ofNat o)), .val (.int (Int32.ofNat len)), .val .null, .unset] [.int (Int32.ofNat len), .int (Int32.ofNat o), .ref b])) rfl (by rw [hml]; rfl) c7 (argsL := [.ref b, .int (Int32.ofNat o), .int (Int32.ofNat len)]) (rest := []) rfl rfl (by show 2 * 0 + 0 ≤ _; decide) (hb hbytes d36) (⟨rfl, hA.mv X5.warmed.alike hh5, l1, l2, hp⟩)
  obtain ⟨e8, z8⟩ := E8
  obtain ⟨rfl, N, n1, n2, n3, n4, n5, n6⟩ := NewArr.mv _ T5 s _ _ hh5.symm (Vm.Alike.refl _) rfl e8
  rw [hh5] at z8
  have hB1 := hB.keep X8.warmed.alike (n6 _ _ hB.1)
  have hne : s.heap.size ≠ a := (Nat.ne_of_lt (Array.getElem?_eq_some_iff.mp hB.1).1).symm
  have c9 : Steps p.tables e below (s₁.setTop (entryFrame m #[.ref a, .ref b, .int (Int32.ofNat o), .int (Int32.ofNat len), .null] 6)) (T8.setTop (mkF m 39 #[.val (.ref a), .val (.ref b), .val (.int (Int32.ofNat o)), .val (.int (Int32.ofNat len)), .val .null, .unset] [.ref s.heap.size])) := g8
  have c10 : Steps p.tables e below (s₁.setTop (entryFrame m #[.ref a, .ref b, .int (Int32.ofNat o), .int (Int32.ofNat len), .null] 6)) (T8.setTop (mkF m 45 #[.val (.ref a), .val (.ref b), .val (.int (Int32.ofNat o)), .val (.int (Int32.ofNat len)), .val .null, .val (.ref s.heap.size)] [.int (Int32.ofNat N.slots.size), .ref s.heap.size, .ref a])) := by
    have hc : Steps p.tables e below (s₁.setTop (entryFrame m #[.ref a, .ref b, .int (Int32.ofNat o), .int (Int32.ofNat len), .null] 6)) (T8.setTop (mkF m 45 #[.val (.ref a), .val (.ref b), .val (.int (Int32.ofNat o)), .val (.int (Int32.ofNat len)), .val .null, .val (.ref s.heap.size)] [.int (Int32.ofNat len), .ref s.heap.size, .ref a])) := c9.trans (by
      refine XS.astore X8.here hexec rfl (hb hbytes d39) rfl rfl rfl ?_
      refine XS.aloadN X8.here hexec rfl (hb hbytes d41) rfl rfl ?_
      refine XS.aload X8.here hexec rfl (hb hbytes d42) rfl rfl ?_
      refine XS.iloadN X8.here hexec rfl (hb hbytes d44) rfl ?_
      exact Steps.refl _)
    rw [n4]; exact hc
  obtain ⟨v11, T11, X11, E11, g11⟩ := X8.callS hexec (CodL.law l s.heap.size N) hown (wks W (staticW "java/lang/String" 47 CodL.yN)) (wk W CodL.tab) (W := 1) (Nat.le_of_ble_eq_true rfl) (Nat.le_of_ble_eq_true rfl) (Nat.le_refl _) (by show 0 + len + 0 ≤ len; omega) (g := (mkF m 45 #[.val (.ref a), .val (.ref b), .val (.int (Int32.ofNat o)), .val (.int (Int32.ofNat len)), .val .null, .val (.ref s.heap.size)] [.int (Int32.ofNat N.slots.size), .ref s.heap.size, .ref a])) rfl (by rw [hml]; rfl) c10 (argsL := [.ref s.heap.size, .int (Int32.ofNat N.slots.size)]) (rest := [.ref a]) rfl rfl (by show 2 * 0 + (1 + 0) ≤ _; decide) (hb hbytes d45) (⟨rfl, n1⟩)
  obtain ⟨rfl, q11⟩ := E11
  have hB11 := hB1.mv (X8.warmed.alike.symm.trans X11.warmed.alike) q11
  have c12 : Steps p.tables e below (s₁.setTop (entryFrame m #[.ref a, .ref b, .int (Int32.ofNat o), .int (Int32.ofNat len), .null] 6)) (T11.setTop (mkF m 48 #[.val (.ref a), .val (.ref b), .val (.int (Int32.ofNat o)), .val (.int (Int32.ofNat len)), .val .null, .val (.ref s.heap.size)] [.int 0, .ref a])) := g11
  obtain ⟨T13, X13, p13, bl13, sl13, st13⟩ := X11.finit hexec hown (wk W (.fieldLink "java/lang/String" 15 "java/lang/String" "coder" "B")) (Or.inr ⟨_, (wk W (.laysFinal "java/lang/String" "java/lang/String" "coder" "B"))⟩) (Or.inl ⟨rfl, hnm⟩) f2 (Or.inl rfl) hB11 (t := .byte) (by decide +kernel) rfl (g := (mkF m 48 #[.val (.ref a), .val (.ref b), .val (.int (Int32.ofNat o)), .val (.int (Int32.ofNat len)), .val .null, .val (.ref s.heap.size)] [.int 0, .ref a])) rfl (rest := []) rfl (hb hbytes d48)
  have c14 : Steps p.tables e below (s₁.setTop (entryFrame m #[.ref a, .ref b, .int (Int32.ofNat o), .int (Int32.ofNat len), .null] 6)) (T13.setTop (mkF m 54 #[.val (.ref a), .val (.ref b), .val (.int (Int32.ofNat o)), .val (.int (Int32.ofNat len)), .val .null, .val (.ref s.heap.size)] [.ref s.heap.size, .ref a])) := (c12.trans (st13 _ (Steps.refl _))).trans (by
    refine XS.aloadN X13.here hexec rfl (hb hbytes d51) rfl rfl ?_
    refine XS.aload X13.here hexec rfl (hb hbytes d52) rfl rfl ?_
    exact Steps.refl _)
  obtain ⟨T15, X15, p15, bl15, sl15, st15⟩ := X13.finit hexec hown (wk W (.fieldLink "java/lang/String" 9 "java/lang/String" "value" "[B")) (Or.inr ⟨_, (wk W (.laysFinal "java/lang/String" "java/lang/String" "value" "[B"))⟩) (Or.inl ⟨rfl, hnm⟩) f1 (Or.inl rfl) bl13 (t := (.array .byte)) (by decide +kernel) rfl (g := (mkF m 54 #[.val (.ref a), .val (.ref b), .val (.int (Int32.ofNat o)), .val (.int (Int32.ofNat len)), .val .null, .val (.ref s.heap.size)] [.ref s.heap.size, .ref a])) rfl (rest := []) rfl (hb hbytes d54)
  have c16 : Steps p.tables e below (s₁.setTop (entryFrame m #[.ref a, .ref b, .int (Int32.ofNat o), .int (Int32.ofNat len), .null] 6)) (T15.setTop (mkF m 57 #[.val (.ref a), .val (.ref b), .val (.int (Int32.ofNat o)), .val (.int (Int32.ofNat len)), .val .null, .val (.ref s.heap.size)] [])) := c14.trans (st15 _ (Steps.refl _))
  have ap := apart (Or.inr ⟨_, (wk W (.laysFinal "java/lang/String" "java/lang/String" "value" "[B"))⟩) (Or.inr ⟨_, (wk W (.laysFinal "java/lang/String" "java/lang/String" "coder" "B"))⟩) f1 f2 (t₁ := .array .byte) (t₂ := .byte) (by decide +kernel) (by decide +kernel) (by decide)
  have al := X8.warmed.alike.symm.trans X15.warmed.alike
  have n7 : T11.heap[s.heap.size]? = some N := by rw [q11]; exact n1.1
  exact ⟨T15, none, _, _, _, X15, by simp, rfl, by omega, (fun _ => rfl), ⟨rfl, _, N, bl15, ((Same.refl D _).set _ (by simp)).set _ (by simp), sl15, (Cell.slots_setSlot_ne _ ap).trans sl13, n1.keep al (p15.other hne (p13.other hne n7)), n2, by rw [al.findClass]; exact n3, n4, n5, fun y c h1 h2 => p15.other h1 (p13.other h1 (by rw [q11]; exact n6 y c h2)), by rw [p15.2.2, p13.2.2, q11]; exact z8⟩, fun fs hl => c16.trans (X15.returnOut hexec hret (hb hbytes d57) hl)⟩
end New4
namespace New1
def yN : MethodName := ⟨"java/lang/String", "<init>", "([C)V"⟩
abbrev yB : ByteArray := jdk_42_method_3_code
theorem d0 : decode yB 0 = .ok (.aload_n 0, 1) := by decide +kernel
theorem d1 : decode yB 1 = .ok (.aload_n 1, 1) := by decide +kernel
theorem d2 : decode yB 2 = .ok (.iconst 0, 1) := by decide +kernel
theorem d3 : decode yB 3 = .ok (.aload_n 1, 1) := by decide +kernel
theorem d4 : decode yB 4 = .ok (.arraylength, 1) := by decide +kernel
theorem d5 : decode yB 5 = .ok (.aconst_null, 1) := by decide +kernel
theorem d6 : decode yB 6 = .ok (.invokespecial 27, 3) := by decide +kernel
theorem d9 : decode yB 9 = .ok (.return_, 1) := by decide +kernel
def site : List Cond := [New4.tab] ++ initW "java/lang/String" 27 New4.yN
def tab : Cond := tabOf yN yB 2 none site
def P (a : Addr) (D : Cell) (fV fC : Field) (b : Addr) (A : Cell) (z : Int32) (args : Array Value) (s : State) : Prop := args = #[.ref a, .ref b] ∧ Blank "java/lang/String" a D s ∧ Found "java/lang/String" "value" "[B" fV s ∧ Found "java/lang/String" "coder" "B" fC s ∧ Ch b A s ∧ StaticIs s "java/lang/String" "COMPACT_STRINGS" "Z" (.int z) ∧ ¬ z = 0 ∧ 0 < A.slots.size ∧ A.slots.size ≤ 536870912 ∧ ∀ i, i < A.slots.size → ¬ 255 < cv A i
def E (a : Addr) (D : Cell) (fV fC : Field) (A : Cell) (r : Option Value) (s u : State) : Prop := Got a D fV fC A 0 A.slots.size r s u
/-- new String(chars), not empty, no char above 255: a Latin-1 String of their low bytes -/
theorem law (l : Launch) (a : Addr) (D : Cell) (fV fC : Field) (b : Addr) (A : Cell) (z : Int32) : Law l yN 2 1 3 52 yB 2 none site (P a D fV fC b A z) (E a D fV fC A) [⟨a, fC.slot⟩, ⟨a, fV.slot⟩] 1 A.slots.size := by
  refine Law.of_walk (plainFor_of_name (by decide +kernel)) (by decide +kernel) (by decide +kernel) (by decide) (fun _ _ h => by rw [h.1]; rfl) (fun _ U U' hal hh h => ⟨h.1, h.2.1.mv hal hh, h.2.2.1.al hal, h.2.2.2.1.al hal, h.2.2.2.2.1.mv hal hh, h.2.2.2.2.2.1.there hal hh, h.2.2.2.2.2.2⟩) (fun r U U' V V' h1 hal h2 h => Got.mv r U U' V V' h1 hal h2 h) ?_
  intro p e s m args below meth c s₁ X0 hexec hbytes hml hret hlk hnm hown hh0 W hP
  obtain ⟨rfl, hB, f1, f2, hA, s1, hz, l0, l2, hp⟩ := hP
  have c1 : Steps p.tables e below (s₁.setTop (entryFrame m #[.ref a, .ref b] 2)) (s₁.setTop (mkF m 0 #[.val (.ref a), .val (.ref b)] [])) := entry rfl
  have c2 : Steps p.tables e below (s₁.setTop (entryFrame m #[.ref a, .ref b] 2)) (s₁.setTop (mkF m 6 #[.val (.ref a), .val (.ref b)] [.null, .int (Int32.ofNat A.slots.size), .int 0, .ref b, .ref a])) := c1.trans (by
    refine XS.aloadN X0.here hexec rfl (hb hbytes d0) rfl rfl ?_
    refine XS.aloadN X0.here hexec rfl (hb hbytes d1) rfl rfl ?_
    refine iconstV X0.here hexec rfl 0 (hb hbytes d2) (by decide) ?_
    refine XS.aloadN X0.here hexec rfl (hb hbytes d3) rfl rfl ?_
    refine X0.alen hexec (hA.1.mv X0.warmed.alike hh0) rfl rfl (hb hbytes d4) ?_
    refine XS.aconstNull X0.here hexec rfl (hb hbytes d5) ?_
    exact Steps.refl _)
  obtain ⟨v3, T3, X3, E3, g3⟩ := X0.callN hexec (New4.law l a D fV fC b A z 0 A.slots.size) rfl hown (wks W (initW "java/lang/String" 27 New4.yN)) (W New4.tab (by simp only [site, List.mem_cons, List.mem_append, true_or, or_true])) (W := 0) (Nat.le_of_ble_eq_true rfl) (Nat.le_of_ble_eq_true rfl) (Nat.le_refl _) (by show 0 + A.slots.size ≤ A.slots.size; omega) (g := (mkF m 6 #[.val (.ref a), .val (.ref b)] [.null, .int (Int32.ofNat A.slots.size), .int (Int32.ofNat 0), .ref b, .ref a])) rfl (by rw [hml]; rfl) c2 (argsL := [.ref b, .int (Int32.ofNat 0), .int (Int32.ofNat A.slots.size), .null]) (rest := []) rfl rfl (by show 2 * 0 + 0 ≤ _; decide) (hb hbytes d6) (⟨rfl, hB.mv X0.warmed.alike hh0, f1.al X0.warmed.alike, f2.al X0.warmed.alike, hA.mv X0.warmed.alike hh0, s1.there X0.warmed.alike hh0, hz, l0, by omega, l2, fun i hi => by rw [Nat.zero_add]; exact hp i hi⟩)
  have e0 := Got.mv _ s₁ s _ _ hh0.symm (Vm.Alike.refl _) rfl E3
  obtain rfl := e0.1
  have c4 : Steps p.tables e below (s₁.setTop (entryFrame m #[.ref a, .ref b] 2)) (T3.setTop (mkF m 9 #[.val (.ref a), .val (.ref b)] [])) := g3
  exact ⟨T3, none, _, _, _, X3, by simp, rfl, by omega, (fun _ => rfl), e0, fun fs hl => c4.trans (X3.returnOut hexec hret (hb hbytes d9) hl)⟩
theorem pays {l : Launch} {R : Room} {p : Program} {e : Env} {below : List Frame} {s : State} {sargs : Array Value} {len W : Nat} (a : Addr) (D : Cell) (fV fC : Field) (b : Addr) (A : Cell) (z : Int32) (htab : tab.before sargs s = true) (hfr : 4 ≤ R.frames) (hlo : W + 65 ≤ R.locals) :
    Back l R p e below s sargs yN len W (fun A₁ a₁ => A₁.cells + 1 ≤ R.cells ∧ A₁.slots + A.slots.size ≤ R.slots ∧ P a D fV fC b A z a₁ A₁.U) (fun A₁ _ v₁ B₁ => E a D fV fC A v₁ A₁.U B₁.U ∧ B₁.locs = A₁.locs ++ [⟨a, fC.slot⟩, ⟨a, fV.slot⟩] ∧ B₁.cells = A₁.cells + 1 ∧ B₁.slots = A₁.slots + A.slots.size) :=
  (law l a D fV fC b A z).pays htab hfr (by omega)
end New1
/-- the byte, read back as charAt reads it, is the char -/
theorem lo8_mask {x : Int32} (h0 : ¬ x < 0) (h1 : ¬ 255 < x) : lo8 x &&& 255 = x := by
  have t : ∀ k : Fin 256, lo8 (Int32.ofNat k.val) &&& 255 = Int32.ofNat k.val := by decide +kernel
  rw [Int32.lt_iff_toInt_lt] at h0 h1
  have e0 : (0 : Int32).toInt = 0 := rfl
  have e1 : (255 : Int32).toInt = 255 := rfl
  obtain ⟨k, hk⟩ : ∃ k : Nat, x.toInt = k := ⟨x.toInt.toNat, by omega⟩
  have hx : x = Int32.ofNat k := Int32.toInt_inj.mp (by rw [hk, Int32.toInt_ofNat_small (by omega)])
  rw [hx]
  exact t ⟨k, by omega⟩
end StrChars
namespace StrChars.Road
open Jvm Sem ClassFile Op Lib Jvm.Stand Jvm.Free Jvm.Free.XT
open Jvm.Lib.Cold (StaticIs)
abbrev ST : String := "java/lang/String"
/-- every table word that New1's law asks, flat -/
abbrev words : List Jvm.Cond := [.code New1.yN New1.yB 2 none, .initialized ST, .methodLink ST 27 New4.yN, .instanceMethod New4.yN,
  .code New4.yN New4.yB 6 none, .fieldLink ST 38 ST "COMPACT_STRINGS" "Z", .laysFinal ST ST "value" "[B", .fieldLink ST 9 ST "value" "[B", .laysFinal ST ST "coder" "B", .fieldLink ST 15 ST "coder" "B",
  .methodLink ST 1 Lib.objectInit, .instanceMethod Lib.objectInit, .code Lib.objectInit ⟨#[0xb1]⟩ 1 none, .methodLink ST 177 Cmp3.yN, .static Cmp3.yN, .methodLink ST 47 CodL.yN, .static CodL.yN,
  .code Cmp3.yN Cmp3.yB 6 (some (.array .byte)), .initialized U16, .arrayClass .byte, .methodLink U16 115 Cmp5.yN, .static Cmp5.yN, .code Cmp5.yN Cmp5.yB 7 (some .int), .code CodL.yN CodL.yB 2 (some .byte)]
theorem tab_of {a : Array Value} {s : State} (h : ∀ w ∈ words, w.before a s = true) : New1.tab.before a s = true := by
  have h5 : Cmp5.tab.before a s = true := unparts (wk h (.code Cmp5.yN Cmp5.yB 7 (some .int))) (wks h (.initialized Cmp5.yN.cls :: Cmp5.site))
  have hc : CodL.tab.before a s = true := unparts (wk h (.code CodL.yN CodL.yB 2 (some .byte))) (wks h (.initialized CodL.yN.cls :: CodL.site))
  have q5 : ∀ w ∈ Cmp5.tab :: words, w.before a s = true := fun w hw => (List.mem_cons.mp hw).elim (fun e => e ▸ h5) (h w)
  have h3 : Cmp3.tab.before a s = true := unparts (wk q5 (.code Cmp3.yN Cmp3.yB 6 (some (.array .byte)))) (wks q5 (.initialized Cmp3.yN.cls :: Cmp3.site))
  have q3 : ∀ w ∈ Cmp3.tab :: CodL.tab :: words, w.before a s = true := fun w hw => (List.mem_cons.mp hw).elim (fun e => e ▸ h3) fun hw => (List.mem_cons.mp hw).elim (fun e => e ▸ hc) (h w)
  have h4 : New4.tab.before a s = true := unparts (wk q3 (.code New4.yN New4.yB 6 none)) (wks q3 (.initialized New4.yN.cls :: New4.site))
  have q4 : ∀ w ∈ New4.tab :: words, w.before a s = true := fun w hw => (List.mem_cons.mp hw).elim (fun e => e ▸ h4) (h w)
  exact unparts (wk q4 (.code New1.yN New1.yB 2 none)) (wks q4 (.initialized New1.yN.cls :: New1.site))
/-- the words ride from the start Z to the walk's own state -/
theorem moved {Z s : State} {a0 args : Array Value} (hZ : Z.Warmed39 s.vm) (hw : ∀ d ∈ words, d.before a0 Z = true) : ∀ d ∈ words, d.before args s = true := fun d hd => by
  have q := hw d hd
  have t : ∀ d ∈ words, d = .arrayClass .byte ∨ (d.onTables && d.keepsFace) = true := by decide +kernel
  rcases t d hd with rfl | t
  · exact RoadKit.mvA hZ q
  · exact RoadKit.mv hZ q t
/-- WHAT COMES BACK, over the tables of the start Z: h the heap at the call, h' behind it -/
def Q (Z : State) (x : Addr) (A : Cell) (h : Heap) (v : Option Value) (h' : Heap) (L : List Loc) : Prop := v = none ∧ (∀ y ∈ L, y.base = x) ∧ RoadKit.Keep h h' [x] ∧ h'.size = h.size + 1 ∧ RoadKit.Exa Z h' x ST ∧ RoadKit.Fld Z h' x ST "value" "[B" (.ref h.size) ∧ RoadKit.Fld Z h' x ST "coder" "B" (.int 0) ∧
  (∃ V : Cell, RoadKit.Arr Z h' h.size V .byte ∧ V.vm = .none ∧ Z.vm.findClass "[B" = some V.cls ∧ V.slots.size = A.slots.size ∧ ∀ j, j < A.slots.size → V.slots[j]? = some (.int (lo8 (cv A j)))) ∧
  ∀ (O n d : String) (w : Value), RoadKit.Fld Z h x O n d w → RoadKit.slotOf Z O n d ≠ RoadKit.slotOf Z ST "value" "[B" → RoadKit.slotOf Z O n d ≠ RoadKit.slotOf Z ST "coder" "B" → RoadKit.Fld Z h' x O n d w
/-- **new String(chars) AT A CALL, IN THE ROAD'S FORM**: for specialBack behind newO: x the fresh String, b the char[] with the cell A -/
theorem back {p : Program} {l : Launch} {e : Env} {R : Room} {s : State} {args : Array Value} {below : List Frame} {len W : Nat} {Z : State} {a0 : Array Value} {h : Heap} (hZ : Z.Warmed39 s.vm) (hw : ∀ d ∈ words, d.before a0 Z = true) {kI : Nat} (wi : (Jvm.Cond.instantiable ST kI).before a0 Z = true)
    {x b : Addr} {A : Cell} {z : Int32} {v0 c0 : Value} (E : RoadKit.Exa Z h x ST) (V : RoadKit.Fld Z h x ST "value" "[B" v0) (C : RoadKit.Fld Z h x ST "coder" "B" c0) (K : RoadKit.Arr Z h b A .char) (hty : Typed .char A) (S : RoadKit.Sta Z h ST "COMPACT_STRINGS" "Z" (.int z)) (hz : ¬ z = 0)
    (l0 : 0 < A.slots.size) (l2 : A.slots.size ≤ 536870912) (hp : ∀ i, i < A.slots.size → ¬ 255 < cv A i) (hfr : 4 ≤ R.frames) (hlo : W + 65 ≤ R.locals) :
    Back l R p e below s args New1.yN len W (fun P a => a = #[.ref x, .ref b] ∧ P.U.heap = h ∧ P.cells + 1 ≤ R.cells ∧ P.slots + A.slots.size ≤ R.slots)
      (fun P _ v B => ∃ L, Q Z x A h v B.U.heap L ∧ B.locs = P.locs ++ L ∧ B.cells = P.cells + 1 ∧ B.slots = P.slots + A.slots.size) := by
  intro m meth c P g ig mk a X hg hsize hdg hW hn hp'
  obtain ⟨rfl, rfl, r1, r2⟩ := hp'
  have al : Z.vm.Alike P.U.vm := hZ.alike.trans X.warmed.alike
  obtain ⟨D, cfV, kV, iV, fV, hD, gV, stV, knV, obV, asV, slV⟩ := id V
  obtain ⟨D', cfC, kC, iC, fC, hD', gC, stC, -, -, asC, slC⟩ := id C
  cases hD.symm.trans hD'
  obtain ⟨D2, kD, e1, e2, e3, e4, e5⟩ := id E
  cases hD.symm.trans e1
  obtain ⟨c2, k2, i1, i2, i3, -⟩ := Cond.instantiable_spec wi
  cases e2.symm.trans i1
  cases e3.symm.trans i2
  obtain ⟨kU, u1, u2⟩ := al.2.2 _ _ e3
  have hB : Blank ST x D P.U := ⟨hD, ⟨knV, fun q hq => by rw [hq] at obV; cases obV⟩, by rw [al.findClass]; exact e2, kU, u1, by rw [u2]; exact i3, by rw [u2]; exact e5 i3⟩
  have F1 : Found ST "value" "[B" fV P.U := ⟨SBG.found_only al ⟨cfV, kV, iV, gV⟩, stV⟩
  have F2 : Found ST "coder" "B" fC P.U := ⟨SBG.found_only al ⟨cfC, kC, iC, gC⟩, stC⟩
  have hA : Ch b A P.U := ⟨⟨K.1, State.isArrayOf_alike al K.2.1, K.2.2, by omega⟩, hty⟩
  have hS : StaticIs P.U ST "COMPACT_STRINGS" "Z" (.int z) := by
    obtain ⟨cfS, iS, kS, fS, st, cS, t1, t2, t3, t4, t5, t6, t7⟩ := S
    exact StaticIs.there (s := { Z with heap := P.U.heap }) ⟨cfS, iS, kS, fS, st, cS, t1, t2, t3, t4, t5, (fun q => by rw [q] at t6; cases t6), t7⟩ al rfl
  obtain ⟨v, B, X', ⟨⟨hv, E', V', q1, q2, q3, q4, q5, q6, q7, q8, q9, q10, q11⟩, hl, hc, hs⟩, st⟩ := New1.pays x D fV fC b A z (tab_of (moved hZ hw)) hfr hlo m meth c P g ig mk _ X hg hsize hdg hW hn ⟨r1, r2, rfl, hB, F1, F2, hA, hS, hz, l0, l2, hp⟩
  have al' : Z.vm.Alike B.U.vm := hZ.alike.trans X'.warmed.alike
  have hsz : E'.slots.size = D.slots.size := by
    obtain ⟨-, -, -, kB, w1, w2, w3⟩ := q1
    obtain ⟨kB', y1, y2⟩ := al'.2.2 _ _ e3
    rw [q2.2.1] at w1
    cases w1.symm.trans y1
    rw [w3, e5 i3, y2]
  refine ⟨v, B, X', ⟨_, ⟨hv, ?_, ⟨by omega, fun y cy hy hn' => q10 y cy (by simpa using hn') hy, fun y cy hy => ?_⟩, q11, ⟨E', _, q1.1, by rw [q2.2.1]; exact e2, by rw [q2.2.1]; exact e3, by rw [q2.1]; exact obV, fun _ => by rw [hsz]; exact e5 i3⟩,
    ⟨E', cfV, kV, iV, fV, q1.1, gV, stV, by rw [q2.1]; exact knV, by rw [q2.1]; exact obV, by rw [q2.2.1]; exact asV, q3⟩, ⟨E', cfC, kC, iC, fC, q1.1, gC, stC, by rw [q2.1]; exact knV, by rw [q2.1]; exact obV, by rw [q2.2.1]; exact asC, q4⟩,
    ⟨V', ⟨q5.1, State.isArrayOf_alike al'.symm q5.2.1, q5.2.2.1⟩, q6, by rw [← al'.findClass]; exact q7, q8, fun j hj => by have := q9 j hj; rwa [Nat.zero_add] at this⟩, fun O n d w F n1 n2 => ?_⟩, hl, hc, hs⟩, st⟩
  · intro y hy
    simp only [List.mem_cons, List.not_mem_nil, or_false] at hy
    rcases hy with rfl | rfl <;> rfl
  · by_cases q : y = x
    · subst q
      cases hD.symm.trans hy
      exact ⟨E', q1.1, q2.2.1, q2.1, hsz⟩
    · exact ⟨cy, q10 y cy q hy, rfl, rfl, rfl⟩
  · obtain ⟨D3, cf, k, i, f, g1, g2, g3, g4, g5, g6, g7⟩ := F
    cases hD.symm.trans g1
    simp only [RoadKit.slotOf, g2, gV, gC, Option.map_some, Option.getD_some] at n1 n2
    exact ⟨E', cf, k, i, f, q1.1, g2, g3, by rw [q2.1]; exact g4, by rw [q2.1]; exact g5, by rw [q2.2.1]; exact g6, by rw [q2.2.2 f.slot (by simp [n1, n2])]; exact g7⟩
end StrChars.Road
namespace StrChars.Road
open Jvm Sem ClassFile Op Lib Jvm.Stand Jvm.Free Jvm.Free.XT
/-- WHAT COMES BACK, the byte[] as a list of values -/
def QA (Z : State) (x : Addr) (zn : Int32) (cs : List Int32) (h : Heap) (v : Option Value) (h' : Heap) (L : List Loc) : Prop := v = none ∧ (∀ y ∈ L, y.base = x) ∧ RoadKit.Keep h h' [x] ∧ h'.size = h.size + 1 ∧ RoadKit.Exa Z h' x ST ∧ RoadKit.Fld Z h' x ST "value" "[B" (.ref h.size) ∧ RoadKit.Fld Z h' x ST "coder" "B" (.int 0) ∧
  (∃ kb, Z.vm.findClass "[B" = some kb ∧ RoadKit.Arv Z h' h.size kb .byte zn (cs.map fun c => .int (lo8 c)) (.int 0)) ∧
  ∀ (O n d : String) (w : Value), RoadKit.Fld Z h x O n d w → RoadKit.slotOf Z O n d ≠ RoadKit.slotOf Z ST "value" "[B" → RoadKit.slotOf Z O n d ≠ RoadKit.slotOf Z ST "coder" "B" → RoadKit.Fld Z h' x O n d w
/-- **new String(chars) AT A CALL, THE ARRAYS AS LISTS**: the char[] at b holds cs, not empty, no char above 255 -/
theorem backArv {p : Program} {l : Launch} {e : Env} {R : Room} {s : State} {args : Array Value} {below : List Frame} {len W : Nat} {Z : State} {a0 : Array Value} {h : Heap} (hZ : Z.Warmed39 s.vm) (hw : ∀ d ∈ words, d.before a0 Z = true) {kI : Nat} (wi : (Jvm.Cond.instantiable ST kI).before a0 Z = true)
    {x b : Addr} {k : ClassId} {zn z : Int32} {cs : List Int32} {dv v0 c0 : Value} (E : RoadKit.Exa Z h x ST) (V : RoadKit.Fld Z h x ST "value" "[B" v0) (C : RoadKit.Fld Z h x ST "coder" "B" c0) (K : RoadKit.Arv Z h b k .char zn (cs.map Value.int) dv) (S : RoadKit.Sta Z h ST "COMPACT_STRINGS" "Z" (.int z)) (hz : ¬ z = 0)
    (hlen : zn.toNatClampNeg = cs.length) (h0 : 0 < cs.length) (hbig : cs.length ≤ 536870912) (hall : ∀ c ∈ cs, ¬ 255 < c) (hfr : 4 ≤ R.frames) (hlo : W + 65 ≤ R.locals) :
    Back l R p e below s args New1.yN len W (fun P a => a = #[.ref x, .ref b] ∧ P.U.heap = h ∧ P.cells + 1 ≤ R.cells ∧ P.slots + cs.length ≤ R.slots)
      (fun P _ v B => ∃ L, QA Z x zn cs h v B.U.heap L ∧ B.locs = P.locs ++ L ∧ B.cells = P.cells + 1 ∧ B.slots = P.slots + cs.length) := by
  obtain ⟨A, K1, K2, K3, K4, K5, K6⟩ := K
  have e : A.slots.size = cs.length := K3.trans hlen
  have hat : ∀ (i : Nat) (hi : i < cs.length), A.slots[i]? = some (.int cs[i]) := fun i hi => by rw [K5 i (by omega)]; simp [List.getD_eq_getElem?_getD, hi]
  have hcv : ∀ (i : Nat) (hi : i < cs.length), cv A i = cs[i] := fun i hi => by unfold cv; rw [hat i hi]
  have hty : Typed .char A := fun i v hv => by
    have hi : i < A.slots.size := (Array.getElem?_eq_some_iff.mp hv).1
    have q := K5 i hi
    rw [hv] at q
    rw [Option.some.inj q]
    exact K6 i hi
  refine Back.mono (back hZ hw wi E V C K1 hty S hz (by omega) (by omega) (fun i hi => by rw [hcv i (by omega)]; exact hall _ (List.getElem_mem _)) hfr hlo) (fun P a hp => ⟨hp.1, hp.2.1, hp.2.2.1, by rw [e]; exact hp.2.2.2⟩) (fun P a v B hp hq => ?_)
  obtain ⟨L, ⟨q1, q2, q3, q4, q5, q6, q7, ⟨V', v1, v2, v3, v4, v5⟩, q9⟩, hl, hc, hs⟩ := hq
  refine ⟨L, ⟨q1, q2, q3, q4, q5, q6, q7, ⟨V'.cls, v3, V', v1, rfl, by rw [v4, e, hlen], K4, fun i hi => ?_, fun i hi => ?_⟩, q9⟩, hl, hc, by rw [hs, e]⟩
  · have hi' : i < cs.length := by omega
    rw [v5 i (by omega), hcv i hi']; simp [List.getD_eq_getElem?_getD, hi']
  · have hi' : i < cs.length := by omega
    simp only [List.getD_eq_getElem?_getD, List.getElem?_map, List.getElem?_eq_getElem hi', Option.map_some, Option.getD_some]
    exact fits_lo8 _
end StrChars.Road
namespace StrChars.Road
open Jvm Sem ClassFile Op Lib Jvm.Stand Jvm.Free Jvm.Free.XT
/-- WHAT COMES BACK, in the writer's own shape -/
def QV (Z : State) (x : Addr) (N : Int32) (bs : List Int32) (h : Heap) (n0 : Nat) (v : Option Value) (h' : Heap) (L : List Loc) : Prop := v = none ∧ RoadKit.Fr n0 L ∧ RoadKit.Keep h h' [x] ∧ RoadKit.Exa Z h' x ST ∧ RoadKit.Fld Z h' x ST "coder" "B" (.int 0) ∧
  ∃ (t : Addr) (kb : ClassId), n0 ≤ t ∧ h.size ≤ t ∧ ¬ t = x ∧ RoadKit.Fld Z h' x ST "value" "[B" (.ref t) ∧ RoadKit.Arv Z h' t kb .byte N (bs.map Value.int) (.int 0)
/-- **new String(chars) AT A CALL, FOR THE WRITER**: a char[] of n known ints, each 0 to 255 -/
theorem backV {p : Program} {l : Launch} {e : Env} {R : Room} {s : State} {args : Array Value} {below : List Frame} {len W : Nat} {Z : State} {a0 : Array Value} {h : Heap} (hZ : Z.Warmed39 s.vm) (hw : ∀ d ∈ words, d.before a0 Z = true) {kI : Nat} (wi : (Jvm.Cond.instantiable ST kI).before a0 Z = true)
    {x b : Addr} {kC : ClassId} {cs bs : List Int32} {d v0 c0 : Value} {z N : Int32} {n n0 : Nat} (hx0 : n0 ≤ x) (hh0 : n0 ≤ h.size) (E : RoadKit.Exa Z h x ST) (V : RoadKit.Fld Z h x ST "value" "[B" v0) (C : RoadKit.Fld Z h x ST "coder" "B" c0) (K : RoadKit.Arv Z h b kC .char N (cs.map Value.int) d) (S : RoadKit.Sta Z h ST "COMPACT_STRINGS" "Z" (.int z)) (hz : ¬ z = 0)
    (hn : cs.length = n) (hN : N = Int32.ofNat n) (l0 : 0 < n) (l2 : n ≤ 4000) (hp : ∀ c ∈ cs, ¬ c < 0 ∧ ¬ (255 : Int32) < c) (hb : bs = cs.map (fun c => c.toInt8.toInt32)) (hfr : 4 ≤ R.frames) (hlo : W + 65 ≤ R.locals) :
    Back l R p e below s args (⟨"java/lang/String", "<init>", "([C)V"⟩ : MethodName) len W (fun P a => a = #[.ref x, .ref b] ∧ P.U.heap = h ∧ P.cells + 1 ≤ R.cells ∧ P.slots + n ≤ R.slots)
      (fun P _ v B => ∃ L, QV Z x N bs h n0 v B.U.heap L ∧ B.locs = P.locs ++ L ∧ B.cells = P.cells + 1 ∧ B.slots = P.slots + n) := by
  subst hn hN hb
  refine Back.mono (backArv hZ hw wi E V C K S hz (n32 (by omega)) l0 (by omega) (fun c hc => (hp c hc).2) hfr hlo) (fun P a hp => hp) (fun P a v B hp hq => ?_)
  obtain ⟨L, ⟨q1, q2, q3, q4, q5, q6, q7, ⟨kb, v1, v2⟩, q9⟩, hl, hc, hs⟩ := hq
  exact ⟨L, ⟨q1, fun y hy => by rw [q2 y hy]; exact hx0, q3, q5, q7, h.size, kb, hh0, Nat.le_refl _, Nat.ne_of_gt E.lt, q6, by rw [List.map_map]; exact v2⟩, hl, hc, hs⟩
end StrChars.Road
namespace StrChars
open Jvm Sem ClassFile Op Lib Jvm.Stand Jvm.Free.XT Jvm.Free.ALB Jvm.Free.JM Jvm.Free
open Jvm.Lib.Cold (StaticIs)
def hi8 (x : Int32) : Int32 := lo8 (x >>> ((8 : Int32) &&& 31))
/-- what StringUTF16.getChar makes of two bytes -/
def pairCh (u v : Int32) : Int32 := (((u &&& 255) <<< ((0 : Int32) &&& 31)) ||| ((v &&& 255) <<< ((8 : Int32) &&& 31))).toUInt32.toUInt16.toUInt32.toInt32
theorem shr0 (c : Int32) : c >>> ((0 : Int32) &&& 31) = c := by
  have e : ((0 : Int32) &&& 31) = 0 := by decide
  rw [e]
  apply Int32.toBitVec_inj.mp
  rw [Int32.toBitVec_shiftRight]
  have e1 : ((0 : Int32).toBitVec.smod 32) = 0#32 := by decide
  rw [e1, BitVec.sshiftRight_eq']
  exact BitVec.sshiftRight_zero
theorem lo8_and (x : Int32) : (lo8 x &&& 255).toBitVec.toNat = x.toBitVec.toNat % 256 := by
  have h : (lo8 x).toBitVec = (x.toBitVec.signExtend 8).signExtend 32 := by rw [lo8, Int8.toBitVec_toInt32, Int32.toBitVec_toInt8]
  rw [Int32.toBitVec_and, BitVec.toNat_and, h]
  have e : ((x.toBitVec.signExtend 8).signExtend 32).toNat % 256 = x.toBitVec.toNat % 256 := by
    rw [BitVec.toNat_signExtend]
    have hlt := x.toBitVec.isLt
    simp only [BitVec.toNat_setWidth, BitVec.toNat_signExtend]
    split <;> split <;> omega
  rw [← e]
  exact Nat.and_two_pow_sub_one_eq_mod _ 8
theorem pair_says {c : Int32} (h0 : ¬ c < 0) (h1 : ¬ 65535 < c) : pairCh (lo8 c) (hi8 c) = c := by
  rw [Int32.lt_iff_toInt_lt] at h0 h1
  have e0 : (0 : Int32).toInt = 0 := rfl
  have e1 : (65535 : Int32).toInt = 65535 := rfl
  have hc : c.toInt = c.toBitVec.toNat := by
    have := c.toBitVec.isLt
    have e : c.toInt = c.toBitVec.toInt := rfl
    rw [e] at h0 h1
    rw [e]
    rw [BitVec.toInt_eq_toNat_cond] at h0 h1 ⊢
    split at h0 <;> split <;> omega
  have hn : c.toBitVec.toNat < 65536 := by omega
  have a1 := lo8_and c
  have a2 : (hi8 c &&& 255).toBitVec.toNat = c.toBitVec.toNat / 256 := by
    rw [hi8, lo8_and]
    have e : ((8 : Int32) &&& 31) = 8 := by decide
    rw [e, Int32.toBitVec_shiftRight]
    have e2 : ((8 : Int32).toBitVec.smod 32) = 8#32 := by decide
    rw [e2, BitVec.sshiftRight_eq', BitVec.toNat_sshiftRight_of_msb_false (by rw [BitVec.msb_eq_false_iff_two_mul_lt]; omega)]
    show c.toBitVec.toNat >>> 8 % 256 = _
    rw [Nat.shiftRight_eq_div_pow]
    omega
  unfold pairCh
  apply Int32.toBitVec_inj.mp
  apply BitVec.eq_of_toNat_eq
  have f0 : ((0 : Int32) &&& 31) = 0 := by decide
  have f8 : ((8 : Int32) &&& 31) = 8 := by decide
  rw [f0, f8]
  have g : (((lo8 c &&& 255) <<< (0 : Int32)) ||| ((hi8 c &&& 255) <<< (8 : Int32))).toBitVec.toNat = c.toBitVec.toNat := by
    rw [Int32.toBitVec_or, Int32.toBitVec_shiftLeft, Int32.toBitVec_shiftLeft]
    have s0 : ((0 : Int32).toBitVec.smod 32) = 0#32 := by decide
    have s8 : ((8 : Int32).toBitVec.smod 32) = 8#32 := by decide
    rw [s0, s8, BitVec.toNat_or]
    simp only [BitVec.shiftLeft_eq', BitVec.toNat_shiftLeft, a1, a2]
    show (c.toBitVec.toNat % 256) <<< 0 % 2 ^ 32 ||| (c.toBitVec.toNat / 256) <<< 8 % 2 ^ 32 = _
    rw [Nat.shiftLeft_zero, Nat.mod_eq_of_lt (show c.toBitVec.toNat % 256 < 2 ^ 32 by omega), Nat.mod_eq_of_lt (show (c.toBitVec.toNat / 256) <<< 8 < 2 ^ 32 by rw [Nat.shiftLeft_eq]; omega), Nat.or_comm, ← Nat.shiftLeft_add_eq_or_of_lt (by omega), Nat.shiftLeft_eq]
    omega
  show BitVec.toNat (((((lo8 c &&& 255) <<< (0 : Int32)) ||| ((hi8 c &&& 255) <<< (8 : Int32))).toBitVec.setWidth 16).setWidth 32) = _
  rw [BitVec.toNat_setWidth, BitVec.toNat_setWidth, g]
  omega
end StrChars
namespace StrChars
open Jvm Sem ClassFile Op Lib Jvm.Stand Jvm.Free.XT Jvm.Free.ALB Jvm.Free.JM Jvm.Free
open Jvm.Lib.Cold (StaticIs)
theorem shr1 {n : Nat} (h : 2 * n < 2 ^ 31) : Int32.ofNat (2 * n) >>> ((1 : Int32) &&& 31) = Int32.ofNat n := by
  have e : ((1 : Int32) &&& 31) = 1 := by decide
  rw [e]
  apply Int32.toBitVec_inj.mp
  rw [Int32.toBitVec_shiftRight]
  have e1 : ((1 : Int32).toBitVec.smod 32) = 1#32 := by decide
  have hm : (BitVec.ofNat 32 (2 * n)).toNat = 2 * n := by rw [BitVec.toNat_ofNat, Nat.mod_eq_of_lt (by omega)]
  rw [e1, BitVec.sshiftRight_eq']
  apply BitVec.eq_of_toNat_eq
  show ((BitVec.ofNat 32 (2 * n)).sshiftRight 1).toNat = (BitVec.ofNat 32 n).toNat
  rw [BitVec.toNat_sshiftRight_of_msb_false (by rw [BitVec.msb_eq_false_iff_two_mul_lt, hm]; omega), hm, BitVec.toNat_ofNat, Nat.shiftRight_eq_div_pow]
  omega
/-- charAt's cast of a byte read back -/
def chr8 (u : Int32) : Int32 := (u &&& 255).toUInt32.toUInt16.toUInt32.toInt32
theorem chr8_lo8 {c : Int32} (h0 : ¬ c < 0) (h1 : ¬ 255 < c) : chr8 (lo8 c) = c := by
  have t : ∀ k : Fin 256, (Int32.ofNat k.val).toUInt32.toUInt16.toUInt32.toInt32 = Int32.ofNat k.val := by decide +kernel
  unfold chr8
  rw [lo8_mask h0 h1]
  rw [Int32.lt_iff_toInt_lt] at h0 h1
  have e0 : (0 : Int32).toInt = 0 := rfl
  have e1 : (255 : Int32).toInt = 255 := rfl
  obtain ⟨k, hk⟩ : ∃ k : Nat, c.toInt = k := ⟨c.toInt.toNat, by omega⟩
  have hx : c = Int32.ofNat k := Int32.toInt_inj.mp (by rw [hk, Int32.toInt_ofNat_small (by omega)])
  rw [hx]
  exact t ⟨k, by omega⟩
theorem narrow_ch {c : Int32} (h0 : ¬ c < 0) (h1 : ¬ 65535 < c) : narrow .char (.int c) = .int c := by
  have q : narrow .char (.int (pairCh (lo8 c) (hi8 c))) = .int (pairCh (lo8 c) (hi8 c)) := narrow_c _
  rwa [pair_says h0 h1] at q
/-- the array's cell V codes the n chars f 0 .. f (n - 1) by the coder cd, as the JDK does: coder 1 just where some char is above 255 -/
def Cod (cd : Int32) (n : Nat) (f : Nat → Int32) (V : Cell) : Prop := (cd = 0 ∧ V.slots.size = n ∧ ∀ j, j < n → V.slots[j]? = some (.int (lo8 (f j))) ∧ ¬ 255 < f j) ∨ (cd = 1 ∧ V.slots.size = 2 * n ∧ (∀ j, j < n → V.slots[2 * j]? = some (.int (lo8 (f j))) ∧ V.slots[2 * j + 1]? = some (.int (hi8 (f j)))) ∧ ∃ j, j < n ∧ 255 < f j)
theorem Cod.cd {cd : Int32} {n : Nat} {f : Nat → Int32} {V : Cell} (h : Cod cd n f V) : cd = 0 ∨ cd = 1 := h.imp (fun q => q.1) fun q => q.1
theorem Cod.len {cd : Int32} {n : Nat} {f : Nat → Int32} {V : Cell} (h : Cod cd n f V) (hs : V.slots.size < 2 ^ 31) : Int32.ofNat V.slots.size >>> (cd &&& 31) = Int32.ofNat n := by
  rcases h with ⟨rfl, h, -⟩ | ⟨rfl, h, -⟩
  · rw [shr0, h]
  · rw [h, shr1 (by omega)]
/-- **x is a String of the n chars f 0 .. f (n - 1)**, Latin-1 or UTF-16; its array at t has the cell V -/
def Txt (x t : Addr) (V : Cell) (cd : Int32) (n : Nat) (f : Nat → Int32) (U : State) : Prop := Exact "java/lang/String" x U ∧ Has x "java/lang/String" "value" "[B" (.ref t) U ∧ Has x "java/lang/String" "coder" "B" (.int cd) U ∧ XT.Arr .byte t V U ∧ Cod cd n f V ∧ ∀ j, j < n → ¬ f j < 0 ∧ ¬ 65535 < f j
theorem Txt.mv {x t : Addr} {V : Cell} {cd : Int32} {n : Nat} {f : Nat → Int32} {U U' : State} (h : Txt x t V cd n f U) (hal : U.vm.Alike U'.vm) (hh : U'.heap = U.heap) : Txt x t V cd n f U' := ⟨h.1.mv hal hh, h.2.1.mv hal hh, h.2.2.1.mv hal hh, h.2.2.2.1.mv hal hh, h.2.2.2.2⟩
namespace Cdr
def yN : MethodName := ⟨"java/lang/String", "coder", "()B"⟩
abbrev yB : ByteArray := jdk_42_method_152_code
theorem d0 : decode yB 0 = .ok (.getstatic 38, 3) := by decide +kernel
theorem d3 : decode yB 3 = .ok (.ifCond (.eq) 10, 3) := by decide +kernel
theorem d6 : decode yB 6 = .ok (.aload_n 0, 1) := by decide +kernel
theorem d7 : decode yB 7 = .ok (.getfield 15, 3) := by decide +kernel
theorem d10 : decode yB 10 = .ok (.goto 4, 3) := by decide +kernel
theorem d14 : decode yB 14 = .ok (.ireturn, 1) := by decide +kernel
def site : List Cond := [.fieldLink "java/lang/String" 38 "java/lang/String" "COMPACT_STRINGS" "Z", .fieldLink "java/lang/String" 15 "java/lang/String" "coder" "B"]
def tab : Cond := tabOf yN yB 1 (some .byte) site
def P (x : Addr) (cd z : Int32) (args : Array Value) (s : State) : Prop := args = #[.ref x] ∧ Has x "java/lang/String" "coder" "B" (.int cd) s ∧ (cd = 0 ∨ cd = 1) ∧ StaticIs s "java/lang/String" "COMPACT_STRINGS" "Z" (.int z) ∧ ¬ z = 0
def E (cd : Int32) (r : Option Value) (s u : State) : Prop := XT.PureE (some (.int cd)) r s u
theorem law (l : Launch) (x : Addr) (cd z : Int32) : Law l yN 1 0 0 0 yB 1 (some .byte) site (P x cd z) (E cd) [] 0 0 := by
  refine Law.of_walk (plainFor_of_name (by decide +kernel)) (by decide +kernel) (by decide +kernel) (by decide) (fun _ _ h => by rw [h.1]; rfl) (fun _ U U' hal hh h => ⟨h.1, h.2.1.mv hal hh, h.2.2.1, h.2.2.2.1.there hal hh, h.2.2.2.2⟩) (fun r U U' V V' h1 hal h2 h => XT.PureE.mv r U U' V V' h1 hal h2 h) ?_
  intro p e s m args below meth c s₁ X0 hexec hbytes hml hret hlk hnm hown hh0 W hP
  obtain ⟨rfl, hx, hc, s1, hz⟩ := hP
  have c1 : Steps p.tables e below (s₁.setTop (entryFrame m #[.ref x] 1)) (s₁.setTop (mkF m 0 #[.val (.ref x)] [])) := entry rfl
  obtain ⟨T2, X2, q2, st2⟩ := X0.sget hexec hown (wk W (.fieldLink "java/lang/String" 38 "java/lang/String" "COMPACT_STRINGS" "Z")) s1 (fun _ _ h => by rw [hh0]; exact h) (g := (mkF m 0 #[.val (.ref x)] [])) rfl (hb hbytes d0)
  have hh2 := q2.trans hh0
  have c3 : Steps p.tables e below (s₁.setTop (entryFrame m #[.ref x] 1)) (T2.setTop (mkF m 7 #[.val (.ref x)] [.ref x])) := (c1.trans (st2 _ (Steps.refl _))).trans (by
    refine XS.ifNo X2.here hexec rfl (hb hbytes d3) rfl (i0_eq_f hz) ?_
    refine XS.aloadN X2.here hexec rfl (hb hbytes d6) rfl rfl ?_
    exact Steps.refl _)
  obtain ⟨T4, X4, q4, st4⟩ := X2.hget hexec hown (wk W (.fieldLink "java/lang/String" 15 "java/lang/String" "coder" "B")) (hx.mv X2.warmed.alike hh2) (g := (mkF m 7 #[.val (.ref x)] [.ref x])) rfl (rest := []) rfl (hb hbytes d7)
  have c5 : Steps p.tables e below (s₁.setTop (entryFrame m #[.ref x] 1)) (T4.setTop (mkF m 14 #[.val (.ref x)] [.int cd])) := (c3.trans (st4 _ (Steps.refl _))).trans (by
    refine XS.goto X4.here hexec rfl (pc0 := 10) rfl (hb hbytes d10) (by decide) rfl ?_
    exact Steps.refl _)
  exact ⟨T4, some (.int cd), _, _, _, X4, rfl, rfl, rfl, (fun h => by cases h), ⟨rfl, q4.trans hh2⟩, fun fs hl => c5.trans (X4.ireturnOut hexec hret (by rcases hc with rfl | rfl <;> rfl) (Or.inr (Or.inr (Or.inl rfl))) (hb hbytes d14) hl)⟩
end Cdr
namespace Len
def yN : MethodName := ⟨"java/lang/String", "length", "()I"⟩
abbrev yB : ByteArray := jdk_42_method_54_code
theorem d0 : decode yB 0 = .ok (.aload_n 0, 1) := by decide +kernel
theorem d1 : decode yB 1 = .ok (.getfield 9, 3) := by decide +kernel
theorem d4 : decode yB 4 = .ok (.arraylength, 1) := by decide +kernel
theorem d5 : decode yB 5 = .ok (.aload_n 0, 1) := by decide +kernel
theorem d6 : decode yB 6 = .ok (.invokevirtual 335, 3) := by decide +kernel
theorem d9 : decode yB 9 = .ok (.ishr, 1) := by decide +kernel
theorem d10 : decode yB 10 = .ok (.ireturn, 1) := by decide +kernel
def site : List Cond := [.fieldLink "java/lang/String" 9 "java/lang/String" "value" "[B", Cdr.tab] ++ virtW "java/lang/String" 335 "java/lang/String" Cdr.yN Cdr.yN
def tab : Cond := tabOf yN yB 1 (some .int) site
def P (x t : Addr) (V : Cell) (cd : Int32) (n : Nat) (f : Nat → Int32) (z : Int32) (args : Array Value) (s : State) : Prop := args = #[.ref x] ∧ Txt x t V cd n f s ∧ StaticIs s "java/lang/String" "COMPACT_STRINGS" "Z" (.int z) ∧ ¬ z = 0
def E (n : Nat) (r : Option Value) (s u : State) : Prop := XT.PureE (some (.int (Int32.ofNat n))) r s u
/-- length() of a String of n chars, in either coding -/
theorem law (l : Launch) (x t : Addr) (V : Cell) (cd : Int32) (n : Nat) (f : Nat → Int32) (z : Int32) : Law l yN 1 0 1 13 yB 1 (some .int) site (P x t V cd n f z) (E n) [] 0 0 := by
  refine Law.of_walk (plainFor_of_name (by decide +kernel)) (by decide +kernel) (by decide +kernel) (by decide) (fun _ _ h => by rw [h.1]; rfl) (fun _ U U' hal hh h => ⟨h.1, h.2.1.mv hal hh, h.2.2.1.there hal hh, h.2.2.2⟩) (fun r U U' V V' h1 hal h2 h => XT.PureE.mv r U U' V V' h1 hal h2 h) ?_
  intro p e s m args below meth c s₁ X0 hexec hbytes hml hret hlk hnm hown hh0 W hP
  obtain ⟨rfl, hx, s1, hz⟩ := hP
  have v31 := hx.2.2.2.1.2.2.2
  have c1 : Steps p.tables e below (s₁.setTop (entryFrame m #[.ref x] 1)) (s₁.setTop (mkF m 1 #[.val (.ref x)] [.ref x])) := Steps.trans (entry rfl) (by
    show Steps p.tables e below (s₁.setTop (mkF m 0 #[.val (.ref x)] [])) _
    refine XS.aloadN X0.here hexec rfl (hb hbytes d0) rfl rfl ?_
    exact Steps.refl _)
  obtain ⟨T2, X2, q2, st2⟩ := X0.hget hexec hown (wk W (.fieldLink "java/lang/String" 9 "java/lang/String" "value" "[B")) (hx.mv X0.warmed.alike hh0).2.1 (g := (mkF m 1 #[.val (.ref x)] [.ref x])) rfl (rest := []) rfl (hb hbytes d1)
  have hh2 := q2.trans hh0
  have hx2 := hx.mv X2.warmed.alike hh2
  have c3 : Steps p.tables e below (s₁.setTop (entryFrame m #[.ref x] 1)) (T2.setTop (mkF m 6 #[.val (.ref x)] [.ref x, .int (Int32.ofNat V.slots.size)])) := (c1.trans (st2 _ (Steps.refl _))).trans (by
    refine X2.alen hexec hx2.2.2.2.1 rfl rfl (hb hbytes d4) ?_
    refine XS.aloadN X2.here hexec rfl (hb hbytes d5) rfl rfl ?_
    exact Steps.refl _)
  obtain ⟨v4, T4, X4, E4, g4⟩ := X2.callV hexec (Cdr.law l x cd z) hown (wks W (virtW "java/lang/String" 335 "java/lang/String" Cdr.yN Cdr.yN)) rfl (by decide) (wk W Cdr.tab) (W := 1) (Nat.le_of_ble_eq_true rfl) (Nat.le_of_ble_eq_true rfl) (Nat.le_refl _) (Nat.le_refl _) (hx2.1.fc X2.warmed.alike) hx2.1.is (g := (mkF m 6 #[.val (.ref x)] [.ref x, .int (Int32.ofNat V.slots.size)])) rfl (by rw [hml]; rfl) c3 (argsL := []) (rest := [.int (Int32.ofNat V.slots.size)]) rfl rfl (by show 2 * 0 + (1 + 0) ≤ _; decide) (hb hbytes d6) (⟨rfl, hx2.2.2.1, hx.2.2.2.2.1.cd, s1.there X2.warmed.alike hh2, hz⟩)
  obtain ⟨rfl, q4⟩ := E4
  have c5 : Steps p.tables e below (s₁.setTop (entryFrame m #[.ref x] 1)) (T4.setTop (mkF m 10 #[.val (.ref x)] [.int (Int32.ofNat V.slots.size >>> (cd &&& 31))])) := Steps.trans g4 (by
    refine ishr X4.here hexec rfl (hb hbytes d9) rfl ?_
    exact Steps.refl _)
  rw [hx.2.2.2.2.1.len v31] at c5
  exact ⟨T4, some (.int (Int32.ofNat n)), _, _, _, X4, rfl, rfl, rfl, (fun h => by cases h), ⟨rfl, q4.trans hh2⟩, fun fs hl => c5.trans (X4.ireturnOut hexec hret rfl (Or.inl rfl) (hb hbytes d10) hl)⟩
theorem pays {l : Launch} {R : Room} {p : Program} {e : Env} {below : List Frame} {s : State} {sargs : Array Value} {len W : Nat} (x t : Addr) (V : Cell) (cd : Int32) (n : Nat) (f : Nat → Int32) (z : Int32) (htab : tab.before sargs s = true) (hfr : 2 ≤ R.frames) (hlo : W + 25 ≤ R.locals) :
    Back l R p e below s sargs yN len W (fun A₁ a₁ => A₁.cells + 0 ≤ R.cells ∧ A₁.slots + 0 ≤ R.slots ∧ P x t V cd n f z a₁ A₁.U) (fun A₁ _ v₁ B₁ => E n v₁ A₁.U B₁.U ∧ B₁.locs = A₁.locs ++ [] ∧ B₁.cells = A₁.cells + 0 ∧ B₁.slots = A₁.slots + 0) :=
  (law l x t V cd n f z).pays htab hfr (by omega)
end Len
namespace IsL
def yN : MethodName := ⟨"java/lang/String", "isLatin1", "()Z"⟩
abbrev yB : ByteArray := jdk_42_method_154_code
theorem d0 : decode yB 0 = .ok (.getstatic 38, 3) := by decide +kernel
theorem d3 : decode yB 3 = .ok (.ifCond (.eq) 14, 3) := by decide +kernel
theorem d6 : decode yB 6 = .ok (.aload_n 0, 1) := by decide +kernel
theorem d7 : decode yB 7 = .ok (.getfield 15, 3) := by decide +kernel
theorem d10 : decode yB 10 = .ok (.ifCond (.ne) 7, 3) := by decide +kernel
theorem d13 : decode yB 13 = .ok (.iconst 1, 1) := by decide +kernel
theorem d14 : decode yB 14 = .ok (.goto 4, 3) := by decide +kernel
theorem d17 : decode yB 17 = .ok (.iconst 0, 1) := by decide +kernel
theorem d18 : decode yB 18 = .ok (.ireturn, 1) := by decide +kernel
def site : List Cond := [.fieldLink "java/lang/String" 38 "java/lang/String" "COMPACT_STRINGS" "Z", .fieldLink "java/lang/String" 15 "java/lang/String" "coder" "B"]
def tab : Cond := tabOf yN yB 1 (some .boolean) site
def P (x : Addr) (cd z : Int32) (args : Array Value) (s : State) : Prop := args = #[.ref x] ∧ Has x "java/lang/String" "coder" "B" (.int cd) s ∧ (cd = 0 ∨ cd = 1) ∧ StaticIs s "java/lang/String" "COMPACT_STRINGS" "Z" (.int z) ∧ ¬ z = 0
def E (cd : Int32) (r : Option Value) (s u : State) : Prop := XT.PureE (some (.int (1 - cd))) r s u
theorem law (l : Launch) (x : Addr) (cd z : Int32) : Law l yN 1 0 0 0 yB 1 (some .boolean) site (P x cd z) (E cd) [] 0 0 := by
  refine Law.of_walk (plainFor_of_name (by decide +kernel)) (by decide +kernel) (by decide +kernel) (by decide) (fun _ _ h => by rw [h.1]; rfl) (fun _ U U' hal hh h => ⟨h.1, h.2.1.mv hal hh, h.2.2.1, h.2.2.2.1.there hal hh, h.2.2.2.2⟩) (fun r U U' V V' h1 hal h2 h => XT.PureE.mv r U U' V V' h1 hal h2 h) ?_
  intro p e s m args below meth c s₁ X0 hexec hbytes hml hret hlk hnm hown hh0 W hP
  obtain ⟨rfl, hx, hc, s1, hz⟩ := hP
  have c1 : Steps p.tables e below (s₁.setTop (entryFrame m #[.ref x] 1)) (s₁.setTop (mkF m 0 #[.val (.ref x)] [])) := entry rfl
  obtain ⟨T2, X2, q2, st2⟩ := X0.sget hexec hown (wk W (.fieldLink "java/lang/String" 38 "java/lang/String" "COMPACT_STRINGS" "Z")) s1 (fun _ _ h => by rw [hh0]; exact h) (g := (mkF m 0 #[.val (.ref x)] [])) rfl (hb hbytes d0)
  have hh2 := q2.trans hh0
  have c3 : Steps p.tables e below (s₁.setTop (entryFrame m #[.ref x] 1)) (T2.setTop (mkF m 7 #[.val (.ref x)] [.ref x])) := (c1.trans (st2 _ (Steps.refl _))).trans (by
    refine XS.ifNo X2.here hexec rfl (hb hbytes d3) rfl (i0_eq_f hz) ?_
    refine XS.aloadN X2.here hexec rfl (hb hbytes d6) rfl rfl ?_
    exact Steps.refl _)
  obtain ⟨T4, X4, q4, st4⟩ := X2.hget hexec hown (wk W (.fieldLink "java/lang/String" 15 "java/lang/String" "coder" "B")) (hx.mv X2.warmed.alike hh2) (g := (mkF m 7 #[.val (.ref x)] [.ref x])) rfl (rest := []) rfl (hb hbytes d7)
  have c5 : Steps p.tables e below (s₁.setTop (entryFrame m #[.ref x] 1)) (T4.setTop (mkF m 10 #[.val (.ref x)] [.int cd])) := c3.trans (st4 _ (Steps.refl _))
  have c6 : Steps p.tables e below (s₁.setTop (entryFrame m #[.ref x] 1)) (T4.setTop (mkF m 18 #[.val (.ref x)] [.int (1 - cd)])) := by
    rcases hc with rfl | rfl
    · exact c5.trans (by
        refine XS.ifNo X4.here hexec rfl (hb hbytes d10) rfl (i0_ne_f rfl) ?_
        refine iconstV X4.here hexec rfl 1 (hb hbytes d13) (by decide) ?_
        refine XS.goto X4.here hexec rfl (pc0 := 14) rfl (hb hbytes d14) (by decide) rfl ?_
        exact Steps.refl _)
    · exact c5.trans (by
        refine XS.ifYes X4.here hexec rfl (pc0 := 10) rfl (hb hbytes d10) rfl (i0_ne_t (by decide)) (by decide) rfl ?_
        refine iconstV X4.here hexec rfl 0 (hb hbytes d17) (by decide) ?_
        exact Steps.refl _)
  exact ⟨T4, some (.int (1 - cd)), _, _, _, X4, rfl, rfl, rfl, (fun h => by cases h), ⟨rfl, q4.trans hh2⟩, fun fs hl => c6.trans (X4.ireturnOut hexec hret (by rcases hc with rfl | rfl <;> rfl) (Or.inr (Or.inl rfl)) (hb hbytes d18) hl)⟩
end IsL
namespace LChA
def yN : MethodName := ⟨"java/lang/StringLatin1", "charAt", "([BI)C"⟩
abbrev yB : ByteArray := jdk_43_method_2_code
theorem d0 : decode yB 0 = .ok (.iload_n 1, 1) := by decide +kernel
theorem d1 : decode yB 1 = .ok (.aload_n 0, 1) := by decide +kernel
theorem d2 : decode yB 2 = .ok (.arraylength, 1) := by decide +kernel
theorem d3 : decode yB 3 = .ok (.invokestatic 9, 3) := by decide +kernel
theorem d6 : decode yB 6 = .ok (.aload_n 0, 1) := by decide +kernel
theorem d7 : decode yB 7 = .ok (.iload_n 1, 1) := by decide +kernel
theorem d8 : decode yB 8 = .ok (.baload, 1) := by decide +kernel
theorem d9 : decode yB 9 = .ok (.sipush 255, 3) := by decide +kernel
theorem d12 : decode yB 12 = .ok (.iand, 1) := by decide +kernel
theorem d13 : decode yB 13 = .ok (.i2c, 1) := by decide +kernel
theorem d14 : decode yB 14 = .ok (.ireturn, 1) := by decide +kernel
def site : List Cond := [JO.Str_checkIndex.tab] ++ staticW "java/lang/StringLatin1" 9 JO.Str_checkIndex.yN
def tab : Cond := tabOf yN yB 2 (some .char) site
def P (t : Addr) (V : Cell) (i : Nat) (u : Int32) (fm : Value) (args : Array Value) (s : State) : Prop := args = #[.ref t, .int (Int32.ofNat i)] ∧ XT.Arr .byte t V s ∧ V.slots[i]? = some (.int u) ∧ (StaticIs s "jdk/internal/util/Preconditions" "SIOOBE_FORMATTER" "Ljava/util/function/BiFunction;" fm ∧ fm.isRef = true)
def E (u : Int32) (r : Option Value) (s w : State) : Prop := XT.PureE (some (.int (chr8 u))) r s w
theorem law (l : Launch) (t : Addr) (V : Cell) (i : Nat) (u : Int32) (fm : Value) : Law l yN 2 2 2 27 yB 2 (some .char) site (P t V i u fm) (E u) [] 0 0 := by
  refine Law.of_walk (plainFor_of_name (by decide +kernel)) (by decide +kernel) (by decide +kernel) (by decide) (fun _ _ h => by rw [h.1]; rfl) (fun _ U U' hal hh h => ⟨h.1, h.2.1.mv hal hh, h.2.2.1, h.2.2.2.1.there hal hh, h.2.2.2.2⟩) (fun r U U' V V' h1 hal h2 h => XT.PureE.mv r U U' V V' h1 hal h2 h) ?_
  intro p e s m args below meth c s₁ X0 hexec hbytes hml hret hlk hnm hown hh0 W hP
  obtain ⟨rfl, hV, hu, s1, rf⟩ := hP
  have v31 := hV.2.2.2
  have hi : i < V.slots.size := (Array.getElem?_eq_some_iff.mp hu).1
  have c1 : Steps p.tables e below (s₁.setTop (entryFrame m #[.ref t, .int (Int32.ofNat i)] 2)) (s₁.setTop (mkF m 0 #[.val (.ref t), .val (.int (Int32.ofNat i))] [])) := entry rfl
  have c2 : Steps p.tables e below (s₁.setTop (entryFrame m #[.ref t, .int (Int32.ofNat i)] 2)) (s₁.setTop (mkF m 3 #[.val (.ref t), .val (.int (Int32.ofNat i))] [.int (Int32.ofNat V.slots.size), .int (Int32.ofNat i)])) := c1.trans (by
    refine XS.iloadN X0.here hexec rfl (hb hbytes d0) rfl ?_
    refine XS.aloadN X0.here hexec rfl (hb hbytes d1) rfl rfl ?_
    refine X0.alen hexec (hV.mv X0.warmed.alike hh0) rfl rfl (hb hbytes d2) ?_
    exact Steps.refl _)
  obtain ⟨v3, T3, X3, E3, g3⟩ := X0.callS hexec (JO.Str_checkIndex.law l (Int32.ofNat i) (Int32.ofNat V.slots.size) fm) hown (wks W (staticW "java/lang/StringLatin1" 9 JO.Str_checkIndex.yN)) (wk W JO.Str_checkIndex.tab) (W := 0) (Nat.le_of_ble_eq_true rfl) (Nat.le_of_ble_eq_true rfl) (Nat.le_refl _) (Nat.le_refl _) (g := (mkF m 3 #[.val (.ref t), .val (.int (Int32.ofNat i))] [.int (Int32.ofNat V.slots.size), .int (Int32.ofNat i)])) rfl (by rw [hml]; rfl) c2 (argsL := [.int (Int32.ofNat i), .int (Int32.ofNat V.slots.size)]) (rest := []) rfl rfl (by show 2 * 0 + 0 ≤ _; decide) (hb hbytes d3) (⟨rfl, rf, s1.there X0.warmed.alike hh0, Int32.ofNat_not_neg (by omega), lt32 v31 hi⟩)
  obtain ⟨rfl, q3⟩ := E3
  have hh3 := q3.trans hh0
  have c4 : Steps p.tables e below (s₁.setTop (entryFrame m #[.ref t, .int (Int32.ofNat i)] 2)) (T3.setTop (mkF m 14 #[.val (.ref t), .val (.int (Int32.ofNat i))] [.int (chr8 u)])) := Steps.trans g3 (by
    refine XS.aloadN X3.here hexec rfl (hb hbytes d6) rfl rfl ?_
    refine XS.iloadN X3.here hexec rfl (hb hbytes d7) rfl ?_
    refine X3.aget hexec (hV.mv X3.warmed.alike hh3) rfl hu rfl rfl (hb hbytes d8) ?_
    refine sipushV X3.here hexec rfl 255 (hb hbytes d9) (by decide) ?_
    refine XS.iand X3.here hexec rfl (hb hbytes d12) rfl ?_
    refine i2c X3.here hexec rfl (hb hbytes d13) rfl ?_
    exact Steps.refl _)
  exact ⟨T3, some (.int (chr8 u)), _, _, _, X3, rfl, rfl, rfl, (fun h => by cases h), ⟨rfl, hh3⟩, fun fs hl => c4.trans (X3.ireturnOut hexec hret (narrow_c _) (Or.inr (Or.inr (Or.inr (Or.inl rfl)))) (hb hbytes d14) hl)⟩
end LChA
end StrChars
namespace StrChars.Road
open Jvm Sem ClassFile Op Lib Jvm.Stand Jvm.Free Jvm.Free.XT
open Jvm.Lib.Cold (StaticIs)
theorem consq {a : Array Value} {s : State} {c : Jvm.Cond} {L : List Jvm.Cond} (h0 : c.before a s = true) (h : ∀ w ∈ L, w.before a s = true) : ∀ w ∈ c :: L, w.before a s = true := fun w hw => (List.mem_cons.mp hw).elim (fun e => e ▸ h0) (h w)
/-- the words of String.length(), either coding -/
abbrev wordsLen : List Jvm.Cond := [.code Len.yN Len.yB 1 (some .int), .initialized ST, .fieldLink ST 9 ST "value" "[B", .fieldLink ST 38 ST "COMPACT_STRINGS" "Z", .fieldLink ST 15 ST "coder" "B", .code Cdr.yN Cdr.yB 1 (some .byte), .methodLink ST 335 Cdr.yN, .declares Cdr.yN, .selects ST Cdr.yN Cdr.yN, .instanceMethod Cdr.yN]
theorem tabLen_of {a : Array Value} {s : State} (h : ∀ w ∈ wordsLen, w.before a s = true) : Len.tab.before a s = true := by
  have hc : Cdr.tab.before a s = true := unparts (wk h (.code Cdr.yN Cdr.yB 1 (some .byte))) (wks h (.initialized Cdr.yN.cls :: Cdr.site))
  have q := consq hc h
  exact unparts (wk q (.code Len.yN Len.yB 1 (some .int))) (wks q (.initialized Len.yN.cls :: Len.site))
theorem movedLen {Z s : State} {a0 args : Array Value} (hZ : Z.Warmed39 s.vm) (hw : ∀ d ∈ wordsLen, d.before a0 Z = true) : ∀ d ∈ wordsLen, d.before args s = true := fun d hd => by
  have q := hw d hd
  have t : ∀ d ∈ wordsLen, d = .arrayClass .byte ∨ (d.onTables && d.keepsFace) = true := by decide +kernel
  rcases t d hd with rfl | t
  · exact RoadKit.mvA hZ q
  · exact RoadKit.mv hZ q t
/-- the bytes of the chars cs, low before high -/
def wideBytes : List Int32 → List Value
  | [] => []
  | c :: cs => .int (lo8 c) :: .int (hi8 c) :: wideBytes cs
theorem wide_lo (d : Value) : ∀ (cs : List Int32) (j : Nat), j < cs.length → (wideBytes cs).getD (2 * j) d = .int (lo8 (cs.getD j 0))
  | [], j, h => absurd h (Nat.not_lt_zero j)
  | c :: cs, 0, _ => rfl
  | c :: cs, j + 1, h => by
    have q := wide_lo d cs j (by simpa using h)
    rw [show 2 * (j + 1) = 2 * j + 1 + 1 from by omega]
    simpa [wideBytes] using q
theorem wide_hi (d : Value) : ∀ (cs : List Int32) (j : Nat), j < cs.length → (wideBytes cs).getD (2 * j + 1) d = .int (hi8 (cs.getD j 0))
  | [], j, h => absurd h (Nat.not_lt_zero j)
  | c :: cs, 0, _ => rfl
  | c :: cs, j + 1, h => by
    have q := wide_hi d cs j (by simpa using h)
    rw [show 2 * (j + 1) + 1 = 2 * j + 1 + 1 + 1 from by omega]
    simpa [wideBytes] using q
theorem low_at (d : Value) (cs : List Int32) (j : Nat) (h : j < cs.length) : (cs.map fun c => Value.int (lo8 c)).getD j d = .int (lo8 (cs.getD j 0)) := by
  simp [List.getD_eq_getElem?_getD, h]
/-- an array of N2 bytes vs codes the chars cs by the coder cd -/
def CodA (cs : List Int32) (cd N2 : Int32) (vs : List Value) : Prop := (cd = 0 ∧ N2 = Int32.ofNat cs.length ∧ vs = (cs.map fun c => Value.int (lo8 c)) ∧ ∀ c ∈ cs, ¬ 255 < c) ∨ (cd = 1 ∧ N2 = Int32.ofNat (2 * cs.length) ∧ vs = wideBytes cs ∧ ∃ c ∈ cs, 255 < c)
theorem CodA.cod {cs : List Int32} {cd N2 : Int32} {vs : List Value} {V : Cell} (h : CodA cs cd N2 vs) (hn : 2 * cs.length < 2 ^ 31) (hs : V.slots.size = N2.toNatClampNeg) (hv : RoadKit.Has V vs (.int 0)) : Cod cd cs.length (fun j => cs.getD j 0) V := by
  rcases h with ⟨rfl, rfl, rfl, h⟩ | ⟨rfl, rfl, rfl, c, hc, hw⟩
  · rw [n32 (by omega)] at hs
    exact Or.inl ⟨rfl, hs, fun j hj => ⟨by rw [hv j (by omega), low_at _ _ _ hj], by
      have e : cs.getD j 0 = cs[j] := by simp [List.getD_eq_getElem?_getD, hj]
      show ¬ 255 < cs.getD j 0
      rw [e]; exact h _ (List.getElem_mem _)⟩⟩
  · rw [n32 (by omega)] at hs
    obtain ⟨j, hj, rfl⟩ := List.getElem_of_mem hc
    exact Or.inr ⟨rfl, hs, fun j hj => ⟨by rw [hv _ (by omega), wide_lo _ _ _ hj], by rw [hv _ (by omega), wide_hi _ _ _ hj]⟩, j, hj, by
      have e : cs.getD j 0 = cs[j] := by simp [List.getD_eq_getElem?_getD, hj]
      show 255 < cs.getD j 0
      rw [e]; exact hw⟩
/-- an object of exactly java/lang/String, its two fields found: as the laws ask it -/
theorem strObj {Z U : State} {a0 : Array Value} {kI : Nat} (wi : (Jvm.Cond.instantiable ST kI).before a0 Z = true) (al : Z.vm.Alike U.vm) {x : Addr} {v0 c0 : Value} (E : RoadKit.Exa Z U.heap x ST) (V : RoadKit.Fld Z U.heap x ST "value" "[B" v0) (C : RoadKit.Fld Z U.heap x ST "coder" "B" c0) :
    ∃ (D : Cell) (fV fC : Field), Blank ST x D U ∧ Found ST "value" "[B" fV U ∧ Found ST "coder" "B" fC U ∧ D.slots[fV.slot]? = some v0 ∧ D.slots[fC.slot]? = some c0 ∧ RoadKit.slotOf Z ST "value" "[B" = fV.slot ∧ RoadKit.slotOf Z ST "coder" "B" = fC.slot := by
  obtain ⟨D, cfV, kV, iV, fV, hD, gV, stV, knV, obV, asV, slV⟩ := V
  obtain ⟨D', cfC, kC, iC, fC, hD', gC, stC, -, -, asC, slC⟩ := C
  cases hD.symm.trans hD'
  obtain ⟨D2, kD, e1, e2, e3, e4, e5⟩ := E
  cases hD.symm.trans e1
  obtain ⟨c2, k2, i1, i2, i3, -⟩ := Cond.instantiable_spec wi
  cases e2.symm.trans i1
  cases e3.symm.trans i2
  obtain ⟨kU, u1, u2⟩ := al.2.2 _ _ e3
  exact ⟨D, fV, fC, ⟨hD, ⟨knV, fun q hq => by rw [hq] at obV; cases obV⟩, by rw [al.findClass]; exact e2, kU, u1, by rw [u2]; exact i3, by rw [u2]; exact e5 i3⟩, ⟨SBG.found_only al ⟨cfV, kV, iV, gV⟩, stV⟩, ⟨SBG.found_only al ⟨cfC, kC, iC, gC⟩, stC⟩, slV, slC, by simp [RoadKit.slotOf, gV], by simp [RoadKit.slotOf, gC]⟩
theorem sta_is {Z U : State} (al : Z.vm.Alike U.vm) {C n d : String} {v : Value} (S : RoadKit.Sta Z U.heap C n d v) : StaticIs U C n d v := by
  obtain ⟨cfS, iS, kS, fS, st, cS, t1, t2, t3, t4, t5, t6, t7⟩ := S
  exact StaticIs.there (s := { Z with heap := U.heap }) ⟨cfS, iS, kS, fS, st, cS, t1, t2, t3, t4, t5, (fun q => by rw [q] at t6; cases t6), t7⟩ al rfl
/-- **length() OF SUCH A STRING** -/
theorem lenW {p : Program} {l : Launch} {e : Env} {R : Room} {s : State} {args : Array Value} {below : List Frame} {len W : Nat} {Z : State} {a0 : Array Value} {h : Heap} (hZ : Z.Warmed39 s.vm) (hw : ∀ d ∈ wordsLen, d.before a0 Z = true) {kI : Nat} (wi : (Jvm.Cond.instantiable ST kI).before a0 Z = true)
    {x t : Addr} {kb : ClassId} {cs : List Int32} {cd N2 z : Int32} {vs : List Value} (E : RoadKit.Exa Z h x ST) (V : RoadKit.Fld Z h x ST "value" "[B" (.ref t)) (C : RoadKit.Fld Z h x ST "coder" "B" (.int cd)) (K : RoadKit.Arv Z h t kb .byte N2 vs (.int 0)) (hc : CodA cs cd N2 vs) (hb : ∀ c ∈ cs, ¬ c < 0 ∧ ¬ (65535 : Int32) < c)
    (S : RoadKit.Sta Z h ST "COMPACT_STRINGS" "Z" (.int z)) (hz : ¬ z = 0) (l2 : cs.length ≤ 4000) (hfr : 2 ≤ R.frames) (hlo : W + 25 ≤ R.locals) :
    Back l R p e below s args (⟨"java/lang/String", "length", "()I"⟩ : MethodName) len W (fun P a => a = #[.ref x] ∧ P.U.heap = h ∧ P.cells + 0 ≤ R.cells ∧ P.slots + 0 ≤ R.slots)
      (fun P _ v B => ∃ L, (v = some (.int (Int32.ofNat cs.length)) ∧ L = [] ∧ B.U.heap = h) ∧ B.locs = P.locs ++ L ∧ B.cells = P.cells + 0 ∧ B.slots = P.slots + 0) := by
  obtain ⟨A, K1, K2, K3, K4, K5, K6⟩ := K
  have hcod := hc.cod (by omega) K3 K5
  intro m meth c P g ig mk a X hg hsize hdg hW hn hp'
  obtain ⟨rfl, rfl, r1, r2⟩ := hp'
  have al : Z.vm.Alike P.U.vm := hZ.alike.trans X.warmed.alike
  obtain ⟨D, fV, fC, hB, F1, F2, g1, g2, -, -⟩ := strObj wi al E V C
  have hx : Txt x t A cd cs.length (fun j => cs.getD j 0) P.U := ⟨⟨_, hB.2.2.1, D, hB.1, rfl, by cases q : D.vm <;> first | rfl | exact absurd q (hB.2.1.2 _)⟩, Has.of hB F1 g1, Has.of hB F2 g2, ⟨K1.1, State.isArrayOf_alike al K1.2.1, K1.2.2, by rcases hcod with ⟨-, q, -⟩ | ⟨-, q, -⟩ <;> omega⟩, hcod, fun j hj => by
    have e : cs.getD j 0 = cs[j] := by simp [List.getD_eq_getElem?_getD, hj]
    show ¬ cs.getD j 0 < 0 ∧ ¬ 65535 < cs.getD j 0
    rw [e]; exact hb _ (List.getElem_mem _)⟩
  obtain ⟨v, B, X', ⟨⟨hv, hh⟩, hl, hk, hs⟩, st⟩ := Len.pays x t A cd cs.length (fun j => cs.getD j 0) z (tabLen_of (movedLen hZ hw)) hfr hlo m meth c P g ig mk _ X hg hsize hdg hW hn ⟨r1, r2, rfl, hx, sta_is al S, hz⟩
  exact ⟨v, B, X', ⟨[], ⟨hv, rfl, hh⟩, hl, hk, hs⟩, st⟩
end StrChars.Road
namespace StrChars.Road
open Jvm Sem ClassFile Op Lib Jvm.Stand Jvm.Free Jvm.Free.XT
open Jvm.Lib.Cold (StaticIs)
/-- the road's facts of a String, as the laws ask it -/
theorem txt_of {Z U : State} {a0 : Array Value} {kI : Nat} (wi : (Jvm.Cond.instantiable ST kI).before a0 Z = true) (al : Z.vm.Alike U.vm) {x t : Addr} {kb : ClassId} {cs : List Int32} {cd N2 : Int32} {vs : List Value} (E : RoadKit.Exa Z U.heap x ST) (V : RoadKit.Fld Z U.heap x ST "value" "[B" (.ref t)) (C : RoadKit.Fld Z U.heap x ST "coder" "B" (.int cd)) (K : RoadKit.Arv Z U.heap t kb .byte N2 vs (.int 0)) (hc : CodA cs cd N2 vs) (hb : ∀ c ∈ cs, ¬ c < 0 ∧ ¬ (65535 : Int32) < c) (l2 : cs.length ≤ 4000) :
    ∃ A, Txt x t A cd cs.length (fun j => cs.getD j 0) U := by
  obtain ⟨A, K1, K2, K3, K4, K5, K6⟩ := K
  have hcod := hc.cod (by omega) K3 K5
  obtain ⟨D, fV, fC, hB, F1, F2, g1, g2, -, -⟩ := strObj wi al E V C
  exact ⟨A, ⟨_, hB.2.2.1, D, hB.1, rfl, by cases q : D.vm <;> first | rfl | exact absurd q (hB.2.1.2 _)⟩, Has.of hB F1 g1, Has.of hB F2 g2, ⟨K1.1, State.isArrayOf_alike al K1.2.1, K1.2.2, by rcases hcod with ⟨-, q, -⟩ | ⟨-, q, -⟩ <;> omega⟩, hcod, fun j hj => by
    have e : cs.getD j 0 = cs[j] := by simp [List.getD_eq_getElem?_getD, hj]
    show ¬ cs.getD j 0 < 0 ∧ ¬ 65535 < cs.getD j 0
    rw [e]; exact hb _ (List.getElem_mem _)⟩
end StrChars.Road
namespace StrChars
open Jvm Sem ClassFile Op Lib Jvm.Stand Jvm.Free.XT Jvm.Free.ALB Jvm.Free.JM Jvm.Free
open Jvm.Lib.Cold (StaticIs)
namespace ChN
def yN : MethodName := ⟨"java/lang/String", "charAt", "(I)C"⟩
abbrev yB : ByteArray := jdk_42_method_56_code
theorem d0 : decode yB 0 = .ok (.aload_n 0, 1) := by decide +kernel
theorem d1 : decode yB 1 = .ok (.invokevirtual 492, 3) := by decide +kernel
theorem d4 : decode yB 4 = .ok (.ifCond (.eq) 12, 3) := by decide +kernel
theorem d7 : decode yB 7 = .ok (.aload_n 0, 1) := by decide +kernel
theorem d8 : decode yB 8 = .ok (.getfield 9, 3) := by decide +kernel
theorem d11 : decode yB 11 = .ok (.iload_n 1, 1) := by decide +kernel
theorem d12 : decode yB 12 = .ok (.invokestatic 495, 3) := by decide +kernel
theorem d15 : decode yB 15 = .ok (.ireturn, 1) := by decide +kernel
def site : List Cond := [.fieldLink "java/lang/String" 9 "java/lang/String" "value" "[B", IsL.tab, LChA.tab] ++ virtW "java/lang/String" 492 "java/lang/String" IsL.yN IsL.yN ++ staticW "java/lang/String" 495 LChA.yN
def tab : Cond := tabOf yN yB 2 (some .char) site
def P (x t : Addr) (V : Cell) (n : Nat) (f : Nat → Int32) (z : Int32) (fm : Value) (i : Nat) (args : Array Value) (s : State) : Prop := args = #[.ref x, .int (Int32.ofNat i)] ∧ Txt x t V 0 n f s ∧ i < n ∧ StaticIs s "java/lang/String" "COMPACT_STRINGS" "Z" (.int z) ∧ ¬ z = 0 ∧ StaticIs s "jdk/internal/util/Preconditions" "SIOOBE_FORMATTER" "Ljava/util/function/BiFunction;" fm ∧ fm.isRef = true
def E (f : Nat → Int32) (i : Nat) (r : Option Value) (s u : State) : Prop := XT.PureE (some (.int (f i))) r s u
/-- charAt(i) of a Latin-1 String of n chars, i < n: f i -/
theorem law (l : Launch) (x t : Addr) (V : Cell) (n : Nat) (f : Nat → Int32) (z : Int32) (fm : Value) (i : Nat) : Law l yN 2 1 3 40 yB 2 (some .char) site (P x t V n f z fm i) (E f i) [] 0 0 := by
  refine Law.of_walk (plainFor_of_name (by decide +kernel)) (by decide +kernel) (by decide +kernel) (by decide) (fun _ _ h => by rw [h.1]; rfl) (fun _ U U' hal hh h => ⟨h.1, h.2.1.mv hal hh, h.2.2.1, h.2.2.2.1.there hal hh, h.2.2.2.2.1, h.2.2.2.2.2.1.there hal hh, h.2.2.2.2.2.2⟩) (fun r U U' V V' h1 hal h2 h => XT.PureE.mv r U U' V V' h1 hal h2 h) ?_
  intro p e s m args below meth c s₁ X0 hexec hbytes hml hret hlk hnm hown hh0 W hP
  obtain ⟨rfl, hx, hi, s1, hz, s3, rf⟩ := hP
  have v31 := hx.2.2.2.1.2.2.2
  have hr := hx.2.2.2.2.2 i hi
  have hx0 := hx.mv X0.warmed.alike hh0
  have c1 : Steps p.tables e below (s₁.setTop (entryFrame m #[.ref x, .int (Int32.ofNat i)] 2)) (s₁.setTop (mkF m 1 #[.val (.ref x), .val (.int (Int32.ofNat i))] [.ref x])) := Steps.trans (entry rfl) (by
    show Steps p.tables e below (s₁.setTop (mkF m 0 #[.val (.ref x), .val (.int (Int32.ofNat i))] [])) _
    refine XS.aloadN X0.here hexec rfl (hb hbytes d0) rfl rfl ?_
    exact Steps.refl _)
  obtain ⟨v2, T2, X2, E2, g2⟩ := X0.callV hexec (IsL.law l x 0 z) hown (wks W (virtW "java/lang/String" 492 "java/lang/String" IsL.yN IsL.yN)) rfl (by decide) (wk W IsL.tab) (W := 0) (Nat.le_of_ble_eq_true rfl) (Nat.le_of_ble_eq_true rfl) (Nat.le_refl _) (Nat.le_refl _) (hx0.1.fc X0.warmed.alike) hx0.1.is (g := (mkF m 1 #[.val (.ref x), .val (.int (Int32.ofNat i))] [.ref x])) rfl (by rw [hml]; rfl) c1 (argsL := []) (rest := []) rfl rfl (by show 2 * 0 + 0 ≤ _; decide) (hb hbytes d1) (⟨rfl, hx0.2.2.1, hx.2.2.2.2.1.cd, s1.there X0.warmed.alike hh0, hz⟩)
  obtain ⟨rfl, q2⟩ := E2
  have hh2 := q2.trans hh0
  have hx2 := hx.mv X2.warmed.alike hh2
  obtain ⟨-, k1, k2⟩ | ⟨k0, -⟩ := hx.2.2.2.2.1
  · have c3 : Steps p.tables e below (s₁.setTop (entryFrame m #[.ref x, .int (Int32.ofNat i)] 2)) (T2.setTop (mkF m 8 #[.val (.ref x), .val (.int (Int32.ofNat i))] [.ref x])) := Steps.trans g2 (by
      refine XS.ifNo X2.here hexec rfl (hb hbytes d4) rfl (i0_eq_f (by decide)) ?_
      refine XS.aloadN X2.here hexec rfl (hb hbytes d7) rfl rfl ?_
      exact Steps.refl _)
    obtain ⟨T4, X4, q4, st4⟩ := X2.hget hexec hown (wk W (.fieldLink "java/lang/String" 9 "java/lang/String" "value" "[B")) hx2.2.1 (g := (mkF m 8 #[.val (.ref x), .val (.int (Int32.ofNat i))] [.ref x])) rfl (rest := []) rfl (hb hbytes d8)
    have hh4 := q4.trans hh2
    have c5 : Steps p.tables e below (s₁.setTop (entryFrame m #[.ref x, .int (Int32.ofNat i)] 2)) (T4.setTop (mkF m 12 #[.val (.ref x), .val (.int (Int32.ofNat i))] [.int (Int32.ofNat i), .ref t])) := (c3.trans (st4 _ (Steps.refl _))).trans (by
      refine XS.iloadN X4.here hexec rfl (hb hbytes d11) rfl ?_
      exact Steps.refl _)
    obtain ⟨v6, T6, X6, E6, g6⟩ := X4.callS hexec (LChA.law l t V i (lo8 (f i)) fm) hown (wks W (staticW "java/lang/String" 495 LChA.yN)) (wk W LChA.tab) (W := 0) (Nat.le_of_ble_eq_true rfl) (Nat.le_of_ble_eq_true rfl) (Nat.le_refl _) (Nat.le_refl _) (g := (mkF m 12 #[.val (.ref x), .val (.int (Int32.ofNat i))] [.int (Int32.ofNat i), .ref t])) rfl (by rw [hml]; rfl) c5 (argsL := [.ref t, .int (Int32.ofNat i)]) (rest := []) rfl rfl (by show 2 * 0 + 0 ≤ _; decide) (hb hbytes d12) (⟨rfl, hx.2.2.2.1.mv X4.warmed.alike hh4, (k2 i hi).1, s3.there X4.warmed.alike hh4, rf⟩)
    obtain ⟨rfl, q6⟩ := E6
    rw [chr8_lo8 hr.1 (k2 i hi).2] at g6
    exact ⟨T6, some (.int (f i)), _, _, _, X6, rfl, rfl, rfl, (fun h => by cases h), ⟨rfl, q6.trans hh4⟩, fun fs hl => Steps.trans g6 (X6.ireturnOut hexec hret (narrow_ch hr.1 hr.2) (Or.inr (Or.inr (Or.inr (Or.inl rfl)))) (hb hbytes d15) hl)⟩
  · exact absurd k0 (by decide)
theorem pays {l : Launch} {R : Room} {p : Program} {e : Env} {below : List Frame} {s : State} {sargs : Array Value} {len W : Nat} (x t : Addr) (V : Cell) (n : Nat) (f : Nat → Int32) (z : Int32) (fm : Value) (i : Nat) (htab : tab.before sargs s = true) (hfr : 4 ≤ R.frames) (hlo : W + 53 ≤ R.locals) :
    Back l R p e below s sargs yN len W (fun A₁ a₁ => A₁.cells + 0 ≤ R.cells ∧ A₁.slots + 0 ≤ R.slots ∧ P x t V n f z fm i a₁ A₁.U) (fun A₁ _ v₁ B₁ => E f i v₁ A₁.U B₁.U ∧ B₁.locs = A₁.locs ++ [] ∧ B₁.cells = A₁.cells + 0 ∧ B₁.slots = A₁.slots + 0) :=
  (law l x t V n f z fm i).pays htab hfr (by omega)
end ChN
end StrChars
namespace StrChars.Road
open Jvm Sem ClassFile Op Lib Jvm.Stand Jvm.Free Jvm.Free.XT
open Jvm.Lib.Cold (StaticIs)
/-- the words of String.charAt(int), the Latin-1 road alone -/
abbrev wordsChN : List Jvm.Cond := [.code ChN.yN ChN.yB 2 (some .char), .initialized ST, .fieldLink ST 9 ST "value" "[B", .fieldLink ST 38 ST "COMPACT_STRINGS" "Z", .fieldLink ST 15 ST "coder" "B", .code IsL.yN IsL.yB 1 (some .boolean), .methodLink ST 492 IsL.yN, .declares IsL.yN, .selects ST IsL.yN IsL.yN, .instanceMethod IsL.yN,
  .methodLink ST 495 LChA.yN, .static LChA.yN, .code LChA.yN LChA.yB 2 (some .char), .initialized "java/lang/StringLatin1", .methodLink "java/lang/StringLatin1" 9 JO.Str_checkIndex.yN, .static JO.Str_checkIndex.yN, .code JO.Str_checkIndex.yN JO.Str_checkIndex.yB 2 none,
  .fieldLink ST 1053 "jdk/internal/util/Preconditions" "SIOOBE_FORMATTER" "Ljava/util/function/BiFunction;", .methodLink ST 1059 JC.PreCheck.yN, .static JC.PreCheck.yN, .code JC.PreCheck.yN JC.PreCheck.yB 3 (some .int), .initialized "jdk/internal/util/Preconditions"]
theorem tabChN_of {a : Array Value} {s : State} (h : ∀ w ∈ wordsChN, w.before a s = true) : ChN.tab.before a s = true := by
  have hp : JC.PreCheck.tab.before a s = true := unparts (wk h (.code JC.PreCheck.yN JC.PreCheck.yB 3 (some .int))) (wks h (.initialized JC.PreCheck.yN.cls :: JC.PreCheck.site))
  have qk := consq hp h
  have hk : JO.Str_checkIndex.tab.before a s = true := unparts (wk qk (.code JO.Str_checkIndex.yN JO.Str_checkIndex.yB 2 none)) (wks qk (.initialized JO.Str_checkIndex.yN.cls :: JO.Str_checkIndex.site))
  have ql := consq hk h
  have hl : LChA.tab.before a s = true := unparts (wk ql (.code LChA.yN LChA.yB 2 (some .char))) (wks ql (.initialized LChA.yN.cls :: LChA.site))
  have hi : IsL.tab.before a s = true := unparts (wk h (.code IsL.yN IsL.yB 1 (some .boolean))) (wks h (.initialized IsL.yN.cls :: IsL.site))
  have q := consq hi (consq hl h)
  exact unparts (wk q (.code ChN.yN ChN.yB 2 (some .char))) (wks q (.initialized ChN.yN.cls :: ChN.site))
theorem movedChN {Z s : State} {a0 args : Array Value} (hZ : Z.Warmed39 s.vm) (hw : ∀ d ∈ wordsChN, d.before a0 Z = true) : ∀ d ∈ wordsChN, d.before args s = true := fun d hd => by
  have t : ∀ d ∈ wordsChN, (d.onTables && d.keepsFace) = true := by decide +kernel
  exact RoadKit.mv hZ (hw d hd) (t d hd)
/-- **charAt(i) OF A LATIN-1 STRING**, i < n: the char -/
theorem chN {p : Program} {l : Launch} {e : Env} {R : Room} {s : State} {args : Array Value} {below : List Frame} {len W : Nat} {Z : State} {a0 : Array Value} {h : Heap} (hZ : Z.Warmed39 s.vm) (hw : ∀ d ∈ wordsChN, d.before a0 Z = true) {kI : Nat} (wi : (Jvm.Cond.instantiable ST kI).before a0 Z = true)
    {x t : Addr} {kb : ClassId} {cs : List Int32} {N2 z : Int32} {vs : List Value} {fm : Value} {i : Nat} {j : Int32} (E : RoadKit.Exa Z h x ST) (V : RoadKit.Fld Z h x ST "value" "[B" (.ref t)) (C : RoadKit.Fld Z h x ST "coder" "B" (.int 0)) (K : RoadKit.Arv Z h t kb .byte N2 vs (.int 0)) (hc : CodA cs 0 N2 vs) (hb : ∀ c ∈ cs, ¬ c < 0 ∧ ¬ (65535 : Int32) < c)
    (S : RoadKit.Sta Z h ST "COMPACT_STRINGS" "Z" (.int z)) (hz : ¬ z = 0) (F : RoadKit.Sta Z h "jdk/internal/util/Preconditions" "SIOOBE_FORMATTER" "Ljava/util/function/BiFunction;" fm) (rf : fm.isRef = true) (l2 : cs.length ≤ 4000) (hi : i < cs.length) (hj : j = Int32.ofNat i) (hfr : 4 ≤ R.frames) (hlo : W + 53 ≤ R.locals) :
    Back l R p e below s args (⟨"java/lang/String", "charAt", "(I)C"⟩ : MethodName) len W (fun P a => a = #[.ref x, .int j] ∧ P.U.heap = h ∧ P.cells + 0 ≤ R.cells ∧ P.slots + 0 ≤ R.slots)
      (fun P _ v B => ∃ L, (v = some (.int (cs.getD i 0)) ∧ L = [] ∧ B.U.heap = h) ∧ B.locs = P.locs ++ L ∧ B.cells = P.cells + 0 ∧ B.slots = P.slots + 0) := by
  subst hj
  intro m meth c P g ig mk a X hg hsize hdg hW hn hp'
  obtain ⟨rfl, rfl, r1, r2⟩ := hp'
  have al : Z.vm.Alike P.U.vm := hZ.alike.trans X.warmed.alike
  obtain ⟨A, hx⟩ := txt_of wi al E V C K hc hb l2
  obtain ⟨v, B, X', ⟨⟨hv, hh⟩, hl, hk, hs⟩, st⟩ := ChN.pays x t A cs.length (fun j => cs.getD j 0) z fm i (tabChN_of (movedChN hZ hw)) hfr hlo m meth c P g ig mk _ X hg hsize hdg hW hn ⟨r1, r2, rfl, hx, hi, sta_is al S, hz, sta_is al F, rf⟩
  exact ⟨v, B, X', ⟨[], ⟨hv, rfl, hh⟩, hl, hk, hs⟩, st⟩
end StrChars.Road
end Jvm.Pilot.@@N@@

namespace Jvm.Pilot.@@N@@
open Jvm Jvm.ClassFile Sem Op Lib Jvm.Free Jvm.Stand Jvm.LawKit Jvm.RoadKit Bundle Jvm.Pilot.@@N@@.Jvm.D
section OwnKit
/-- where a walk stands that may intern String constants: the library's Stand over the tables at hand, and what stays the same throughout; EL: the constants whose text is known -/
def On (l : Launch) (Z : State) (EL : List (String × Nat)) (p : Program) (e : Env) (R : Room) (s : State) (m : MethodId) (args : Array Value) (below : List Frame) (meth : Method) (c : Code) (y : MethodName) (code : ByteArray) (maxL : Nat) (ret : Option FieldType) (vm : Vm) (T : State) (h : Heap) (locs : List Loc) (cells slots : Nat) : Prop :=
  Stand p l e R (s.setVm vm) m args below meth c T locs cells slots ∧ (p.tables.exec = Jvm.exec ∧ c.code = code ∧ Z.Warmed39 vm ∧ vm.findClass y.cls = some m.cls ∧ meth.sig.returnType = ret ∧ meth.locks = false ∧ meth.name = y.name ∧ c.maxLocals = maxL) ∧ T.heap = h ∧ Fr Z.heap.size locs ∧ Ext Z.heap h ∧ (∃ k0, s.Since vm k0 ∧ k0 ≤ h.size) ∧ CHr Z EL s.vm s.heap vm h ∧ ∃ a1, EW Z a1 EL
/-- the run from here ends as F says -/
def Goes (p : Program) (e : Env) (below : List Frame) (F : State → Outcome → Prop) (T : State) (g : JFrame) : Prop :=
  ∃ s₂ o, Steps p.tables e below (T.setTop g) s₂ ∧ s₂.status = .running ∧ Ended s₂ below o ∧ F s₂ o
def FinQ (Z : State) (EL : List (String × Nat)) (s : State) (Q : Option Value → Heap → (Addr → Prop) → Prop) (rc rs : Nat) (s₂ : State) (o : Outcome) : Prop :=
  ∃ v L, o = .returned v ∧ (Q v s₂.heap (Safe Z EL s₂.vm s₂.heap) ∧ Fr Z.heap.size L ∧ Ext Z.heap s₂.heap) ∧ CHr Z EL s.vm s.heap s₂.vm s₂.heap ∧ ReturnedEndW s o s₂ L rc rs
/-- a method's contract: called with these arguments on this heap it returns, and Q holds; ss: places that are no constant's -/
def Con (l : Launch) (Z : State) (EL : List (String × Nat)) (y : MethodName) (code : ByteArray) (maxL : Nat) (ret : Option FieldType) (rm : Room) (as : Array Value) (h : Heap) (ss : List Addr) (Q : Option Value → Heap → (Addr → Prop) → Prop) : Prop :=
  (∃ a1, EW Z a1 EL) → Ext Z.heap h → ∀ ws : List Jvm.Cond, MetFree l y (head1 (Jvm.Cond.code y code maxL ret :: ws) rm) (fun a U => a = as ∧ Z.Warmed39 U.vm ∧ U.heap = h ∧ CHv Z EL U.vm h ∧ ∀ x ∈ ss, Safe Z EL U.vm h x) (fun _ _ _ _ _ => True) (fun _ U o U' => ∃ v L, o = .returned v ∧ (Q v U'.heap (Safe Z EL U'.vm U'.heap) ∧ Fr Z.heap.size L ∧ Ext Z.heap U'.heap) ∧ CHr Z EL U.vm U.heap U'.vm U'.heap ∧ ReturnedEndW U o U' L rm.cells rm.slots)
theorem Goes.step {p : Program} {e : Env} {below : List Frame} {F : State → Outcome → Prop} {T T' : State} {g g' : JFrame} (st : ∀ t, Steps p.tables e below (T'.setTop g') t → Steps p.tables e below (T.setTop g) t) (k : Goes p e below F T' g') : Goes p e below F T g := by
  obtain ⟨s₂, o, h1, h2⟩ := k
  exact ⟨s₂, o, st _ h1, h2⟩
theorem Goes.cast {p : Program} {e : Env} {below : List Frame} {F : State → Outcome → Prop} {T : State} {g g' : JFrame} (q : g = g') (k : Goes p e below F T g') : Goes p e below F T g := q ▸ k
theorem Goes.mono {p : Program} {e : Env} {below : List Frame} {F F' : State → Outcome → Prop} {T : State} {g : JFrame} (q : ∀ s o, F s o → F' s o) (k : Goes p e below F T g) : Goes p e below F' T g := by
  obtain ⟨s₂, o, h1, h2, h3, h4⟩ := k
  exact ⟨s₂, o, h1, h2, h3, q _ _ h4⟩
variable {l : Launch} {Z : State} {EL : List (String × Nat)} {p : Program} {e : Env} {R : Room} {s : State} {m : MethodId} {args : Array Value} {below : List Frame} {meth : Method} {c : Code} {y : MethodName} {code : ByteArray} {maxL : Nat} {ret : Option FieldType} {vm : Vm} {T : State} {h : Heap} {locs : List Loc} {cells slots : Nat} {F : State → Outcome → Prop} {pc : Nat} {L L' : Array Slot} {S : List Value} {a0 : Array Value} {ss : List Addr}
theorem Con.intro {rm : Room} {as : Array Value} {Q : Option Value → Heap → (Addr → Prop) → Prop} (hp : plainFor y = true)
    (body : ∀ (p : Program) (e : Env) (s : State) (m : MethodId) (below : List Frame) (meth : Method) (c : Code) (T : State), On l Z EL p e rm s m as below meth c y code maxL ret s.vm T h [] 0 0 → (∀ x ∈ ss, Safe Z EL s.vm h x) → Goes p e below (FinQ Z EL s Q rm.cells rm.slots) T (entryFrame m as maxL)) : Con l Z EL y code maxL ret rm as h ss Q := by
  intro hEW hE ws
  refine MetFree.of_bodySF hp hisR ?_
  intro p e s m args below meth c s₁ Bd hml0 hP hK
  obtain ⟨rfl, hZ, hh, hC, hs⟩ := hP
  have hnm := (name_of_methodNamed Bd.named Bd.method).1
  subst hh
  obtain ⟨s₂, o, k1, k2, k3, k4⟩ := body p e s m below meth c s₁ ⟨Stand.of_body Bd, ⟨Bd.exec, Bd.bytes, hZ, findClass_of_methodNamed Bd.named, Bd.returns, Bd.notSynchronized, hnm, hml0⟩, by rw [Bd.state]; rfl, Fr.nil _, hE, ⟨0, (State.WarmedH.refl s).since 0, Nat.zero_le _⟩, CHr.refl hC, hEW⟩ hs
  exact ⟨s₂, o, k1, k2, k3, k4⟩
theorem Con.mono {rm : Room} {as : Array Value} {Q Q' : Option Value → Heap → (Addr → Prop) → Prop} (hC : Con l Z EL y code maxL ret rm as h ss Q) (hq : ∀ v h' S, Q v h' S → Q' v h' S) : Con l Z EL y code maxL ret rm as h ss Q' := by
  intro hEW hE ws p e ha hc hk s m args below hf happ hP hK
  obtain ⟨n, o, h1, h2, h3, v, L, h4, ⟨h5, h6⟩, h7⟩ := hC hEW hE ws p e ha hc hk s m args below hf happ hP hK
  exact ⟨n, o, h1, h2, h3, v, L, h4, ⟨hq _ _ _ h5, h6⟩, h7⟩
theorem On.size (X : On l Z EL p e R s m args below meth c y code maxL ret vm T h locs cells slots) : Z.heap.size ≤ h.size := X.2.2.2.2.1.1
theorem On.ext (X : On l Z EL p e R s m args below meth c y code maxL ret vm T h locs cells slots) : Ext Z.heap h := X.2.2.2.2.1
theorem On.chv (X : On l Z EL p e R s m args below meth c y code maxL ret vm T h locs cells slots) : CHv Z EL vm h := X.2.2.2.2.2.2.1.1
theorem On.alike (X : On l Z EL p e R s m args below meth c y code maxL ret vm T h locs cells slots) : Z.vm.Alike vm := X.2.1.2.2.1.alike
theorem On.sta (X : On l Z EL p e R s m args below meth c y code maxL ret vm T h locs cells slots) {C n d : String} {v : Value} (S : Sta Z Z.heap C n d v) : Sta Z h C n d v := S.ext X.ext
theorem ext_wr {Z : State} {h h' : Heap} {a : Addr} {sl : Nat} {v : Value} (E : Ext Z.heap h) (W : Wr h h' a sl v) (q : Z.heap.size ≤ a) : Ext Z.heap h' := (Old.wr (Z := Z) (n0 := Z.heap.size) ⟨rfl, E⟩ W q).2
theorem ext_keep {Z : State} {h h' : Heap} {ws : List Addr} (E : Ext Z.heap h) (K : Keep h h' ws) (q : ∀ x ∈ ws, Z.heap.size ≤ x) : Ext Z.heap h' := (Old.keep (Z := Z) (n0 := Z.heap.size) ⟨rfl, E⟩ K q).2
theorem ext_trans {h h' h'' : Heap} (E : Ext h h') (E' : Ext h' h'') : Ext h h'' := ⟨Nat.le_trans E.1 E'.1, fun a c q => E'.2 a c (E.2 a c q)⟩
/-- the walk goes on at a later heap over the same tables -/
theorem On.later (X : On l Z EL p e R s m args below meth c y code maxL ret vm T h locs cells slots) {T' : State} {h' : Heap} {locs' : List Loc} {cells' slots' : Nat} (X' : Stand p l e R (s.setVm vm) m args below meth c T' locs' cells' slots') (e' : T'.heap = h') (N' : Fr Z.heap.size locs') (E' : Ext Z.heap h') (R' : CHr Z EL vm h vm h') : On l Z EL p e R s m args below meth c y code maxL ret vm T' h' locs' cells' slots' := by
  obtain ⟨X1, C1, e1, N1, E1, ⟨k0, s0, q0⟩, H1, hw⟩ := X
  exact ⟨X', C1, e', N', E', ⟨k0, s0, Nat.le_trans q0 R'.2.1⟩, H1.trans R', hw⟩
/-- .. or over later tables -/
theorem On.laterV (X : On l Z EL p e R s m args below meth c y code maxL ret vm T h locs cells slots) {vm' : Vm} {T' : State} {h' : Heap} {locs' : List Loc} {cells' slots' n : Nat} (X' : Stand p l e R ((s.setVm vm).setVm vm') m args below meth c T' locs' cells' slots') (S' : (s.setVm vm).Since vm' n) (hn : n = h'.size) (e' : T'.heap = h') (N' : Fr Z.heap.size locs') (E' : Ext Z.heap h') (R' : CHr Z EL vm h vm' h') : On l Z EL p e R s m args below meth c y code maxL ret vm' T' h' locs' cells' slots' := by
  obtain ⟨X1, C1, e1, N1, E1, ⟨k0, s0, q0⟩, H1, hw⟩ := X
  subst hn
  exact ⟨X', ⟨C1.1, C1.2.1, State.Warmed39.trans (t := s.setVm vm) C1.2.2.1 S'.1, (S'.1.alike.findClass _ _).trans C1.2.2.2.1, C1.2.2.2.2⟩, e', N', E', ⟨h'.size, s0.trans S' (Nat.le_trans q0 R'.2.1), Nat.le_refl _⟩, H1.trans R', hw⟩
theorem o_iload (X : On l Z EL p e R s m args below meth c y code maxL ret vm T h locs cells slots) {k : Nat} {v : Int32} {q : Nat} (hd : decode code pc = .ok (.iload k, 2)) (hl : L[k]? = some (.val (.int v))) (hp : pc + 2 = q) (K : Goes p e below F T (mkF m q L (.int v :: S))) : Goes p e below F T (mkF m pc L S) := by
  subst hp
  exact Goes.step (fun _ k => XS.iload X.1.here X.2.1.1 (g := mkF m pc L S) rfl (hb X.2.1.2.1 hd) hl k) K
theorem o_iloadN (X : On l Z EL p e R s m args below meth c y code maxL ret vm T h locs cells slots) {k : Fin 4} {v : Int32} {q : Nat} (hd : decode code pc = .ok (.iload_n k, 1)) (hl : L[k.val]? = some (.val (.int v))) (hp : pc + 1 = q) (K : Goes p e below F T (mkF m q L (.int v :: S))) : Goes p e below F T (mkF m pc L S) := by
  subst hp
  exact Goes.step (fun _ k => XS.iloadN X.1.here X.2.1.1 (g := mkF m pc L S) rfl (hb X.2.1.2.1 hd) hl k) K
theorem o_aload (X : On l Z EL p e R s m args below meth c y code maxL ret vm T h locs cells slots) {k : Nat} {v : Value} {q : Nat} (hd : decode code pc = .ok (.aload k, 2)) (hl : L[k]? = some (.val v)) (hv : v.isRef = true) (hp : pc + 2 = q) (K : Goes p e below F T (mkF m q L (v :: S))) : Goes p e below F T (mkF m pc L S) := by
  subst hp
  exact Goes.step (fun _ k => XS.aload X.1.here X.2.1.1 (g := mkF m pc L S) rfl (hb X.2.1.2.1 hd) hl hv k) K
theorem o_aloadN (X : On l Z EL p e R s m args below meth c y code maxL ret vm T h locs cells slots) {k : Fin 4} {v : Value} {q : Nat} (hd : decode code pc = .ok (.aload_n k, 1)) (hl : L[k.val]? = some (.val v)) (hv : v.isRef = true) (hp : pc + 1 = q) (K : Goes p e below F T (mkF m q L (v :: S))) : Goes p e below F T (mkF m pc L S) := by
  subst hp
  exact Goes.step (fun _ k => XS.aloadN X.1.here X.2.1.1 (g := mkF m pc L S) rfl (hb X.2.1.2.1 hd) hl hv k) K
theorem o_istore (X : On l Z EL p e R s m args below meth c y code maxL ret vm T h locs cells slots) {k : Nat} {x z : Int32} {q : Nat} (hd : decode code pc = .ok (.istore k, 2)) (hz : x = z) (hl : storeLocals L k (.int z) = some L') (hp : pc + 2 = q) (K : Goes p e below F T (mkF m q L' S)) : Goes p e below F T (mkF m pc L (.int x :: S)) := by
  subst hz hp
  exact Goes.step (fun _ k => XS.istore X.1.here X.2.1.1 (g := mkF m pc L (.int x :: S)) rfl (hb X.2.1.2.1 hd) rfl hl k) K
theorem o_istoreN (X : On l Z EL p e R s m args below meth c y code maxL ret vm T h locs cells slots) {k : Fin 4} {x z : Int32} {q : Nat} (hd : decode code pc = .ok (.istore_n k, 1)) (hz : x = z) (hl : storeLocals L k.val (.int z) = some L') (hp : pc + 1 = q) (K : Goes p e below F T (mkF m q L' S)) : Goes p e below F T (mkF m pc L (.int x :: S)) := by
  subst hz hp
  exact Goes.step (fun _ k => XS.istoreN X.1.here X.2.1.1 (g := mkF m pc L (.int x :: S)) rfl (hb X.2.1.2.1 hd) rfl hl k) K
theorem o_astore (X : On l Z EL p e R s m args below meth c y code maxL ret vm T h locs cells slots) {k : Nat} {x : Value} {q : Nat} (hd : decode code pc = .ok (.astore k, 2)) (hv : x.isRef = true) (hl : storeLocals L k x = some L') (hp : pc + 2 = q) (K : Goes p e below F T (mkF m q L' S)) : Goes p e below F T (mkF m pc L (x :: S)) := by
  subst hp
  exact Goes.step (fun _ k => XS.astore X.1.here X.2.1.1 (g := mkF m pc L (x :: S)) rfl (hb X.2.1.2.1 hd) rfl hv hl k) K
theorem o_astoreN (X : On l Z EL p e R s m args below meth c y code maxL ret vm T h locs cells slots) {k : Fin 4} {x : Value} {q : Nat} (hd : decode code pc = .ok (.astore_n k, 1)) (hv : x.isRef = true) (hl : storeLocals L k.val x = some L') (hp : pc + 1 = q) (K : Goes p e below F T (mkF m q L' S)) : Goes p e below F T (mkF m pc L (x :: S)) := by
  subst hp
  exact Goes.step (fun _ k => XS.astoreN X.1.here X.2.1.1 (g := mkF m pc L (x :: S)) rfl (hb X.2.1.2.1 hd) rfl hv hl k) K
theorem o_iconst (X : On l Z EL p e R s m args below meth c y code maxL ret vm T h locs cells slots) {i : Int} {w : Int32} {q : Nat} (hd : decode code pc = .ok (.iconst i, 1)) (hw : Int32.ofInt i = w) (hp : pc + 1 = q) (K : Goes p e below F T (mkF m q L (.int w :: S))) : Goes p e below F T (mkF m pc L S) := by
  subst hw hp
  exact Goes.step (fun _ k => XS.iconst X.1.here X.2.1.1 (g := mkF m pc L S) rfl (hb X.2.1.2.1 hd) k) K
theorem o_bipush (X : On l Z EL p e R s m args below meth c y code maxL ret vm T h locs cells slots) {i : Int} {w : Int32} {q : Nat} (hd : decode code pc = .ok (.bipush i, 2)) (hw : (Int8.ofInt i).toInt32 = w) (hp : pc + 2 = q) (K : Goes p e below F T (mkF m q L (.int w :: S))) : Goes p e below F T (mkF m pc L S) := by
  subst hw hp
  exact Goes.step (fun _ k => XS.bipush X.1.here X.2.1.1 (g := mkF m pc L S) rfl (hb X.2.1.2.1 hd) k) K
theorem o_sipush (X : On l Z EL p e R s m args below meth c y code maxL ret vm T h locs cells slots) {i : Int} {w : Int32} {q : Nat} (hd : decode code pc = .ok (.sipush i, 3)) (hw : (Int16.ofInt i).toInt32 = w) (hp : pc + 3 = q) (K : Goes p e below F T (mkF m q L (.int w :: S))) : Goes p e below F T (mkF m pc L S) := by
  subst hw hp
  exact Goes.step (fun _ k => XS.sipush X.1.here X.2.1.1 (g := mkF m pc L S) rfl (hb X.2.1.2.1 hd) k) K
theorem o_null (X : On l Z EL p e R s m args below meth c y code maxL ret vm T h locs cells slots)  {q : Nat} (hd : decode code pc = .ok (.aconst_null, 1)) (hp : pc + 1 = q) (K : Goes p e below F T (mkF m q L (.null :: S))) : Goes p e below F T (mkF m pc L S) := by
  subst hp
  exact Goes.step (fun _ k => XS.aconstNull X.1.here X.2.1.1 (g := mkF m pc L S) rfl (hb X.2.1.2.1 hd)  k) K
theorem o_iadd (X : On l Z EL p e R s m args below meth c y code maxL ret vm T h locs cells slots) {x : Int32} {z : Int32} {w : Int32} {q : Nat} (hd : decode code pc = .ok (.iadd, 1)) (hw : x + z = w) (hp : pc + 1 = q) (K : Goes p e below F T (mkF m q L (.int w :: S))) : Goes p e below F T (mkF m pc L (.int z :: .int x :: S)) := by
  subst hw hp
  exact Goes.step (fun _ k => XS.iadd X.1.here X.2.1.1 (g := mkF m pc L (.int z :: .int x :: S)) rfl (hb X.2.1.2.1 hd) rfl  k) K
theorem o_isub (X : On l Z EL p e R s m args below meth c y code maxL ret vm T h locs cells slots) {x : Int32} {z : Int32} {w : Int32} {q : Nat} (hd : decode code pc = .ok (.isub, 1)) (hw : x - z = w) (hp : pc + 1 = q) (K : Goes p e below F T (mkF m q L (.int w :: S))) : Goes p e below F T (mkF m pc L (.int z :: .int x :: S)) := by
  subst hw hp
  exact Goes.step (fun _ k => XS.isub X.1.here X.2.1.1 (g := mkF m pc L (.int z :: .int x :: S)) rfl (hb X.2.1.2.1 hd) rfl  k) K
theorem o_imul (X : On l Z EL p e R s m args below meth c y code maxL ret vm T h locs cells slots) {x : Int32} {z : Int32} {w : Int32} {q : Nat} (hd : decode code pc = .ok (.imul, 1)) (hw : x * z = w) (hp : pc + 1 = q) (K : Goes p e below F T (mkF m q L (.int w :: S))) : Goes p e below F T (mkF m pc L (.int z :: .int x :: S)) := by
  subst hw hp
  exact Goes.step (fun _ k => XS.imul X.1.here X.2.1.1 (g := mkF m pc L (.int z :: .int x :: S)) rfl (hb X.2.1.2.1 hd) rfl  k) K
theorem o_iand (X : On l Z EL p e R s m args below meth c y code maxL ret vm T h locs cells slots) {x : Int32} {z : Int32} {w : Int32} {q : Nat} (hd : decode code pc = .ok (.iand, 1)) (hw : x &&& z = w) (hp : pc + 1 = q) (K : Goes p e below F T (mkF m q L (.int w :: S))) : Goes p e below F T (mkF m pc L (.int z :: .int x :: S)) := by
  subst hw hp
  exact Goes.step (fun _ k => XS.iand X.1.here X.2.1.1 (g := mkF m pc L (.int z :: .int x :: S)) rfl (hb X.2.1.2.1 hd) rfl  k) K
theorem o_ishl (X : On l Z EL p e R s m args below meth c y code maxL ret vm T h locs cells slots) {x : Int32} {z : Int32} {w : Int32} {q : Nat} (hd : decode code pc = .ok (.ishl, 1)) (hw : x <<< (z &&& 31) = w) (hp : pc + 1 = q) (K : Goes p e below F T (mkF m q L (.int w :: S))) : Goes p e below F T (mkF m pc L (.int z :: .int x :: S)) := by
  subst hw hp
  exact Goes.step (fun _ k => XS.ishl X.1.here X.2.1.1 (g := mkF m pc L (.int z :: .int x :: S)) rfl (hb X.2.1.2.1 hd) rfl  k) K
theorem o_ishr (X : On l Z EL p e R s m args below meth c y code maxL ret vm T h locs cells slots) {x : Int32} {z : Int32} {w : Int32} {q : Nat} (hd : decode code pc = .ok (.ishr, 1)) (hw : x >>> (z &&& 31) = w) (hp : pc + 1 = q) (K : Goes p e below F T (mkF m q L (.int w :: S))) : Goes p e below F T (mkF m pc L (.int z :: .int x :: S)) := by
  subst hw hp
  exact Goes.step (fun _ k => XS.ishr X.1.here X.2.1.1 (g := mkF m pc L (.int z :: .int x :: S)) rfl (hb X.2.1.2.1 hd) rfl  k) K
theorem o_iushr (X : On l Z EL p e R s m args below meth c y code maxL ret vm T h locs cells slots) {x : Int32} {z : Int32} {w : Int32} {q : Nat} (hd : decode code pc = .ok (.iushr, 1)) (hw : (x.toUInt32 >>> (z &&& 31).toUInt32).toInt32 = w) (hp : pc + 1 = q) (K : Goes p e below F T (mkF m q L (.int w :: S))) : Goes p e below F T (mkF m pc L (.int z :: .int x :: S)) := by
  subst hw hp
  exact Goes.step (fun _ k => XS.iushr X.1.here X.2.1.1 (g := mkF m pc L (.int z :: .int x :: S)) rfl (hb X.2.1.2.1 hd) rfl  k) K
theorem o_idiv (X : On l Z EL p e R s m args below meth c y code maxL ret vm T h locs cells slots) {x : Int32} {z : Int32} {w : Int32} {q : Nat} (hd : decode code pc = .ok (.idiv, 1)) (hn : z ≠ 0) (hw : x / z = w) (hp : pc + 1 = q) (K : Goes p e below F T (mkF m q L (.int w :: S))) : Goes p e below F T (mkF m pc L (.int z :: .int x :: S)) := by
  subst hw hp
  exact Goes.step (fun _ k => XS.idiv X.1.here X.2.1.1 (g := mkF m pc L (.int z :: .int x :: S)) rfl (hb X.2.1.2.1 hd) rfl hn k) K
theorem o_irem (X : On l Z EL p e R s m args below meth c y code maxL ret vm T h locs cells slots) {x : Int32} {z : Int32} {w : Int32} {q : Nat} (hd : decode code pc = .ok (.irem, 1)) (hn : z ≠ 0) (hw : x % z = w) (hp : pc + 1 = q) (K : Goes p e below F T (mkF m q L (.int w :: S))) : Goes p e below F T (mkF m pc L (.int z :: .int x :: S)) := by
  subst hw hp
  exact Goes.step (fun _ k => iremM (g := mkF m pc L (.int z :: .int x :: S)) X.1 X.2.1.1 rfl (hb X.2.1.2.1 hd) rfl hn k) K
theorem o_ineg (X : On l Z EL p e R s m args below meth c y code maxL ret vm T h locs cells slots) {x : Int32} {w : Int32} {q : Nat} (hd : decode code pc = .ok (.ineg, 1)) (hw : -x = w) (hp : pc + 1 = q) (K : Goes p e below F T (mkF m q L (.int w :: S))) : Goes p e below F T (mkF m pc L (.int x :: S)) := by
  subst hw hp
  exact Goes.step (fun _ k => XS.ineg X.1.here X.2.1.1 (g := mkF m pc L (.int x :: S)) rfl (hb X.2.1.2.1 hd) rfl k) K
theorem o_i2b (X : On l Z EL p e R s m args below meth c y code maxL ret vm T h locs cells slots) {x : Int32} {w : Int32} {q : Nat} (hd : decode code pc = .ok (.i2b, 1)) (hw : x.toInt8.toInt32 = w) (hp : pc + 1 = q) (K : Goes p e below F T (mkF m q L (.int w :: S))) : Goes p e below F T (mkF m pc L (.int x :: S)) := by
  subst hw hp
  exact Goes.step (fun _ k => XS.i2b X.1.here X.2.1.1 (g := mkF m pc L (.int x :: S)) rfl (hb X.2.1.2.1 hd) rfl k) K
theorem o_i2c (X : On l Z EL p e R s m args below meth c y code maxL ret vm T h locs cells slots) {x : Int32} {w : Int32} {q : Nat} (hd : decode code pc = .ok (.i2c, 1)) (hw : x.toUInt32.toUInt16.toUInt32.toInt32 = w) (hp : pc + 1 = q) (K : Goes p e below F T (mkF m q L (.int w :: S))) : Goes p e below F T (mkF m pc L (.int x :: S)) := by
  subst hw hp
  exact Goes.step (fun _ k => XS.i2c X.1.here X.2.1.1 (g := mkF m pc L (.int x :: S)) rfl (hb X.2.1.2.1 hd) rfl k) K
theorem o_dup (X : On l Z EL p e R s m args below meth c y code maxL ret vm T h locs cells slots) {x : Value} {q : Nat} (hd : decode code pc = .ok (.dup, 1)) (hc : x.category = 1) (hp : pc + 1 = q) (K : Goes p e below F T (mkF m q L (x :: x :: S))) : Goes p e below F T (mkF m pc L (x :: S)) := by
  subst hp
  exact Goes.step (fun _ k => XS.dup X.1.here X.2.1.1 (g := mkF m pc L (x :: S)) rfl (hb X.2.1.2.1 hd) rfl hc k) K
theorem o_pop (X : On l Z EL p e R s m args below meth c y code maxL ret vm T h locs cells slots) {x : Value} {q : Nat} (hd : decode code pc = .ok (.pop, 1)) (hc : x.category = 1) (hp : pc + 1 = q) (K : Goes p e below F T (mkF m q L S)) : Goes p e below F T (mkF m pc L (x :: S)) := by
  subst hp
  exact Goes.step (fun _ k => XS.pop X.1.here X.2.1.1 (g := mkF m pc L (x :: S)) rfl (hb X.2.1.2.1 hd) rfl hc k) K
theorem o_iinc (X : On l Z EL p e R s m args below meth c y code maxL ret vm T h locs cells slots) {k : Nat} {i : Int} {x z : Int32} {q : Nat} (hd : decode code pc = .ok (.iinc k i, 3)) (hl : L[k]? = some (.val (.int x))) (hz : x + Int32.ofInt i = z) (hl' : storeLocals L k (.int z) = some L') (hp : pc + 3 = q) (K : Goes p e below F T (mkF m q L' S)) : Goes p e below F T (mkF m pc L S) := by
  subst hz hp
  exact Goes.step (fun _ k => XS.iinc X.1.here X.2.1.1 (g := mkF m pc L S) rfl (hb X.2.1.2.1 hd) hl hl' k) K
theorem o_goto (X : On l Z EL p e R s m args below meth c y code maxL ret vm T h locs cells slots) {i : Int} {q : Nat} (hd : decode code pc = .ok (.goto i, 3)) (ho : 0 ≤ (pc : Int) + i) (hp : ((pc : Int) + i).toNat = q) (K : Goes p e below F T (mkF m q L S)) : Goes p e below F T (mkF m pc L S) := Goes.step (fun _ k => XS.goto X.1.here X.2.1.1 (g := mkF m pc L S) (pc0 := pc) rfl rfl (hb X.2.1.2.1 hd) ho hp k) K
theorem o_ifY (X : On l Z EL p e R s m args below meth c y code maxL ret vm T h locs cells slots) {cd : ClassFile.Cond} {i : Int} {x : Int32} {q : Nat} (hd : decode code pc = .ok (.ifCond cd i, 3)) (hc : if_icmp.holds cd x 0 = true) (ho : 0 ≤ (pc : Int) + i) (hp : ((pc : Int) + i).toNat = q) (K : Goes p e below F T (mkF m q L S)) : Goes p e below F T (mkF m pc L (.int x :: S)) := Goes.step (fun _ k => XS.ifYes X.1.here X.2.1.1 (g := mkF m pc L (.int x :: S)) rfl (pc0 := pc) rfl (hb X.2.1.2.1 hd) rfl ((if0 _ _).trans hc) ho hp k) K
theorem o_ifN (X : On l Z EL p e R s m args below meth c y code maxL ret vm T h locs cells slots) {cd : ClassFile.Cond} {i : Int} {x : Int32} {q : Nat} (hd : decode code pc = .ok (.ifCond cd i, 3)) (hc : if_icmp.holds cd x 0 = false) (hp : pc + 3 = q) (K : Goes p e below F T (mkF m q L S)) : Goes p e below F T (mkF m pc L (.int x :: S)) := by
  subst hp
  exact Goes.step (fun _ k => XS.ifNo X.1.here X.2.1.1 (g := mkF m pc L (.int x :: S)) rfl (hb X.2.1.2.1 hd) rfl ((if0 _ _).trans hc) k) K
theorem o_icmpY (X : On l Z EL p e R s m args below meth c y code maxL ret vm T h locs cells slots) {cd : ClassFile.Cond} {i : Int} {x z : Int32} {q : Nat} (hd : decode code pc = .ok (.if_icmp cd i, 3)) (hc : if_icmp.holds cd x z = true) (ho : 0 ≤ (pc : Int) + i) (hp : ((pc : Int) + i).toNat = q) (K : Goes p e below F T (mkF m q L S)) : Goes p e below F T (mkF m pc L (.int z :: .int x :: S)) := Goes.step (fun _ k => XS.icmpYes X.1.here X.2.1.1 (g := mkF m pc L (.int z :: .int x :: S)) rfl (pc0 := pc) rfl (hb X.2.1.2.1 hd) rfl hc ho hp k) K
theorem o_icmpN (X : On l Z EL p e R s m args below meth c y code maxL ret vm T h locs cells slots) {cd : ClassFile.Cond} {i : Int} {x z : Int32} {q : Nat} (hd : decode code pc = .ok (.if_icmp cd i, 3)) (hc : if_icmp.holds cd x z = false) (hp : pc + 3 = q) (K : Goes p e below F T (mkF m q L S)) : Goes p e below F T (mkF m pc L (.int z :: .int x :: S)) := by
  subst hp
  exact Goes.step (fun _ k => XS.icmpNo X.1.here X.2.1.1 (g := mkF m pc L (.int z :: .int x :: S)) rfl (hb X.2.1.2.1 hd) rfl hc k) K
theorem o_ifnonnullY (X : On l Z EL p e R s m args below meth c y code maxL ret vm T h locs cells slots) {i : Int} {q : Nat} {b : Addr} (hd : decode code pc = .ok (.ifnonnull i, 3)) (ho : 0 ≤ (pc : Int) + i) (hp : ((pc : Int) + i).toNat = q) (K : Goes p e below F T (mkF m q L S)) : Goes p e below F T (mkF m pc L ((.ref b) :: S)) := Goes.step (fun _ k => XS.ifnonnullYes X.1.here X.2.1.1 (g := mkF m pc L ((.ref b) :: S)) rfl (pc0 := pc) rfl (hb X.2.1.2.1 hd) rfl ho hp k) K
theorem o_ldcI (X : On l Z EL p e R s m args below meth c y code maxL ret vm T h locs cells slots) {index : Nat} {v : Int32} {q : Nat} (w : (Jvm.Cond.constant y.cls index v).before a0 Z = true) (hd : decode code pc = .ok (.ldc index, 2)) (hp : pc + 2 = q) (K : Goes p e below F T (mkF m q L (.int v :: S))) : Goes p e below F T (mkF m pc L S) := by
  subst hp
  exact Goes.step (X.1.ldcInt X.2.1.1 X.2.1.2.2.2.1 (mvT (s := s.setVm vm) X.2.1.2.2.1 w) (g := mkF m pc L S) rfl (hb X.2.1.2.1 hd)) K
theorem o_ldcS (X : On l Z EL p e R s m args below meth c y code maxL ret vm T h locs cells slots) {text : String} {index q n : Nat} {vs : List Value} {z : Int32} (w : (Jvm.Cond.stringLink y.cls index text).before a0 Z = true) (wS : ∀ a ∈ Bundle.stringAtoms, a.before a0 Z = true) (hmem : (y.cls, index) ∈ EL) (ht : (∀ c ∈ text.toList, c.toNat < 256) ∧ text.toList.map (fun c => Value.int (Jvm.Lit.byteI c.toNat.toUInt16)) = vs) (hz : ¬ z < 0) (hl : z.toNatClampNeg = vs.length) (hd : decode code pc = .ok (.ldc index, 2)) (hn : 4 * text.toList.length ≤ n) (hbig : n ≤ 536870912) (hc : cells + 2 ≤ R.cells) (hl' : slots + (n + 4) ≤ R.slots) (hp : pc + 2 = q)
    (K : ∀ (vm' : Vm) (T' : State) (h' : Heap) (a b : Addr) (k : ClassId), On l Z EL p e R s m args below meth c y code maxL ret vm' T' h' locs (cells + 2) (slots + (n + 4)) → Ext h h' → CHr Z EL vm h vm' h' → Exa Z h' a "java/lang/String" → Fld Z h' a "java/lang/String" "coder" "B" (.int 0) → Fld Z h' a "java/lang/String" "value" "[B" (.ref b) → Arv Z h' b k .byte z vs (.int 0) → (∀ x, Safe Z EL vm' h' x → x ≠ a ∧ x ≠ b) → Goes p e below F T' (mkF m q L (.ref a :: S))) : Goes p e below F T (mkF m pc L S) := by
  subst hp
  obtain ⟨X1, C1, e1, N1, E1, ⟨k0, s0, q0⟩, H1, ⟨a1, hw⟩⟩ := X
  have hEL : EW Z a0 EL := fun p hp => by
    obtain ⟨t, q1, q2⟩ := hw p hp
    exact ⟨t, by simpa [Cond.before, Cond.holds, Cond.value] using q1, q2⟩
  obtain ⟨a, T', h', k1, b, k, X', e', E', S', q', hZ', ho', r1, r2, r3, r4, -, -, R', -, r5, st⟩ := ldcCH X1 C1.1 C1.2.2.1 C1.2.2.2.1 w wS e1 s0 q0 hEL hmem H1.1 ht hz hl (g := mkF m pc L S) rfl (hb C1.2.1 hd) hn hbig hc hl'
  exact Goes.step st (K T'.vm T' h' a b k ⟨X', ⟨C1.1, C1.2.1, hZ', ho', C1.2.2.2.2⟩, e', N1, ext_trans E1 E', ⟨k1, S', q'⟩, H1.trans R', ⟨a1, hw⟩⟩ E' R' r1 r2 r3 r4 r5)
theorem o_new (X : On l Z EL p e R s m args below meth c y code maxL ret vm T h locs cells slots) {C : String} {index n q : Nat} (w : (Jvm.Cond.classLink y.cls index C).before a0 Z = true) (wi : (Jvm.Cond.instantiable C n).before a0 Z = true) (wz : (Jvm.Cond.initialized C).before a0 Z = true) (hd : decode code pc = .ok (.new index, 3)) (hc : cells + 1 ≤ R.cells) (hl : slots + n ≤ R.slots) (hp : pc + 3 = q)
    (K : ∀ (T' : State) (h' : Heap) (a : Addr), a = h.size → On l Z EL p e R s m args below meth c y code maxL ret vm T' h' locs (cells + 1) (slots + n) → Ext h h' → CHr Z EL vm h vm h' → Safe Z EL vm h' a → Exa Z h' a C → (∀ {O nm d : String} {ty : FieldType}, Laid Z a0 C O nm d → parseFieldDescriptor d = some ty → Fld Z h' a O nm d (defaultValue ty)) → Z.heap.size ≤ a → Goes p e below F T' (mkF m q L (.ref a :: S))) : Goes p e below F T (mkF m pc L S) := by
  subst hp
  obtain ⟨T', h', X', e', E', A', D', -, st⟩ := newO X.1 X.2.1.1 (show Z.Warmed39 (s.setVm vm).vm from X.2.1.2.2.1) X.2.1.2.2.2.1 w wi wz X.2.2.1 (g := mkF m pc L S) rfl (hb X.2.1.2.1 hd) hc hl
  exact Goes.step st (K T' h' h.size rfl (X.later X' e' X.2.2.2.1 (ext_trans X.ext E') (CHr.ext E' X.chv)) E' (CHr.ext E' X.chv) (Safe.ext E' X.chv (Safe.new (Nat.le_refl _))) A' D' X.size)
theorem o_newarr (X : On l Z EL p e R s m args below meth c y code maxL ret vm T h locs cells slots) {aty : ArrayType} {n : Int32} {cap q : Nat} (N : Nat) (w : (Jvm.Cond.arrayClass (newarray.typeOf aty)).before a0 Z = true) (hd : decode code pc = .ok (.newarray aty, 2)) (hn : ¬ n < 0) (hcap : n.toNatClampNeg ≤ cap) (hb8 : cap * 8 ≤ 536870912) (hc : cells + 1 ≤ R.cells) (hl : slots + cap ≤ R.slots) (hp : pc + 2 = q)
    (K : ∀ (T' : State) (h' : Heap) (a : Addr) (k : ClassId), a = h.size → On l Z EL p e R s m args below meth c y code maxL ret vm T' h' locs (cells + 1) (slots + cap) → Ext h h' → CHr Z EL vm h vm h' → Safe Z EL vm h' a → Arv Z h' a k (newarray.typeOf aty) n (List.replicate N (defaultValue (newarray.typeOf aty))) (defaultValue (newarray.typeOf aty)) → Z.heap.size ≤ a → Goes p e below F T' (mkF m q L (.ref a :: S))) : Goes p e below F T (mkF m pc L (.int n :: S)) := by
  subst hp
  obtain ⟨T', h', k, X', e', E', A', st⟩ := newP X.1 X.2.1.1 (show Z.Warmed39 (s.setVm vm).vm from X.2.1.2.2.1) w X.2.2.1 (g := mkF m pc L (.int n :: S)) rfl (hb X.2.1.2.1 hd) rfl hn hcap hb8 hc hl
  exact Goes.step st (K T' h' h.size k rfl (X.later X' e' X.2.2.2.1 (ext_trans X.ext E') (CHr.ext E' X.chv)) E' (CHr.ext E' X.chv) (Safe.ext E' X.chv (Safe.new (Nat.le_refl _))) ((Arv.new A' hn).pad (pad_rep [] _ N)) X.size)
theorem o_getF (X : On l Z EL p e R s m args below meth c y code maxL ret vm T h locs cells slots) {R0 O n d host : String} {index q : Nat} {a : Addr} {v : Value} (Fx : Fld Z h a O n d v) (w : (Jvm.Cond.fieldLink y.cls index R0 n d).before a0 Z = true ∨ (Jvm.Cond.fieldLinkNest y.cls index R0 n d host).before a0 Z = true) (via : Via Z R0 O n d) (hd : decode code pc = .ok (.getfield index, 3)) (hp : pc + 3 = q)
    (K : ∀ T' : State, On l Z EL p e R s m args below meth c y code maxL ret vm T' h locs cells slots → Goes p e below F T' (mkF m q L (v :: S))) : Goes p e below F T (mkF m pc L (.ref a :: S)) := by
  subst hp
  obtain ⟨T', X', e', st⟩ := getF X.1 X.2.1.1 (show Z.Warmed39 (s.setVm vm).vm from X.2.1.2.2.1) X.2.1.2.2.2.1 w via X.2.2.1 Fx (g := mkF m pc L (.ref a :: S)) rfl rfl (hb X.2.1.2.1 hd)
  exact Goes.step st (K T' (X.later X' e' X.2.2.2.1 X.ext (CHr.refl X.chv)))
theorem o_getS (X : On l Z EL p e R s m args below meth c y code maxL ret vm T h locs cells slots) {R0 O n d host : String} {index q : Nat} {v : Value} (Fx : Sta Z Z.heap O n d v) (w : (Jvm.Cond.fieldLink y.cls index R0 n d).before a0 Z = true ∨ (Jvm.Cond.fieldLinkNest y.cls index R0 n d host).before a0 Z = true) (via : Via Z R0 O n d) (hd : decode code pc = .ok (.getstatic index, 3)) (hp : pc + 3 = q)
    (K : ∀ T' : State, On l Z EL p e R s m args below meth c y code maxL ret vm T' h locs cells slots → Goes p e below F T' (mkF m q L (v :: S))) : Goes p e below F T (mkF m pc L S) := by
  subst hp
  obtain ⟨T', X', e', st⟩ := getS2 X.1 X.2.1.1 (show Z.Warmed39 (s.setVm vm).vm from X.2.1.2.2.1) X.2.1.2.2.2.1 w via X.2.2.1 (Fx.ext X.ext) (g := mkF m pc L S) rfl (hb X.2.1.2.1 hd)
  exact Goes.step st (K T' (X.later X' e' X.2.2.2.1 X.ext (CHr.refl X.chv)))
theorem o_putF (X : On l Z EL p e R s m args below meth c y code maxL ret vm T h locs cells slots) {R0 O n d host C : String} {index kk q : Nat} {ty : FieldType} {a : Addr} {v old : Value} (Fx : Fld Z h a O n d old) (E : Exa Z h a C) (ha : Z.heap.size ≤ a) (hsf : Safe Z EL vm h a) (w : (Jvm.Cond.fieldLink y.cls index R0 n d).before a0 Z = true ∨ (Jvm.Cond.fieldLinkNest y.cls index R0 n d host).before a0 Z = true) (via : Via Z R0 O n d)
    (Lw : (Jvm.Cond.lays C O n d).before a0 Z = true ∨ ((Jvm.Cond.laysFinal C O n d).before a0 Z = true ∧ y.cls = O ∧ y.name = "<init>")) (wi : (Jvm.Cond.instantiable C kk).before a0 Z = true) (hty : parseFieldDescriptor d = some ty) (hn : narrow ty v = v) (hf : fits ty v = true) (hd : decode code pc = .ok (.putfield index, 3)) (hp : pc + 3 = q)
    (K : ∀ (T' : State) (h' : Heap) (locs' : List Loc), On l Z EL p e R s m args below meth c y code maxL ret vm T' h' locs' cells slots → Wr h h' a (Jvm.RoadKit.slotOf Z O n d) v → CHr Z EL vm h vm h' → Fld Z h' a O n d v → Goes p e below F T' (mkF m q L S)) : Goes p e below F T (mkF m pc L (v :: .ref a :: S)) := by
  subst hp
  obtain ⟨T', h', X', e', W', st⟩ := putF X.1 X.2.1.1 (show Z.Warmed39 (s.setVm vm).vm from X.2.1.2.2.1) X.2.1.2.2.2.1 w via X.2.2.1 Fx E (Lw.imp_right fun q => ⟨q.1, q.2.1, X.2.1.2.2.2.2.2.2.1.trans q.2.2⟩) wi hty hn hf (g := mkF m pc L (v :: .ref a :: S)) rfl rfl (hb X.2.1.2.1 hd)
  exact Goes.step st (K T' h' _ (X.later X' e' (Fr.snoc X' X.2.2.2.1 ha) (ext_wr X.ext W' ha) (CHr.wr W' hsf X.chv)) W' (CHr.wr W' hsf X.chv) (Fx.same W'))
theorem o_len (X : On l Z EL p e R s m args below meth c y code maxL ret vm T h locs cells slots) {a : Addr} {k : ClassId} {ty : FieldType} {n : Int32} {vs : List Value} {dv : Value} {q : Nat} (A : Arv Z h a k ty n vs dv) (hd : decode code pc = .ok (.arraylength, 1)) (hp : pc + 1 = q) (K : Goes p e below F T (mkF m q L (.int n :: S))) : Goes p e below F T (mkF m pc L (.ref a :: S)) := by
  subst hp
  obtain ⟨cl, Ar, -, Sz, Nn, -⟩ := A
  refine Goes.step (X.1.arraylength X.2.1.1 (by rw [X.2.2.1]; exact Ar.1) (State.isArrayOf_alike X.alike Ar.2.1) (g := mkF m pc L (.ref a :: S)) rfl rfl (hb X.2.1.2.1 hd)) ?_
  rw [len_of Sz Nn]
  exact K
theorem o_iaload (X : On l Z EL p e R s m args below meth c y code maxL ret vm T h locs cells slots) {a : Addr} {k : ClassId} {n j : Int32} {vs : List Value} {dv v : Value} {q : Nat} (A : Arv Z h a k .int n vs dv) (hj : ¬ j < 0 ∧ j < n) (hv : vs.getD j.toNatClampNeg dv = v) (hd : decode code pc = .ok (.iaload, 1)) (hp : pc + 1 = q) (K : Goes p e below F T (mkF m q L (v :: S))) : Goes p e below F T (mkF m pc L (.int j :: .ref a :: S)) := by
  subst hp
  obtain ⟨cl, Ar, -, Sz, Nn, H, -⟩ := A
  have hin := inb_of Sz hj
  exact Goes.step (X.1.iaload X.2.1.1 (j := j) (v := v) (by rw [X.2.2.1]; exact Ar.1) (State.isArrayOf_alike X.alike Ar.2.1) Ar.2.2 hin (H.at hin hv) (g := mkF m pc L (.int j :: .ref a :: S)) rfl rfl (hb X.2.1.2.1 hd)) K
theorem o_baload (X : On l Z EL p e R s m args below meth c y code maxL ret vm T h locs cells slots) {a : Addr} {k : ClassId} {n j : Int32} {vs : List Value} {dv v : Value} {q : Nat} (A : Arv Z h a k .byte n vs dv) (hj : ¬ j < 0 ∧ j < n) (hv : vs.getD j.toNatClampNeg dv = v) (hd : decode code pc = .ok (.baload, 1)) (hp : pc + 1 = q) (K : Goes p e below F T (mkF m q L (v :: S))) : Goes p e below F T (mkF m pc L (.int j :: .ref a :: S)) := by
  subst hp
  obtain ⟨cl, Ar, -, Sz, Nn, H, -⟩ := A
  have hin := inb_of Sz hj
  exact Goes.step (X.1.baloadBytes X.2.1.1 (j := j) (v := v) (by rw [X.2.2.1]; exact Ar.1) (State.isArrayOf_alike X.alike Ar.2.1) Ar.2.2 hin (H.at hin hv) (g := mkF m pc L (.int j :: .ref a :: S)) rfl rfl (hb X.2.1.2.1 hd)) K
theorem o_iastore (X : On l Z EL p e R s m args below meth c y code maxL ret vm T h locs cells slots) {a : Addr} {k : ClassId} {n j : Int32} {x : Int32} {v : Value} {vs : List Value} {dv : Value} {q : Nat} (i : Nat) (A : Arv Z h a k .int n vs dv) (ha : Z.heap.size ≤ a) (hsf : Safe Z EL vm h a) (hj : ¬ j < 0 ∧ j < n) (hi : j.toNatClampNeg = i) (hlt : i < vs.length) (hv : (.int x : Value) = v) (hd : decode code pc = .ok (.iastore, 1)) (hp : pc + 1 = q)
    (K : ∀ (T' : State) (h' : Heap) (locs' : List Loc), On l Z EL p e R s m args below meth c y code maxL ret vm T' h' locs' cells slots → Wr h h' a i v → CHr Z EL vm h vm h' → Arv Z h' a k .int n (vs.set i v) dv → Goes p e below F T' (mkF m q L S)) : Goes p e below F T (mkF m pc L (.int x :: .int j :: .ref a :: S)) := by
  subst hp hv
  obtain ⟨cl, Ar, q1, Sz, Nn, H, G⟩ := A
  obtain ⟨T', h', X', e', W', st⟩ := stI X.1 X.2.1.1 (show Z.Warmed39 (s.setVm vm).vm from X.2.1.2.2.1) X.2.2.1 Ar (j := j) (inb_of Sz hj) (g := mkF m pc L (.int x :: .int j :: .ref a :: S)) rfl rfl (hb X.2.1.2.1 hd)
  exact Goes.step st (K T' h' _ (X.later X' e' (Fr.snoc X' X.2.2.2.1 ha) (ext_wr X.ext W' ha) (CHr.wr W' hsf X.chv)) (hi ▸ W') (CHr.wr W' hsf X.chv) (Arv.set Ar q1 Sz Nn H G rfl W' i hi hlt))
theorem o_castore (X : On l Z EL p e R s m args below meth c y code maxL ret vm T h locs cells slots) {a : Addr} {k : ClassId} {n j : Int32} {x : Int32} {v : Value} {vs : List Value} {dv : Value} {q : Nat} (i : Nat) (A : Arv Z h a k .char n vs dv) (ha : Z.heap.size ≤ a) (hsf : Safe Z EL vm h a) (hj : ¬ j < 0 ∧ j < n) (hi : j.toNatClampNeg = i) (hlt : i < vs.length) (hv : (.int (nar .char x) : Value) = v) (hd : decode code pc = .ok (.castore, 1)) (hp : pc + 1 = q)
    (K : ∀ (T' : State) (h' : Heap) (locs' : List Loc), On l Z EL p e R s m args below meth c y code maxL ret vm T' h' locs' cells slots → Wr h h' a i v → CHr Z EL vm h vm h' → Arv Z h' a k .char n (vs.set i v) dv → Goes p e below F T' (mkF m q L S)) : Goes p e below F T (mkF m pc L (.int x :: .int j :: .ref a :: S)) := by
  subst hp hv
  obtain ⟨cl, Ar, q1, Sz, Nn, H, G⟩ := A
  obtain ⟨T', h', X', e', W', st⟩ := stC X.1 X.2.1.1 (show Z.Warmed39 (s.setVm vm).vm from X.2.1.2.2.1) X.2.2.1 Ar (j := j) (inb_of Sz hj) (g := mkF m pc L (.int x :: .int j :: .ref a :: S)) rfl rfl (hb X.2.1.2.1 hd)
  exact Goes.step st (K T' h' _ (X.later X' e' (Fr.snoc X' X.2.2.2.1 ha) (ext_wr X.ext W' ha) (CHr.wr W' hsf X.chv)) (hi ▸ W') (CHr.wr W' hsf X.chv) (Arv.set Ar q1 Sz Nn H G (fits_nar_char x) W' i hi hlt))
theorem o_bastore (X : On l Z EL p e R s m args below meth c y code maxL ret vm T h locs cells slots) {a : Addr} {k : ClassId} {n j : Int32} {x : Int32} {v : Value} {vs : List Value} {dv : Value} {q : Nat} (i : Nat) (A : Arv Z h a k .byte n vs dv) (ha : Z.heap.size ≤ a) (hsf : Safe Z EL vm h a) (hj : ¬ j < 0 ∧ j < n) (hi : j.toNatClampNeg = i) (hlt : i < vs.length) (hv : (.int (nar .byte x) : Value) = v) (hd : decode code pc = .ok (.bastore, 1)) (hp : pc + 1 = q)
    (K : ∀ (T' : State) (h' : Heap) (locs' : List Loc), On l Z EL p e R s m args below meth c y code maxL ret vm T' h' locs' cells slots → Wr h h' a i v → CHr Z EL vm h vm h' → Arv Z h' a k .byte n (vs.set i v) dv → Goes p e below F T' (mkF m q L S)) : Goes p e below F T (mkF m pc L (.int x :: .int j :: .ref a :: S)) := by
  subst hp hv
  obtain ⟨cl, Ar, q1, Sz, Nn, H, G⟩ := A
  obtain ⟨T', h', X', e', W', st⟩ := stB X.1 X.2.1.1 (show Z.Warmed39 (s.setVm vm).vm from X.2.1.2.2.1) X.2.2.1 Ar (j := j) (inb_of Sz hj) (g := mkF m pc L (.int x :: .int j :: .ref a :: S)) rfl rfl (hb X.2.1.2.1 hd)
  exact Goes.step st (K T' h' _ (X.later X' e' (Fr.snoc X' X.2.2.2.1 ha) (ext_wr X.ext W' ha) (CHr.wr W' hsf X.chv)) (hi ▸ W') (CHr.wr W' hsf X.chv) (Arv.set Ar q1 Sz Nn H G (fits_nar_byte x) W' i hi hlt))
/-- the end of a walk -/
theorem fin_of (X : On l Z EL p e R s m args below meth c y code maxL ret vm T h locs cells slots) {Q : Option Value → Heap → (Addr → Prop) → Prop} {rc rs : Nat} {v : Option Value} (hv : ret = none → v = none) (hQ : ∀ Sf : Addr → Prop, (∀ x, x < h.size → Safe Z EL vm h x → Sf x) → Q v h Sf) (hc : cells ≤ rc) (hs : slots ≤ rs)
    (hr : ∀ fs, (∀ (f : JFrame) (acts : List Action), f.method = m → f.locked = none → f.entered = [] → (doReturn e (T.setTop f) acts v).1 = T.setFrames fs) → Steps p.tables e below (T.setTop (mkF m pc L S)) (T.setFrames fs)) : Goes p e below (FinQ Z EL s Q rc rs) T (mkF m pc L S) := by
  obtain ⟨X1, C1, e1, N1, E1, ⟨k0, s0, q0⟩, H1, ⟨a1, hw⟩⟩ := X
  obtain ⟨fs, h1, h2, h3, h4⟩ := X1.leaveW s0 (by rw [e1]; exact q0) (v := v) (fun q => hv (C1.2.2.2.2.1.symm.trans q)) C1.2.2.2.2.2.1
  have A := CHv.at X1 C1.2.2.1 hw H1.1
  obtain ⟨g1, g2, g3, g4⟩ := h4
  refine ⟨_, _, hr fs h1, h2, h3, v, locs, rfl, ⟨?_, N1, ?_⟩, ?_, g1, g2, g3, g4.mono hc hs⟩
  · show Q v T.heap (Safe Z EL T.vm T.heap)
    rw [e1]
    exact hQ _ fun x hx S => A.safe hx S
  · show Ext Z.heap T.heap
    rw [e1]; exact E1
  · show CHr Z EL s.vm s.heap T.vm T.heap
    rw [e1]; exact H1.trans A
theorem o_ret (X : On l Z EL p e R s m args below meth c y code maxL none vm T h locs cells slots) {Q : Option Value → Heap → (Addr → Prop) → Prop} {rc rs : Nat} (hd : decode code pc = .ok (.return_, 1)) (hQ : ∀ Sf : Addr → Prop, (∀ x, x < h.size → Safe Z EL vm h x → Sf x) → Q none h Sf) (hc : cells ≤ rc) (hs : slots ≤ rs) : Goes p e below (FinQ Z EL s Q rc rs) T (mkF m pc L []) :=
  fin_of X (fun _ => rfl) hQ hc hs (fun fs hr => X.1.returnOut X.2.1.1 X.2.1.2.2.2.2.1 (hb X.2.1.2.1 hd) hr)
theorem o_retI (X : On l Z EL p e R s m args below meth c y code maxL (some .int) vm T h locs cells slots) {Q : Option Value → Heap → (Addr → Prop) → Prop} {rc rs : Nat} {z : Int32} (hd : decode code pc = .ok (.ireturn, 1)) (hQ : ∀ Sf : Addr → Prop, (∀ x, x < h.size → Safe Z EL vm h x → Sf x) → Q (some (.int z)) h Sf) (hc : cells ≤ rc) (hs : slots ≤ rs) : Goes p e below (FinQ Z EL s Q rc rs) T (mkF m pc L (.int z :: S)) :=
  fin_of X (fun q => nomatch q) hQ hc hs (fun fs hr => retOut X.1 X.2.1.1 X.2.1.2.2.2.2.1 rfl (Or.inl ⟨rfl, Or.inl rfl, z, rfl⟩) (hb X.2.1.2.1 hd) hr)
theorem o_retN {t : FieldType} (X : On l Z EL p e R s m args below meth c y code maxL (some t) vm T h locs cells slots) {Q : Option Value → Heap → (Addr → Prop) → Prop} {rc rs : Nat} {z : Int32} (hd : decode code pc = .ok (.ireturn, 1)) (ht : t = .boolean ∨ t = .byte ∨ t = .char ∨ t = .short) (hQ : ∀ Sf : Addr → Prop, (∀ x, x < h.size → Safe Z EL vm h x → Sf x) → Q (some (.int (nar t z))) h Sf) (hc : cells ≤ rc) (hs : slots ≤ rs) : Goes p e below (FinQ Z EL s Q rc rs) T (mkF m pc L (.int z :: S)) :=
  fin_of X (fun q => nomatch q) hQ hc hs (fun fs hr => retN X.1 X.2.1.1 X.2.1.2.2.2.2.1 ht (hb X.2.1.2.1 hd) hr)
theorem o_retR {t : FieldType} (X : On l Z EL p e R s m args below meth c y code maxL (some t) vm T h locs cells slots) {Q : Option Value → Heap → (Addr → Prop) → Prop} {rc rs : Nat} {v : Value} (hd : decode code pc = .ok (.areturn, 1)) (ht : t.isReference = true) (hv : v.isRef = true) (hn : narrow t v = v) (hQ : ∀ Sf : Addr → Prop, (∀ x, x < h.size → Safe Z EL vm h x → Sf x) → Q (some v) h Sf) (hc : cells ≤ rc) (hs : slots ≤ rs) : Goes p e below (FinQ Z EL s Q rc rs) T (mkF m pc L (v :: S)) :=
  fin_of X (fun q => nomatch q) hQ hc hs (fun fs hr => retOut X.1 X.2.1.1 X.2.1.2.2.2.2.1 hn (Or.inr (Or.inr (Or.inr (Or.inr ⟨rfl, ht, hv⟩)))) (hb X.2.1.2.1 hd) hr)
theorem o_initO (X : On l Z EL p e R s m args below meth c y code maxL ret vm T h locs cells slots) {idx q : Nat} {a : Addr} (w1 : (Jvm.Cond.methodLink y.cls idx Lib.objectInit).before a0 Z = true) (w2 : (Jvm.Cond.instanceMethod Lib.objectInit).before a0 Z = true) (w3 : (Jvm.Cond.code Lib.objectInit ⟨#[0xb1]⟩ 1 none).before a0 Z = true) (hd : decode code pc = .ok (.invokespecial idx, 3)) (hL : L.size = maxL) (hf : 1 ≤ R.frames) (hl : (S.map fun v => v.category).sum + 12 ≤ R.locals) (hp : pc + 3 = q)
    (K : ∀ T' : State, On l Z EL p e R s m args below meth c y code maxL ret vm T' h locs cells slots → Goes p e below F T' (mkF m q L S)) : Goes p e below F T (mkF m pc L (.ref a :: S)) := by
  subst hp
  obtain ⟨T', X', e', st⟩ := initO X.1 X.2.1.1 (show Z.Warmed39 (s.setVm vm).vm from X.2.1.2.2.1) X.2.1.2.2.2.1 w1 w2 w3 X.2.2.1 (g := mkF m pc L (.ref a :: S)) rfl (hL.trans X.2.1.2.2.2.2.2.2.2.symm) rfl (hb X.2.1.2.1 hd) hf (W := (S.map fun v => v.category).sum) (by show 2 * 0 + _ ≤ _; omega) hl
  exact Goes.step st (K T' (X.later X' e' X.2.2.2.1 X.ext (CHr.refl X.chv)))
/-- a contract as a BackS -/
theorem Con.back {y' : MethodName} {bytes : ByteArray} {maxL' : Nat} {ret' : Option FieldType} {rm : Room} {as : Array Value} {Q : Option Value → Heap → (Addr → Prop) → Prop} {len W : Nat} (X : On l Z EL p e R s m args below meth c y code maxL ret vm T h locs cells slots) (hC : Con l Z EL y' bytes maxL' ret' rm as h ss Q) (hss : ∀ x ∈ ss, x < h.size ∧ Safe Z EL vm h x) (w4 : (Jvm.Cond.code y' bytes maxL' ret').before a0 Z = true) (w3 : (Jvm.Cond.initialized y'.cls).before a0 Z = true) (hf : rm.frames + 1 ≤ R.frames) (hl : W + (maxL' + 11) + rm.locals ≤ R.locals) :
    BackS l R p e below (s.setVm vm) args y' len W (fun A b => b = as ∧ A.U.heap = h ∧ A.cells + rm.cells ≤ R.cells ∧ A.slots + rm.slots ≤ R.slots) (fun A _ v B => ∃ L, (Q v B.U.heap (Safe Z EL B.U.vm B.U.heap) ∧ Fr Z.heap.size L ∧ Ext Z.heap B.U.heap) ∧ B.locs = A.locs ++ L ∧ B.cells = A.cells + rm.cells ∧ B.slots = A.slots + rm.slots ∧ CHr Z EL vm h B.U.vm B.U.heap) := by
  obtain ⟨X1, C1, e1, N1, E1, ⟨k0, s0, q0⟩, H1, ⟨a1, hw⟩⟩ := X
  exact BackS.of_freeW (bytes := bytes) (maxL := maxL') (ret := ret') (E := fun _ first o t L k n => k = rm.cells ∧ n = rm.slots ∧ (∃ v, o = .returned v ∧ Q v t.heap (Safe Z EL t.vm t.heap) ∧ Fr Z.heap.size L ∧ Ext Z.heap t.heap) ∧ CHr Z EL first.vm first.heap t.vm t.heap) (hC ⟨a1, hw⟩ E1 []) hf hl
    (fun m meth c A a Y hp => have hU : Z.Warmed39 A.U.vm := wtrans (s := s.setVm vm) C1.2.2.1 Y.warmed
      ⟨by show (Cond.and _ .tt).before a A.U = true; rw [Cond.before_and, mv hU w4]; rfl, mv hU w4, mv hU w3, hp.2.2.1, hp.2.2.2⟩)
    (fun m meth c A a g mk Y hp => ⟨hp.1, wtrans (s := s.setVm vm) C1.2.2.1 Y.warmed, hp.2.1, (CHv.at Y C1.2.2.1 hw H1.1).1, fun x hx => (CHv.at Y C1.2.2.1 hw H1.1).safe (hss x hx).1 (hss x hx).2⟩) (fun _ _ _ _ _ _ _ _ _ => trivial)
    (fun _ _ _ _ ⟨v, L, h1, h2, h3, h4⟩ => ⟨L, _, _, h4, rfl, rfl, ⟨v, h1, h2⟩, h3⟩)
    (fun m meth c A a g mk v t L k n Y hp _ _ ⟨e1, e2, ⟨v', e3, e4⟩, e5⟩ => by
      cases e3; subst e1 e2
      refine ⟨L, e4, rfl, rfl, rfl, (CHv.at Y C1.2.2.1 hw H1.1).trans ?_⟩
      rw [← hp.2.1]; exact e5)
theorem o_spec (X : On l Z EL p e R s m args below meth c y code maxL ret vm T h locs cells slots) {y' : MethodName} {index q : Nat} {bytes : ByteArray} {maxL' : Nat} {rm : Room} {as : Array Value} {Q : Option Value → Heap → (Addr → Prop) → Prop} (argsL : List Value) {a : Addr} {rest : List Value} (hC : Con l Z EL y' bytes maxL' none rm as h ss Q) (hss : ∀ x ∈ ss, x < h.size ∧ Safe Z EL vm h x)
    (hy1 : y'.name = "<init>") (w1 : (Jvm.Cond.methodLink y.cls index y').before a0 Z = true) (w2 : (Jvm.Cond.instanceMethod y').before a0 Z = true) (w3 : (Jvm.Cond.code y' bytes maxL' none).before a0 Z = true) (w4 : (Jvm.Cond.initialized y'.cls).before a0 Z = true) (hy : y'.cls ≠ "java/lang/invoke/MethodHandle" ∧ y'.cls ≠ "java/lang/invoke/VarHandle")
    (hd : decode code pc = .ok (.invokespecial index, 3)) (has : (.ref a :: argsL).toArray = as) (hL : L.size = maxL) (hlen : ∀ sig, parseMethodDescriptor y'.desc = some sig → argsL.length = sig.parameters.length) (hS : S = argsL.reverse ++ .ref a :: rest) (hf : rm.frames + 1 ≤ R.frames) (hl : (rest.map fun v => v.category).sum + (maxL' + 11) + rm.locals ≤ R.locals) (hc : cells + rm.cells ≤ R.cells) (hs : slots + rm.slots ≤ R.slots) (hp : pc + 3 = q)
    (K : ∀ (v : Option Value) (vm' : Vm) (T' : State) (h' : Heap) (locs' : List Loc), On l Z EL p e R s m args below meth c y code maxL ret vm' T' h' locs' (cells + rm.cells) (slots + rm.slots) → CHr Z EL vm h vm' h' → Q v h' (Safe Z EL vm' h') → Goes p e below F T' (mkF m q L (v.toList ++ rest))) : Goes p e below F T (mkF m pc L S) := by
  subst hp hS has
  obtain ⟨v, vm1, ⟨T', L1, k1, n1⟩, -, X', S', g', ⟨Lc, hQ, e2, e3, e4, R'⟩, st⟩ := X.1.specialBackS X.2.1.1 hy1 X.2.1.2.2.2.1 (mvT (s := s.setVm vm) X.2.1.2.2.1 w1) (mvT (s := s.setVm vm) X.2.1.2.2.1 w2) (mvT (s := s.setVm vm) X.2.1.2.2.1 w3) hy (Con.back X hC hss w3 w4 hf hl) (g := mkF m pc L (argsL.reverse ++ .ref a :: rest)) rfl (hL.trans X.2.1.2.2.2.2.2.2.2.symm) (Steps.refl _) hlen rfl (by show 2 * 0 + _ ≤ _; omega) (hb X.2.1.2.1 hd) (fun _ _ => ⟨rfl, X.2.2.1, hc, hs⟩)
  dsimp only [Pt.U, Pt.locs, Pt.cells, Pt.slots] at X' S' g' hQ e2 e3 e4 R' st
  subst e2 e3 e4
  exact Goes.step (fun _ k => st.trans k) (K v T'.vm T' T'.heap _ (X.laterV X' S' rfl rfl (Fr.app X.2.2.2.1 hQ.2.1) hQ.2.2 R') R' hQ.1)
theorem o_virt (X : On l Z EL p e R s m args below meth c y code maxL ret vm T h locs cells slots) {C : String} {y' : MethodName} {index q : Nat} {bytes : ByteArray} {maxL' : Nat} {ret' : Option FieldType} {rm : Room} {as : Array Value} {Q : Option Value → Heap → (Addr → Prop) → Prop} (argsL : List Value) {a : Addr} {rest : List Value} (E : Exa Z h a C) (hC : Con l Z EL y' bytes maxL' ret' rm as h ss Q) (hss : ∀ x ∈ ss, x < h.size ∧ Safe Z EL vm h x)
    (w1 : (Jvm.Cond.methodLink y.cls index y').before a0 Z = true) (w2 : (Jvm.Cond.declares y').before a0 Z = true) (w3 : (Jvm.Cond.selects C y' y').before a0 Z = true) (w4 : (Jvm.Cond.instanceMethod y').before a0 Z = true) (w5 : (Jvm.Cond.code y' bytes maxL' ret').before a0 Z = true) (w6 : (Jvm.Cond.initialized y'.cls).before a0 Z = true) (hy : y'.cls ≠ "java/lang/invoke/MethodHandle" ∧ y'.cls ≠ "java/lang/invoke/VarHandle")
    (hd : decode code pc = .ok (.invokevirtual index, 3)) (has : (.ref a :: argsL).toArray = as) (hL : L.size = maxL) (hlen : ∀ sig, parseMethodDescriptor y'.desc = some sig → argsL.length = sig.parameters.length) (hS : S = argsL.reverse ++ .ref a :: rest) (hf : rm.frames + 1 ≤ R.frames) (hl : (rest.map fun v => v.category).sum + (maxL' + 11) + rm.locals ≤ R.locals) (hc : cells + rm.cells ≤ R.cells) (hs : slots + rm.slots ≤ R.slots) (hp : pc + 3 = q)
    (K : ∀ (v : Option Value) (vm' : Vm) (T' : State) (h' : Heap) (locs' : List Loc), On l Z EL p e R s m args below meth c y code maxL ret vm' T' h' locs' (cells + rm.cells) (slots + rm.slots) → CHr Z EL vm h vm' h' → Q v h' (Safe Z EL vm' h') → Goes p e below F T' (mkF m q L (v.toList ++ rest))) : Goes p e below F T (mkF m pc L S) := by
  subst hp hS has
  obtain ⟨cB, kB, q1, q2, q3⟩ := isOf (show Z.Warmed39 (s.setVm vm).vm from X.2.1.2.2.1) X.2.2.1 E
  obtain ⟨v, vm1, ⟨T', L1, k1, n1⟩, -, X', S', g', ⟨Lc, hQ, e2, e3, e4, R'⟩, st⟩ := X.1.virtualBackS X.2.1.1 (y := y') (z := y') X.2.1.2.2.2.1 (mvT (s := s.setVm vm) X.2.1.2.2.1 w1) (mvT (s := s.setVm vm) X.2.1.2.2.1 w2) (notFace_of_selects (args := #[]) (mvT (s := s.setVm vm) X.2.1.2.2.1 w3)) (mvT (s := s.setVm vm) X.2.1.2.2.1 w3) (mvT (s := s.setVm vm) X.2.1.2.2.1 w4) hy (Con.back X hC hss w5 w6 hf hl) q1 q3 (g := mkF m pc L (argsL.reverse ++ .ref a :: rest)) rfl (hL.trans X.2.1.2.2.2.2.2.2.2.symm) (Steps.refl _) hlen rfl (by show 2 * 0 + _ ≤ _; omega) (hb X.2.1.2.1 hd) (fun _ _ => ⟨rfl, X.2.2.1, hc, hs⟩)
  dsimp only [Pt.U, Pt.locs, Pt.cells, Pt.slots] at X' S' g' hQ e2 e3 e4 R' st
  subst e2 e3 e4
  exact Goes.step (fun _ k => st.trans k) (K v T'.vm T' T'.heap _ (X.laterV X' S' rfl rfl (Fr.app X.2.2.2.1 hQ.2.1) hQ.2.2 R') R' hQ.1)
theorem o_stat (X : On l Z EL p e R s m args below meth c y code maxL ret vm T h locs cells slots) {y' : MethodName} {index q : Nat} {bytes : ByteArray} {maxL' : Nat} {ret' : Option FieldType} {rm : Room} {as : Array Value} {Q : Option Value → Heap → (Addr → Prop) → Prop} (argsL : List Value) {rest : List Value} (hC : Con l Z EL y' bytes maxL' ret' rm as h ss Q) (hss : ∀ x ∈ ss, x < h.size ∧ Safe Z EL vm h x)
    (w1 : (Jvm.Cond.methodLink y.cls index y').before a0 Z = true) (w2 : (Jvm.Cond.static y').before a0 Z = true) (w3 : (Jvm.Cond.initialized y'.cls).before a0 Z = true) (w4 : (Jvm.Cond.code y' bytes maxL' ret').before a0 Z = true) (hy : y'.cls ≠ "java/lang/invoke/MethodHandle" ∧ y'.cls ≠ "java/lang/invoke/VarHandle")
    (hd : decode code pc = .ok (.invokestatic index, 3)) (has : argsL.toArray = as) (hL : L.size = maxL) (hlen : ∀ sig, parseMethodDescriptor y'.desc = some sig → argsL.length = sig.parameters.length) (hS : S = argsL.reverse ++ rest) (hf : rm.frames + 1 ≤ R.frames) (hl : (rest.map fun v => v.category).sum + (maxL' + 11) + rm.locals ≤ R.locals) (hc : cells + rm.cells ≤ R.cells) (hs : slots + rm.slots ≤ R.slots) (hp : pc + 3 = q)
    (K : ∀ (v : Option Value) (vm' : Vm) (T' : State) (h' : Heap) (locs' : List Loc), On l Z EL p e R s m args below meth c y code maxL ret vm' T' h' locs' (cells + rm.cells) (slots + rm.slots) → CHr Z EL vm h vm' h' → Q v h' (Safe Z EL vm' h') → Goes p e below F T' (mkF m q L (v.toList ++ rest))) : Goes p e below F T (mkF m pc L S) := by
  subst hp hS has
  obtain ⟨v, vm1, ⟨T', L1, k1, n1⟩, -, X', S', g', ⟨Lc, hQ, e2, e3, e4, R'⟩, st⟩ := callSS X.1 X.2.1.1 X.2.1.2.2.2.1 (mvT (s := s.setVm vm) X.2.1.2.2.1 w1) (mvT (s := s.setVm vm) X.2.1.2.2.1 w2) (mvT (s := s.setVm vm) X.2.1.2.2.1 w3) (mvT (s := s.setVm vm) X.2.1.2.2.1 w4) hy (Con.back X hC hss w4 w3 hf hl) (g := mkF m pc L (argsL.reverse ++ rest)) rfl (hL.trans X.2.1.2.2.2.2.2.2.2.symm) hlen rfl (by show 2 * 0 + _ ≤ _; omega) (hb X.2.1.2.1 hd) (fun _ _ => ⟨rfl, X.2.2.1, hc, hs⟩)
  dsimp only [Pt.U, Pt.locs, Pt.cells, Pt.slots] at X' S' g' hQ e2 e3 e4 R' st
  subst e2 e3 e4
  exact Goes.step (fun _ k => st.trans k) (K v T'.vm T' T'.heap _ (X.laterV X' S' rfl rfl (Fr.app X.2.2.2.1 hQ.2.1) hQ.2.2 R') R' hQ.1)
theorem o_specB (X : On l Z EL p e R s m args below meth c y code maxL ret vm T h locs cells slots) {y' : MethodName} {index W q : Nat} {bytes : ByteArray} {maxL' : Nat} {Q : Option Value → Heap → List Loc → Prop} {rc rs : Nat} {as : Array Value} {ws : List Addr} (argsL : List Value) {a : Addr} {rest : List Value}
    (hK : Back l R p e below (s.setVm vm) args y' 3 W (fun A b => b = as ∧ A.U.heap = h ∧ A.cells + rc ≤ R.cells ∧ A.slots + rs ≤ R.slots) (fun A _ v B => ∃ L, Q v B.U.heap L ∧ B.locs = A.locs ++ L ∧ B.cells = A.cells + rc ∧ B.slots = A.slots + rs))
    (hq : ∀ v h' L, Q v h' L → Fr Z.heap.size L ∧ Keep h h' ws) (hws : ∀ x ∈ ws, Z.heap.size ≤ x ∧ Safe Z EL vm h x)
    (hy1 : y'.name = "<init>") (w1 : (Jvm.Cond.methodLink y.cls index y').before a0 Z = true) (w2 : (Jvm.Cond.instanceMethod y').before a0 Z = true) (w3 : (Jvm.Cond.code y' bytes maxL' none).before a0 Z = true) (hy : y'.cls ≠ "java/lang/invoke/MethodHandle" ∧ y'.cls ≠ "java/lang/invoke/VarHandle")
    (hd : decode code pc = .ok (.invokespecial index, 3)) (has : (.ref a :: argsL).toArray = as) (hL : L.size = maxL) (hlen : ∀ sig, parseMethodDescriptor y'.desc = some sig → argsL.length = sig.parameters.length) (hS : S = argsL.reverse ++ .ref a :: rest) (hW : (rest.map fun v => v.category).sum ≤ W) (hc : cells + rc ≤ R.cells) (hs : slots + rs ≤ R.slots) (hp : pc + 3 = q)
    (K : ∀ (v : Option Value) (T' : State) (h' : Heap) (L' locs' : List Loc), On l Z EL p e R s m args below meth c y code maxL ret vm T' h' locs' (cells + rc) (slots + rs) → CHr Z EL vm h vm h' → Q v h' L' → Goes p e below F T' (mkF m q L (v.toList ++ rest))) : Goes p e below F T (mkF m pc L S) := by
  subst hp hS has
  obtain ⟨v, vm1, ⟨T', L1, k1, n1⟩, -, X', ⟨Lc, hQ, e2, e3, e4⟩, st⟩ := X.1.specialBack X.2.1.1 hy1 X.2.1.2.2.2.1 (mvT (s := s.setVm vm) X.2.1.2.2.1 w1) (mvT (s := s.setVm vm) X.2.1.2.2.1 w2) (mvT (s := s.setVm vm) X.2.1.2.2.1 w3) hy hK (g := mkF m pc L (argsL.reverse ++ .ref a :: rest)) rfl (hL.trans X.2.1.2.2.2.2.2.2.2.symm) (Steps.refl _) hlen rfl (by show 2 * 0 + _ ≤ _; omega) (hb X.2.1.2.1 hd) (fun _ _ => ⟨rfl, X.2.2.1, hc, hs⟩)
  dsimp only [Pt.U, Pt.locs, Pt.cells, Pt.slots] at X' hQ e2 e3 e4 st
  subst e2 e3 e4
  obtain ⟨f1, f2⟩ := hq _ _ _ hQ
  have R' : CHr Z EL vm h vm T'.heap := CHr.keep f2 (fun x hx => (hws x hx).2) X.chv
  exact Goes.step (fun _ k => st.trans k) (K v T' T'.heap Lc _ (X.later X' rfl (Fr.app X.2.2.2.1 f1) (ext_keep X.ext f2 fun x hx => (hws x hx).1) R') R' hQ)
theorem o_virtB (X : On l Z EL p e R s m args below meth c y code maxL ret vm T h locs cells slots) {C : String} {y' : MethodName} {index W q : Nat} {Q : Option Value → Heap → List Loc → Prop} {rc rs : Nat} {as : Array Value} {ws : List Addr} (argsL : List Value) {a : Addr} {rest : List Value} (E : Exa Z h a C)
    (hK : Back l R p e below (s.setVm vm) args y' 3 W (fun A b => b = as ∧ A.U.heap = h ∧ A.cells + rc ≤ R.cells ∧ A.slots + rs ≤ R.slots) (fun A _ v B => ∃ L, Q v B.U.heap L ∧ B.locs = A.locs ++ L ∧ B.cells = A.cells + rc ∧ B.slots = A.slots + rs))
    (hq : ∀ v h' L, Q v h' L → Fr Z.heap.size L ∧ Keep h h' ws) (hws : ∀ x ∈ ws, Z.heap.size ≤ x ∧ Safe Z EL vm h x)
    (w1 : (Jvm.Cond.methodLink y.cls index y').before a0 Z = true) (w2 : (Jvm.Cond.declares y').before a0 Z = true) (w3 : (Jvm.Cond.selects C y' y').before a0 Z = true) (w4 : (Jvm.Cond.instanceMethod y').before a0 Z = true) (hy : y'.cls ≠ "java/lang/invoke/MethodHandle" ∧ y'.cls ≠ "java/lang/invoke/VarHandle")
    (hd : decode code pc = .ok (.invokevirtual index, 3)) (has : (.ref a :: argsL).toArray = as) (hL : L.size = maxL) (hlen : ∀ sig, parseMethodDescriptor y'.desc = some sig → argsL.length = sig.parameters.length) (hS : S = argsL.reverse ++ .ref a :: rest) (hW : (rest.map fun v => v.category).sum ≤ W) (hc : cells + rc ≤ R.cells) (hs : slots + rs ≤ R.slots) (hp : pc + 3 = q)
    (K : ∀ (v : Option Value) (T' : State) (h' : Heap) (L' locs' : List Loc), On l Z EL p e R s m args below meth c y code maxL ret vm T' h' locs' (cells + rc) (slots + rs) → CHr Z EL vm h vm h' → Q v h' L' → Goes p e below F T' (mkF m q L (v.toList ++ rest))) : Goes p e below F T (mkF m pc L S) := by
  subst hp hS has
  obtain ⟨cB, kB, q1, q2, q3⟩ := isOf (show Z.Warmed39 (s.setVm vm).vm from X.2.1.2.2.1) X.2.2.1 E
  obtain ⟨v, vm1, ⟨T', L1, k1, n1⟩, -, X', ⟨Lc, hQ, e2, e3, e4⟩, st⟩ := X.1.virtualBack X.2.1.1 (y := y') (z := y') X.2.1.2.2.2.1 (mvT (s := s.setVm vm) X.2.1.2.2.1 w1) (mvT (s := s.setVm vm) X.2.1.2.2.1 w2) (notFace_of_selects (args := #[]) (mvT (s := s.setVm vm) X.2.1.2.2.1 w3)) (mvT (s := s.setVm vm) X.2.1.2.2.1 w3) (mvT (s := s.setVm vm) X.2.1.2.2.1 w4) hy hK q1 q3 (g := mkF m pc L (argsL.reverse ++ .ref a :: rest)) rfl (hL.trans X.2.1.2.2.2.2.2.2.2.symm) (Steps.refl _) hlen rfl (by show 2 * 0 + _ ≤ _; omega) (hb X.2.1.2.1 hd) (fun _ _ => ⟨rfl, X.2.2.1, hc, hs⟩)
  dsimp only [Pt.U, Pt.locs, Pt.cells, Pt.slots] at X' hQ e2 e3 e4 st
  subst e2 e3 e4
  obtain ⟨f1, f2⟩ := hq _ _ _ hQ
  have R' : CHr Z EL vm h vm T'.heap := CHr.keep f2 (fun x hx => (hws x hx).2) X.chv
  exact Goes.step (fun _ k => st.trans k) (K v T' T'.heap Lc _ (X.later X' rfl (Fr.app X.2.2.2.1 f1) (ext_keep X.ext f2 fun x hx => (hws x hx).1) R') R' hQ)
end OwnKit
end Jvm.Pilot.@@N@@

namespace Jvm.Pilot.@@N@@
open Jvm Jvm.ClassFile Sem Op Lib Jvm.Free Jvm.Stand Jvm.LawKit Jvm.RoadKit Bundle Jvm.Pilot.@@N@@.Jvm.D
section OwnStr
/-- a Latin-1 String: the object a, its byte[] b, its chars cs -/
def LS (Z : State) (h : Heap) (a b : Addr) (kb : ClassId) (cs : List Int32) : Prop := Exa Z h a "java/lang/String" ∧ Fld Z h a "java/lang/String" "coder" "B" (.int 0) ∧ Fld Z h a "java/lang/String" "value" "[B" (.ref b) ∧ Arv Z h b kb .byte (Int32.ofNat cs.length) ((cs.map fun c => c.toInt8.toInt32).map Value.int) (.int 0) ∧ (∀ c ∈ cs, ¬ c < 0 ∧ ¬ (255 : Int32) < c) ∧ cs.length ≤ 4000
theorem LS.ext {Z : State} {h h' : Heap} {a b : Addr} {kb : ClassId} {cs : List Int32} (H : LS Z h a b kb cs) (E : Ext h h') : LS Z h' a b kb cs := ⟨H.1.ext E, H.2.1.ext E, H.2.2.1.ext E, H.2.2.2.1.ext E, H.2.2.2.2⟩
theorem LS.keep {Z : State} {h h' : Heap} {a b : Addr} {kb : ClassId} {cs : List Int32} {ws : List Addr} (H : LS Z h a b kb cs) (K : Keep h h' ws) (n1 : a ∉ ws) (n2 : b ∉ ws) : LS Z h' a b kb cs := ⟨H.1.keep K, H.2.1.keep K n1, H.2.2.1.keep K n1, H.2.2.2.1.keep K n2, H.2.2.2.2⟩
theorem LS.other {Z : State} {h h' : Heap} {a b x : Addr} {sl : Nat} {v : Value} {kb : ClassId} {cs : List Int32} (H : LS Z h a b kb cs) (W : Wr h h' x sl v) (n1 : a ≠ x) (n2 : b ≠ x) : LS Z h' a b kb cs := ⟨H.1.wr W, H.2.1.other W (Or.inl n1), H.2.2.1.other W (Or.inl n1), H.2.2.2.1.other W n2, H.2.2.2.2⟩
theorem LS.lt {Z : State} {h : Heap} {a b : Addr} {kb : ClassId} {cs : List Int32} (H : LS Z h a b kb cs) : a < h.size := H.1.lt
theorem LS.up {Z : State} {h : Heap} {a b : Addr} {kb : ClassId} {cs : List Int32} (H : LS Z h a b kb cs) : ∀ c ∈ cs, ¬ c < 0 ∧ ¬ (65535 : Int32) < c := fun c hc => ⟨(H.2.2.2.2.1 c hc).1, fun q => (H.2.2.2.2.1 c hc).2 (by rw [Int32.lt_iff_toInt_lt] at q ⊢; have e1 : (65535 : Int32).toInt = 65535 := rfl; have e2 : (255 : Int32).toInt = 255 := rfl; omega)⟩
theorem own_codOf {cs : List Int32} (hb : ∀ c ∈ cs, ¬ (255 : Int32) < c) : StrChars.Road.CodA cs 0 (Int32.ofNat cs.length) ((cs.map fun c => c.toInt8.toInt32).map Value.int) := Or.inl ⟨rfl, rfl, by rw [List.map_map]; rfl, hb⟩
variable {l : Launch} {Z : State} {EL : List (String × Nat)} {p : Program} {e : Env} {R : Room} {s : State} {m : MethodId} {args : Array Value} {below : List Frame} {meth : Method} {c : Code} {y : MethodName} {code : ByteArray} {maxL : Nat} {ret : Option FieldType} {vm : Vm} {T : State} {h : Heap} {locs : List Loc} {cells slots : Nat} {F : State → Outcome → Prop} {pc : Nat} {L L' : Array Slot} {S : List Value} {a0 : Array Value} {ss : List Addr}
theorem o_strlen (X : On l Z EL p e R s m args below meth c y code maxL ret vm T h locs cells slots) {a b : Addr} {kb : ClassId} {cs : List Int32} {z : Int32} {index q : Nat} (H : LS Z h a b kb cs) (O2 : Sta Z Z.heap "java/lang/String" "COMPACT_STRINGS" "Z" (.int z)) (P5 : ¬ z = 0) (hln : ∀ d ∈ StrChars.Road.wordsLen, d.before a0 Z = true) (wi : (Jvm.Cond.instantiable "java/lang/String" 4).before a0 Z = true)
    (w1 : (Jvm.Cond.methodLink y.cls index ⟨"java/lang/String", "length", "()I"⟩).before a0 Z = true) (w2 : (Jvm.Cond.declares ⟨"java/lang/String", "length", "()I"⟩).before a0 Z = true) (w3 : (Jvm.Cond.selects "java/lang/String" ⟨"java/lang/String", "length", "()I"⟩ ⟨"java/lang/String", "length", "()I"⟩).before a0 Z = true) (w4 : (Jvm.Cond.instanceMethod ⟨"java/lang/String", "length", "()I"⟩).before a0 Z = true)
    (hd : decode code pc = .ok (.invokevirtual index, 3)) (hL : L.size = maxL) (hf : 2 ≤ R.frames) (hlo : (S.map fun v => v.category).sum + 25 ≤ R.locals) (hc : cells ≤ R.cells) (hs : slots ≤ R.slots) (hp : pc + 3 = q)
    (K : ∀ (T' : State) (locs' : List Loc), On l Z EL p e R s m args below meth c y code maxL ret vm T' h locs' cells slots → Goes p e below F T' (mkF m q L (.int (Int32.ofNat cs.length) :: S))) : Goes p e below F T (mkF m pc L (.ref a :: S)) := by
  have hcd : StrChars.Road.CodA cs 0 (Int32.ofNat cs.length) ((cs.map fun c => c.toInt8.toInt32).map Value.int) := own_codOf (fun c hc => (H.2.2.2.2.1 c hc).2)
  refine o_virtB X [] (rest := S) (ws := []) (Q := fun v h' L => v = some (.int (Int32.ofNat cs.length)) ∧ L = [] ∧ h' = h) H.1 (StrChars.Road.lenW (W := (S.map fun v => v.category).sum) (s := s.setVm vm) X.2.1.2.2.1 hln (kI := 4) wi H.1 H.2.2.1 H.2.1 H.2.2.2.1 hcd H.up (X.sta O2) P5 H.2.2.2.2.2 hf hlo) (fun v h' L q => ?_) all0 w1 w2 w3 w4 (by decide) hd rfl hL (fun sig q => ?_) rfl (Nat.le_refl _) hc hs hp (fun v T' h' L' locs' X' R' q => ?_)
  · obtain ⟨-, rfl, rfl⟩ := q
    exact ⟨Fr.nil _, Keep.refl _ _⟩
  · exact lenOf (by decide +kernel : parseMethodDescriptor "()I" = some ⟨[], some .int⟩) rfl sig q
  · obtain ⟨rfl, rfl, rfl⟩ := q
    exact K T' locs' X'
theorem o_charAt (X : On l Z EL p e R s m args below meth c y code maxL ret vm T h locs cells slots) {a b : Addr} {kb : ClassId} {cs : List Int32} {z j : Int32} {fm : Value} {index q i : Nat} (H : LS Z h a b kb cs) (O2 : Sta Z Z.heap "java/lang/String" "COMPACT_STRINGS" "Z" (.int z)) (P5 : ¬ z = 0) (O4 : Sta Z Z.heap "jdk/internal/util/Preconditions" "SIOOBE_FORMATTER" "Ljava/util/function/BiFunction;" fm) (rf : fm.isRef = true) (hch : ∀ d ∈ StrChars.Road.wordsChN, d.before a0 Z = true) (wi : (Jvm.Cond.instantiable "java/lang/String" 4).before a0 Z = true)
    (hi : i < cs.length) (hj : j = Int32.ofNat i)
    (w1 : (Jvm.Cond.methodLink y.cls index ⟨"java/lang/String", "charAt", "(I)C"⟩).before a0 Z = true) (w2 : (Jvm.Cond.declares ⟨"java/lang/String", "charAt", "(I)C"⟩).before a0 Z = true) (w3 : (Jvm.Cond.selects "java/lang/String" ⟨"java/lang/String", "charAt", "(I)C"⟩ ⟨"java/lang/String", "charAt", "(I)C"⟩).before a0 Z = true) (w4 : (Jvm.Cond.instanceMethod ⟨"java/lang/String", "charAt", "(I)C"⟩).before a0 Z = true)
    (hd : decode code pc = .ok (.invokevirtual index, 3)) (hL : L.size = maxL) (hf : 4 ≤ R.frames) (hlo : (S.map fun v => v.category).sum + 53 ≤ R.locals) (hc : cells ≤ R.cells) (hs : slots ≤ R.slots) (hp : pc + 3 = q)
    (K : ∀ (T' : State) (locs' : List Loc), On l Z EL p e R s m args below meth c y code maxL ret vm T' h locs' cells slots → Goes p e below F T' (mkF m q L (.int (cs.getD i 0) :: S))) : Goes p e below F T (mkF m pc L (.int j :: .ref a :: S)) := by
  have hcd : StrChars.Road.CodA cs 0 (Int32.ofNat cs.length) ((cs.map fun c => c.toInt8.toInt32).map Value.int) := own_codOf (fun c hc => (H.2.2.2.2.1 c hc).2)
  refine o_virtB X [.int j] (rest := S) (ws := []) (Q := fun v h' L => v = some (.int (cs.getD i 0)) ∧ L = [] ∧ h' = h) H.1 (StrChars.Road.chN (W := (S.map fun v => v.category).sum) (s := s.setVm vm) X.2.1.2.2.1 hch (kI := 4) wi H.1 H.2.2.1 H.2.1 H.2.2.2.1 hcd H.up (X.sta O2) P5 (X.sta O4) rf H.2.2.2.2.2 hi hj hf hlo) (fun v h' L q => ?_) all0 w1 w2 w3 w4 (by decide) hd rfl hL (fun sig q => ?_) rfl (Nat.le_refl _) hc hs hp (fun v T' h' L' locs' X' R' q => ?_)
  · obtain ⟨-, rfl, rfl⟩ := q
    exact ⟨Fr.nil _, Keep.refl _ _⟩
  · exact lenOf (by decide +kernel : parseMethodDescriptor "(I)C" = some ⟨[.int], some .char⟩) rfl sig q
  · obtain ⟨rfl, rfl, rfl⟩ := q
    exact K T' locs' X'
/-- new String(char[]) -/
theorem o_newStr (X : On l Z EL p e R s m args below meth c y code maxL ret vm T h locs cells slots) {a ar : Addr} {kc : ClassId} {cs : List Int32} {z N : Int32} {dv : Value} {index q n : Nat} (E : Exa Z h a "java/lang/String") (V : Fld Z h a "java/lang/String" "value" "[B" .null) (C : Fld Z h a "java/lang/String" "coder" "B" (.int 0)) (A : Arv Z h ar kc .char N (cs.map Value.int) dv) (ha : Z.heap.size ≤ a) (hsf : Safe Z EL vm h a) (O2 : Sta Z Z.heap "java/lang/String" "COMPACT_STRINGS" "Z" (.int z)) (P5 : ¬ z = 0) (hws : ∀ d ∈ StrChars.Road.words, d.before a0 Z = true) (wi : (Jvm.Cond.instantiable "java/lang/String" 4).before a0 Z = true)
    (hn : cs.length = n) (hN : N = Int32.ofNat n) (l0 : 0 < n) (l2 : n ≤ 4000) (hlat : ∀ c ∈ cs, ¬ c < 0 ∧ ¬ (255 : Int32) < c)
    (w1 : (Jvm.Cond.methodLink y.cls index ⟨"java/lang/String", "<init>", "([C)V"⟩).before a0 Z = true) (w2 : (Jvm.Cond.instanceMethod ⟨"java/lang/String", "<init>", "([C)V"⟩).before a0 Z = true) {bytes : ByteArray} {maxL' : Nat} (w3 : (Jvm.Cond.code ⟨"java/lang/String", "<init>", "([C)V"⟩ bytes maxL' none).before a0 Z = true)
    (hd : decode code pc = .ok (.invokespecial index, 3)) (hL : L.size = maxL) (hf : 4 ≤ R.frames) (hlo : (S.map fun v => v.category).sum + 65 ≤ R.locals) (hc : cells + 1 ≤ R.cells) (hs : slots + n ≤ R.slots) (hp : pc + 3 = q)
    (K : ∀ (T' : State) (h' : Heap) (locs' : List Loc) (b : Addr) (kb : ClassId), On l Z EL p e R s m args below meth c y code maxL ret vm T' h' locs' (cells + 1) (slots + n) → Keep h h' [a] → CHr Z EL vm h vm h' → h.size ≤ b → LS Z h' a b kb cs → Goes p e below F T' (mkF m q L S)) : Goes p e below F T (mkF m pc L (.ref ar :: .ref a :: S)) := by
  refine o_specB X [.ref ar] (rest := S) (ws := [a]) (Q := fun v h' L => StrChars.Road.QV Z a N (cs.map fun c => c.toInt8.toInt32) h Z.heap.size v h' L) (StrChars.Road.backV (W := (S.map fun v => v.category).sum) (s := s.setVm vm) X.2.1.2.2.1 hws (kI := 4) wi ha X.size E V C A (X.sta O2) P5 hn hN l0 l2 hlat rfl hf hlo) (fun v h' L q => ⟨q.2.1, q.2.2.1⟩) (allS ⟨ha, hsf⟩ all0) rfl w1 w2 w3 (by decide) hd rfl hL (fun sig q => ?_) rfl (Nat.le_refl _) hc hs hp (fun v T' h' L' locs' X' R' q => ?_)
  · exact lenOf (by decide +kernel : parseMethodDescriptor "([C)V" = some ⟨[(.array .char)], none⟩) rfl sig q
  · obtain ⟨rfl, -, K', E', C', t, kb, -, g2, -, V', A'⟩ := q
    subst hn hN
    exact K T' h' locs' t kb X' K' R' g2 ⟨E', C', V', A', hlat, l2⟩
end OwnStr
end Jvm.Pilot.@@N@@

namespace Jvm.Pilot.@@N@@
open Jvm Jvm.ClassFile Sem Op Lib Jvm.Free Jvm.Stand Jvm.LawKit Jvm.RoadKit Bundle Jvm.Pilot.@@N@@.Jvm.D
section OwnCol
variable {l : Launch} {Z : State} {EL : List (String × Nat)} {p : Program} {e : Env} {R : Room} {s : State} {m : MethodId} {args : Array Value} {below : List Frame} {meth : Method} {c : Code} {y : MethodName} {code : ByteArray} {maxL : Nat} {ret : Option FieldType} {vm : Vm} {T : State} {h : Heap} {locs : List Loc} {cells slots : Nat} {F : State → Outcome → Prop} {pc : Nat} {L L' : Array Slot} {S : List Value} {a0 : Array Value} {ss : List Addr}
theorem o_cast (X : On l Z EL p e R s m args below meth c y code maxL ret vm T h locs cells slots) {K' : String} {index q : Nat} {a : Addr} (I : Ins Z h a K' true) (w : (Jvm.Cond.classLink y.cls index K').before a0 Z = true) (hd : decode code pc = .ok (.checkcast index, 3)) (hp : pc + 3 = q)
    (K : ∀ T' : State, On l Z EL p e R s m args below meth c y code maxL ret vm T' h locs cells slots → Goes p e below F T' (mkF m q L (.ref a :: S))) : Goes p e below F T (mkF m pc L (.ref a :: S)) := by
  subst hp
  obtain ⟨T', X', e', st⟩ := castY X.1 X.2.1.1 (show Z.Warmed39 (s.setVm vm).vm from X.2.1.2.2.1) X.2.1.2.2.2.1 w X.2.2.1 I (g := mkF m pc L (.ref a :: S)) rfl rfl (hb X.2.1.2.1 hd)
  exact Goes.step st (K T' (X.later X' e' X.2.2.2.1 X.ext (CHr.refl X.chv)))
theorem o_copy (X : On l Z EL p e R s m args below meth c y code maxL ret vm T h locs cells slots) {index q : Nat} {a b : Addr} {k k' : ClassId} {ty ty' : FieldType} {z z' sp dp nn : Int32} {vs vd us vs' : List Value} {dv dd : Value} (A : Arv Z h a k ty z vs dv) (B : Arv Z h b k' ty' z' vd dd) (hty : (ty = ty' ∧ refKind ty = false) ∨ (refKind ty = true ∧ refKind ty' = true ∧ StoL Z h b us)) (hgb : Z.heap.size ≤ b) (hsf : Safe Z EL vm h b)
    (h1 : ¬ sp < 0) (h2 : ¬ dp < 0) (h3 : ¬ nn < 0) (h4 : sp.toNatClampNeg + nn.toNatClampNeg ≤ z.toNatClampNeg) (h5 : dp.toNatClampNeg + nn.toNatClampNeg ≤ z'.toNatClampNeg) (hus : us = (List.range nn.toNatClampNeg).map fun i => vs.getD (sp.toNatClampNeg + i) dv) (hlv : dp.toNatClampNeg + nn.toNatClampNeg ≤ vd.length) (hvs : vd.take dp.toNatClampNeg ++ us ++ vd.drop (dp.toNatClampNeg + nn.toNatClampNeg) = vs')
    (w1 : (Jvm.Cond.methodLink y.cls index Jvm.Stand.acN).before a0 Z = true) (w2 : (Jvm.Cond.native Jvm.Stand.acN).before a0 Z = true) (w3 : (Jvm.Cond.static Jvm.Stand.acN).before a0 Z = true) (w4 : (Jvm.Cond.initialized "java/lang/System").before a0 Z = true)
    (hd : decode code pc = .ok (.invokestatic index, 3)) (hL : L.size = maxL) (hf : 1 ≤ R.frames) (hl : (S.map fun v => v.category).sum + (nativeFrameWords "java/lang/System" "arraycopy" 5 + 11) ≤ R.locals) (hp : pc + 3 = q)
    (K : ∀ (T' : State) (h' : Heap) (locs' : List Loc), On l Z EL p e R s m args below meth c y code maxL ret vm T' h' locs' cells slots → Keep h h' [b] → CHr Z EL vm h vm h' → Arv Z h' b k' ty' z' vs' dd → Goes p e below F T' (mkF m q L S)) : Goes p e below F T (mkF m pc L (.int nn :: .int dp :: .ref b :: .int sp :: .ref a :: S)) := by
  subst hp hvs
  obtain ⟨T', h', Lc, X', e', N', K', A', st⟩ := cpA X.1 X.2.1.1 (show Z.Warmed39 (s.setVm vm).vm from X.2.1.2.2.1) X.2.1.2.2.2.1 w1 w2 w3 w4 X.2.2.1 A B hty h1 h2 h3 h4 h5 hus hlv X.2.2.2.1 hgb (g := mkF m pc L (.int nn :: .int dp :: .ref b :: .int sp :: .ref a :: S)) rfl (hL.trans X.2.1.2.2.2.2.2.2.2.symm) rfl (hb X.2.1.2.1 hd) hf (W := (S.map fun v => v.category).sum) (by show 2 * 0 + _ ≤ _; omega) hl
  exact Goes.step st (K T' h' Lc (X.later X' e' N' (ext_keep X.ext K' (allS hgb all0)) (CHr.keep K' (fun x hx => by cases List.mem_singleton.mp hx; exact hsf) X.chv)) K' (CHr.keep K' (fun x hx => by cases List.mem_singleton.mp hx; exact hsf) X.chv) A')
theorem o_priv (X : On l Z EL p e R s m args below meth c y code maxL ret vm T h locs cells slots) {D : String} {y' : MethodName} {index q : Nat} {bytes : ByteArray} {maxL' : Nat} {ret' : Option FieldType} {rm : Room} {as : Array Value} {Q : Option Value → Heap → (Addr → Prop) → Prop} (argsL : List Value) {a : Addr} {rest : List Value} (E : Exa Z h a D) (hC : Con l Z EL y' bytes maxL' ret' rm as h ss Q) (hss : ∀ x ∈ ss, x < h.size ∧ Safe Z EL vm h x)
    (w1 : (Jvm.Cond.methodLink y.cls index y').before a0 Z = true) (w2 : (Jvm.Cond.instanceMethod y').before a0 Z = true) (w3 : (Jvm.Cond.selects y'.cls y' y').before a0 Z = true) (w4 : (Jvm.Cond.privateMethod y').before a0 Z = true) (w5 : (Jvm.Cond.code y' bytes maxL' ret').before a0 Z = true) (w6 : (Jvm.Cond.initialized y'.cls).before a0 Z = true) (hy : y'.cls ≠ "java/lang/invoke/MethodHandle" ∧ y'.cls ≠ "java/lang/invoke/VarHandle")
    (hd : decode code pc = .ok (.invokevirtual index, 3)) (has : (.ref a :: argsL).toArray = as) (hL : L.size = maxL) (hlen : ∀ sig, parseMethodDescriptor y'.desc = some sig → argsL.length = sig.parameters.length) (hS : S = argsL.reverse ++ .ref a :: rest) (hf : rm.frames + 1 ≤ R.frames) (hl : (rest.map fun v => v.category).sum + (maxL' + 11) + rm.locals ≤ R.locals) (hc : cells + rm.cells ≤ R.cells) (hs : slots + rm.slots ≤ R.slots) (hp : pc + 3 = q)
    (K : ∀ (v : Option Value) (vm' : Vm) (T' : State) (h' : Heap) (locs' : List Loc), On l Z EL p e R s m args below meth c y code maxL ret vm' T' h' locs' (cells + rm.cells) (slots + rm.slots) → CHr Z EL vm h vm' h' → Q v h' (Safe Z EL vm' h') → Goes p e below F T' (mkF m q L (v.toList ++ rest))) : Goes p e below F T (mkF m pc L S) := by
  subst hp hS has
  obtain ⟨cl, hcl, hst⟩ := E.cell
  obtain ⟨v, vm1, ⟨T', L1, k1, n1⟩, -, X', S', g', ⟨Lc, hQ, e2, e3, e4, R'⟩, st⟩ := X.1.privateBackS X.2.1.1 (y := y') X.2.1.2.2.2.1 (mvT (s := (s.setVm vm)) X.2.1.2.2.1 w1) (mvT (s := (s.setVm vm)) X.2.1.2.2.1 w2) (mvT (s := (s.setVm vm)) X.2.1.2.2.1 w3) (Cond.privateMethod_at (mvP (show Z.Warmed39 (s.setVm vm).vm from X.2.1.2.2.1) w4 (args := #[]))) (mvT (s := (s.setVm vm)) X.2.1.2.2.1 w5) hy (Con.back X hC hss w5 w6 hf hl) (g := mkF m pc L (argsL.reverse ++ .ref a :: rest)) rfl (hL.trans X.2.1.2.2.2.2.2.2.2.symm) (Steps.refl _) (a := a) (cell := cl) (by rw [X.2.2.1]; exact hcl) hst hlen rfl (by show 2 * 0 + _ ≤ _; omega) (hb X.2.1.2.1 hd) (fun _ _ => ⟨rfl, X.2.2.1, hc, hs⟩)
  dsimp only [Pt.U, Pt.locs, Pt.cells, Pt.slots] at X' S' g' hQ e2 e3 e4 R' st
  subst e2 e3 e4
  exact Goes.step (fun _ k => st.trans k) (K v T'.vm T' T'.heap _ (X.laterV X' S' rfl rfl (Fr.app X.2.2.2.1 hQ.2.1) hQ.2.2 R') R' hQ.1)
/-- a private method's word for its own class, from the word for a subclass -/
theorem sel_up {Z : State} {a0 : Array Value} {C : String} {y : MethodName} (w1 : (Jvm.Cond.selects C y y).before a0 Z = true) (w2 : (Jvm.Cond.instanceMethod y).before a0 Z = true) (w3 : (Jvm.Cond.privateMethod y).before a0 Z = true) (hy : y.cls ≠ "java/lang/invoke/MethodHandle" ∧ y.cls ≠ "java/lang/invoke/VarHandle") : (Jvm.Cond.selects y.cls y y).before a0 Z = true := by
  obtain ⟨mk, methM, hn, hm, -, -⟩ := Cond.instanceMethod_spec w2
  obtain ⟨c, r, m, q1, q2, q3, q4, kk, q5, q6⟩ := Cond.selects_spec w1
  cases hn.symm.trans q3
  have hf := State.methodFound?_of_named hn hy
  have hc := findClass_of_methodNamed hn
  have hs : selectMethod {} Z.vm mk.cls mk = .method mk := selectMethod_private hm (Cond.privateMethod_at w3 mk methM hn hm)
  simp [Cond.before, Cond.holds, Cond.value, hc, hf, hn, hs, q5, q6]
/-- a method of a class (no interface, by another word) is the one its own class finds -/
theorem same_up {Z : State} {a0 : Array Value} {C : String} {y z : MethodName} (w1 : (Jvm.Cond.selects C z z).before a0 Z = true) (w2 : (Jvm.Cond.instanceMethod y).before a0 Z = true) (hz : z.cls = y.cls) (hy : y.cls ≠ "java/lang/invoke/MethodHandle" ∧ y.cls ≠ "java/lang/invoke/VarHandle") : (Jvm.Cond.sameMethod y.cls y.cls y.name y.desc).before a0 Z = true := by
  obtain ⟨mk, methM, hn, hm, -, -⟩ := Cond.instanceMethod_spec w2
  obtain ⟨c, r, m, q1, q2, q3, q4, kk, q5, q6⟩ := Cond.selects_spec w1
  have hf := State.methodFound?_of_named hn hy
  have hc := findClass_of_methodNamed hn
  have hc2 := findClass_of_methodNamed q3
  rw [hz, hc] at hc2
  have e := Option.some.inj hc2
  rw [← e] at q5
  simp [Cond.before, Cond.holds, Cond.value, hc, hf, show Z.methodNamed? ⟨y.cls, y.name, y.desc⟩ = some mk from hn, q5, q6]
theorem o_super (X : On l Z EL p e R s m args below meth c y code maxL ret vm T h locs cells slots) {D : String} {y' : MethodName} {index q : Nat} {bytes : ByteArray} {maxL' : Nat} {ret' : Option FieldType} {rm : Room} {as : Array Value} {Q : Option Value → Heap → (Addr → Prop) → Prop} (argsL : List Value) {a : Addr} {rest : List Value} (E : Exa Z h a D) (hC : Con l Z EL y' bytes maxL' ret' rm as h ss Q) (hss : ∀ x ∈ ss, x < h.size ∧ Safe Z EL vm h x)
    (w1 : (Jvm.Cond.methodLink y.cls index y').before a0 Z = true) (w2 : (Jvm.Cond.sameMethod y'.cls y'.cls y'.name y'.desc).before a0 Z = true) (w3 : (Jvm.Cond.instanceMethod y').before a0 Z = true) (w4 : (Jvm.Cond.superclass y.cls y'.cls).before a0 Z = true) (hn : y'.name ≠ "<init>") (w5 : (Jvm.Cond.code y' bytes maxL' ret').before a0 Z = true) (w6 : (Jvm.Cond.initialized y'.cls).before a0 Z = true)
    (hd : decode code pc = .ok (.invokespecial index, 3)) (has : (.ref a :: argsL).toArray = as) (hL : L.size = maxL) (hlen : ∀ sig, parseMethodDescriptor y'.desc = some sig → argsL.length = sig.parameters.length) (hS : S = argsL.reverse ++ .ref a :: rest) (hf : rm.frames + 1 ≤ R.frames) (hl : (rest.map fun v => v.category).sum + (maxL' + 11) + rm.locals ≤ R.locals) (hc : cells + rm.cells ≤ R.cells) (hs : slots + rm.slots ≤ R.slots) (hp : pc + 3 = q)
    (K : ∀ (v : Option Value) (vm' : Vm) (T' : State) (h' : Heap) (locs' : List Loc), On l Z EL p e R s m args below meth c y code maxL ret vm' T' h' locs' (cells + rm.cells) (slots + rm.slots) → CHr Z EL vm h vm' h' → Q v h' (Safe Z EL vm' h') → Goes p e below F T' (mkF m q L (v.toList ++ rest))) : Goes p e below F T (mkF m pc L S) := by
  subst hp hS has
  obtain ⟨v, vm1, ⟨T', L1, k1, n1⟩, -, X', S', g', ⟨Lc, hQ, e2, e3, e4, R'⟩, st⟩ := superBackS X.1 X.2.1.1 (show Z.Warmed39 (s.setVm vm).vm from X.2.1.2.2.1) X.2.1.2.2.2.1 w1 w2 w3 w4 hn (Con.back X hC hss w5 w6 hf hl) X.2.2.1 (Ins.self E) (g := mkF m pc L (argsL.reverse ++ .ref a :: rest)) rfl (hL.trans X.2.1.2.2.2.2.2.2.2.symm) w5 hlen rfl (by show 2 * 0 + _ ≤ _; omega) (hb X.2.1.2.1 hd) (fun _ _ => ⟨rfl, X.2.2.1, hc, hs⟩)
  dsimp only [Pt.U, Pt.locs, Pt.cells, Pt.slots] at X' S' g' hQ e2 e3 e4 R' st
  subst e2 e3 e4
  exact Goes.step (fun _ k => st.trans k) (K v T'.vm T' T'.heap _ (X.laterV X' S' rfl rfl (Fr.app X.2.2.2.1 hQ.2.1) hQ.2.2 R') R' hQ.1)
theorem o_virt2 (X : On l Z EL p e R s m args below meth c y code maxL ret vm T h locs cells slots) {C : String} {z' y' : MethodName} {index q : Nat} {bytes : ByteArray} {maxL' : Nat} {ret' : Option FieldType} {rm : Room} {as : Array Value} {Q : Option Value → Heap → (Addr → Prop) → Prop} (argsL : List Value) {a : Addr} {rest : List Value} (E : Exa Z h a C) (hC : Con l Z EL y' bytes maxL' ret' rm as h ss Q) (hss : ∀ x ∈ ss, x < h.size ∧ Safe Z EL vm h x)
    (w1 : (Jvm.Cond.methodLink y.cls index z').before a0 Z = true) (w2 : (Jvm.Cond.declares z').before a0 Z = true) (w3 : (Jvm.Cond.selects C z' y').before a0 Z = true) {D : String} {u : MethodName} (wn : (Jvm.Cond.selects D u u).before a0 Z = true) (hu : u.cls = z'.cls) (w4 : (Jvm.Cond.instanceMethod y').before a0 Z = true) (w5 : (Jvm.Cond.code y' bytes maxL' ret').before a0 Z = true) (w6 : (Jvm.Cond.initialized y'.cls).before a0 Z = true) (hy : z'.cls ≠ "java/lang/invoke/MethodHandle" ∧ z'.cls ≠ "java/lang/invoke/VarHandle")
    (hd : decode code pc = .ok (.invokevirtual index, 3)) (has : (.ref a :: argsL).toArray = as) (hL : L.size = maxL) (hlen : ∀ sig, parseMethodDescriptor z'.desc = some sig → argsL.length = sig.parameters.length) (hS : S = argsL.reverse ++ .ref a :: rest) (hf : rm.frames + 1 ≤ R.frames) (hl : (rest.map fun v => v.category).sum + (maxL' + 11) + rm.locals ≤ R.locals) (hc : cells + rm.cells ≤ R.cells) (hs : slots + rm.slots ≤ R.slots) (hp : pc + 3 = q)
    (K : ∀ (v : Option Value) (vm' : Vm) (T' : State) (h' : Heap) (locs' : List Loc), On l Z EL p e R s m args below meth c y code maxL ret vm' T' h' locs' (cells + rm.cells) (slots + rm.slots) → CHr Z EL vm h vm' h' → Q v h' (Safe Z EL vm' h') → Goes p e below F T' (mkF m q L (v.toList ++ rest))) : Goes p e below F T (mkF m pc L S) := by
  subst hp hS has
  obtain ⟨cB, kB, q1, q2, q3⟩ := isOf (show Z.Warmed39 (s.setVm vm).vm from X.2.1.2.2.1) X.2.2.1 E
  have hnf : NotFace (s.setVm vm) z' := by
    intro r0 h0
    obtain ⟨c2, r2, m2, -, -, u3, -, kP, hkP, hkPi⟩ := Cond.selects_spec (mvT (args := #[]) (s := (s.setVm vm)) X.2.1.2.2.1 wn)
    have e1 := findClass_of_methodNamed h0
    have e2 := findClass_of_methodNamed u3
    rw [hu, e1] at e2
    rw [Option.some.inj e2]
    exact ⟨kP, hkP, hkPi⟩
  obtain ⟨v, vm1, ⟨T', L1, k1, n1⟩, -, X', S', g', ⟨Lc, hQ, e2, e3, e4, R'⟩, st⟩ := X.1.virtualBackS X.2.1.1 (y := z') (z := y') X.2.1.2.2.2.1 (mvT (s := (s.setVm vm)) X.2.1.2.2.1 w1) (mvT (s := (s.setVm vm)) X.2.1.2.2.1 w2) hnf (mvT (s := (s.setVm vm)) X.2.1.2.2.1 w3) (mvT (s := (s.setVm vm)) X.2.1.2.2.1 w4) hy (Con.back X hC hss w5 w6 hf hl) q1 q3 (g := mkF m pc L (argsL.reverse ++ .ref a :: rest)) rfl (hL.trans X.2.1.2.2.2.2.2.2.2.symm) (Steps.refl _) hlen rfl (by show 2 * 0 + _ ≤ _; omega) (hb X.2.1.2.1 hd) (fun _ _ => ⟨rfl, X.2.2.1, hc, hs⟩)
  dsimp only [Pt.U, Pt.locs, Pt.cells, Pt.slots] at X' S' g' hQ e2 e3 e4 R' st
  subst e2 e3 e4
  exact Goes.step (fun _ k => st.trans k) (K v T'.vm T' T'.heap _ (X.laterV X' S' rfl rfl (Fr.app X.2.2.2.1 hQ.2.1) hQ.2.2 R') R' hQ.1)
theorem o_virtUp (X : On l Z EL p e R s m args below meth c y code maxL ret vm T h locs cells slots) {C owner : String} {z' y' : MethodName} {index q : Nat} {bytes : ByteArray} {maxL' : Nat} {ret' : Option FieldType} {rm : Room} {as : Array Value} {Q : Option Value → Heap → (Addr → Prop) → Prop} (argsL : List Value) {a : Addr} {rest : List Value} (E : Exa Z h a C) (hC : Con l Z EL y' bytes maxL' ret' rm as h ss Q) (hss : ∀ x ∈ ss, x < h.size ∧ Safe Z EL vm h x)
    (w1 : (Jvm.Cond.methodLink y.cls index z').before a0 Z = true) (w2 : (Jvm.Cond.sameMethod z'.cls owner z'.name z'.desc).before a0 Z = true) (w3 : (Jvm.Cond.declares ⟨owner, z'.name, z'.desc⟩).before a0 Z = true) (ho : owner ≠ "java/lang/invoke/MethodHandle" ∧ owner ≠ "java/lang/invoke/VarHandle") (w4 : (Jvm.Cond.selects C z' y').before a0 Z = true) (w5 : (Jvm.Cond.instanceMethod y').before a0 Z = true) (w6 : (Jvm.Cond.code y' bytes maxL' ret').before a0 Z = true) (w7 : (Jvm.Cond.initialized y'.cls).before a0 Z = true) (hy : z'.cls ≠ "java/lang/invoke/MethodHandle" ∧ z'.cls ≠ "java/lang/invoke/VarHandle")
    (hd : decode code pc = .ok (.invokevirtual index, 3)) (has : (.ref a :: argsL).toArray = as) (hL : L.size = maxL) (hlen : ∀ sig, parseMethodDescriptor z'.desc = some sig → argsL.length = sig.parameters.length) (hS : S = argsL.reverse ++ .ref a :: rest) (hf : rm.frames + 1 ≤ R.frames) (hl : (rest.map fun v => v.category).sum + (maxL' + 11) + rm.locals ≤ R.locals) (hc : cells + rm.cells ≤ R.cells) (hs : slots + rm.slots ≤ R.slots) (hp : pc + 3 = q)
    (K : ∀ (v : Option Value) (vm' : Vm) (T' : State) (h' : Heap) (locs' : List Loc), On l Z EL p e R s m args below meth c y code maxL ret vm' T' h' locs' (cells + rm.cells) (slots + rm.slots) → CHr Z EL vm h vm' h' → Q v h' (Safe Z EL vm' h') → Goes p e below F T' (mkF m q L (v.toList ++ rest))) : Goes p e below F T (mkF m pc L S) := by
  subst hp hS has
  obtain ⟨cB, kB, q1, q2, q3⟩ := isOf (show Z.Warmed39 (s.setVm vm).vm from X.2.1.2.2.1) X.2.2.1 E
  obtain ⟨v, vm1, ⟨T', L1, k1, n1⟩, -, X', S', g', ⟨Lc, hQ, e2, e3, e4, R'⟩, st⟩ := X.1.virtualBackUpS X.2.1.1 (x := z') (y := y') X.2.1.2.2.2.1 (mvT (s := (s.setVm vm)) X.2.1.2.2.1 w1) (mv (show Z.Warmed39 (s.setVm vm).vm from X.2.1.2.2.1) w2) (mvT (s := (s.setVm vm)) X.2.1.2.2.1 w3) ho (mvT (s := (s.setVm vm)) X.2.1.2.2.1 w4) (mvT (s := (s.setVm vm)) X.2.1.2.2.1 w5) (Con.back X hC hss w6 w7 hf hl) q1 q3 (g := mkF m pc L (argsL.reverse ++ .ref a :: rest)) rfl (hL.trans X.2.1.2.2.2.2.2.2.2.symm) (Steps.refl _) hlen rfl (by show 2 * 0 + _ ≤ _; omega) (hb X.2.1.2.1 hd) (fun _ _ => ⟨rfl, X.2.2.1, hc, hs⟩)
  dsimp only [Pt.U, Pt.locs, Pt.cells, Pt.slots] at X' S' g' hQ e2 e3 e4 R' st
  subst e2 e3 e4
  exact Goes.step (fun _ k => st.trans k) (K v T'.vm T' T'.heap _ (X.laterV X' S' rfl rfl (Fr.app X.2.2.2.1 hQ.2.1) hQ.2.2 R') R' hQ.1)
end OwnCol
end Jvm.Pilot.@@N@@

namespace Jvm.Pilot.@@N@@
open Jvm Jvm.ClassFile Sem Op Lib Jvm.Free Jvm.Stand Jvm.LawKit Jvm.RoadKit Bundle Jvm.Free.Exc Jvm.Pilot.@@N@@.Jvm.D
section OwnK
/-- the tables' methods and the frames beneath are known: what a stack trace asks -/
def KK : Program → Env → List Frame → State → Array Value → Prop := fun _ _ bl s _ => s.vm.MethodsKnown ∧ s.vm.FramesKnown bl
def ConK (l : Launch) (Z : State) (EL : List (String × Nat)) (y : MethodName) (code : ByteArray) (maxL : Nat) (ret : Option FieldType) (rm : Room) (as : Array Value) (h : Heap) (ss : List Addr) (Q : Option Value → Heap → (Addr → Prop) → Prop) : Prop :=
  (∃ a1, EW Z a1 EL) → Ext Z.heap h → ∀ ws : List Jvm.Cond, MetFree l y (head1 (Jvm.Cond.code y code maxL ret :: ws) rm) (fun a U => a = as ∧ Z.Warmed39 U.vm ∧ U.heap = h ∧ CHv Z EL U.vm h ∧ ∀ x ∈ ss, Safe Z EL U.vm h x) KK (fun _ U o U' => ∃ v L, o = .returned v ∧ (Q v U'.heap (Safe Z EL U'.vm U'.heap) ∧ Fr Z.heap.size L ∧ Ext Z.heap U'.heap) ∧ CHr Z EL U.vm U.heap U'.vm U'.heap ∧ ReturnedEndW U o U' L rm.cells rm.slots)
variable {l : Launch} {Z : State} {EL : List (String × Nat)} {p : Program} {e : Env} {R : Room} {s : State} {m : MethodId} {args : Array Value} {below : List Frame} {meth : Method} {c : Code} {y : MethodName} {code : ByteArray} {maxL : Nat} {ret : Option FieldType} {vm : Vm} {T : State} {h : Heap} {locs : List Loc} {cells slots : Nat} {F : State → Outcome → Prop} {pc : Nat} {L L' : Array Slot} {S : List Value} {a0 : Array Value} {ss : List Addr}
theorem ConK.intro {rm : Room} {as : Array Value} {Q : Option Value → Heap → (Addr → Prop) → Prop} (hp : plainFor y = true)
    (body : ∀ (p : Program) (e : Env) (s : State) (m : MethodId) (below : List Frame) (meth : Method) (c : Code) (T : State), On l Z EL p e rm s m as below meth c y code maxL ret s.vm T h [] 0 0 → (∀ x ∈ ss, Safe Z EL s.vm h x) → (s.vm.MethodsKnown ∧ s.vm.FramesKnown below ∧ s.heap = h) → Goes p e below (FinQ Z EL s Q rm.cells rm.slots) T (entryFrame m as maxL)) : ConK l Z EL y code maxL ret rm as h ss Q := by
  intro hEW hE ws
  refine MetFree.of_bodySF hp hisR ?_
  intro p e s m args below meth c s₁ Bd hml0 hP hK
  obtain ⟨rfl, hZ, hh, hC, hs⟩ := hP
  have hnm := (name_of_methodNamed Bd.named Bd.method).1
  subst hh
  obtain ⟨s₂, o, k1, k2, k3, k4⟩ := body p e s m below meth c s₁ ⟨Stand.of_body Bd, ⟨Bd.exec, Bd.bytes, hZ, findClass_of_methodNamed Bd.named, Bd.returns, Bd.notSynchronized, hnm, hml0⟩, by rw [Bd.state]; rfl, Fr.nil _, hE, ⟨0, (State.WarmedH.refl s).since 0, Nat.zero_le _⟩, CHr.refl hC, hEW⟩ hs ⟨hK.1, hK.2, rfl⟩
  exact ⟨s₂, o, k1, k2, k3, k4⟩
theorem ConK.back {y' : MethodName} {bytes : ByteArray} {maxL' : Nat} {ret' : Option FieldType} {rm : Room} {as : Array Value} {Q : Option Value → Heap → (Addr → Prop) → Prop} {len W : Nat} (X : On l Z EL p e R s m args below meth c y code maxL ret vm T h locs cells slots) (hC : ConK l Z EL y' bytes maxL' ret' rm as h ss Q) (hss : ∀ x ∈ ss, x < h.size ∧ Safe Z EL vm h x) (hk : s.vm.MethodsKnown ∧ s.vm.FramesKnown below) (w4 : (Jvm.Cond.code y' bytes maxL' ret').before a0 Z = true) (w3 : (Jvm.Cond.initialized y'.cls).before a0 Z = true) (hf : rm.frames + 1 ≤ R.frames) (hl : W + (maxL' + 11) + rm.locals ≤ R.locals) :
    BackS l R p e below (s.setVm vm) args y' len W (fun A b => b = as ∧ A.U.heap = h ∧ A.cells + rm.cells ≤ R.cells ∧ A.slots + rm.slots ≤ R.slots) (fun A _ v B => ∃ L, (Q v B.U.heap (Safe Z EL B.U.vm B.U.heap) ∧ Fr Z.heap.size L ∧ Ext Z.heap B.U.heap) ∧ B.locs = A.locs ++ L ∧ B.cells = A.cells + rm.cells ∧ B.slots = A.slots + rm.slots ∧ CHr Z EL vm h B.U.vm B.U.heap) := by
  obtain ⟨X1, C1, e1, N1, E1, ⟨k0, s0, q0⟩, H1, ⟨a1, hw⟩⟩ := X
  have al : s.vm.Alike vm := s0.1.alike
  exact BackS.of_freeWG (bytes := bytes) (maxL := maxL') (ret := ret') (E := fun _ first o t L k n => k = rm.cells ∧ n = rm.slots ∧ (∃ v, o = .returned v ∧ Q v t.heap (Safe Z EL t.vm t.heap) ∧ Fr Z.heap.size L ∧ Ext Z.heap t.heap) ∧ CHr Z EL first.vm first.heap t.vm t.heap) (hC ⟨a1, hw⟩ E1 []) hf hl
    (fun m meth c A a Y hp => have hU : Z.Warmed39 A.U.vm := wtrans (s := s.setVm vm) C1.2.2.1 Y.warmed
      ⟨by show (Cond.and _ .tt).before a A.U = true; rw [Cond.before_and, mv hU w4]; rfl, mv hU w4, mv hU w3, hp.2.2.1, hp.2.2.2⟩)
    (fun m meth c A a g mk Y hp => ⟨hp.1, wtrans (s := s.setVm vm) C1.2.2.1 Y.warmed, hp.2.1, (CHv.at Y C1.2.2.1 hw H1.1).1, fun x hx => (CHv.at Y C1.2.2.1 hw H1.1).safe (hss x hx).1 (hss x hx).2⟩) (fun m meth c A a g mk Y _ hg => known_frames Y hg (Vm.MethodsKnown.alikeC al hk.1) (Vm.FramesKnown.alikeC al hk.2))
    (fun _ _ _ _ ⟨v, L, h1, h2, h3, h4⟩ => ⟨L, _, _, h4, rfl, rfl, ⟨v, h1, h2⟩, h3⟩)
    (fun m meth c A a g mk v t L k n Y hp _ _ ⟨e1, e2, ⟨v', e3, e4⟩, e5⟩ => by
      cases e3; subst e1 e2
      refine ⟨L, e4, rfl, rfl, rfl, (CHv.at Y C1.2.2.1 hw H1.1).trans ?_⟩
      rw [← hp.2.1]; exact e5)
theorem o_specK (X : On l Z EL p e R s m args below meth c y code maxL ret vm T h locs cells slots) {y' : MethodName} {index q : Nat} {bytes : ByteArray} {maxL' : Nat} {rm : Room} {as : Array Value} {Q : Option Value → Heap → (Addr → Prop) → Prop} (argsL : List Value) {a : Addr} {rest : List Value} (hC : ConK l Z EL y' bytes maxL' none rm as h ss Q) (hss : ∀ x ∈ ss, x < h.size ∧ Safe Z EL vm h x) (hk : s.vm.MethodsKnown ∧ s.vm.FramesKnown below)
    (hy1 : y'.name = "<init>") (w1 : (Jvm.Cond.methodLink y.cls index y').before a0 Z = true) (w2 : (Jvm.Cond.instanceMethod y').before a0 Z = true) (w3 : (Jvm.Cond.code y' bytes maxL' none).before a0 Z = true) (w4 : (Jvm.Cond.initialized y'.cls).before a0 Z = true) (hy : y'.cls ≠ "java/lang/invoke/MethodHandle" ∧ y'.cls ≠ "java/lang/invoke/VarHandle")
    (hd : decode code pc = .ok (.invokespecial index, 3)) (has : (.ref a :: argsL).toArray = as) (hL : L.size = maxL) (hlen : ∀ sig, parseMethodDescriptor y'.desc = some sig → argsL.length = sig.parameters.length) (hS : S = argsL.reverse ++ .ref a :: rest) (hf : rm.frames + 1 ≤ R.frames) (hl : (rest.map fun v => v.category).sum + (maxL' + 11) + rm.locals ≤ R.locals) (hc : cells + rm.cells ≤ R.cells) (hs : slots + rm.slots ≤ R.slots) (hp : pc + 3 = q)
    (K : ∀ (v : Option Value) (vm' : Vm) (T' : State) (h' : Heap) (locs' : List Loc), On l Z EL p e R s m args below meth c y code maxL ret vm' T' h' locs' (cells + rm.cells) (slots + rm.slots) → CHr Z EL vm h vm' h' → Q v h' (Safe Z EL vm' h') → Goes p e below F T' (mkF m q L (v.toList ++ rest))) : Goes p e below F T (mkF m pc L S) := by
  subst hp hS has
  obtain ⟨v, vm1, ⟨T', L1, k1, n1⟩, -, X', S', g', ⟨Lc, hQ, e2, e3, e4, R'⟩, st⟩ := X.1.specialBackS X.2.1.1 hy1 X.2.1.2.2.2.1 (mvT (s := s.setVm vm) X.2.1.2.2.1 w1) (mvT (s := s.setVm vm) X.2.1.2.2.1 w2) (mvT (s := s.setVm vm) X.2.1.2.2.1 w3) hy (ConK.back X hC hss hk w3 w4 hf hl) (g := mkF m pc L (argsL.reverse ++ .ref a :: rest)) rfl (hL.trans X.2.1.2.2.2.2.2.2.2.symm) (Steps.refl _) hlen rfl (by show 2 * 0 + _ ≤ _; omega) (hb X.2.1.2.1 hd) (fun _ _ => ⟨rfl, X.2.2.1, hc, hs⟩)
  dsimp only [Pt.U, Pt.locs, Pt.cells, Pt.slots] at X' S' g' hQ e2 e3 e4 R' st
  subst e2 e3 e4
  exact Goes.step (fun _ k => st.trans k) (K v T'.vm T' T'.heap _ (X.laterV X' S' rfl rfl (Fr.app X.2.2.2.1 hQ.2.1) hQ.2.2 R') R' hQ.1)
theorem o_newarrE (X : On l Z EL p e R s m args below meth c y code maxL ret vm T h locs cells slots) {n : Int32} {cap q : Nat} (N : Nat) (w : (Jvm.Cond.arrayClass .byte).before a0 Z = true) (hd : decode code pc = .ok (.newarray .byte, 2)) (hn : ¬ n < 0) (hcap : n.toNatClampNeg ≤ cap) (hb8 : cap * 8 ≤ 536870912) (hc : cells + 1 ≤ R.cells) (hl : slots + cap ≤ R.slots) (hp : pc + 2 = q)
    (K : ∀ (T' : State) (h' : Heap) (a : Addr) (k : ClassId), a = h.size → On l Z EL p e R s m args below meth c y code maxL ret vm T' h' locs (cells + 1) (slots + cap) → Ext h h' → CHr Z EL vm h vm h' → Safe Z EL vm h' a → Arv Z h' a k .byte n (List.replicate N (.int (0 : Int32))) (.int (0 : Int32)) → Exa Z h' a "[B" → Z.heap.size ≤ a → Goes p e below F T' (mkF m q L (.ref a :: S))) : Goes p e below F T (mkF m pc L (.int n :: S)) := by
  subst hp
  obtain ⟨T', h', k, X', e', E', A', Ex, st⟩ := newPE X.1 X.2.1.1 (show Z.Warmed39 (s.setVm vm).vm from X.2.1.2.2.1) (aty := .byte) w X.2.2.1 (g := mkF m pc L (.int n :: S)) rfl (hb X.2.1.2.1 hd) rfl hn hcap hb8 hc hl (ad := "[B") (by decide)
  exact Goes.step st (K T' h' h.size k rfl (X.later X' e' X.2.2.2.1 (ext_trans X.ext E') (CHr.ext E' X.chv)) E' (CHr.ext E' X.chv) (Safe.ext E' X.chv (Safe.new (Nat.le_refl _))) ((Arv.new A' hn).pad (pad_rep [] _ N)) Ex X.size)
theorem o_clone (X : On l Z EL p e R s m args below meth c y code maxL ret vm T h locs cells slots) {ad : String} {index q cap : Nat} {a : Addr} {k : ClassId} {z : Int32} {ty : FieldType} {vs : List Value} {dv : Value} (A : Arv Z h a k ty z vs dv) (E : Exa Z h a ad)
    (w1 : (Jvm.Cond.methodLink y.cls index ⟨ad, "clone", "()Ljava/lang/Object;"⟩).before a0 Z = true) (w2 : (Jvm.Cond.sameMethod ad "java/lang/Object" "clone" "()Ljava/lang/Object;").before a0 Z = true) (w3 : (Jvm.Cond.native ⟨"java/lang/Object", "clone", "()Ljava/lang/Object;"⟩).before a0 Z = true)
    (w4 : (Jvm.Cond.instanceMethod ⟨"java/lang/Object", "clone", "()Ljava/lang/Object;"⟩).before a0 Z = true) (w5 : (Jvm.Cond.selects ad ⟨ad, "clone", "()Ljava/lang/Object;"⟩ ⟨"java/lang/Object", "clone", "()Ljava/lang/Object;"⟩).before a0 Z = true) (w6 : (Jvm.Cond.castable ad "java/lang/Cloneable").before a0 Z = true)
    (hd : decode code pc = .ok (.invokevirtual index, 3)) (hL : L.size = maxL) (hf : 1 ≤ R.frames) (hlo : (S.map fun v => v.category).sum + 14 ≤ R.locals) (hcap : z.toNatClampNeg ≤ cap) (hc : cells + 1 ≤ R.cells) (hs : slots + cap ≤ R.slots) (hp : pc + 3 = q)
    (K : ∀ (T' : State) (h' : Heap) (b : Addr), b = h.size → On l Z EL p e R s m args below meth c y code maxL ret vm T' h' locs (cells + 1) (slots + cap) → Ext h h' → CHr Z EL vm h vm h' → Safe Z EL vm h' b → Arv Z h' b k ty z vs dv → Exa Z h' b ad → Z.heap.size ≤ b → Goes p e below F T' (mkF m q L (.ref b :: S))) : Goes p e below F T (mkF m pc L (.ref a :: S)) := by
  subst hp
  obtain ⟨cl, Ar, q1, Sz, q3, H, G⟩ := A
  have FC : FitC Z cl := fitC_of Ar fun i hi v hv => by rw [H i hi] at hv; cases hv; exact G i hi
  obtain ⟨T', h', X', e', E', A', Ex, st⟩ := cloneA X.1 X.2.1.1 (show Z.Warmed39 (s.setVm vm).vm from X.2.1.2.2.1) X.2.1.2.2.2.1 w1 w2 w3 w4 w5 w6 X.2.2.1 Ar E FC (g := mkF m pc L (.ref a :: S)) rfl (hL.trans X.2.1.2.2.2.2.2.2.2.symm) rfl (hb X.2.1.2.1 hd) hf (W := (S.map fun v => v.category).sum) (by show 2 * 0 + _ ≤ _; omega) hlo (cap := cap) (by rw [Sz]; exact hcap) hc hs
  exact Goes.step st (K T' h' h.size rfl (X.later X' e' X.2.2.2.1 (ext_trans X.ext E') (CHr.ext E' X.chv)) E' (CHr.ext E' X.chv) (Safe.ext E' X.chv (Safe.new (Nat.le_refl _))) ⟨_, A', q1, Sz, q3, H, G⟩ Ex X.size)
end OwnK
end Jvm.Pilot.@@N@@

namespace Jvm.Pilot.@@N@@
open Jvm Jvm.ClassFile Sem Op Lib Jvm.Free Jvm.Stand Jvm.LawKit Jvm.RoadKit Bundle Jvm.Pilot.@@N@@.Jvm.D
section OwnL
/-- the entry is loaded: a second ldc costs nothing -/
def LitV (Z : State) (vm : Vm) (own : String) (index : Nat) (a : Addr) : Prop := Lit (Z.setVm vm) own index a
theorem LitV.stays {Z s : State} {vm vm1 : Vm} {own : String} {index : Nat} {a : Addr} (L : LitV Z vm own index a) (hW : (s.setVm vm).Warmed39 vm1) : LitV Z vm1 own index a := Lit.stays (s := s) L hW
def FinL (Z : State) (EL : List (String × Nat)) (s : State) (Q : Option Value → Heap → Vm → Prop) (rc rs : Nat) (s₂ : State) (o : Outcome) : Prop :=
  ∃ v L, o = .returned v ∧ (Q v s₂.heap s₂.vm ∧ Fr Z.heap.size L ∧ Ext Z.heap s₂.heap) ∧ CHr Z EL s.vm s.heap s₂.vm s₂.heap ∧ ReturnedEndW s o s₂ L rc rs
/-- a contract whose premise and whose word speak of the tables' loaded entries -/
def ConL (l : Launch) (Z : State) (EL : List (String × Nat)) (y : MethodName) (code : ByteArray) (maxL : Nat) (ret : Option FieldType) (rm : Room) (as : Array Value) (h : Heap) (P : Vm → Prop) (Q : Option Value → Heap → Vm → Prop) : Prop :=
  (∃ a1, EW Z a1 EL) → Ext Z.heap h → ∀ ws : List Jvm.Cond, MetFree l y (head1 (Jvm.Cond.code y code maxL ret :: ws) rm) (fun a U => a = as ∧ Z.Warmed39 U.vm ∧ U.heap = h ∧ CHv Z EL U.vm h ∧ P U.vm) (fun _ _ _ _ _ => True) (fun _ U o U' => ∃ v L, o = .returned v ∧ (Q v U'.heap U'.vm ∧ Fr Z.heap.size L ∧ Ext Z.heap U'.heap) ∧ CHr Z EL U.vm U.heap U'.vm U'.heap ∧ ReturnedEndW U o U' L rm.cells rm.slots)
variable {l : Launch} {Z : State} {EL : List (String × Nat)} {p : Program} {e : Env} {R : Room} {s : State} {m : MethodId} {args : Array Value} {below : List Frame} {meth : Method} {c : Code} {y : MethodName} {code : ByteArray} {maxL : Nat} {ret : Option FieldType} {vm : Vm} {T : State} {h : Heap} {locs : List Loc} {cells slots : Nat} {F : State → Outcome → Prop} {pc : Nat} {L L' : Array Slot} {S : List Value} {a0 : Array Value} {P : Vm → Prop}
theorem ConL.intro {rm : Room} {as : Array Value} {Q : Option Value → Heap → Vm → Prop} (hp : plainFor y = true)
    (body : ∀ (p : Program) (e : Env) (s : State) (m : MethodId) (below : List Frame) (meth : Method) (c : Code) (T : State), On l Z EL p e rm s m as below meth c y code maxL ret s.vm T h [] 0 0 → P s.vm → Goes p e below (FinL Z EL s Q rm.cells rm.slots) T (entryFrame m as maxL)) : ConL l Z EL y code maxL ret rm as h P Q := by
  intro hEW hE ws
  refine MetFree.of_bodySF hp hisR ?_
  intro p e s m args below meth c s₁ Bd hml0 hP hK
  obtain ⟨rfl, hZ, hh, hC, hs⟩ := hP
  have hnm := (name_of_methodNamed Bd.named Bd.method).1
  subst hh
  obtain ⟨s₂, o, k1, k2, k3, k4⟩ := body p e s m below meth c s₁ ⟨Stand.of_body Bd, ⟨Bd.exec, Bd.bytes, hZ, findClass_of_methodNamed Bd.named, Bd.returns, Bd.notSynchronized, hnm, hml0⟩, by rw [Bd.state]; rfl, Fr.nil _, hE, ⟨0, (State.WarmedH.refl s).since 0, Nat.zero_le _⟩, CHr.refl hC, hEW⟩ hs
  exact ⟨s₂, o, k1, k2, k3, k4⟩
theorem ConL.mono {rm : Room} {as : Array Value} {Q Q' : Option Value → Heap → Vm → Prop} (hC : ConL l Z EL y code maxL ret rm as h P Q) (hq : ∀ v h' S, Q v h' S → Q' v h' S) : ConL l Z EL y code maxL ret rm as h P Q' := by
  intro hEW hE ws p e ha hc hk s m args below hf happ hP hK
  obtain ⟨n, o, h1, h2, h3, v, L, h4, ⟨h5, h6⟩, h7⟩ := hC hEW hE ws p e ha hc hk s m args below hf happ hP hK
  exact ⟨n, o, h1, h2, h3, v, L, h4, ⟨hq _ _ _ h5, h6⟩, h7⟩
theorem fin_ofL (X : On l Z EL p e R s m args below meth c y code maxL ret vm T h locs cells slots) {Q : Option Value → Heap → Vm → Prop} {rc rs : Nat} {v : Option Value} (hv : ret = none → v = none) (hQ : ∀ vm' : Vm, (s.setVm vm).Warmed39 vm' → Q v h vm') (hc : cells ≤ rc) (hs : slots ≤ rs)
    (hr : ∀ fs, (∀ (f : JFrame) (acts : List Action), f.method = m → f.locked = none → f.entered = [] → (doReturn e (T.setTop f) acts v).1 = T.setFrames fs) → Steps p.tables e below (T.setTop (mkF m pc L S)) (T.setFrames fs)) : Goes p e below (FinL Z EL s Q rc rs) T (mkF m pc L S) := by
  obtain ⟨X1, C1, e1, N1, E1, ⟨k0, s0, q0⟩, H1, ⟨a1, hw⟩⟩ := X
  obtain ⟨fs, h1, h2, h3, h4⟩ := X1.leaveW s0 (by rw [e1]; exact q0) (v := v) (fun q => hv (C1.2.2.2.2.1.symm.trans q)) C1.2.2.2.2.2.1
  have A := CHv.at X1 C1.2.2.1 hw H1.1
  obtain ⟨g1, g2, g3, g4⟩ := h4
  refine ⟨_, _, hr fs h1, h2, h3, v, locs, rfl, ⟨?_, N1, ?_⟩, ?_, g1, g2, g3, g4.mono hc hs⟩
  · show Q v T.heap T.vm
    rw [e1]
    exact hQ _ X1.warmed.wide
  · show Ext Z.heap T.heap
    rw [e1]; exact E1
  · show CHr Z EL s.vm s.heap T.vm T.heap
    rw [e1]; exact H1.trans A
theorem o_retNL {t : FieldType} (X : On l Z EL p e R s m args below meth c y code maxL (some t) vm T h locs cells slots) {Q : Option Value → Heap → Vm → Prop} {rc rs : Nat} {z : Int32} (hd : decode code pc = .ok (.ireturn, 1)) (ht : t = .boolean ∨ t = .byte ∨ t = .char ∨ t = .short) (hQ : ∀ vm' : Vm, (s.setVm vm).Warmed39 vm' → Q (some (.int (nar t z))) h vm') (hc : cells ≤ rc) (hs : slots ≤ rs) : Goes p e below (FinL Z EL s Q rc rs) T (mkF m pc L (.int z :: S)) :=
  fin_ofL X (fun q => nomatch q) hQ hc hs (fun fs hr => retN X.1 X.2.1.1 X.2.1.2.2.2.2.1 ht (hb X.2.1.2.1 hd) hr)
theorem ConL.back {y' : MethodName} {bytes : ByteArray} {maxL' : Nat} {ret' : Option FieldType} {rm : Room} {as : Array Value} {Q : Option Value → Heap → Vm → Prop} {len W : Nat} (X : On l Z EL p e R s m args below meth c y code maxL ret vm T h locs cells slots) (hC : ConL l Z EL y' bytes maxL' ret' rm as h P Q) (hP : ∀ vm', (s.setVm vm).Warmed39 vm' → P vm') (w4 : (Jvm.Cond.code y' bytes maxL' ret').before a0 Z = true) (w3 : (Jvm.Cond.initialized y'.cls).before a0 Z = true) (hf : rm.frames + 1 ≤ R.frames) (hl : W + (maxL' + 11) + rm.locals ≤ R.locals) :
    BackS l R p e below (s.setVm vm) args y' len W (fun A b => b = as ∧ A.U.heap = h ∧ A.cells + rm.cells ≤ R.cells ∧ A.slots + rm.slots ≤ R.slots) (fun A _ v B => ∃ L, (Q v B.U.heap B.U.vm ∧ Fr Z.heap.size L ∧ Ext Z.heap B.U.heap) ∧ B.locs = A.locs ++ L ∧ B.cells = A.cells + rm.cells ∧ B.slots = A.slots + rm.slots ∧ CHr Z EL vm h B.U.vm B.U.heap) := by
  obtain ⟨X1, C1, e1, N1, E1, ⟨k0, s0, q0⟩, H1, ⟨a1, hw⟩⟩ := X
  exact BackS.of_freeW (bytes := bytes) (maxL := maxL') (ret := ret') (E := fun _ first o t L k n => k = rm.cells ∧ n = rm.slots ∧ (∃ v, o = .returned v ∧ Q v t.heap t.vm ∧ Fr Z.heap.size L ∧ Ext Z.heap t.heap) ∧ CHr Z EL first.vm first.heap t.vm t.heap) (hC ⟨a1, hw⟩ E1 []) hf hl
    (fun m meth c A a Y hp => have hU : Z.Warmed39 A.U.vm := wtrans (s := s.setVm vm) C1.2.2.1 Y.warmed
      ⟨by show (Cond.and _ .tt).before a A.U = true; rw [Cond.before_and, mv hU w4]; rfl, mv hU w4, mv hU w3, hp.2.2.1, hp.2.2.2⟩)
    (fun m meth c A a g mk Y hp => ⟨hp.1, wtrans (s := s.setVm vm) C1.2.2.1 Y.warmed, hp.2.1, (CHv.at Y C1.2.2.1 hw H1.1).1, hP _ Y.warmed.wide⟩) (fun _ _ _ _ _ _ _ _ _ => trivial)
    (fun _ _ _ _ ⟨v, L, h1, h2, h3, h4⟩ => ⟨L, _, _, h4, rfl, rfl, ⟨v, h1, h2⟩, h3⟩)
    (fun m meth c A a g mk v t L k n Y hp _ _ ⟨e1, e2, ⟨v', e3, e4⟩, e5⟩ => by
      cases e3; subst e1 e2
      refine ⟨L, e4, rfl, rfl, rfl, (CHv.at Y C1.2.2.1 hw H1.1).trans ?_⟩
      rw [← hp.2.1]; exact e5)
theorem o_statL (X : On l Z EL p e R s m args below meth c y code maxL ret vm T h locs cells slots) {y' : MethodName} {index q : Nat} {bytes : ByteArray} {maxL' : Nat} {ret' : Option FieldType} {rm : Room} {as : Array Value} {Q : Option Value → Heap → Vm → Prop} (argsL : List Value) {rest : List Value} (hC : ConL l Z EL y' bytes maxL' ret' rm as h P Q) (hP : ∀ vm', (s.setVm vm).Warmed39 vm' → P vm')
    (w1 : (Jvm.Cond.methodLink y.cls index y').before a0 Z = true) (w2 : (Jvm.Cond.static y').before a0 Z = true) (w3 : (Jvm.Cond.initialized y'.cls).before a0 Z = true) (w4 : (Jvm.Cond.code y' bytes maxL' ret').before a0 Z = true) (hy : y'.cls ≠ "java/lang/invoke/MethodHandle" ∧ y'.cls ≠ "java/lang/invoke/VarHandle")
    (hd : decode code pc = .ok (.invokestatic index, 3)) (has : argsL.toArray = as) (hL : L.size = maxL) (hlen : ∀ sig, parseMethodDescriptor y'.desc = some sig → argsL.length = sig.parameters.length) (hS : S = argsL.reverse ++ rest) (hf : rm.frames + 1 ≤ R.frames) (hl : (rest.map fun v => v.category).sum + (maxL' + 11) + rm.locals ≤ R.locals) (hc : cells + rm.cells ≤ R.cells) (hs : slots + rm.slots ≤ R.slots) (hp : pc + 3 = q)
    (K : ∀ (v : Option Value) (vm' : Vm) (T' : State) (h' : Heap) (locs' : List Loc), On l Z EL p e R s m args below meth c y code maxL ret vm' T' h' locs' (cells + rm.cells) (slots + rm.slots) → CHr Z EL vm h vm' h' → Q v h' vm' → (∀ (own : String) (i : Nat) (a : Addr), LitV Z vm own i a → LitV Z vm' own i a) → Goes p e below F T' (mkF m q L (v.toList ++ rest))) : Goes p e below F T (mkF m pc L S) := by
  subst hp hS has
  obtain ⟨v, vm1, ⟨T', L1, k1, n1⟩, -, X', S', g', ⟨Lc, hQ, e2, e3, e4, R'⟩, st⟩ := callSS X.1 X.2.1.1 X.2.1.2.2.2.1 (mvT (s := s.setVm vm) X.2.1.2.2.1 w1) (mvT (s := s.setVm vm) X.2.1.2.2.1 w2) (mvT (s := s.setVm vm) X.2.1.2.2.1 w3) (mvT (s := s.setVm vm) X.2.1.2.2.1 w4) hy (ConL.back X hC hP w4 w3 hf hl) (g := mkF m pc L (argsL.reverse ++ rest)) rfl (hL.trans X.2.1.2.2.2.2.2.2.2.symm) hlen rfl (by show 2 * 0 + _ ≤ _; omega) (hb X.2.1.2.1 hd) (fun _ _ => ⟨rfl, X.2.2.1, hc, hs⟩)
  dsimp only [Pt.U, Pt.locs, Pt.cells, Pt.slots] at X' S' g' hQ e2 e3 e4 R' st
  subst e2 e3 e4
  exact Goes.step (fun _ k => st.trans k) (K v T'.vm T' T'.heap _ (X.laterV X' S' rfl rfl (Fr.app X.2.2.2.1 hQ.2.1) hQ.2.2 R') R' hQ.1 (fun _ _ _ q => LitV.stays q S'.1))
/-- ldc of a constant of EL that also says: loaded -/
theorem o_ldcL (X : On l Z EL p e R s m args below meth c y code maxL ret vm T h locs cells slots) {text : String} {index q n : Nat} {vs : List Value} {z : Int32} (w : (Jvm.Cond.stringLink y.cls index text).before a0 Z = true) (wS : ∀ a ∈ Bundle.stringAtoms, a.before a0 Z = true) (hmem : (y.cls, index) ∈ EL) (ht : (∀ c ∈ text.toList, c.toNat < 256) ∧ text.toList.map (fun c => Value.int (Jvm.Lit.byteI c.toNat.toUInt16)) = vs) (hz : ¬ z < 0) (hl : z.toNatClampNeg = vs.length) (hd : decode code pc = .ok (.ldc index, 2)) (hn : 4 * text.toList.length ≤ n) (hbig : n ≤ 536870912) (hc : cells + 2 ≤ R.cells) (hl' : slots + (n + 4) ≤ R.slots) (hp : pc + 2 = q)
    (K : ∀ (vm' : Vm) (T' : State) (h' : Heap) (a b : Addr) (k : ClassId), On l Z EL p e R s m args below meth c y code maxL ret vm' T' h' locs (cells + 2) (slots + (n + 4)) → Ext h h' → CHr Z EL vm h vm' h' → Exa Z h' a "java/lang/String" → Fld Z h' a "java/lang/String" "coder" "B" (.int 0) → Fld Z h' a "java/lang/String" "value" "[B" (.ref b) → Arv Z h' b k .byte z vs (.int 0) → LitV Z vm' y.cls index a → Goes p e below F T' (mkF m q L (.ref a :: S))) : Goes p e below F T (mkF m pc L S) := by
  subst hp
  obtain ⟨X1, C1, e1, N1, E1, ⟨k0, s0, q0⟩, H1, ⟨a1, hw⟩⟩ := X
  have hEL : EW Z a0 EL := fun p hp => by
    obtain ⟨t, q1, q2⟩ := hw p hp
    exact ⟨t, by simpa [Cond.before, Cond.holds, Cond.value] using q1, q2⟩
  obtain ⟨a, T', h', k1, b, k, X', e', E', S', q', hZ', ho', r1, r2, r3, r4, -, -, R', hLit, r5, st⟩ := ldcCH X1 C1.1 C1.2.2.1 C1.2.2.2.1 w wS e1 s0 q0 hEL hmem H1.1 ht hz hl (g := mkF m pc L S) rfl (hb C1.2.1 hd) hn hbig hc hl'
  exact Goes.step st (K T'.vm T' h' a b k ⟨X', ⟨C1.1, C1.2.1, hZ', ho', C1.2.2.2.2⟩, e', N1, ext_trans E1 E', ⟨k1, S', q'⟩, H1.trans R', ⟨a1, hw⟩⟩ E' R' r1 r2 r3 r4 hLit)
/-- ldc of a loaded entry: nothing moves -/
theorem o_ldcA (X : On l Z EL p e R s m args below meth c y code maxL ret vm T h locs cells slots) {text : String} {index q : Nat} {a : Addr} (Lv : LitV Z vm y.cls index a) (w : (Jvm.Cond.stringLink y.cls index text).before a0 Z = true) (hd : decode code pc = .ok (.ldc index, 2)) (hp : pc + 2 = q) (K : Goes p e below F T (mkF m q L (.ref a :: S))) : Goes p e below F T (mkF m pc L S) := by
  subst hp
  exact Goes.step (ldcAgain X.1 X.2.1.1 X.2.1.2.2.1 X.2.1.2.2.2.1 w (show Lit (s.setVm vm) y.cls index a from Lv) (g := mkF m pc L S) rfl (hb X.2.1.2.1 hd)) K
end OwnL
end Jvm.Pilot.@@N@@

namespace Jvm.Pilot.@@N@@
open Jvm Jvm.ClassFile Sem Op Lib Jvm.Free Jvm.Stand Jvm.LawKit Jvm.RoadKit Bundle Jvm.Free.Exc Jvm.Pilot.@@N@@.Jvm.D
section OwnT
/-- the library's exception words, but the one that this claim's tables don't say -/
def ExW (rc : String) (a0 : Array Value) (s : State) : Prop := ∀ d ∈ excAtoms rc, d ≠ .lays tN tN "suppressedExceptions" listD → d.before a0 s = true
theorem ExW.mv {Z s : State} {rc : String} {a0 args : Array Value} (hT : ThS Z s.heap) (hZ : Z.Warmed39 s.vm) (W : ExW rc a0 Z) : ExW rc args s := fun d hd hne => mvX hT hZ (List.all_eq_true.mp exc_ok d hd) (W d hd hne)
theorem own_found {U V : State} (hal : U.vm.Alike V.vm) {C n d : String} {c c' i i' : Nat} {k k' : Class} {f f' : Field} (h1 : U.fieldFound? C n d = some (c, k, i, f)) (h2 : V.fieldFound? C n d = some (c', k', i', f')) : f = f' := by
  obtain ⟨c2, k2, i2, q⟩ := Jvm.Free.BdW.found_ride (U := U) (U' := V) hal ⟨c, k, i, h1⟩
  have e := Option.some.inj (q.symm.trans h2)
  simp only [Prod.mk.injEq] at e
  exact e.2.2.2
theorem own_slot {Z : State} {C n d : String} {c i : Nat} {k : Class} {f : Field} (h : Z.fieldFound? C n d = some (c, k, i, f)) : Jvm.RoadKit.slotOf Z C n d = f.slot := by simp [Jvm.RoadKit.slotOf, h]
/-- Throwable's tables for the library's fillPays -/
theorem own_thr {args : Array Value} {s : State} {pl : Platform} {rc : String} (hrc : rc ≠ tN) (ho : pl.frameOwnsMonitors = true) (hf : pl.finalization = false) (hm : pl.magicAccessors = ({} : Platform).magicAccessors) (W : ExW rc args s) :
    ∃ T : ThrowableC, T.Links pl s ∧ s.vm.findClass tN = some T.cT ∧ s.methodNamed? tFill = some T.fill ∧ s.methodNamed? tFill0 = some T.fill0 ∧ s.fieldFound? tN "stackTrace" steD = some (T.cT, T.kT, T.i17, T.fStack) ∧ T.fStack.type = .array (.object "java/lang/StackTraceElement") ∧ s.fieldFound? tN "UNASSIGNED_STACK" steD = some (T.cT, T.kT, T.i13, T.fUnassigned) := by
  have w : ∀ d, d ∈ excAtoms rc → d ≠ .lays tN tN "suppressedExceptions" listD → d.holds args s none s [] = true := W
  have in_ : ∀ {d : Cond}, d ∈ throwableAtoms → d ∈ excAtoms rc := fun hd => List.mem_append.mpr (Or.inl hd)
  obtain ⟨⟨cT, jN⟩, mN, eN, gN, bN, oN, lN, sN⟩ := Cond.native_spec (w (.native tFill0) (in_ (by simp [throwableAtoms])) (by simp))
  have hcT : s.vm.findClass tN = some cT := findClass_of_methodNamed eN
  obtain ⟨kT, hkT, hnT⟩ := Vm.findClass_spec hcT
  obtain ⟨_, kT', _, _, hkT', _, _, hordT, _, hfaceT⟩ := Cond.superclass_spec hcT (w (.superclass tN "java/lang/Object") (in_ (by simp [throwableAtoms])) (by simp))
  obtain rfl : kT = kT' := Option.some.inj (hkT.symm.trans hkT')
  -- the two fillInStackTrace
  obtain ⟨jN', mN', eN', gN', aN, stN, abN, nmN, dsN⟩ := Cond.ownMethod (x := tFill0) hcT hkT (w (.instanceMethod tFill0) (in_ (by simp [throwableAtoms])) (by simp))
  obtain rfl : jN = jN' := by have q := Option.some.inj (eN.symm.trans eN'); simpa using q
  obtain rfl : mN = mN' := Option.some.inj (gN.symm.trans gN')
  obtain ⟨jF, mF, eF, gF, aF, stF, abF, -, -⟩ := Cond.ownMethod (x := tFill) hcT hkT (w (.instanceMethod tFill) (in_ (by simp [throwableAtoms])) (by simp))
  obtain ⟨mF', cF, gF', oF, bF, lF, rF, kF, -, sF⟩ := Cond.codeSync_spec eF (w (.codeSync tFill LibCode.Throwable.Fill.code 1 (some (.object tN))) (in_ (by simp [throwableAtoms])) (by simp))
  obtain rfl : mF = mF' := Option.some.inj (gF.symm.trans gF')
  -- Object's constructor
  obtain ⟨idO, mO, eO, gO, stO, abO⟩ := Cond.instanceMethod_spec (w (.instanceMethod oInit) (in_ (by simp [throwableAtoms])) (by simp))
  obtain ⟨mO', cO, gO', oO, bO, -, -, kO, -, sO⟩ := Cond.code_spec eO (w (.code oInit ⟨#[0xb1]⟩ 1 none) (in_ (by simp [throwableAtoms])) (by simp))
  obtain rfl : mO = mO' := Option.some.inj (gO.symm.trans gO')
  obtain ⟨kO', hkO, hnO⟩ := Vm.findClass_spec (findClass_of_methodNamed eO)
  obtain ⟨nmO, dsO⟩ := name_of_methodNamed eO gO
  -- links
  obtain ⟨c1, n1, cf, l1, r1, hcf, p1⟩ := Cond.linkedMethod hcT hkT eO (w (.methodLink tN 1 oInit) (in_ (by simp [throwableAtoms])) (by simp)) pl hm
  obtain ⟨c27, n27, cf2, l27, r27, hcf2, p27⟩ := Cond.linkedMethod hcT hkT eF (w (.methodLink tN 27 tFill) (in_ (by simp [throwableAtoms])) (by simp)) pl hm
  obtain rfl : cf = cf2 := Option.some.inj (hcf.symm.trans hcf2)
  obtain ⟨c202, n202, cf3, l202, r202, hcf3, p202⟩ := Cond.linkedMethod hcT hkT eN (w (.methodLink tN 202 tFill0) (in_ (by simp [throwableAtoms])) (by simp)) pl hm
  obtain rfl : cf = cf3 := Option.some.inj (hcf.symm.trans hcf3)
  -- fields
  have yS := w (.lays tN tN "stackTrace" steD) (in_ (by simp [throwableAtoms])) (by simp)
  have yP := w (.lays rc tN "suppressedExceptions" listD) (by simp [excAtoms]) (by simp [hrc])
  obtain ⟨c7, i7, f7, l7, r7, a7, s7, z7, -, -, -⟩ := Cond.ownField (t := .object tN) hcT hkT (by decide +kernel) (w (.fieldLink tN 7 tN "cause" thD) (in_ (by simp [throwableAtoms])) (by simp)) (w (.lays tN tN "cause" thD) (in_ (by simp [throwableAtoms])) (by simp)) pl hm
  obtain ⟨c17, i17, f17, l17, r17, a17, s17, z17, n17, t17, e17⟩ := Cond.ownField (t := .array (.object "java/lang/StackTraceElement")) hcT hkT (by decide +kernel) (w (.fieldLink tN 17 tN "stackTrace" steD) (in_ (by simp [throwableAtoms])) (by simp)) yS pl hm
  obtain ⟨c24, i24, f24, l24, r24, a24, s24, z24, n24, t24, e24⟩ := Cond.ownField (t := .object "java/util/List") hcT hkT (by decide +kernel) (w (.fieldLink tN 24 tN "suppressedExceptions" listD) (in_ (by simp [throwableAtoms])) (by simp)) yP pl hm
  obtain ⟨c13, i13, f13, aS, cellS, l13, r13, a13, s13, -, -, hstat, -, -, -, -, e13⟩ := Cond.ownStatic (t := .array (.object "java/lang/StackTraceElement")) hcT hkT (by decide +kernel) (w (.fieldLink tN 13 tN "UNASSIGNED_STACK" steD) (in_ (by simp [throwableAtoms])) (by simp)) (w (.laysStatic tN "UNASSIGNED_STACK" steD) (in_ (by simp [throwableAtoms])) (by simp)) pl hm
  obtain ⟨c20, i20, f20, _, _, l20, r20, a20, s20, -⟩ := Cond.ownStatic (t := .object "java/util/List") hcT hkT (by decide +kernel) (w (.fieldLink tN 20 tN "SUPPRESSED_SENTINEL" listD) (in_ (by simp [throwableAtoms])) (by simp)) (w (.laysStatic tN "SUPPRESSED_SENTINEL" listD) (in_ (by simp [throwableAtoms])) (by simp)) pl hm
  obtain ⟨cR, kR, _, _, _, _, hcR, hkR, -⟩ := Cond.lays_spec yP
  obtain ⟨-, dS, hdS, hnS⟩ := Cond.laysAt hcR hkR e17 (w (.lays rc tN "stackTrace" steD) (by simp [excAtoms]) (by simp))
  obtain ⟨-, dP, hdP, hnP⟩ := Cond.laysAt hcR hkR e24 yP
  have apart : f17.slot ≠ f24.slot := Cond.laysApart hdS hdP hnS hnP (by rw [n17, n24]; decide)
  have pF : mF.sig.parameters = [] := by rw [Option.some.inj (sF.symm.trans (show parseMethodDescriptor tFill.desc = some ⟨[], some (.object tN)⟩ from by decide +kernel))]
  have pN : mN.sig.parameters = [.int] := by rw [Option.some.inj (sN.symm.trans (show parseMethodDescriptor tFill0.desc = some ⟨[.int], some (.object tN)⟩ from by decide +kernel))]
  have pO : mO.sig.parameters.length = 0 := by rw [Option.some.inj (sO.symm.trans (show parseMethodDescriptor oInit.desc = some ⟨[], none⟩ from by decide +kernel))]; rfl
  obtain ⟨_, _, _, _, iM, fM, _, _, -, sM, zM, -⟩ := Cond.lays_spec (w (.lays tN tN "detailMessage" msgD) (in_ (by simp [throwableAtoms])) (by simp))
  refine ⟨{ cT := cT, kT := kT, cO := cT, aS := aS, fillIdx := jF, fill0Idx := jN, initSIdx := jF, obj := idO, kObj := kO', methFill := mF, methFill0 := mN, methInitS := mF, methObj := mO, codeFill := cF, codeInitS := cF, codeObj := cO, fBack := f7, fDepth := f7, fStack := f17, fCause := f7, fSupp := f24, fMsg := fM, fUnassigned := f13, fSentinel := f20, cfT := cf, ci1 := c1, n1 := n1, ci27 := c27, n27 := n27, ci202 := c202, n202 := n202, ci7 := c7, i7 := i7, ci13 := c13, i13 := i13, ci17 := c17, i17 := i17, ci20 := c20, i20 := i20, ci24 := c24, i24 := i24 }, ?_, hcT, eF, eN, e17, t17, e13⟩
  constructor
  case owns => exact ho
  case noFinalization => exact hf
  case cls => exact hkT
  case name => exact hnT
  case boot => exact Vm.findClass_boot hcT hkT
  case notInterface => exact hfaceT
  case initialized => exact Cond.initialized_spec hcT hkT (w (.initialized tN) (in_ (by simp [throwableAtoms])) (by simp))
  case objFound => show lookupSpecial _ _ _ mO.desc = _; rw [dsO]; exact lookupSpecial_of_named eO gO stO
  case stackApartSupp => exact apart
  all_goals assumption
/-- the call of fillInStackTrace() on an object that the walk has made: one new cell, and three of the object's places written -/
theorem own_fill {p : Program} {l : Launch} {e : Env} {R : Room} {s : State} {m : MethodId} {args : Array Value} {below : List Frame} {meth : Method} {c : Code} {T : State} {locs : List Loc} {cells slots : Nat} {Z : State} {a0 : Array Value} {h : Heap}
    (X : Stand p l e R s m args below meth c T locs cells slots) (hx : p.tables.exec = Jvm.exec) (hl : l.stackTraces = true) (hZ : Z.Warmed39 s.vm) (hown : s.vm.findClass tN = some m.cls) {rc : String} {nI : Nat} (hrc : rc ≠ tN) (W : ExW rc a0 Z) (wi : (Cond.instantiable rc nI).before a0 Z = true) (hT0 : ThS Z s.heap) (hTK : s.vm.MethodsKnown) (hB : s.vm.FramesKnown below)
    (eT : T.heap = h) {a : Addr} (E : Exa Z h a rc) (N : Unt h a) (FB : Fld Z h a tN "backtrace" obD .null) {u : Value} (hu : u ≠ .null) (hur : u.isRef = true) (FS : Fld Z h a tN "stackTrace" steD u) (SU : Sta Z h tN "UNASSIGNED_STACK" steD u)
    {g : JFrame} (hg : g.method = m) (hsize : g.locals.size = c.maxLocals) {rest : List Value} (hs : g.stack = .ref a :: rest) (hd : decode c.code g.pc = .ok (.invokevirtual 27, 3)) (hf : 3 ≤ R.frames) (hlo : 2 * g.monitorRoom + (rest.map fun v => v.category).sum + 42 ≤ R.locals) (hc : cells + 1 ≤ R.cells) (hsl : slots + 2752 ≤ R.slots) :
    ∃ (T' : State) (h1 h2 h3 h' : Heap) (v1 v2 : Value) (L : List Loc), Stand p l e R s m args below meth c T' (locs ++ L) (cells + 1) (slots + 2752) ∧ (∀ x ∈ L, x.base = a) ∧ T'.heap = h' ∧ Ext h h1 ∧ Wr h1 h2 a (Jvm.RoadKit.slotOf Z tN "backtrace" obD) v1 ∧ Wr h2 h3 a (Jvm.RoadKit.slotOf Z tN "depth" "I") v2 ∧ Wr h3 h' a (Jvm.RoadKit.slotOf Z tN "stackTrace" steD) u ∧
      ∀ target, Steps p.tables e below (T'.setTop { g with pc := g.pc + 3, stack := .ref a :: rest }) target → Steps p.tables e below (T.setTop g) target := by
  have hal : Z.vm.Alike s.vm := hZ.alike
  have W' : ExW rc args s := W.mv hT0 hZ
  have w : ∀ d, d ∈ excAtoms rc → d ≠ .lays tN tN "suppressedExceptions" listD → d.holds args s none s [] = true := W'
  have ht : e.platform.stackTraces = true := by rw [X.admits.platform]; exact hl
  have hm : e.platform.magicAccessors = ({} : Platform).magicAccessors := by rw [X.admits.platform]
  obtain ⟨T₀, Lk, hcT, eF, eN, e17, t17, e13⟩ := own_thr (pl := e.platform) hrc (by rw [X.admits.platform]) (by rw [X.admits.platform]) hm W'
  -- the receiver
  obtain ⟨cell, hcell, hvm, hmon⟩ := N
  obtain ⟨c1, k1, q1, q2, q3, q4, q5⟩ := E
  obtain rfl : cell = c1 := Option.some.inj (hcell.symm.trans q1)
  have hfound : s.vm.findClass rc = some cell.cls := (hal.findClass _ _).trans q2
  obtain ⟨cI, kI, i1, i2, i3, -, -, -⟩ := Cond.instantiable_spec (show (Cond.instantiable rc nI).holds a0 Z none Z [] = true from wi)
  obtain rfl : cell.cls = cI := Option.some.inj (q2.symm.trans i1)
  obtain rfl : k1 = kI := Option.some.inj (q3.symm.trans i2)
  obtain ⟨k2, hk2, ek2⟩ := hal.2.2 _ _ q3
  have hord : k2.kind = .ordinary := by rw [ek2]; exact i3
  have hsz : cell.slots.size = k2.instanceTypes.size := by rw [ek2]; exact q5 i3
  have tk : ∀ {f : Field} {v : Value}, k2.instanceTypes[f.slot]? = some f.type → fits f.type v = true → Jvm.Takes s cell f v := fun {f v} r1 r2 => by
    obtain ⟨x1, x2⟩ := Takes.of_laid (v := v) hk2 hord r1 r2
    exact ⟨by rw [hsz]; simpa using x1, by rw [hvm]; exact x2⟩
  -- its fields
  obtain ⟨c3, _, _, _, fS, z1, zS, -, -, -, -, zS2⟩ := FS
  obtain rfl : cell = c3 := Option.some.inj (hcell.symm.trans z1)
  obtain rfl : fS = T₀.fStack := own_found hal zS e17
  obtain ⟨c4, _, _, _, fB, z2, zB, -, -, -, -, zB2⟩ := FB
  obtain rfl : cell = c4 := Option.some.inj (hcell.symm.trans z2)
  obtain ⟨c198, i198, fB', l198, r198, a198, s198, -, n198, t198, e198⟩ := Cond.ownField (t := .object "java/lang/Object") hcT Lk.cls (by decide +kernel) (w (.fieldLink tN 198 tN "backtrace" obD) (by simp [excAtoms]) (by simp)) (w (.lays tN tN "backtrace" obD) (by simp [excAtoms]) (by simp)) e.platform hm
  obtain rfl : fB = fB' := own_found hal zB e198
  have yD := w (.lays rc tN "depth" "I") (by simp [excAtoms]) (by simp)
  obtain ⟨_, _, cD, kD, iD, fD, -, -, eD, sD, -⟩ := Cond.lays_spec yD
  obtain ⟨_, _, _, _, _, fZ, -, -, zD, -⟩ := Cond.lays_spec (show (Cond.lays rc tN "depth" "I").holds a0 Z none Z [] = true from W _ (by simp [excAtoms]) (by simp))
  obtain rfl : fZ = fD := own_found hal zD eD
  obtain rfl : cD = T₀.cT := Option.some.inj ((Cond.lays_declared yD eD).symm.trans hcT)
  obtain ⟨kD1, aD⟩ := State.fieldFound?_spec eD
  obtain rfl : kD = T₀.kT := Option.some.inj (kD1.symm.trans Lk.cls)
  obtain ⟨nD, tD⟩ := State.fieldFound?_type eD (t := .int) (by decide +kernel)
  have hfb := Cond.soleField_find hcT Lk.cls (w (.soleField tN "backtrace") (by simp [excAtoms]) (by simp)) a198 n198 s198
  have hfd := Cond.soleField_find hcT Lk.cls (w (.soleField tN "depth") (by simp [excAtoms]) (by simp)) aD nD sD
  have yS := (Cond.laysAt hfound hk2 e17 (w (.lays rc tN "stackTrace" steD) (by simp [excAtoms]) (by simp))).1
  have yB := (Cond.laysAt hfound hk2 e198 (w (.lays rc tN "backtrace" obD) (by simp [excAtoms]) (by simp))).1
  have yd := (Cond.laysAt hfound hk2 eD yD).1
  obtain ⟨comp, cO, kO, -, -, hkO, hkindO, hO⟩ := Cond.arrayOver_spec (W' (.arrayOver (.object "java/lang/Object")) (by simp [excAtoms]) (by simp))
  -- the statics
  obtain ⟨_, _, kU, fU, st, cS, u1, -, -, u4, u5, u6, u7⟩ := SU
  obtain rfl : fU = T₀.fUnassigned := own_found hal u1 e13
  obtain ⟨kU', u1', eU⟩ := State.fieldFound?_setVm (s := Z) (vm' := s.vm) hal u1
  have hst : st = T₀.aS := by
    have x := Option.some.inj (((show s.fieldFound? tN "UNASSIGNED_STACK" steD = _ from u1')).symm.trans e13)
    simp only [Prod.mk.injEq] at x
    have y := Lk.statics
    rw [← x.2.1, eU] at y
    exact Option.some.inj (u4.symm.trans y)
  subst hst
  have hne : T₀.aS ≠ a := fun q => by
    rw [q] at u5
    rw [← Option.some.inj (hcell.symm.trans u5), hvm] at u6
    cases u6
  have hsel0 : selectMethod e.platform s.vm cell.cls T₀.fill0 = .method T₀.fill0 := by
    obtain ⟨c2, r2, m2, x1, x2, x3, x4, -⟩ := Cond.selects_spec (w (.selects rc tFill0 tFill0) (by simp [excAtoms]) (by simp))
    cases Option.some.inj (x1.symm.trans hfound)
    cases Option.some.inj (x2.symm.trans (State.methodFound?_of_named eN (by decide)))
    cases Option.some.inj (x3.symm.trans eN)
    rw [Launch.admits_selectMethod X.admits]; exact x4
  have hSE := W' (.selects rc tFill tFill) (by simp [excAtoms]) (by simp)
  have in_ : ∀ {d : Cond}, d ∈ throwableAtoms → d ∈ excAtoms rc := fun hd => List.mem_append.mpr (Or.inl hd)
  have pay := Jvm.Free.Str.fillPays (l := l) (R := R) (p := p) (e := e) (below := below) (s := s) (sargs := args) (len := 3) (W := 2 * g.monitorRoom + (rest.map fun v => v.category).sum) hx ht T₀ Lk eF (u0 := ⟨u, hur⟩) hu (self := a) (cell := cell) (cellS := cS) (fun _ q => by rw [hvm] at q; cases q) (fun q => by rw [hvm] at q; cases q) (by rw [hmon]) (by rw [hmon]) zS2 hsel0 hne (fun q => by rw [q] at u6; cases u6) u7 (tk yS (by rw [t17]; exact fits_refV_array _ ⟨u, hur⟩))
    ⟨{ ci198 := c198, i198 := i198, fBack := fB }, ⟨l198, r198, a198, s198⟩, zB2⟩ hTK hB hcT hO hkO hkindO hfb hfd (fun x => tk yB (by rw [t198]; rfl)) (fun x => tk yd (by rw [tD]; rfl)) (by omega) (by omega)
  obtain ⟨v, vm1, ⟨T', L1, k1', n1'⟩, -, X', ⟨hv, vm', lines, hl1, -, hU, hL, hC, hN⟩, st⟩ := X.virtualBack hx (own := tN) (C := rc) (index := 27) (y := tFill) (z := tFill) hown (W' (.methodLink tN 27 tFill) (in_ (by simp [throwableAtoms])) (by simp)) (W' (.declares tFill) (by simp [excAtoms]) (by simp)) (notFace_of_selects hSE) hSE (W' (.instanceMethod tFill) (in_ (by simp [throwableAtoms])) (by simp)) (by decide) pay
    (b := a) (cB := cell.cls) hfound ⟨cell, by rw [eT]; exact hcell, rfl, by rw [hvm]; rfl⟩ (g := g) hg hsize (Steps.refl _) (argsL := []) (rest := rest) (fun sig q => by rw [show parseMethodDescriptor tFill.desc = some ⟨[], some (.object tN)⟩ from by decide +kernel] at q; rw [← Option.some.inj q]; rfl) hs (Nat.le_refl _) hd (fun vmx _ => ⟨rfl, hc, hsl, by show T.heap[a]? = _; rw [eT]; exact hcell, by show T.heap[T₀.aS]? = _; rw [eT]; exact u5⟩)
  dsimp only [Pt.U, Pt.locs, Pt.cells, Pt.slots] at X' hU hL hC hN st
  subst hv hL hC hN
  have hlt : a < h.size := (Array.getElem?_eq_some_iff.mp hcell).1
  have hn : (traceHolder cO lines).slots.size ≤ 2752 := traceHolder_size_le cO hl1
  have lB : fB.slot < cell.slots.size := (tk (v := .null) yB (by rw [t198]; rfl)).1
  have lD : fZ.slot < cell.slots.size := (tk (v := .int 0) yd (by rw [tD]; rfl)).1
  have lS : T₀.fStack.slot < cell.slots.size := (tk yS (by rw [t17]; exact fits_refV_array _ ⟨u, hur⟩)).1
  have hh : T'.heap = (h.push (traceHolder cO lines)).setIfInBounds a (Jvm.Free.Str.filledOn T₀.toThrowableT fB fZ cell ⟨u, hur⟩ h.size lines.length.toInt32) := by
    rw [hU]
    show (T.heap.push _).setIfInBounds a _ = _
    subst eT
    rfl
  have g1 : (h.push (traceHolder cO lines))[a]? = some cell := by rw [Array.getElem?_push_lt hlt]; rw [Array.getElem?_eq_getElem hlt] at hcell; exact hcell
  have hl2 : a < (h.push (traceHolder cO lines)).size := by rw [Array.size_push]; exact Nat.lt_succ_of_lt hlt
  have sf : ∀ (x y : Cell), ((h.push (traceHolder cO lines)).setIfInBounds a x).setIfInBounds a y = (h.push (traceHolder cO lines)).setIfInBounds a y := fun x y => by simp
  have gf : ∀ (x : Cell), ((h.push (traceHolder cO lines)).setIfInBounds a x)[a]? = some x := fun x => by rw [Array.getElem?_setIfInBounds, if_pos rfl, if_pos hl2]
  refine ⟨T', h.push (traceHolder cO lines), (h.push (traceHolder cO lines)).setIfInBounds a (cell.setSlot fB.slot (.ref h.size)), (h.push (traceHolder cO lines)).setIfInBounds a ((cell.setSlot fB.slot (.ref h.size)).setSlot fZ.slot (.int lines.length.toInt32)), _, .ref h.size, .int lines.length.toInt32, _, X'.more (Nat.le_refl _) (Nat.add_le_add_left hn _), ?_, rfl, ⟨by rw [Array.size_push]; exact Nat.le_succ _, fun x cx q => by rw [Array.getElem?_push_lt (Array.getElem?_eq_some_iff.mp q).1]; rw [Array.getElem?_eq_getElem (Array.getElem?_eq_some_iff.mp q).1] at q; exact q⟩, ⟨cell, g1, by rw [hvm]; rfl, by rw [own_slot zB]; exact lB, by rw [own_slot zB]⟩, ⟨cell.setSlot fB.slot (.ref h.size), gf _, by show cell.vm.isStatics = false; rw [hvm]; rfl, by rw [own_slot zD]; simpa [Cell.setSlot] using lD, by rw [own_slot zD, sf]⟩, ⟨(cell.setSlot fB.slot (.ref h.size)).setSlot fZ.slot (.int lines.length.toInt32), gf _, by show cell.vm.isStatics = false; rw [hvm]; rfl, by rw [own_slot zS]; simpa [Cell.setSlot] using lS, by rw [own_slot zS, sf, hh]⟩, fun target q => st.trans q⟩
  intro x hx
  simp only [List.mem_cons, List.not_mem_nil, or_false] at hx
  rcases hx with rfl | rfl | rfl <;> rfl
variable {l : Launch} {Z : State} {EL : List (String × Nat)} {p : Program} {e : Env} {R : Room} {s : State} {m : MethodId} {args : Array Value} {below : List Frame} {meth : Method} {c : Code} {y : MethodName} {code : ByteArray} {maxL : Nat} {ret : Option FieldType} {vm : Vm} {T : State} {h : Heap} {locs : List Loc} {cells slots : Nat} {F : State → Outcome → Prop} {pc : Nat} {L L' : Array Slot} {S : List Value} {a0 : Array Value} {ss : List Addr}
theorem o_fill (X : On l Z EL p e R s m args below meth c y code maxL ret vm T h locs cells slots) (hlt : l.stackTraces = true) (hk : s.vm.MethodsKnown ∧ s.vm.FramesKnown below ∧ ThS Z s.heap) (hyc : y.cls = tN) {rc : String} {nI q : Nat} (hrc : rc ≠ tN) (W : ExW rc a0 Z) (wi : (Jvm.Cond.instantiable rc nI).before a0 Z = true)
    {a : Addr} (E : Exa Z h a rc) (ga : Z.heap.size ≤ a) (hsf : Safe Z EL vm h a) (N : Unt h a) (FB : Fld Z h a tN "backtrace" obD .null) {u : Value} (hu : u ≠ .null) (hur : u.isRef = true) (FS : Fld Z h a tN "stackTrace" steD u) (SU : Sta Z Z.heap tN "UNASSIGNED_STACK" steD u)
    (hd : decode code pc = .ok (.invokevirtual 27, 3)) (hL : L.size = maxL) (hf : 3 ≤ R.frames) (hlo : (S.map fun v => v.category).sum + 42 ≤ R.locals) (hc : cells + 1 ≤ R.cells) (hsl : slots + 2752 ≤ R.slots) (hp : pc + 3 = q)
    (K : ∀ (T' : State) (h1 h2 h3 h' : Heap) (locs' : List Loc) (v1 v2 : Value), On l Z EL p e R s m args below meth c y code maxL ret vm T' h' locs' (cells + 1) (slots + 2752) → Ext h h1 → Wr h1 h2 a (Jvm.RoadKit.slotOf Z tN "backtrace" obD) v1 → Wr h2 h3 a (Jvm.RoadKit.slotOf Z tN "depth" "I") v2 → Wr h3 h' a (Jvm.RoadKit.slotOf Z tN "stackTrace" steD) u → CHr Z EL vm h vm h1 → CHr Z EL vm h1 vm h2 → CHr Z EL vm h2 vm h3 → CHr Z EL vm h3 vm h' → Goes p e below F T' (mkF m q L (.ref a :: S))) : Goes p e below F T (mkF m pc L (.ref a :: S)) := by
  subst hp
  obtain ⟨X1, C1, e1, N1, E1, ⟨k0, s0, q0⟩, H1, hEW⟩ := id X
  have al : s.vm.Alike vm := s0.1.alike
  obtain ⟨T', h1, h2, h3, h', v1, v2, Ls, X', hLs, e', x1, x2, x3, x4, st⟩ := own_fill X.1 X.2.1.1 hlt (show Z.Warmed39 (s.setVm vm).vm from X.2.1.2.2.1) (by rw [← hyc]; exact X.2.1.2.2.2.1) hrc W wi (hT0 := hk.2.2) (Vm.MethodsKnown.alikeC al hk.1) (Vm.FramesKnown.alikeC al hk.2.1) X.2.2.1 E N FB hu hur FS (SU.ext X.ext) (g := mkF m pc L (.ref a :: S)) rfl (hL.trans X.2.1.2.2.2.2.2.2.2.symm) rfl (hb X.2.1.2.1 hd) hf (by show 2 * 0 + _ + _ ≤ _; omega) hc hsl
  have R1 : CHr Z EL vm h vm h1 := CHr.ext x1 X.chv
  have S1 := R1.safe E.lt hsf
  have R2 : CHr Z EL vm h1 vm h2 := CHr.wr x2 S1 R1.1
  have S2 := R2.safe (E.ext x1).lt S1
  have R3 : CHr Z EL vm h2 vm h3 := CHr.wr x3 S2 R2.1
  have S3 := R3.safe ((E.ext x1).wr x2).lt S2
  have R4 : CHr Z EL vm h3 vm h' := CHr.wr x4 S3 R3.1
  have Ex : Ext Z.heap h' := ext_wr (ext_wr (ext_wr (ext_trans X.ext x1) x2 ga) x3 ga) x4 ga
  exact Goes.step st (K T' h1 h2 h3 h' _ v1 v2 (X.later X' e' (Fr.app X.2.2.2.1 fun z hz => by rw [hLs z hz]; exact ga) Ex (((R1.trans R2).trans R3).trans R4)) x1 x2 x3 x4 R1 R2 R3 R4)
theorem On.more (X : On l Z EL p e R s m args below meth c y code maxL ret vm T h locs cells slots) {cells' slots' : Nat} (hc : cells ≤ cells') (hs : slots ≤ slots') : On l Z EL p e R s m args below meth c y code maxL ret vm T h locs cells' slots' := ⟨X.1.more hc hs, X.2⟩
/-- new, with the word that the cell is untouched -/
theorem o_newU (X : On l Z EL p e R s m args below meth c y code maxL ret vm T h locs cells slots) {C : String} {index n q : Nat} (w : (Jvm.Cond.classLink y.cls index C).before a0 Z = true) (wi : (Jvm.Cond.instantiable C n).before a0 Z = true) (wz : (Jvm.Cond.initialized C).before a0 Z = true) (hd : decode code pc = .ok (.new index, 3)) (hc : cells + 1 ≤ R.cells) (hl : slots + n ≤ R.slots) (hp : pc + 3 = q)
    (K : ∀ (T' : State) (h' : Heap) (a : Addr), a = h.size → On l Z EL p e R s m args below meth c y code maxL ret vm T' h' locs (cells + 1) (slots + n) → Ext h h' → CHr Z EL vm h vm h' → Safe Z EL vm h' a → Exa Z h' a C → (∀ {O nm d : String} {ty : FieldType}, Laid Z a0 C O nm d → parseFieldDescriptor d = some ty → Fld Z h' a O nm d (defaultValue ty)) → Z.heap.size ≤ a → Unt h' a → Goes p e below F T' (mkF m q L (.ref a :: S))) : Goes p e below F T (mkF m pc L S) := by
  subst hp
  obtain ⟨T', h', X', e', E', A', D', U', st⟩ := newO X.1 X.2.1.1 (show Z.Warmed39 (s.setVm vm).vm from X.2.1.2.2.1) X.2.1.2.2.2.1 w wi wz X.2.2.1 (g := mkF m pc L S) rfl (hb X.2.1.2.1 hd) hc hl
  exact Goes.step st (K T' h' h.size rfl (X.later X' e' X.2.2.2.1 (ext_trans X.ext E') (CHr.ext E' X.chv)) E' (CHr.ext E' X.chv) (Safe.ext E' X.chv (Safe.new (Nat.le_refl _))) A' D' X.size U')
end OwnT
end Jvm.Pilot.@@N@@

namespace Jvm.Pilot.@@N@@
open Jvm Jvm.ClassFile Sem Op Lib Jvm.Free Jvm.Stand Jvm.LawKit Jvm.RoadKit Bundle Jvm.Pilot.@@N@@.Jvm.D
def W (a0 : Array Value) (Z : State) : Prop := ∀ d ∈ tables_1, d.before a0 Z = true
set_option maxRecDepth 65536
set_option maxHeartbeats 40000000
def Wd (c : Jvm.Cond) : Prop := ∀ {a0 : Array Value} {Z : State}, W a0 Z → c.before a0 Z = true
theorem mw (i : Nat) {c : Jvm.Cond} (h : tables_1[i]? = some c) : Wd c := by unfold Wd; intro a0 Z hw; exact hw _ (List.mem_of_getElem? h)
theorem lb {a b : Nat} (h : Nat.ble a b = true) : a ≤ b := Nat.le_of_ble_eq_true h
def EL0 : List (String × Nat) := [("com/example/parkville/parkville/QueryException", 7), ("com/example/parkville/parkville/QueryException", 16), ("com/example/parkville/parkville/QueryException", 37), ("com/example/parkville/parkville/QueryException", 39), ("com/example/parkville/parkville/QueryExceptionReportPinLaw", 8), ("com/example/parkville/parkville/QueryExceptionReportPinLaw", 53), ("com/example/parkville/parkville/QueryExceptionReportPinLaw", 62)]
abbrev Dq (c : ByteArray) (pc : Nat) (i : Instr) (n : Nat) : Prop := decode c pc = .ok (i, n)
abbrev K0 : ByteArray := jdk_43_method_3_code
abbrev K1 : ByteArray := jdk_43_method_46_code
abbrev K2 : ByteArray := jdk_42_method_151_code
abbrev K3 : ByteArray := jdk_42_method_139_code
abbrev K4 : ByteArray := jdk_42_method_152_code
abbrev K5 : ByteArray := jdk_29_method_69_code
abbrev K6 : ByteArray := jdk_29_method_65_code
abbrev K7 : ByteArray := jdk_65_method_131_code
abbrev K8 : ByteArray := jdk_65_method_133_code
abbrev K9 : ByteArray := jdk_65_method_132_code
abbrev K10 : ByteArray := jdk_65_method_121_code
abbrev K11 : ByteArray := jdk_48_method_27_code
abbrev K12 : ByteArray := jdk_68_method_10_code
abbrev K13 : ByteArray := jdk_68_method_9_code
abbrev K14 : ByteArray := jdk_68_method_68_code
abbrev K15 : ByteArray := jdk_68_method_71_code
abbrev K16 : ByteArray := jdk_42_method_147_code
abbrev K17 : ByteArray := jdk_68_method_73_code
abbrev K18 : ByteArray := jdk_68_method_22_code
abbrev K19 : ByteArray := jdk_67_method_7_code
abbrev K20 : ByteArray := jdk_33_method_13_code
abbrev K21 : ByteArray := jdk_33_method_12_code
abbrev K22 : ByteArray := jdk_68_method_32_code
abbrev K23 : ByteArray := jdk_67_method_15_code
abbrev K24 : ByteArray := jdk_68_method_2_code
abbrev K25 : ByteArray := jdk_67_method_1_code
abbrev K26 : ByteArray := jdk_68_method_64_code
abbrev K27 : ByteArray := jdk_68_method_6_code
abbrev K28 : ByteArray := jdk_67_method_93_code
abbrev K29 : ByteArray := jdk_42_method_150_code
abbrev K30 : ByteArray := jdk_42_method_53_code
abbrev K31 : ByteArray := jdk_67_method_42_code
abbrev K32 : ByteArray := jdk_78_method_2_code
abbrev K33 : ByteArray := jdk_59_method_2_code
abbrev K34 : ByteArray := prog_20_method_1_code
abbrev K35 : ByteArray := jdk_78_method_6_code
abbrev K36 : ByteArray := prog_20_method_4_code
abbrev K37 : ByteArray := method_7_code
abbrev K38 : ByteArray := method_8_code
abbrev K39 : ByteArray := method_6_code
abbrev K40 : ByteArray := method_5_code
abbrev K41 : ByteArray := method_4_code
abbrev K42 : ByteArray := method_3_code
theorem pn0 : plainName "java/lang/StringLatin1" = true := by first | (simp [plainName, overriddenIn]; done) | decide +kernel
theorem pn1 : plainName "java/lang/String" = true := by first | (simp [plainName, overriddenIn]; done) | decide +kernel
theorem pn2 : plainName "java/util/Arrays" = true := by first | (simp [plainName, overriddenIn]; done) | decide +kernel
theorem pn3 : plainName "jdk/internal/util/ArraysSupport" = true := by first | (simp [plainName, overriddenIn]; done) | decide +kernel
theorem pn4 : plainName "java/lang/AbstractStringBuilder" = true := by first | (simp [plainName, overriddenIn]; done) | decide +kernel
theorem pn5 : plainName "java/lang/StringBuilder" = true := by first | (simp [plainName, overriddenIn]; done) | decide +kernel
theorem pn6 : plainName "java/lang/Integer" = true := by first | (simp [plainName, overriddenIn]; done) | decide +kernel
theorem pn7 : plainName "java/lang/Throwable" = true := by first | (simp [plainName, overriddenIn]; done) | decide +kernel
theorem pn8 : plainName "java/lang/Exception" = true := by first | (simp [plainName, overriddenIn]; done) | decide +kernel
theorem pn9 : plainName "com/example/parkville/parkville/QueryException" = true := by first | (simp [plainName, overriddenIn]; done) | decide +kernel
theorem pn10 : plainName "com/example/parkville/parkville/QueryExceptionReportPinLaw" = true := by first | (simp [plainName, overriddenIn]; done) | decide +kernel
theorem w0 : Wd (.constant "com/example/parkville/parkville/QueryExceptionReportPinLaw" 7 (2147483647 : Int32)) := mw 0 rfl
theorem w1 : Wd (.stringLink "com/example/parkville/parkville/QueryExceptionReportPinLaw" 8 "") := mw 1 rfl
theorem w2 : Wd (.initialized "java/lang/String") := mw 2 rfl
theorem w3 : Wd (.instantiable "java/lang/String" 4) := mw 3 rfl
theorem w4 : Wd (.arrayClass .byte) := mw 4 rfl
theorem w5 : Wd (.laysFinal "java/lang/String" "java/lang/String" "value" "[B") := mw 5 rfl
theorem w6 : Wd (.laysFinal "java/lang/String" "java/lang/String" "coder" "B") := mw 6 rfl
theorem w9 : Wd (.classLink "com/example/parkville/parkville/QueryExceptionReportPinLaw" 19 "com/example/parkville/parkville/QueryException") := mw 9 rfl
theorem w10 : Wd (.instantiable "com/example/parkville/parkville/QueryException" 8) := mw 10 rfl
theorem w11 : Wd (.initialized "com/example/parkville/parkville/QueryException") := mw 11 rfl
theorem w12 : Wd (.methodLink "com/example/parkville/parkville/QueryExceptionReportPinLaw" 21 ⟨"com/example/parkville/parkville/QueryException", "<init>", "(ILjava/lang/String;)V"⟩) := mw 12 rfl
theorem w13 : Wd (.instanceMethod ⟨"com/example/parkville/parkville/QueryException", "<init>", "(ILjava/lang/String;)V"⟩) := mw 13 rfl
theorem w14 : Wd (.code ⟨"com/example/parkville/parkville/QueryException", "<init>", "(ILjava/lang/String;)V"⟩ prog_20_method_1_code 3 none) := mw 14 rfl
theorem w15 : Wd (.methodLink "com/example/parkville/parkville/QueryException" 22 ⟨"java/lang/Exception", "<init>", "(Ljava/lang/String;)V"⟩) := mw 15 rfl
theorem w16 : Wd (.instanceMethod ⟨"java/lang/Exception", "<init>", "(Ljava/lang/String;)V"⟩) := mw 16 rfl
theorem w18 : Wd (.initialized "java/lang/Exception") := mw 18 rfl
theorem w19 : Wd (.code ⟨"java/lang/Exception", "<init>", "(Ljava/lang/String;)V"⟩ jdk_59_method_2_code 2 none) := mw 19 rfl
theorem w20 : Wd (.methodLink "java/lang/Exception" 7 ⟨"java/lang/Throwable", "<init>", "(Ljava/lang/String;)V"⟩) := mw 20 rfl
theorem w21 : Wd (.instanceMethod ⟨"java/lang/Throwable", "<init>", "(Ljava/lang/String;)V"⟩) := mw 21 rfl
theorem w24 : Wd (.initialized "java/lang/Throwable") := mw 24 rfl
theorem w25 : Wd (.code ⟨"java/lang/Throwable", "<init>", "(Ljava/lang/String;)V"⟩ jdk_78_method_2_code 2 none) := mw 25 rfl
theorem w26 : Wd (.methodLink "java/lang/Throwable" 1 ⟨"java/lang/Object", "<init>", "()V"⟩) := mw 26 rfl
theorem w27 : Wd (.instanceMethod ⟨"java/lang/Object", "<init>", "()V"⟩) := mw 27 rfl
theorem w28 : Wd (.code ⟨"java/lang/Object", "<init>", "()V"⟩ object_method_1_code 1 none) := mw 28 rfl
theorem w29 : Wd (.fieldLink "java/lang/Throwable" 7 "java/lang/Throwable" "cause" "Ljava/lang/Throwable;") := mw 29 rfl
theorem w30 : Wd (.lays "com/example/parkville/parkville/QueryException" "java/lang/Throwable" "cause" "Ljava/lang/Throwable;") := mw 30 rfl
theorem w31 : Wd (.fieldLink "java/lang/Throwable" 13 "java/lang/Throwable" "UNASSIGNED_STACK" "[Ljava/lang/StackTraceElement;") := mw 31 rfl
theorem w32 : Wd (.fieldLink "java/lang/Throwable" 17 "java/lang/Throwable" "stackTrace" "[Ljava/lang/StackTraceElement;") := mw 32 rfl
theorem w33 : Wd (.lays "com/example/parkville/parkville/QueryException" "java/lang/Throwable" "stackTrace" "[Ljava/lang/StackTraceElement;") := mw 33 rfl
theorem w34 : Wd (.fieldLink "java/lang/Throwable" 20 "java/lang/Throwable" "SUPPRESSED_SENTINEL" "Ljava/util/List;") := mw 34 rfl
theorem w35 : Wd (.fieldLink "java/lang/Throwable" 24 "java/lang/Throwable" "suppressedExceptions" "Ljava/util/List;") := mw 35 rfl
theorem w36 : Wd (.lays "com/example/parkville/parkville/QueryException" "java/lang/Throwable" "suppressedExceptions" "Ljava/util/List;") := mw 36 rfl
theorem w60 : Wd (.lays "com/example/parkville/parkville/QueryException" "java/lang/Throwable" "detailMessage" "Ljava/lang/String;") := mw 60 rfl
theorem w61 : Wd (.lays "com/example/parkville/parkville/QueryException" "java/lang/Throwable" "backtrace" "Ljava/lang/Object;") := mw 61 rfl
theorem w62 : Wd (.lays "com/example/parkville/parkville/QueryException" "java/lang/Throwable" "depth" "I") := mw 62 rfl
theorem w64 : Wd (.fieldLink "java/lang/Throwable" 31 "java/lang/Throwable" "detailMessage" "Ljava/lang/String;") := mw 64 rfl
theorem w65 : Wd (.fieldLink "com/example/parkville/parkville/QueryException" 27 "com/example/parkville/parkville/QueryException" "position" "I") := mw 65 rfl
theorem w66 : Wd (.laysFinal "com/example/parkville/parkville/QueryException" "com/example/parkville/parkville/QueryException" "position" "I") := mw 66 rfl
theorem w67 : Wd (.fieldLink "com/example/parkville/parkville/QueryException" 33 "com/example/parkville/parkville/QueryException" "reason" "Ljava/lang/String;") := mw 67 rfl
theorem w68 : Wd (.laysFinal "com/example/parkville/parkville/QueryException" "com/example/parkville/parkville/QueryException" "reason" "Ljava/lang/String;") := mw 68 rfl
theorem w69 : Wd (.methodLink "com/example/parkville/parkville/QueryExceptionReportPinLaw" 24 ⟨"com/example/parkville/parkville/QueryException", "report", "()Ljava/lang/String;"⟩) := mw 69 rfl
theorem w70 : Wd (.declares ⟨"com/example/parkville/parkville/QueryException", "report", "()Ljava/lang/String;"⟩) := mw 70 rfl
theorem w71 : Wd (.instanceMethod ⟨"com/example/parkville/parkville/QueryException", "report", "()Ljava/lang/String;"⟩) := mw 71 rfl
theorem w72 : Wd (.selects "com/example/parkville/parkville/QueryException" ⟨"com/example/parkville/parkville/QueryException", "report", "()Ljava/lang/String;"⟩ ⟨"com/example/parkville/parkville/QueryException", "report", "()Ljava/lang/String;"⟩) := mw 72 rfl
theorem w73 : Wd (.code ⟨"com/example/parkville/parkville/QueryException", "report", "()Ljava/lang/String;"⟩ prog_20_method_4_code 1 (some (.object "java/lang/String"))) := mw 73 rfl
theorem w74 : Wd (.classLink "com/example/parkville/parkville/QueryException" 1 "java/lang/StringBuilder") := mw 74 rfl
theorem w75 : Wd (.instantiable "java/lang/StringBuilder" 4) := mw 75 rfl
theorem w76 : Wd (.initialized "java/lang/StringBuilder") := mw 76 rfl
theorem w77 : Wd (.methodLink "com/example/parkville/parkville/QueryException" 3 ⟨"java/lang/StringBuilder", "<init>", "()V"⟩) := mw 77 rfl
theorem w78 : Wd (.instanceMethod ⟨"java/lang/StringBuilder", "<init>", "()V"⟩) := mw 78 rfl
theorem w79 : Wd (.code ⟨"java/lang/StringBuilder", "<init>", "()V"⟩ jdk_67_method_1_code 1 none) := mw 79 rfl
theorem w80 : Wd (.methodLink "java/lang/StringBuilder" 1 ⟨"java/lang/AbstractStringBuilder", "<init>", "(I)V"⟩) := mw 80 rfl
theorem w81 : Wd (.instanceMethod ⟨"java/lang/AbstractStringBuilder", "<init>", "(I)V"⟩) := mw 81 rfl
theorem w84 : Wd (.initialized "java/lang/AbstractStringBuilder") := mw 84 rfl
theorem w85 : Wd (.code ⟨"java/lang/AbstractStringBuilder", "<init>", "(I)V"⟩ jdk_68_method_2_code 2 none) := mw 85 rfl
theorem w86 : Wd (.methodLink "java/lang/AbstractStringBuilder" 3 ⟨"java/lang/Object", "<init>", "()V"⟩) := mw 86 rfl
theorem w87 : Wd (.fieldLink "java/lang/AbstractStringBuilder" 18 "java/lang/String" "COMPACT_STRINGS" "Z") := mw 87 rfl
theorem w88 : Wd (.fieldLink "java/lang/AbstractStringBuilder" 15 "java/lang/AbstractStringBuilder" "value" "[B") := mw 88 rfl
theorem w89 : Wd (.lays "java/lang/StringBuilder" "java/lang/AbstractStringBuilder" "value" "[B") := mw 89 rfl
theorem w90 : Wd (.fieldLink "java/lang/AbstractStringBuilder" 22 "java/lang/AbstractStringBuilder" "coder" "B") := mw 90 rfl
theorem w91 : Wd (.lays "java/lang/StringBuilder" "java/lang/AbstractStringBuilder" "coder" "B") := mw 91 rfl
theorem w92 : Wd (.stringLink "com/example/parkville/parkville/QueryException" 37 "query error") := mw 92 rfl
theorem w93 : Wd (.methodLink "com/example/parkville/parkville/QueryException" 9 ⟨"java/lang/StringBuilder", "append", "(Ljava/lang/String;)Ljava/lang/StringBuilder;"⟩) := mw 93 rfl
theorem w94 : Wd (.declares ⟨"java/lang/StringBuilder", "append", "(Ljava/lang/String;)Ljava/lang/StringBuilder;"⟩) := mw 94 rfl
theorem w95 : Wd (.instanceMethod ⟨"java/lang/StringBuilder", "append", "(Ljava/lang/String;)Ljava/lang/StringBuilder;"⟩) := mw 95 rfl
theorem w96 : Wd (.selects "java/lang/StringBuilder" ⟨"java/lang/StringBuilder", "append", "(Ljava/lang/String;)Ljava/lang/StringBuilder;"⟩ ⟨"java/lang/StringBuilder", "append", "(Ljava/lang/String;)Ljava/lang/StringBuilder;"⟩) := mw 96 rfl
theorem w97 : Wd (.code ⟨"java/lang/StringBuilder", "append", "(Ljava/lang/String;)Ljava/lang/StringBuilder;"⟩ jdk_67_method_7_code 2 (some (.object "java/lang/StringBuilder"))) := mw 97 rfl
theorem w98 : Wd (.methodLink "java/lang/StringBuilder" 29 ⟨"java/lang/AbstractStringBuilder", "append", "(Ljava/lang/String;)Ljava/lang/AbstractStringBuilder;"⟩) := mw 98 rfl
theorem w99 : Wd (.instanceMethod ⟨"java/lang/AbstractStringBuilder", "append", "(Ljava/lang/String;)Ljava/lang/AbstractStringBuilder;"⟩) := mw 99 rfl
theorem w100 : Wd (.superclass "java/lang/StringBuilder" "java/lang/AbstractStringBuilder") := mw 100 rfl
theorem w102 : Wd (.code ⟨"java/lang/AbstractStringBuilder", "append", "(Ljava/lang/String;)Ljava/lang/AbstractStringBuilder;"⟩ jdk_68_method_22_code 3 (some (.object "java/lang/AbstractStringBuilder"))) := mw 102 rfl
theorem w103 : Wd (.methodLink "java/lang/AbstractStringBuilder" 32 ⟨"java/lang/String", "length", "()I"⟩) := mw 103 rfl
theorem w104 : Wd (.declares ⟨"java/lang/String", "length", "()I"⟩) := mw 104 rfl
theorem w105 : Wd (.instanceMethod ⟨"java/lang/String", "length", "()I"⟩) := mw 105 rfl
theorem w106 : Wd (.selects "java/lang/String" ⟨"java/lang/String", "length", "()I"⟩ ⟨"java/lang/String", "length", "()I"⟩) := mw 106 rfl
theorem w108 : Wd (.fieldLink "java/lang/String" 9 "java/lang/String" "value" "[B") := mw 108 rfl
theorem w109 : Wd (.methodLink "java/lang/String" 335 ⟨"java/lang/String", "coder", "()B"⟩) := mw 109 rfl
theorem w110 : Wd (.declares ⟨"java/lang/String", "coder", "()B"⟩) := mw 110 rfl
theorem w111 : Wd (.instanceMethod ⟨"java/lang/String", "coder", "()B"⟩) := mw 111 rfl
theorem w112 : Wd (.selects "java/lang/String" ⟨"java/lang/String", "coder", "()B"⟩ ⟨"java/lang/String", "coder", "()B"⟩) := mw 112 rfl
theorem w113 : Wd (.code ⟨"java/lang/String", "coder", "()B"⟩ jdk_42_method_152_code 1 (some .byte)) := mw 113 rfl
theorem w114 : Wd (.fieldLink "java/lang/String" 38 "java/lang/String" "COMPACT_STRINGS" "Z") := mw 114 rfl
theorem w115 : Wd (.fieldLink "java/lang/String" 15 "java/lang/String" "coder" "B") := mw 115 rfl
theorem w116 : Wd (.fieldLink "java/lang/AbstractStringBuilder" 79 "java/lang/AbstractStringBuilder" "count" "I") := mw 116 rfl
theorem w117 : Wd (.lays "java/lang/StringBuilder" "java/lang/AbstractStringBuilder" "count" "I") := mw 117 rfl
theorem w118 : Wd (.methodLink "java/lang/AbstractStringBuilder" 100 ⟨"java/lang/AbstractStringBuilder", "ensureCapacityInternal", "(I)V"⟩) := mw 118 rfl
theorem w119 : Wd (.instanceMethod ⟨"java/lang/AbstractStringBuilder", "ensureCapacityInternal", "(I)V"⟩) := mw 119 rfl
theorem w120 : Wd (.privateMethod ⟨"java/lang/AbstractStringBuilder", "ensureCapacityInternal", "(I)V"⟩) := mw 120 rfl
theorem w121 : Wd (.selects "java/lang/StringBuilder" ⟨"java/lang/AbstractStringBuilder", "ensureCapacityInternal", "(I)V"⟩ ⟨"java/lang/AbstractStringBuilder", "ensureCapacityInternal", "(I)V"⟩) := mw 121 rfl
theorem w122 : Wd (.code ⟨"java/lang/AbstractStringBuilder", "ensureCapacityInternal", "(I)V"⟩ jdk_68_method_9_code 3 none) := mw 122 rfl
theorem w123 : Wd (.methodLink "java/lang/AbstractStringBuilder" 208 ⟨"java/lang/AbstractStringBuilder", "putStringAt", "(ILjava/lang/String;)V"⟩) := mw 123 rfl
theorem w124 : Wd (.instanceMethod ⟨"java/lang/AbstractStringBuilder", "putStringAt", "(ILjava/lang/String;)V"⟩) := mw 124 rfl
theorem w125 : Wd (.privateMethod ⟨"java/lang/AbstractStringBuilder", "putStringAt", "(ILjava/lang/String;)V"⟩) := mw 125 rfl
theorem w126 : Wd (.selects "java/lang/StringBuilder" ⟨"java/lang/AbstractStringBuilder", "putStringAt", "(ILjava/lang/String;)V"⟩ ⟨"java/lang/AbstractStringBuilder", "putStringAt", "(ILjava/lang/String;)V"⟩) := mw 126 rfl
theorem w127 : Wd (.code ⟨"java/lang/AbstractStringBuilder", "putStringAt", "(ILjava/lang/String;)V"⟩ jdk_68_method_73_code 3 none) := mw 127 rfl
theorem w128 : Wd (.methodLink "java/lang/AbstractStringBuilder" 397 ⟨"java/lang/AbstractStringBuilder", "inflateIfNeededFor", "(Ljava/lang/String;)V"⟩) := mw 128 rfl
theorem w129 : Wd (.instanceMethod ⟨"java/lang/AbstractStringBuilder", "inflateIfNeededFor", "(Ljava/lang/String;)V"⟩) := mw 129 rfl
theorem w130 : Wd (.privateMethod ⟨"java/lang/AbstractStringBuilder", "inflateIfNeededFor", "(Ljava/lang/String;)V"⟩) := mw 130 rfl
theorem w131 : Wd (.selects "java/lang/StringBuilder" ⟨"java/lang/AbstractStringBuilder", "inflateIfNeededFor", "(Ljava/lang/String;)V"⟩ ⟨"java/lang/AbstractStringBuilder", "inflateIfNeededFor", "(Ljava/lang/String;)V"⟩) := mw 131 rfl
theorem w132 : Wd (.code ⟨"java/lang/AbstractStringBuilder", "inflateIfNeededFor", "(Ljava/lang/String;)V"⟩ jdk_68_method_71_code 2 none) := mw 132 rfl
theorem w133 : Wd (.methodLink "java/lang/AbstractStringBuilder" 40 ⟨"java/lang/String", "coder", "()B"⟩) := mw 133 rfl
theorem w134 : Wd (.methodLink "java/lang/AbstractStringBuilder" 399 ⟨"java/lang/String", "getBytes", "([BIB)V"⟩) := mw 134 rfl
theorem w135 : Wd (.declares ⟨"java/lang/String", "getBytes", "([BIB)V"⟩) := mw 135 rfl
theorem w136 : Wd (.instanceMethod ⟨"java/lang/String", "getBytes", "([BIB)V"⟩) := mw 136 rfl
theorem w137 : Wd (.selects "java/lang/String" ⟨"java/lang/String", "getBytes", "([BIB)V"⟩ ⟨"java/lang/String", "getBytes", "([BIB)V"⟩) := mw 137 rfl
theorem w138 : Wd (.code ⟨"java/lang/String", "getBytes", "([BIB)V"⟩ jdk_42_method_147_code 4 none) := mw 138 rfl
theorem w139 : Wd (.methodLink "java/lang/String" 212 ⟨"java/lang/System", "arraycopy", "(Ljava/lang/Object;ILjava/lang/Object;II)V"⟩) := mw 139 rfl
theorem w140 : Wd (.static ⟨"java/lang/System", "arraycopy", "(Ljava/lang/Object;ILjava/lang/Object;II)V"⟩) := mw 140 rfl
theorem w141 : Wd (.initialized "java/lang/System") := mw 141 rfl
theorem w142 : Wd (.native ⟨"java/lang/System", "arraycopy", "(Ljava/lang/Object;ILjava/lang/Object;II)V"⟩) := mw 142 rfl
theorem w143 : Wd (.stringLink "com/example/parkville/parkville/QueryException" 16 ": ") := mw 143 rfl
theorem w144 : Wd (.methodLink "com/example/parkville/parkville/QueryException" 41 ⟨"com/example/parkville/parkville/QueryException", "getMessage", "()Ljava/lang/String;"⟩) := mw 144 rfl
theorem w145 : Wd (.sameMethod "com/example/parkville/parkville/QueryException" "java/lang/Throwable" "getMessage" "()Ljava/lang/String;") := mw 145 rfl
theorem w146 : Wd (.declares ⟨"java/lang/Throwable", "getMessage", "()Ljava/lang/String;"⟩) := mw 146 rfl
theorem w147 : Wd (.instanceMethod ⟨"java/lang/Throwable", "getMessage", "()Ljava/lang/String;"⟩) := mw 147 rfl
theorem w148 : Wd (.selects "com/example/parkville/parkville/QueryException" ⟨"com/example/parkville/parkville/QueryException", "getMessage", "()Ljava/lang/String;"⟩ ⟨"java/lang/Throwable", "getMessage", "()Ljava/lang/String;"⟩) := mw 148 rfl
theorem w149 : Wd (.code ⟨"java/lang/Throwable", "getMessage", "()Ljava/lang/String;"⟩ jdk_78_method_6_code 1 (some (.object "java/lang/String"))) := mw 149 rfl
theorem w150 : Wd (.methodLink "com/example/parkville/parkville/QueryException" 18 ⟨"java/lang/StringBuilder", "toString", "()Ljava/lang/String;"⟩) := mw 150 rfl
theorem w151 : Wd (.declares ⟨"java/lang/StringBuilder", "toString", "()Ljava/lang/String;"⟩) := mw 151 rfl
theorem w152 : Wd (.instanceMethod ⟨"java/lang/StringBuilder", "toString", "()Ljava/lang/String;"⟩) := mw 152 rfl
theorem w153 : Wd (.selects "java/lang/StringBuilder" ⟨"java/lang/StringBuilder", "toString", "()Ljava/lang/String;"⟩ ⟨"java/lang/StringBuilder", "toString", "()Ljava/lang/String;"⟩) := mw 153 rfl
theorem w154 : Wd (.code ⟨"java/lang/StringBuilder", "toString", "()Ljava/lang/String;"⟩ jdk_67_method_42_code 1 (some (.object "java/lang/String"))) := mw 154 rfl
theorem w155 : Wd (.classLink "java/lang/StringBuilder" 18 "java/lang/String") := mw 155 rfl
theorem w156 : Wd (.methodLink "java/lang/StringBuilder" 137 ⟨"java/lang/String", "<init>", "(Ljava/lang/StringBuilder;)V"⟩) := mw 156 rfl
theorem w157 : Wd (.instanceMethod ⟨"java/lang/String", "<init>", "(Ljava/lang/StringBuilder;)V"⟩) := mw 157 rfl
theorem w159 : Wd (.code ⟨"java/lang/String", "<init>", "(Ljava/lang/StringBuilder;)V"⟩ jdk_42_method_53_code 2 none) := mw 159 rfl
theorem w160 : Wd (.methodLink "java/lang/String" 489 ⟨"java/lang/String", "<init>", "(Ljava/lang/AbstractStringBuilder;Ljava/lang/Void;)V"⟩) := mw 160 rfl
theorem w161 : Wd (.instanceMethod ⟨"java/lang/String", "<init>", "(Ljava/lang/AbstractStringBuilder;Ljava/lang/Void;)V"⟩) := mw 161 rfl
theorem w162 : Wd (.code ⟨"java/lang/String", "<init>", "(Ljava/lang/AbstractStringBuilder;Ljava/lang/Void;)V"⟩ jdk_42_method_150_code 5 none) := mw 162 rfl
theorem w163 : Wd (.methodLink "java/lang/String" 1 ⟨"java/lang/Object", "<init>", "()V"⟩) := mw 163 rfl
theorem w164 : Wd (.methodLink "java/lang/String" 552 ⟨"java/lang/AbstractStringBuilder", "getValue", "()[B"⟩) := mw 164 rfl
theorem w165 : Wd (.declares ⟨"java/lang/AbstractStringBuilder", "getValue", "()[B"⟩) := mw 165 rfl
theorem w166 : Wd (.instanceMethod ⟨"java/lang/AbstractStringBuilder", "getValue", "()[B"⟩) := mw 166 rfl
theorem w167 : Wd (.selects "java/lang/StringBuilder" ⟨"java/lang/AbstractStringBuilder", "getValue", "()[B"⟩ ⟨"java/lang/AbstractStringBuilder", "getValue", "()[B"⟩) := mw 167 rfl
theorem w168 : Wd (.code ⟨"java/lang/AbstractStringBuilder", "getValue", "()[B"⟩ jdk_68_method_64_code 1 (some (.array .byte))) := mw 168 rfl
theorem w169 : Wd (.methodLink "java/lang/String" 549 ⟨"java/lang/AbstractStringBuilder", "length", "()I"⟩) := mw 169 rfl
theorem w170 : Wd (.declares ⟨"java/lang/AbstractStringBuilder", "length", "()I"⟩) := mw 170 rfl
theorem w171 : Wd (.instanceMethod ⟨"java/lang/AbstractStringBuilder", "length", "()I"⟩) := mw 171 rfl
theorem w172 : Wd (.selects "java/lang/StringBuilder" ⟨"java/lang/AbstractStringBuilder", "length", "()I"⟩ ⟨"java/lang/StringBuilder", "length", "()I"⟩) := mw 172 rfl
theorem w173 : Wd (.instanceMethod ⟨"java/lang/StringBuilder", "length", "()I"⟩) := mw 173 rfl
theorem w174 : Wd (.code ⟨"java/lang/StringBuilder", "length", "()I"⟩ jdk_67_method_93_code 1 (some .int)) := mw 174 rfl
theorem w175 : Wd (.methodLink "java/lang/StringBuilder" 343 ⟨"java/lang/AbstractStringBuilder", "length", "()I"⟩) := mw 175 rfl
theorem w176 : Wd (.code ⟨"java/lang/AbstractStringBuilder", "length", "()I"⟩ jdk_68_method_6_code 1 (some .int)) := mw 176 rfl
theorem w177 : Wd (.methodLink "java/lang/String" 1047 ⟨"java/lang/AbstractStringBuilder", "isLatin1", "()Z"⟩) := mw 177 rfl
theorem w178 : Wd (.declares ⟨"java/lang/AbstractStringBuilder", "isLatin1", "()Z"⟩) := mw 178 rfl
theorem w179 : Wd (.instanceMethod ⟨"java/lang/AbstractStringBuilder", "isLatin1", "()Z"⟩) := mw 179 rfl
theorem w180 : Wd (.selects "java/lang/StringBuilder" ⟨"java/lang/AbstractStringBuilder", "isLatin1", "()Z"⟩ ⟨"java/lang/AbstractStringBuilder", "isLatin1", "()Z"⟩) := mw 180 rfl
theorem w181 : Wd (.code ⟨"java/lang/AbstractStringBuilder", "isLatin1", "()Z"⟩ jdk_68_method_68_code 1 (some .boolean)) := mw 181 rfl
theorem w182 : Wd (.methodLink "java/lang/String" 54 ⟨"java/util/Arrays", "copyOfRange", "([BII)[B"⟩) := mw 182 rfl
theorem w183 : Wd (.static ⟨"java/util/Arrays", "copyOfRange", "([BII)[B"⟩) := mw 183 rfl
theorem w184 : Wd (.initialized "java/util/Arrays") := mw 184 rfl
theorem w185 : Wd (.code ⟨"java/util/Arrays", "copyOfRange", "([BII)[B"⟩ jdk_65_method_132_code 3 (some (.array .byte))) := mw 185 rfl
theorem w186 : Wd (.methodLink "java/util/Arrays" 339 ⟨"java/util/Arrays", "copyOfRangeByte", "([BII)[B"⟩) := mw 186 rfl
theorem w187 : Wd (.static ⟨"java/util/Arrays", "copyOfRangeByte", "([BII)[B"⟩) := mw 187 rfl
theorem w188 : Wd (.code ⟨"java/util/Arrays", "copyOfRangeByte", "([BII)[B"⟩ jdk_65_method_133_code 5 (some (.array .byte))) := mw 188 rfl
theorem w189 : Wd (.methodLink "java/util/Arrays" 343 ⟨"java/util/Arrays", "checkLength", "(II)V"⟩) := mw 189 rfl
theorem w190 : Wd (.static ⟨"java/util/Arrays", "checkLength", "(II)V"⟩) := mw 190 rfl
theorem w191 : Wd (.code ⟨"java/util/Arrays", "checkLength", "(II)V"⟩ jdk_65_method_131_code 2 none) := mw 191 rfl
theorem w192 : Wd (.methodLink "java/util/Arrays" 304 ⟨"java/lang/Math", "min", "(II)I"⟩) := mw 192 rfl
theorem w193 : Wd (.static ⟨"java/lang/Math", "min", "(II)I"⟩) := mw 193 rfl
theorem w194 : Wd (.initialized "java/lang/Math") := mw 194 rfl
theorem w195 : Wd (.code ⟨"java/lang/Math", "min", "(II)I"⟩ jdk_29_method_69_code 2 (some .int)) := mw 195 rfl
theorem w196 : Wd (.methodLink "java/util/Arrays" 150 ⟨"java/lang/System", "arraycopy", "(Ljava/lang/Object;ILjava/lang/Object;II)V"⟩) := mw 196 rfl
theorem w197 : Wd (.methodLink "com/example/parkville/parkville/QueryExceptionReportPinLaw" 34 ⟨"java/lang/String", "length", "()I"⟩) := mw 197 rfl
theorem w198 : Wd (.methodLink "com/example/parkville/parkville/QueryExceptionReportPinLaw" 38 ⟨"com/example/parkville/parkville/QueryExceptionReportPinLaw", "chk8", "(Ljava/lang/String;IIIICCC)Z"⟩) := mw 198 rfl
theorem w199 : Wd (.static ⟨"com/example/parkville/parkville/QueryExceptionReportPinLaw", "chk8", "(Ljava/lang/String;IIIICCC)Z"⟩) := mw 199 rfl
theorem w200 : Wd (.initialized "com/example/parkville/parkville/QueryExceptionReportPinLaw") := mw 200 rfl
theorem w201 : Wd (.code ⟨"com/example/parkville/parkville/QueryExceptionReportPinLaw", "chk8", "(Ljava/lang/String;IIIICCC)Z"⟩ method_3_code 8 (some .boolean)) := mw 201 rfl
theorem w202 : Wd (.methodLink "com/example/parkville/parkville/QueryExceptionReportPinLaw" 42 ⟨"com/example/parkville/parkville/QueryExceptionReportPinLaw", "at", "(Ljava/lang/String;IIIICCC)Z"⟩) := mw 202 rfl
theorem w203 : Wd (.static ⟨"com/example/parkville/parkville/QueryExceptionReportPinLaw", "at", "(Ljava/lang/String;IIIICCC)Z"⟩) := mw 203 rfl
theorem w204 : Wd (.code ⟨"com/example/parkville/parkville/QueryExceptionReportPinLaw", "at", "(Ljava/lang/String;IIIICCC)Z"⟩ method_4_code 8 (some .boolean)) := mw 204 rfl
theorem w205 : Wd (.methodLink "com/example/parkville/parkville/QueryExceptionReportPinLaw" 45 ⟨"java/lang/String", "charAt", "(I)C"⟩) := mw 205 rfl
theorem w206 : Wd (.declares ⟨"java/lang/String", "charAt", "(I)C"⟩) := mw 206 rfl
theorem w207 : Wd (.instanceMethod ⟨"java/lang/String", "charAt", "(I)C"⟩) := mw 207 rfl
theorem w208 : Wd (.selects "java/lang/String" ⟨"java/lang/String", "charAt", "(I)C"⟩ ⟨"java/lang/String", "charAt", "(I)C"⟩) := mw 208 rfl
theorem w217 : Wd (.initialized "java/lang/StringLatin1") := mw 217 rfl
theorem w227 : Wd (.methodLink "com/example/parkville/parkville/QueryExceptionReportPinLaw" 49 ⟨"com/example/parkville/parkville/QueryExceptionReportPinLaw", "exp", "(IIICCC)C"⟩) := mw 227 rfl
theorem w228 : Wd (.static ⟨"com/example/parkville/parkville/QueryExceptionReportPinLaw", "exp", "(IIICCC)C"⟩) := mw 228 rfl
theorem w229 : Wd (.code ⟨"com/example/parkville/parkville/QueryExceptionReportPinLaw", "exp", "(IIICCC)C"⟩ method_5_code 7 (some .char)) := mw 229 rfl
theorem w230 : Wd (.stringLink "com/example/parkville/parkville/QueryExceptionReportPinLaw" 62 "query error: ") := mw 230 rfl
theorem w231 : Wd (.methodLink "com/example/parkville/parkville/QueryExceptionReportPinLaw" 10 ⟨"java/lang/String", "valueOf", "(C)Ljava/lang/String;"⟩) := mw 231 rfl
theorem w232 : Wd (.static ⟨"java/lang/String", "valueOf", "(C)Ljava/lang/String;"⟩) := mw 232 rfl
theorem w233 : Wd (.code ⟨"java/lang/String", "valueOf", "(C)Ljava/lang/String;"⟩ jdk_42_method_139_code 1 (some (.object "java/lang/String"))) := mw 233 rfl
theorem w234 : Wd (.methodLink "java/lang/String" 1015 ⟨"java/lang/StringLatin1", "canEncode", "(C)Z"⟩) := mw 234 rfl
theorem w235 : Wd (.static ⟨"java/lang/StringLatin1", "canEncode", "(C)Z"⟩) := mw 235 rfl
theorem w236 : Wd (.code ⟨"java/lang/StringLatin1", "canEncode", "(C)Z"⟩ jdk_43_method_3_code 1 (some .boolean)) := mw 236 rfl
theorem w237 : Wd (.classLink "java/lang/String" 10 "java/lang/String") := mw 237 rfl
theorem w238 : Wd (.methodLink "java/lang/String" 1018 ⟨"java/lang/StringLatin1", "toBytes", "(C)[B"⟩) := mw 238 rfl
theorem w239 : Wd (.static ⟨"java/lang/StringLatin1", "toBytes", "(C)[B"⟩) := mw 239 rfl
theorem w240 : Wd (.code ⟨"java/lang/StringLatin1", "toBytes", "(C)[B"⟩ jdk_43_method_46_code 1 (some (.array .byte))) := mw 240 rfl
theorem w241 : Wd (.methodLink "java/lang/String" 209 ⟨"java/lang/String", "<init>", "([BB)V"⟩) := mw 241 rfl
theorem w242 : Wd (.instanceMethod ⟨"java/lang/String", "<init>", "([BB)V"⟩) := mw 242 rfl
theorem w243 : Wd (.code ⟨"java/lang/String", "<init>", "([BB)V"⟩ jdk_42_method_151_code 3 none) := mw 243 rfl
theorem w244 : Wd (.methodLink "com/example/parkville/parkville/QueryExceptionReportPinLaw" 58 ⟨"com/example/parkville/parkville/QueryExceptionReportPinLaw", "rc", "(ICCC)C"⟩) := mw 244 rfl
theorem w245 : Wd (.static ⟨"com/example/parkville/parkville/QueryExceptionReportPinLaw", "rc", "(ICCC)C"⟩) := mw 245 rfl
theorem w246 : Wd (.code ⟨"com/example/parkville/parkville/QueryExceptionReportPinLaw", "rc", "(ICCC)C"⟩ method_6_code 4 (some .char)) := mw 246 rfl
theorem w247 : Wd (.stringLink "com/example/parkville/parkville/QueryException" 7 "at position ") := mw 247 rfl
theorem w248 : Wd (.methodLink "com/example/parkville/parkville/QueryException" 13 ⟨"java/lang/StringBuilder", "append", "(I)Ljava/lang/StringBuilder;"⟩) := mw 248 rfl
theorem w249 : Wd (.declares ⟨"java/lang/StringBuilder", "append", "(I)Ljava/lang/StringBuilder;"⟩) := mw 249 rfl
theorem w250 : Wd (.instanceMethod ⟨"java/lang/StringBuilder", "append", "(I)Ljava/lang/StringBuilder;"⟩) := mw 250 rfl
theorem w251 : Wd (.selects "java/lang/StringBuilder" ⟨"java/lang/StringBuilder", "append", "(I)Ljava/lang/StringBuilder;"⟩ ⟨"java/lang/StringBuilder", "append", "(I)Ljava/lang/StringBuilder;"⟩) := mw 251 rfl
theorem w252 : Wd (.code ⟨"java/lang/StringBuilder", "append", "(I)Ljava/lang/StringBuilder;"⟩ jdk_67_method_15_code 2 (some (.object "java/lang/StringBuilder"))) := mw 252 rfl
theorem w253 : Wd (.methodLink "java/lang/StringBuilder" 53 ⟨"java/lang/AbstractStringBuilder", "append", "(I)Ljava/lang/AbstractStringBuilder;"⟩) := mw 253 rfl
theorem w254 : Wd (.instanceMethod ⟨"java/lang/AbstractStringBuilder", "append", "(I)Ljava/lang/AbstractStringBuilder;"⟩) := mw 254 rfl
theorem w256 : Wd (.code ⟨"java/lang/AbstractStringBuilder", "append", "(I)Ljava/lang/AbstractStringBuilder;"⟩ jdk_68_method_32_code 4 (some (.object "java/lang/AbstractStringBuilder"))) := mw 256 rfl
theorem w257 : Wd (.methodLink "java/lang/AbstractStringBuilder" 245 ⟨"java/lang/Integer", "stringSize", "(I)I"⟩) := mw 257 rfl
theorem w258 : Wd (.static ⟨"java/lang/Integer", "stringSize", "(I)I"⟩) := mw 258 rfl
theorem w259 : Wd (.initialized "java/lang/Integer") := mw 259 rfl
theorem w260 : Wd (.code ⟨"java/lang/Integer", "stringSize", "(I)I"⟩ jdk_33_method_13_code 4 (some .int)) := mw 260 rfl
theorem w261 : Wd (.methodLink "java/lang/AbstractStringBuilder" 83 ⟨"java/lang/AbstractStringBuilder", "isLatin1", "()Z"⟩) := mw 261 rfl
theorem w262 : Wd (.methodLink "java/lang/AbstractStringBuilder" 248 ⟨"java/lang/Integer", "getChars", "(II[B)I"⟩) := mw 262 rfl
theorem w263 : Wd (.static ⟨"java/lang/Integer", "getChars", "(II[B)I"⟩) := mw 263 rfl
theorem w264 : Wd (.code ⟨"java/lang/Integer", "getChars", "(II[B)I"⟩ jdk_33_method_12_code 7 (some .int)) := mw 264 rfl
theorem w265 : Wd (.fieldLink "java/lang/Integer" 83 "java/lang/Integer" "DigitOnes" "[B") := mw 265 rfl
theorem w266 : Wd (.fieldLink "java/lang/Integer" 87 "java/lang/Integer" "DigitTens" "[B") := mw 266 rfl
theorem w267 : Wd (.methodLink "java/lang/AbstractStringBuilder" 104 ⟨"java/lang/AbstractStringBuilder", "newCapacity", "(I)I"⟩) := mw 267 rfl
theorem w268 : Wd (.instanceMethod ⟨"java/lang/AbstractStringBuilder", "newCapacity", "(I)I"⟩) := mw 268 rfl
theorem w269 : Wd (.privateMethod ⟨"java/lang/AbstractStringBuilder", "newCapacity", "(I)I"⟩) := mw 269 rfl
theorem w270 : Wd (.selects "java/lang/StringBuilder" ⟨"java/lang/AbstractStringBuilder", "newCapacity", "(I)I"⟩ ⟨"java/lang/AbstractStringBuilder", "newCapacity", "(I)I"⟩) := mw 270 rfl
theorem w271 : Wd (.code ⟨"java/lang/AbstractStringBuilder", "newCapacity", "(I)I"⟩ jdk_68_method_10_code 6 (some .int)) := mw 271 rfl
theorem w272 : Wd (.methodLink "java/lang/AbstractStringBuilder" 114 ⟨"jdk/internal/util/ArraysSupport", "newLength", "(III)I"⟩) := mw 272 rfl
theorem w273 : Wd (.static ⟨"jdk/internal/util/ArraysSupport", "newLength", "(III)I"⟩) := mw 273 rfl
theorem w274 : Wd (.initialized "jdk/internal/util/ArraysSupport") := mw 274 rfl
theorem w275 : Wd (.code ⟨"jdk/internal/util/ArraysSupport", "newLength", "(III)I"⟩ jdk_48_method_27_code 4 (some .int)) := mw 275 rfl
theorem w276 : Wd (.methodLink "jdk/internal/util/ArraysSupport" 194 ⟨"java/lang/Math", "max", "(II)I"⟩) := mw 276 rfl
theorem w277 : Wd (.static ⟨"java/lang/Math", "max", "(II)I"⟩) := mw 277 rfl
theorem w278 : Wd (.code ⟨"java/lang/Math", "max", "(II)I"⟩ jdk_29_method_65_code 2 (some .int)) := mw 278 rfl
theorem w279 : Wd (.constant "jdk/internal/util/ArraysSupport" 200 (2147483639 : Int32)) := mw 279 rfl
theorem w280 : Wd (.constant "java/lang/AbstractStringBuilder" 39 (2147483647 : Int32)) := mw 280 rfl
theorem w281 : Wd (.methodLink "java/lang/AbstractStringBuilder" 108 ⟨"java/util/Arrays", "copyOf", "([BI)[B"⟩) := mw 281 rfl
theorem w282 : Wd (.static ⟨"java/util/Arrays", "copyOf", "([BI)[B"⟩) := mw 282 rfl
theorem w283 : Wd (.code ⟨"java/util/Arrays", "copyOf", "([BI)[B"⟩ jdk_65_method_121_code 3 (some (.array .byte))) := mw 283 rfl
theorem w284 : Wd (.stringLink "com/example/parkville/parkville/QueryException" 39 " ") := mw 284 rfl
theorem w285 : Wd (.methodLink "com/example/parkville/parkville/QueryExceptionReportPinLaw" 28 ⟨"com/example/parkville/parkville/QueryExceptionReportPinLaw", "digits", "(I)I"⟩) := mw 285 rfl
theorem w286 : Wd (.static ⟨"com/example/parkville/parkville/QueryExceptionReportPinLaw", "digits", "(I)I"⟩) := mw 286 rfl
theorem w287 : Wd (.code ⟨"com/example/parkville/parkville/QueryExceptionReportPinLaw", "digits", "(I)I"⟩ method_7_code 1 (some .int)) := mw 287 rfl
theorem w288 : Wd (.stringLink "com/example/parkville/parkville/QueryExceptionReportPinLaw" 53 "query error at position ") := mw 288 rfl
theorem w289 : Wd (.methodLink "com/example/parkville/parkville/QueryExceptionReportPinLaw" 55 ⟨"com/example/parkville/parkville/QueryExceptionReportPinLaw", "pow10", "(I)I"⟩) := mw 289 rfl
theorem w290 : Wd (.static ⟨"com/example/parkville/parkville/QueryExceptionReportPinLaw", "pow10", "(I)I"⟩) := mw 290 rfl
theorem w291 : Wd (.code ⟨"com/example/parkville/parkville/QueryExceptionReportPinLaw", "pow10", "(I)I"⟩ method_8_code 2 (some .int)) := mw 291 rfl
theorem w292 : Wd (.arrayClass .int) := mw 292 rfl
theorem w293 : Wd (.constant "com/example/parkville/parkville/QueryExceptionReportPinLaw" 64 (100000 : Int32)) := mw 293 rfl
theorem w294 : Wd (.constant "com/example/parkville/parkville/QueryExceptionReportPinLaw" 65 (1000000 : Int32)) := mw 294 rfl
theorem w295 : Wd (.constant "com/example/parkville/parkville/QueryExceptionReportPinLaw" 66 (10000000 : Int32)) := mw 295 rfl
theorem w296 : Wd (.constant "com/example/parkville/parkville/QueryExceptionReportPinLaw" 67 (100000000 : Int32)) := mw 296 rfl
theorem w297 : Wd (.constant "com/example/parkville/parkville/QueryExceptionReportPinLaw" 68 (1000000000 : Int32)) := mw 297 rfl
theorem w298 : Wd (.classLink "com/example/parkville/parkville/QueryExceptionReportPinLaw" 11 "java/lang/String") := mw 298 rfl
theorem w299 : Wd (.arrayClass .char) := mw 299 rfl
theorem w300 : Wd (.methodLink "com/example/parkville/parkville/QueryExceptionReportPinLaw" 16 ⟨"java/lang/String", "<init>", "([C)V"⟩) := mw 300 rfl
theorem w301 : Wd (.instanceMethod ⟨"java/lang/String", "<init>", "([C)V"⟩) := mw 301 rfl
theorem w302 : Wd (.code ⟨"java/lang/String", "<init>", "([C)V"⟩ jdk_42_method_3_code 2 none) := mw 302 rfl
theorem w316 : Wd (.methodLink "java/util/Arrays" 310 ⟨"[B", "clone", "()Ljava/lang/Object;"⟩) := mw 316 rfl
theorem w317 : Wd (.sameMethod "[B" "java/lang/Object" "clone" "()Ljava/lang/Object;") := mw 317 rfl
theorem w319 : Wd (.instanceMethod ⟨"java/lang/Object", "clone", "()Ljava/lang/Object;"⟩) := mw 319 rfl
theorem w320 : Wd (.selects "[B" ⟨"[B", "clone", "()Ljava/lang/Object;"⟩ ⟨"java/lang/Object", "clone", "()Ljava/lang/Object;"⟩) := mw 320 rfl
theorem w321 : Wd (.native ⟨"java/lang/Object", "clone", "()Ljava/lang/Object;"⟩) := mw 321 rfl
theorem w322 : Wd (.castable "[B" "java/lang/Cloneable") := mw 322 rfl
theorem w323 : Wd (.classLink "java/util/Arrays" 311 "[B") := mw 323 rfl
theorem d43_3_0 : Dq K0 0 (.iload_n 0) 1 := by decide +kernel
theorem d43_3_1 : Dq K0 1 (.sipush 255) 3 := by decide +kernel
theorem d43_3_4 : Dq K0 4 (.if_icmp .gt 7) 3 := by decide +kernel
theorem d43_3_7 : Dq K0 7 (.iconst 1) 1 := by decide +kernel
theorem d43_3_8 : Dq K0 8 (.goto 4) 3 := by decide +kernel
theorem d43_3_12 : Dq K0 12 .ireturn 1 := by decide +kernel
theorem d43_46_0 : Dq K1 0 (.iconst 1) 1 := by decide +kernel
theorem d43_46_1 : Dq K1 1 (.newarray .byte) 2 := by decide +kernel
theorem d43_46_3 : Dq K1 3 .dup 1 := by decide +kernel
theorem d43_46_4 : Dq K1 4 (.iconst 0) 1 := by decide +kernel
theorem d43_46_5 : Dq K1 5 (.iload_n 0) 1 := by decide +kernel
theorem d43_46_6 : Dq K1 6 .i2b 1 := by decide +kernel
theorem d43_46_7 : Dq K1 7 .bastore 1 := by decide +kernel
theorem d43_46_8 : Dq K1 8 .areturn 1 := by decide +kernel
theorem d42_151_0 : Dq K2 0 (.aload_n 0) 1 := by decide +kernel
theorem d42_151_1 : Dq K2 1 (.invokespecial 1) 3 := by decide +kernel
theorem d42_151_4 : Dq K2 4 (.aload_n 0) 1 := by decide +kernel
theorem d42_151_5 : Dq K2 5 (.aload_n 1) 1 := by decide +kernel
theorem d42_151_6 : Dq K2 6 (.putfield 9) 3 := by decide +kernel
theorem d42_151_9 : Dq K2 9 (.aload_n 0) 1 := by decide +kernel
theorem d42_151_10 : Dq K2 10 (.iload_n 2) 1 := by decide +kernel
theorem d42_151_11 : Dq K2 11 (.putfield 15) 3 := by decide +kernel
theorem d42_151_14 : Dq K2 14 .return_ 1 := by decide +kernel
theorem d42_139_0 : Dq K3 0 (.getstatic 38) 3 := by decide +kernel
theorem d42_139_3 : Dq K3 3 (.ifCond .eq 23) 3 := by decide +kernel
theorem d42_139_6 : Dq K3 6 (.iload_n 0) 1 := by decide +kernel
theorem d42_139_7 : Dq K3 7 (.invokestatic 1015) 3 := by decide +kernel
theorem d42_139_10 : Dq K3 10 (.ifCond .eq 16) 3 := by decide +kernel
theorem d42_139_13 : Dq K3 13 (.new 10) 3 := by decide +kernel
theorem d42_139_16 : Dq K3 16 .dup 1 := by decide +kernel
theorem d42_139_17 : Dq K3 17 (.iload_n 0) 1 := by decide +kernel
theorem d42_139_18 : Dq K3 18 (.invokestatic 1018) 3 := by decide +kernel
theorem d42_139_21 : Dq K3 21 (.iconst 0) 1 := by decide +kernel
theorem d42_139_22 : Dq K3 22 (.invokespecial 209) 3 := by decide +kernel
theorem d42_139_25 : Dq K3 25 .areturn 1 := by decide +kernel
theorem d42_152_0 : Dq K4 0 (.getstatic 38) 3 := by decide +kernel
theorem d42_152_3 : Dq K4 3 (.ifCond .eq 10) 3 := by decide +kernel
theorem d42_152_6 : Dq K4 6 (.aload_n 0) 1 := by decide +kernel
theorem d42_152_7 : Dq K4 7 (.getfield 15) 3 := by decide +kernel
theorem d42_152_10 : Dq K4 10 (.goto 4) 3 := by decide +kernel
theorem d42_152_14 : Dq K4 14 .ireturn 1 := by decide +kernel
theorem d29_69_0 : Dq K5 0 (.iload_n 0) 1 := by decide +kernel
theorem d29_69_1 : Dq K5 1 (.iload_n 1) 1 := by decide +kernel
theorem d29_69_2 : Dq K5 2 (.if_icmp .gt 7) 3 := by decide +kernel
theorem d29_69_9 : Dq K5 9 (.iload_n 1) 1 := by decide +kernel
theorem d29_69_10 : Dq K5 10 .ireturn 1 := by decide +kernel
theorem d29_69_5 : Dq K5 5 (.iload_n 0) 1 := by decide +kernel
theorem d29_69_6 : Dq K5 6 (.goto 4) 3 := by decide +kernel
theorem d29_65_0 : Dq K6 0 (.iload_n 0) 1 := by decide +kernel
theorem d29_65_1 : Dq K6 1 (.iload_n 1) 1 := by decide +kernel
theorem d29_65_2 : Dq K6 2 (.if_icmp .lt 7) 3 := by decide +kernel
theorem d29_65_9 : Dq K6 9 (.iload_n 1) 1 := by decide +kernel
theorem d29_65_10 : Dq K6 10 .ireturn 1 := by decide +kernel
theorem d29_65_5 : Dq K6 5 (.iload_n 0) 1 := by decide +kernel
theorem d29_65_6 : Dq K6 6 (.goto 4) 3 := by decide +kernel
theorem d65_131_0 : Dq K7 0 (.iload_n 1) 1 := by decide +kernel
theorem d65_131_1 : Dq K7 1 (.iload_n 0) 1 := by decide +kernel
theorem d65_131_2 : Dq K7 2 (.if_icmp .ge 35) 3 := by decide +kernel
theorem d65_131_37 : Dq K7 37 .return_ 1 := by decide +kernel
theorem d65_133_0 : Dq K8 0 (.iload_n 1) 1 := by decide +kernel
theorem d65_133_1 : Dq K8 1 (.iload_n 2) 1 := by decide +kernel
theorem d65_133_2 : Dq K8 2 (.invokestatic 343) 3 := by decide +kernel
theorem d65_133_5 : Dq K8 5 (.iload_n 2) 1 := by decide +kernel
theorem d65_133_6 : Dq K8 6 (.iload_n 1) 1 := by decide +kernel
theorem d65_133_7 : Dq K8 7 .isub 1 := by decide +kernel
theorem d65_133_8 : Dq K8 8 (.istore_n 3) 1 := by decide +kernel
theorem d65_133_9 : Dq K8 9 (.iload_n 3) 1 := by decide +kernel
theorem d65_133_10 : Dq K8 10 (.newarray .byte) 2 := by decide +kernel
theorem d65_133_12 : Dq K8 12 (.astore 4) 2 := by decide +kernel
theorem d65_133_14 : Dq K8 14 (.aload_n 0) 1 := by decide +kernel
theorem d65_133_15 : Dq K8 15 (.iload_n 1) 1 := by decide +kernel
theorem d65_133_16 : Dq K8 16 (.aload 4) 2 := by decide +kernel
theorem d65_133_18 : Dq K8 18 (.iconst 0) 1 := by decide +kernel
theorem d65_133_19 : Dq K8 19 (.aload_n 0) 1 := by decide +kernel
theorem d65_133_20 : Dq K8 20 .arraylength 1 := by decide +kernel
theorem d65_133_21 : Dq K8 21 (.iload_n 1) 1 := by decide +kernel
theorem d65_133_22 : Dq K8 22 .isub 1 := by decide +kernel
theorem d65_133_23 : Dq K8 23 (.iload_n 3) 1 := by decide +kernel
theorem d65_133_24 : Dq K8 24 (.invokestatic 304) 3 := by decide +kernel
theorem d65_133_27 : Dq K8 27 (.invokestatic 150) 3 := by decide +kernel
theorem d65_133_30 : Dq K8 30 (.aload 4) 2 := by decide +kernel
theorem d65_133_32 : Dq K8 32 .areturn 1 := by decide +kernel
theorem d65_132_0 : Dq K9 0 (.iload_n 1) 1 := by decide +kernel
theorem d65_132_1 : Dq K9 1 (.ifCond .ne 9) 3 := by decide +kernel
theorem d65_132_4 : Dq K9 4 (.iload_n 2) 1 := by decide +kernel
theorem d65_132_5 : Dq K9 5 (.aload_n 0) 1 := by decide +kernel
theorem d65_132_6 : Dq K9 6 .arraylength 1 := by decide +kernel
theorem d65_132_7 : Dq K9 7 (.if_icmp .eq 10) 3 := by decide +kernel
theorem d65_132_10 : Dq K9 10 (.aload_n 0) 1 := by decide +kernel
theorem d65_132_11 : Dq K9 11 (.iload_n 1) 1 := by decide +kernel
theorem d65_132_12 : Dq K9 12 (.iload_n 2) 1 := by decide +kernel
theorem d65_132_13 : Dq K9 13 (.invokestatic 339) 3 := by decide +kernel
theorem d65_132_16 : Dq K9 16 .areturn 1 := by decide +kernel
theorem d65_132_17 : Dq K9 17 (.aload_n 0) 1 := by decide +kernel
theorem d65_132_18 : Dq K9 18 (.invokevirtual 310) 3 := by decide +kernel
theorem d65_132_21 : Dq K9 21 (.checkcast 311) 3 := by decide +kernel
theorem d65_132_24 : Dq K9 24 .areturn 1 := by decide +kernel
theorem d65_121_0 : Dq K10 0 (.iload_n 1) 1 := by decide +kernel
theorem d65_121_1 : Dq K10 1 (.aload_n 0) 1 := by decide +kernel
theorem d65_121_2 : Dq K10 2 .arraylength 1 := by decide +kernel
theorem d65_121_3 : Dq K10 3 (.if_icmp .ne 11) 3 := by decide +kernel
theorem d65_121_14 : Dq K10 14 (.iload_n 1) 1 := by decide +kernel
theorem d65_121_15 : Dq K10 15 (.newarray .byte) 2 := by decide +kernel
theorem d65_121_17 : Dq K10 17 (.astore_n 2) 1 := by decide +kernel
theorem d65_121_18 : Dq K10 18 (.aload_n 0) 1 := by decide +kernel
theorem d65_121_19 : Dq K10 19 (.iconst 0) 1 := by decide +kernel
theorem d65_121_20 : Dq K10 20 (.aload_n 2) 1 := by decide +kernel
theorem d65_121_21 : Dq K10 21 (.iconst 0) 1 := by decide +kernel
theorem d65_121_22 : Dq K10 22 (.aload_n 0) 1 := by decide +kernel
theorem d65_121_23 : Dq K10 23 .arraylength 1 := by decide +kernel
theorem d65_121_24 : Dq K10 24 (.iload_n 1) 1 := by decide +kernel
theorem d65_121_25 : Dq K10 25 (.invokestatic 304) 3 := by decide +kernel
theorem d65_121_28 : Dq K10 28 (.invokestatic 150) 3 := by decide +kernel
theorem d65_121_31 : Dq K10 31 (.aload_n 2) 1 := by decide +kernel
theorem d65_121_32 : Dq K10 32 .areturn 1 := by decide +kernel
theorem d48_27_0 : Dq K11 0 (.iload_n 0) 1 := by decide +kernel
theorem d48_27_1 : Dq K11 1 (.iload_n 1) 1 := by decide +kernel
theorem d48_27_2 : Dq K11 2 (.iload_n 2) 1 := by decide +kernel
theorem d48_27_3 : Dq K11 3 (.invokestatic 194) 3 := by decide +kernel
theorem d48_27_6 : Dq K11 6 .iadd 1 := by decide +kernel
theorem d48_27_7 : Dq K11 7 (.istore_n 3) 1 := by decide +kernel
theorem d48_27_8 : Dq K11 8 (.iconst 0) 1 := by decide +kernel
theorem d48_27_9 : Dq K11 9 (.iload_n 3) 1 := by decide +kernel
theorem d48_27_10 : Dq K11 10 (.if_icmp .ge 11) 3 := by decide +kernel
theorem d48_27_13 : Dq K11 13 (.iload_n 3) 1 := by decide +kernel
theorem d48_27_14 : Dq K11 14 (.ldc 200) 2 := by decide +kernel
theorem d48_27_16 : Dq K11 16 (.if_icmp .gt 5) 3 := by decide +kernel
theorem d48_27_19 : Dq K11 19 (.iload_n 3) 1 := by decide +kernel
theorem d48_27_20 : Dq K11 20 .ireturn 1 := by decide +kernel
theorem d68_10_0 : Dq K12 0 (.aload_n 0) 1 := by decide +kernel
theorem d68_10_1 : Dq K12 1 (.getfield 15) 3 := by decide +kernel
theorem d68_10_4 : Dq K12 4 .arraylength 1 := by decide +kernel
theorem d68_10_5 : Dq K12 5 (.istore_n 2) 1 := by decide +kernel
theorem d68_10_6 : Dq K12 6 (.iload_n 1) 1 := by decide +kernel
theorem d68_10_7 : Dq K12 7 (.aload_n 0) 1 := by decide +kernel
theorem d68_10_8 : Dq K12 8 (.getfield 22) 3 := by decide +kernel
theorem d68_10_11 : Dq K12 11 .ishl 1 := by decide +kernel
theorem d68_10_12 : Dq K12 12 (.istore_n 3) 1 := by decide +kernel
theorem d68_10_13 : Dq K12 13 (.iload_n 3) 1 := by decide +kernel
theorem d68_10_14 : Dq K12 14 (.iload_n 2) 1 := by decide +kernel
theorem d68_10_15 : Dq K12 15 .isub 1 := by decide +kernel
theorem d68_10_16 : Dq K12 16 (.istore 4) 2 := by decide +kernel
theorem d68_10_18 : Dq K12 18 (.iload_n 2) 1 := by decide +kernel
theorem d68_10_19 : Dq K12 19 (.iload 4) 2 := by decide +kernel
theorem d68_10_21 : Dq K12 21 (.iload_n 2) 1 := by decide +kernel
theorem d68_10_22 : Dq K12 22 (.iconst 2) 1 := by decide +kernel
theorem d68_10_23 : Dq K12 23 (.aload_n 0) 1 := by decide +kernel
theorem d68_10_24 : Dq K12 24 (.getfield 22) 3 := by decide +kernel
theorem d68_10_27 : Dq K12 27 .ishl 1 := by decide +kernel
theorem d68_10_28 : Dq K12 28 .iadd 1 := by decide +kernel
theorem d68_10_29 : Dq K12 29 (.invokestatic 114) 3 := by decide +kernel
theorem d68_10_32 : Dq K12 32 (.istore 5) 2 := by decide +kernel
theorem d68_10_34 : Dq K12 34 (.iload 5) 2 := by decide +kernel
theorem d68_10_36 : Dq K12 36 (.ldc 39) 2 := by decide +kernel
theorem d68_10_38 : Dq K12 38 (.if_icmp .ne 13) 3 := by decide +kernel
theorem d68_10_51 : Dq K12 51 (.iload 5) 2 := by decide +kernel
theorem d68_10_53 : Dq K12 53 (.aload_n 0) 1 := by decide +kernel
theorem d68_10_54 : Dq K12 54 (.getfield 22) 3 := by decide +kernel
theorem d68_10_57 : Dq K12 57 .ishr 1 := by decide +kernel
theorem d68_10_58 : Dq K12 58 .ireturn 1 := by decide +kernel
theorem d68_9_0 : Dq K13 0 (.aload_n 0) 1 := by decide +kernel
theorem d68_9_1 : Dq K13 1 (.getfield 15) 3 := by decide +kernel
theorem d68_9_4 : Dq K13 4 .arraylength 1 := by decide +kernel
theorem d68_9_5 : Dq K13 5 (.aload_n 0) 1 := by decide +kernel
theorem d68_9_6 : Dq K13 6 (.getfield 22) 3 := by decide +kernel
theorem d68_9_9 : Dq K13 9 .ishr 1 := by decide +kernel
theorem d68_9_10 : Dq K13 10 (.istore_n 2) 1 := by decide +kernel
theorem d68_9_11 : Dq K13 11 (.iload_n 1) 1 := by decide +kernel
theorem d68_9_12 : Dq K13 12 (.iload_n 2) 1 := by decide +kernel
theorem d68_9_13 : Dq K13 13 .isub 1 := by decide +kernel
theorem d68_9_14 : Dq K13 14 (.ifCond .le 24) 3 := by decide +kernel
theorem d68_9_38 : Dq K13 38 .return_ 1 := by decide +kernel
theorem d68_9_17 : Dq K13 17 (.aload_n 0) 1 := by decide +kernel
theorem d68_9_18 : Dq K13 18 (.aload_n 0) 1 := by decide +kernel
theorem d68_9_19 : Dq K13 19 (.getfield 15) 3 := by decide +kernel
theorem d68_9_22 : Dq K13 22 (.aload_n 0) 1 := by decide +kernel
theorem d68_9_23 : Dq K13 23 (.iload_n 1) 1 := by decide +kernel
theorem d68_9_24 : Dq K13 24 (.invokevirtual 104) 3 := by decide +kernel
theorem d68_9_27 : Dq K13 27 (.aload_n 0) 1 := by decide +kernel
theorem d68_9_28 : Dq K13 28 (.getfield 22) 3 := by decide +kernel
theorem d68_9_31 : Dq K13 31 .ishl 1 := by decide +kernel
theorem d68_9_32 : Dq K13 32 (.invokestatic 108) 3 := by decide +kernel
theorem d68_9_35 : Dq K13 35 (.putfield 15) 3 := by decide +kernel
theorem d68_68_0 : Dq K14 0 (.getstatic 18) 3 := by decide +kernel
theorem d68_68_3 : Dq K14 3 (.ifCond .eq 14) 3 := by decide +kernel
theorem d68_68_6 : Dq K14 6 (.aload_n 0) 1 := by decide +kernel
theorem d68_68_7 : Dq K14 7 (.getfield 22) 3 := by decide +kernel
theorem d68_68_10 : Dq K14 10 (.ifCond .ne 7) 3 := by decide +kernel
theorem d68_68_13 : Dq K14 13 (.iconst 1) 1 := by decide +kernel
theorem d68_68_14 : Dq K14 14 (.goto 4) 3 := by decide +kernel
theorem d68_68_18 : Dq K14 18 .ireturn 1 := by decide +kernel
theorem d68_71_0 : Dq K15 0 (.getstatic 18) 3 := by decide +kernel
theorem d68_71_3 : Dq K15 3 (.ifCond .eq 18) 3 := by decide +kernel
theorem d68_71_6 : Dq K15 6 (.aload_n 0) 1 := by decide +kernel
theorem d68_71_7 : Dq K15 7 (.getfield 22) 3 := by decide +kernel
theorem d68_71_10 : Dq K15 10 (.aload_n 1) 1 := by decide +kernel
theorem d68_71_11 : Dq K15 11 (.invokevirtual 40) 3 := by decide +kernel
theorem d68_71_14 : Dq K15 14 (.if_icmp .eq 7) 3 := by decide +kernel
theorem d68_71_21 : Dq K15 21 .return_ 1 := by decide +kernel
theorem d42_147_0 : Dq K16 0 (.aload_n 0) 1 := by decide +kernel
theorem d42_147_1 : Dq K16 1 (.invokevirtual 335) 3 := by decide +kernel
theorem d42_147_4 : Dq K16 4 (.iload_n 3) 1 := by decide +kernel
theorem d42_147_5 : Dq K16 5 (.if_icmp .ne 23) 3 := by decide +kernel
theorem d42_147_8 : Dq K16 8 (.aload_n 0) 1 := by decide +kernel
theorem d42_147_9 : Dq K16 9 (.getfield 9) 3 := by decide +kernel
theorem d42_147_12 : Dq K16 12 (.iconst 0) 1 := by decide +kernel
theorem d42_147_13 : Dq K16 13 (.aload_n 1) 1 := by decide +kernel
theorem d42_147_14 : Dq K16 14 (.iload_n 2) 1 := by decide +kernel
theorem d42_147_15 : Dq K16 15 (.iload_n 3) 1 := by decide +kernel
theorem d42_147_16 : Dq K16 16 .ishl 1 := by decide +kernel
theorem d42_147_17 : Dq K16 17 (.aload_n 0) 1 := by decide +kernel
theorem d42_147_18 : Dq K16 18 (.getfield 9) 3 := by decide +kernel
theorem d42_147_21 : Dq K16 21 .arraylength 1 := by decide +kernel
theorem d42_147_22 : Dq K16 22 (.invokestatic 212) 3 := by decide +kernel
theorem d42_147_25 : Dq K16 25 (.goto 18) 3 := by decide +kernel
theorem d42_147_43 : Dq K16 43 .return_ 1 := by decide +kernel
theorem d68_73_0 : Dq K17 0 (.aload_n 0) 1 := by decide +kernel
theorem d68_73_1 : Dq K17 1 (.aload_n 2) 1 := by decide +kernel
theorem d68_73_2 : Dq K17 2 (.invokevirtual 397) 3 := by decide +kernel
theorem d68_73_5 : Dq K17 5 (.aload_n 2) 1 := by decide +kernel
theorem d68_73_6 : Dq K17 6 (.aload_n 0) 1 := by decide +kernel
theorem d68_73_7 : Dq K17 7 (.getfield 15) 3 := by decide +kernel
theorem d68_73_10 : Dq K17 10 (.iload_n 1) 1 := by decide +kernel
theorem d68_73_11 : Dq K17 11 (.aload_n 0) 1 := by decide +kernel
theorem d68_73_12 : Dq K17 12 (.getfield 22) 3 := by decide +kernel
theorem d68_73_15 : Dq K17 15 (.invokevirtual 399) 3 := by decide +kernel
theorem d68_73_18 : Dq K17 18 .return_ 1 := by decide +kernel
theorem d68_22_0 : Dq K18 0 (.aload_n 1) 1 := by decide +kernel
theorem d68_22_1 : Dq K18 1 (.ifnonnull 8) 3 := by decide +kernel
theorem d68_22_9 : Dq K18 9 (.aload_n 1) 1 := by decide +kernel
theorem d68_22_10 : Dq K18 10 (.invokevirtual 32) 3 := by decide +kernel
theorem d68_22_13 : Dq K18 13 (.istore_n 2) 1 := by decide +kernel
theorem d68_22_14 : Dq K18 14 (.aload_n 0) 1 := by decide +kernel
theorem d68_22_15 : Dq K18 15 (.aload_n 0) 1 := by decide +kernel
theorem d68_22_16 : Dq K18 16 (.getfield 79) 3 := by decide +kernel
theorem d68_22_19 : Dq K18 19 (.iload_n 2) 1 := by decide +kernel
theorem d68_22_20 : Dq K18 20 .iadd 1 := by decide +kernel
theorem d68_22_21 : Dq K18 21 (.invokevirtual 100) 3 := by decide +kernel
theorem d68_22_24 : Dq K18 24 (.aload_n 0) 1 := by decide +kernel
theorem d68_22_25 : Dq K18 25 (.aload_n 0) 1 := by decide +kernel
theorem d68_22_26 : Dq K18 26 (.getfield 79) 3 := by decide +kernel
theorem d68_22_29 : Dq K18 29 (.aload_n 1) 1 := by decide +kernel
theorem d68_22_30 : Dq K18 30 (.invokevirtual 208) 3 := by decide +kernel
theorem d68_22_33 : Dq K18 33 (.aload_n 0) 1 := by decide +kernel
theorem d68_22_34 : Dq K18 34 .dup 1 := by decide +kernel
theorem d68_22_35 : Dq K18 35 (.getfield 79) 3 := by decide +kernel
theorem d68_22_38 : Dq K18 38 (.iload_n 2) 1 := by decide +kernel
theorem d68_22_39 : Dq K18 39 .iadd 1 := by decide +kernel
theorem d68_22_40 : Dq K18 40 (.putfield 79) 3 := by decide +kernel
theorem d68_22_43 : Dq K18 43 (.aload_n 0) 1 := by decide +kernel
theorem d68_22_44 : Dq K18 44 .areturn 1 := by decide +kernel
theorem d67_7_0 : Dq K19 0 (.aload_n 0) 1 := by decide +kernel
theorem d67_7_1 : Dq K19 1 (.aload_n 1) 1 := by decide +kernel
theorem d67_7_2 : Dq K19 2 (.invokespecial 29) 3 := by decide +kernel
theorem d67_7_5 : Dq K19 5 .pop 1 := by decide +kernel
theorem d67_7_6 : Dq K19 6 (.aload_n 0) 1 := by decide +kernel
theorem d67_7_7 : Dq K19 7 .areturn 1 := by decide +kernel
theorem d33_13_0 : Dq K20 0 (.iconst 1) 1 := by decide +kernel
theorem d33_13_1 : Dq K20 1 (.istore_n 1) 1 := by decide +kernel
theorem d33_13_2 : Dq K20 2 (.iload_n 0) 1 := by decide +kernel
theorem d33_13_3 : Dq K20 3 (.ifCond .lt 8) 3 := by decide +kernel
theorem d33_13_6 : Dq K20 6 (.iconst 0) 1 := by decide +kernel
theorem d33_13_7 : Dq K20 7 (.istore_n 1) 1 := by decide +kernel
theorem d33_13_8 : Dq K20 8 (.iload_n 0) 1 := by decide +kernel
theorem d33_13_9 : Dq K20 9 .ineg 1 := by decide +kernel
theorem d33_13_10 : Dq K20 10 (.istore_n 0) 1 := by decide +kernel
theorem d33_13_11 : Dq K20 11 (.bipush (-10)) 2 := by decide +kernel
theorem d33_13_13 : Dq K20 13 (.istore_n 2) 1 := by decide +kernel
theorem d33_13_14 : Dq K20 14 (.iconst 1) 1 := by decide +kernel
theorem d33_13_15 : Dq K20 15 (.istore_n 3) 1 := by decide +kernel
theorem d33_13_16 : Dq K20 16 (.iload_n 3) 1 := by decide +kernel
theorem d33_13_17 : Dq K20 17 (.bipush 10) 2 := by decide +kernel
theorem d33_13_19 : Dq K20 19 (.if_icmp .ge 23) 3 := by decide +kernel
theorem d33_13_22 : Dq K20 22 (.iload_n 0) 1 := by decide +kernel
theorem d33_13_23 : Dq K20 23 (.iload_n 2) 1 := by decide +kernel
theorem d33_13_24 : Dq K20 24 (.if_icmp .le 7) 3 := by decide +kernel
theorem d33_13_27 : Dq K20 27 (.iload_n 3) 1 := by decide +kernel
theorem d33_13_28 : Dq K20 28 (.iload_n 1) 1 := by decide +kernel
theorem d33_13_29 : Dq K20 29 .iadd 1 := by decide +kernel
theorem d33_13_30 : Dq K20 30 .ireturn 1 := by decide +kernel
theorem d33_13_31 : Dq K20 31 (.bipush 10) 2 := by decide +kernel
theorem d33_13_33 : Dq K20 33 (.iload_n 2) 1 := by decide +kernel
theorem d33_13_34 : Dq K20 34 .imul 1 := by decide +kernel
theorem d33_13_35 : Dq K20 35 (.istore_n 2) 1 := by decide +kernel
theorem d33_13_36 : Dq K20 36 (.iinc 3 1) 3 := by decide +kernel
theorem d33_13_39 : Dq K20 39 (.goto (-23)) 3 := by decide +kernel
theorem d33_13_42 : Dq K20 42 (.bipush 10) 2 := by decide +kernel
theorem d33_13_44 : Dq K20 44 (.iload_n 1) 1 := by decide +kernel
theorem d33_13_45 : Dq K20 45 .iadd 1 := by decide +kernel
theorem d33_13_46 : Dq K20 46 .ireturn 1 := by decide +kernel
theorem d33_12_0 : Dq K21 0 (.iload_n 1) 1 := by decide +kernel
theorem d33_12_1 : Dq K21 1 (.istore 5) 2 := by decide +kernel
theorem d33_12_3 : Dq K21 3 (.iload_n 0) 1 := by decide +kernel
theorem d33_12_4 : Dq K21 4 (.ifCond .ge 7) 3 := by decide +kernel
theorem d33_12_11 : Dq K21 11 (.iconst 0) 1 := by decide +kernel
theorem d33_12_12 : Dq K21 12 (.istore 6) 2 := by decide +kernel
theorem d33_12_14 : Dq K21 14 (.iload 6) 2 := by decide +kernel
theorem d33_12_16 : Dq K21 16 (.ifCond .ne 6) 3 := by decide +kernel
theorem d33_12_19 : Dq K21 19 (.iload_n 0) 1 := by decide +kernel
theorem d33_12_20 : Dq K21 20 .ineg 1 := by decide +kernel
theorem d33_12_21 : Dq K21 21 (.istore_n 0) 1 := by decide +kernel
theorem d33_12_22 : Dq K21 22 (.iload_n 0) 1 := by decide +kernel
theorem d33_12_23 : Dq K21 23 (.bipush (-100)) 2 := by decide +kernel
theorem d33_12_25 : Dq K21 25 (.if_icmp .gt 47) 3 := by decide +kernel
theorem d33_12_72 : Dq K21 72 (.aload_n 2) 1 := by decide +kernel
theorem d33_12_73 : Dq K21 73 (.iinc 5 (-1)) 3 := by decide +kernel
theorem d33_12_76 : Dq K21 76 (.iload 5) 2 := by decide +kernel
theorem d33_12_78 : Dq K21 78 (.getstatic 83) 3 := by decide +kernel
theorem d33_12_81 : Dq K21 81 (.iload_n 0) 1 := by decide +kernel
theorem d33_12_82 : Dq K21 82 .ineg 1 := by decide +kernel
theorem d33_12_83 : Dq K21 83 .baload 1 := by decide +kernel
theorem d33_12_84 : Dq K21 84 .bastore 1 := by decide +kernel
theorem d33_12_85 : Dq K21 85 (.iload_n 0) 1 := by decide +kernel
theorem d33_12_86 : Dq K21 86 (.bipush (-9)) 2 := by decide +kernel
theorem d33_12_88 : Dq K21 88 (.if_icmp .ge 16) 3 := by decide +kernel
theorem d33_12_104 : Dq K21 104 (.iload 6) 2 := by decide +kernel
theorem d33_12_106 : Dq K21 106 (.ifCond .eq 12) 3 := by decide +kernel
theorem d33_12_118 : Dq K21 118 (.iload 5) 2 := by decide +kernel
theorem d33_12_120 : Dq K21 120 .ireturn 1 := by decide +kernel
theorem d33_12_91 : Dq K21 91 (.aload_n 2) 1 := by decide +kernel
theorem d33_12_92 : Dq K21 92 (.iinc 5 (-1)) 3 := by decide +kernel
theorem d33_12_95 : Dq K21 95 (.iload 5) 2 := by decide +kernel
theorem d33_12_97 : Dq K21 97 (.getstatic 87) 3 := by decide +kernel
theorem d33_12_100 : Dq K21 100 (.iload_n 0) 1 := by decide +kernel
theorem d33_12_101 : Dq K21 101 .ineg 1 := by decide +kernel
theorem d33_12_102 : Dq K21 102 .baload 1 := by decide +kernel
theorem d33_12_103 : Dq K21 103 .bastore 1 := by decide +kernel
theorem d33_12_28 : Dq K21 28 (.iload_n 0) 1 := by decide +kernel
theorem d33_12_29 : Dq K21 29 (.bipush 100) 2 := by decide +kernel
theorem d33_12_31 : Dq K21 31 .idiv 1 := by decide +kernel
theorem d33_12_32 : Dq K21 32 (.istore_n 3) 1 := by decide +kernel
theorem d33_12_33 : Dq K21 33 (.iload_n 3) 1 := by decide +kernel
theorem d33_12_34 : Dq K21 34 (.bipush 100) 2 := by decide +kernel
theorem d33_12_36 : Dq K21 36 .imul 1 := by decide +kernel
theorem d33_12_37 : Dq K21 37 (.iload_n 0) 1 := by decide +kernel
theorem d33_12_38 : Dq K21 38 .isub 1 := by decide +kernel
theorem d33_12_39 : Dq K21 39 (.istore 4) 2 := by decide +kernel
theorem d33_12_41 : Dq K21 41 (.iload_n 3) 1 := by decide +kernel
theorem d33_12_42 : Dq K21 42 (.istore_n 0) 1 := by decide +kernel
theorem d33_12_43 : Dq K21 43 (.aload_n 2) 1 := by decide +kernel
theorem d33_12_44 : Dq K21 44 (.iinc 5 (-1)) 3 := by decide +kernel
theorem d33_12_47 : Dq K21 47 (.iload 5) 2 := by decide +kernel
theorem d33_12_49 : Dq K21 49 (.getstatic 83) 3 := by decide +kernel
theorem d33_12_52 : Dq K21 52 (.iload 4) 2 := by decide +kernel
theorem d33_12_54 : Dq K21 54 .baload 1 := by decide +kernel
theorem d33_12_55 : Dq K21 55 .bastore 1 := by decide +kernel
theorem d33_12_56 : Dq K21 56 (.aload_n 2) 1 := by decide +kernel
theorem d33_12_57 : Dq K21 57 (.iinc 5 (-1)) 3 := by decide +kernel
theorem d33_12_60 : Dq K21 60 (.iload 5) 2 := by decide +kernel
theorem d33_12_62 : Dq K21 62 (.getstatic 87) 3 := by decide +kernel
theorem d33_12_65 : Dq K21 65 (.iload 4) 2 := by decide +kernel
theorem d33_12_67 : Dq K21 67 .baload 1 := by decide +kernel
theorem d33_12_68 : Dq K21 68 .bastore 1 := by decide +kernel
theorem d33_12_69 : Dq K21 69 (.goto (-47)) 3 := by decide +kernel
theorem d68_32_0 : Dq K22 0 (.aload_n 0) 1 := by decide +kernel
theorem d68_32_1 : Dq K22 1 (.getfield 79) 3 := by decide +kernel
theorem d68_32_4 : Dq K22 4 (.istore_n 2) 1 := by decide +kernel
theorem d68_32_5 : Dq K22 5 (.iload_n 2) 1 := by decide +kernel
theorem d68_32_6 : Dq K22 6 (.iload_n 1) 1 := by decide +kernel
theorem d68_32_7 : Dq K22 7 (.invokestatic 245) 3 := by decide +kernel
theorem d68_32_10 : Dq K22 10 .iadd 1 := by decide +kernel
theorem d68_32_11 : Dq K22 11 (.istore_n 3) 1 := by decide +kernel
theorem d68_32_12 : Dq K22 12 (.aload_n 0) 1 := by decide +kernel
theorem d68_32_13 : Dq K22 13 (.iload_n 3) 1 := by decide +kernel
theorem d68_32_14 : Dq K22 14 (.invokevirtual 100) 3 := by decide +kernel
theorem d68_32_17 : Dq K22 17 (.aload_n 0) 1 := by decide +kernel
theorem d68_32_18 : Dq K22 18 (.invokevirtual 83) 3 := by decide +kernel
theorem d68_32_21 : Dq K22 21 (.ifCond .eq 16) 3 := by decide +kernel
theorem d68_32_24 : Dq K22 24 (.iload_n 1) 1 := by decide +kernel
theorem d68_32_25 : Dq K22 25 (.iload_n 3) 1 := by decide +kernel
theorem d68_32_26 : Dq K22 26 (.aload_n 0) 1 := by decide +kernel
theorem d68_32_27 : Dq K22 27 (.getfield 15) 3 := by decide +kernel
theorem d68_32_30 : Dq K22 30 (.invokestatic 248) 3 := by decide +kernel
theorem d68_32_33 : Dq K22 33 .pop 1 := by decide +kernel
theorem d68_32_34 : Dq K22 34 (.goto 14) 3 := by decide +kernel
theorem d68_32_48 : Dq K22 48 (.aload_n 0) 1 := by decide +kernel
theorem d68_32_49 : Dq K22 49 (.iload_n 3) 1 := by decide +kernel
theorem d68_32_50 : Dq K22 50 (.putfield 79) 3 := by decide +kernel
theorem d68_32_53 : Dq K22 53 (.aload_n 0) 1 := by decide +kernel
theorem d68_32_54 : Dq K22 54 .areturn 1 := by decide +kernel
theorem d67_15_0 : Dq K23 0 (.aload_n 0) 1 := by decide +kernel
theorem d67_15_1 : Dq K23 1 (.iload_n 1) 1 := by decide +kernel
theorem d67_15_2 : Dq K23 2 (.invokespecial 53) 3 := by decide +kernel
theorem d67_15_5 : Dq K23 5 .pop 1 := by decide +kernel
theorem d67_15_6 : Dq K23 6 (.aload_n 0) 1 := by decide +kernel
theorem d67_15_7 : Dq K23 7 .areturn 1 := by decide +kernel
theorem d68_2_0 : Dq K24 0 (.aload_n 0) 1 := by decide +kernel
theorem d68_2_1 : Dq K24 1 (.invokespecial 3) 3 := by decide +kernel
theorem d68_2_4 : Dq K24 4 (.getstatic 18) 3 := by decide +kernel
theorem d68_2_7 : Dq K24 7 (.ifCond .eq 18) 3 := by decide +kernel
theorem d68_2_10 : Dq K24 10 (.aload_n 0) 1 := by decide +kernel
theorem d68_2_11 : Dq K24 11 (.iload_n 1) 1 := by decide +kernel
theorem d68_2_12 : Dq K24 12 (.newarray .byte) 2 := by decide +kernel
theorem d68_2_14 : Dq K24 14 (.putfield 15) 3 := by decide +kernel
theorem d68_2_17 : Dq K24 17 (.aload_n 0) 1 := by decide +kernel
theorem d68_2_18 : Dq K24 18 (.iconst 0) 1 := by decide +kernel
theorem d68_2_19 : Dq K24 19 (.putfield 22) 3 := by decide +kernel
theorem d68_2_22 : Dq K24 22 (.goto 16) 3 := by decide +kernel
theorem d68_2_38 : Dq K24 38 .return_ 1 := by decide +kernel
theorem d67_1_0 : Dq K25 0 (.aload_n 0) 1 := by decide +kernel
theorem d67_1_1 : Dq K25 1 (.bipush 16) 2 := by decide +kernel
theorem d67_1_3 : Dq K25 3 (.invokespecial 1) 3 := by decide +kernel
theorem d67_1_6 : Dq K25 6 .return_ 1 := by decide +kernel
theorem d68_64_0 : Dq K26 0 (.aload_n 0) 1 := by decide +kernel
theorem d68_64_1 : Dq K26 1 (.getfield 15) 3 := by decide +kernel
theorem d68_64_4 : Dq K26 4 .areturn 1 := by decide +kernel
theorem d68_6_0 : Dq K27 0 (.aload_n 0) 1 := by decide +kernel
theorem d68_6_1 : Dq K27 1 (.getfield 79) 3 := by decide +kernel
theorem d68_6_4 : Dq K27 4 .ireturn 1 := by decide +kernel
theorem d67_93_0 : Dq K28 0 (.aload_n 0) 1 := by decide +kernel
theorem d67_93_1 : Dq K28 1 (.invokespecial 343) 3 := by decide +kernel
theorem d67_93_4 : Dq K28 4 .ireturn 1 := by decide +kernel
theorem d42_150_0 : Dq K29 0 (.aload_n 0) 1 := by decide +kernel
theorem d42_150_1 : Dq K29 1 (.invokespecial 1) 3 := by decide +kernel
theorem d42_150_4 : Dq K29 4 (.aload_n 1) 1 := by decide +kernel
theorem d42_150_5 : Dq K29 5 (.invokevirtual 552) 3 := by decide +kernel
theorem d42_150_8 : Dq K29 8 (.astore_n 3) 1 := by decide +kernel
theorem d42_150_9 : Dq K29 9 (.aload_n 1) 1 := by decide +kernel
theorem d42_150_10 : Dq K29 10 (.invokevirtual 549) 3 := by decide +kernel
theorem d42_150_13 : Dq K29 13 (.istore 4) 2 := by decide +kernel
theorem d42_150_15 : Dq K29 15 (.aload_n 1) 1 := by decide +kernel
theorem d42_150_16 : Dq K29 16 (.invokevirtual 1047) 3 := by decide +kernel
theorem d42_150_19 : Dq K29 19 (.ifCond .eq 22) 3 := by decide +kernel
theorem d42_150_22 : Dq K29 22 (.aload_n 0) 1 := by decide +kernel
theorem d42_150_23 : Dq K29 23 (.iconst 0) 1 := by decide +kernel
theorem d42_150_24 : Dq K29 24 (.putfield 15) 3 := by decide +kernel
theorem d42_150_27 : Dq K29 27 (.aload_n 0) 1 := by decide +kernel
theorem d42_150_28 : Dq K29 28 (.aload_n 3) 1 := by decide +kernel
theorem d42_150_29 : Dq K29 29 (.iconst 0) 1 := by decide +kernel
theorem d42_150_30 : Dq K29 30 (.iload 4) 2 := by decide +kernel
theorem d42_150_32 : Dq K29 32 (.invokestatic 54) 3 := by decide +kernel
theorem d42_150_35 : Dq K29 35 (.putfield 9) 3 := by decide +kernel
theorem d42_150_38 : Dq K29 38 (.goto 59) 3 := by decide +kernel
theorem d42_150_97 : Dq K29 97 .return_ 1 := by decide +kernel
theorem d42_53_0 : Dq K30 0 (.aload_n 0) 1 := by decide +kernel
theorem d42_53_1 : Dq K30 1 (.aload_n 1) 1 := by decide +kernel
theorem d42_53_2 : Dq K30 2 .aconst_null 1 := by decide +kernel
theorem d42_53_3 : Dq K30 3 (.invokespecial 489) 3 := by decide +kernel
theorem d42_53_6 : Dq K30 6 .return_ 1 := by decide +kernel
theorem d67_42_0 : Dq K31 0 (.new 18) 3 := by decide +kernel
theorem d67_42_3 : Dq K31 3 .dup 1 := by decide +kernel
theorem d67_42_4 : Dq K31 4 (.aload_n 0) 1 := by decide +kernel
theorem d67_42_5 : Dq K31 5 (.invokespecial 137) 3 := by decide +kernel
theorem d67_42_8 : Dq K31 8 .areturn 1 := by decide +kernel
theorem d78_2_0 : Dq K32 0 (.aload_n 0) 1 := by decide +kernel
theorem d78_2_1 : Dq K32 1 (.invokespecial 1) 3 := by decide +kernel
theorem d78_2_4 : Dq K32 4 (.aload_n 0) 1 := by decide +kernel
theorem d78_2_5 : Dq K32 5 (.aload_n 0) 1 := by decide +kernel
theorem d78_2_6 : Dq K32 6 (.putfield 7) 3 := by decide +kernel
theorem d78_2_9 : Dq K32 9 (.aload_n 0) 1 := by decide +kernel
theorem d78_2_10 : Dq K32 10 (.getstatic 13) 3 := by decide +kernel
theorem d78_2_13 : Dq K32 13 (.putfield 17) 3 := by decide +kernel
theorem d78_2_16 : Dq K32 16 (.aload_n 0) 1 := by decide +kernel
theorem d78_2_17 : Dq K32 17 (.getstatic 20) 3 := by decide +kernel
theorem d78_2_20 : Dq K32 20 (.putfield 24) 3 := by decide +kernel
theorem d78_2_23 : Dq K32 23 (.aload_n 0) 1 := by decide +kernel
theorem d78_2_24 : Dq K32 24 (.invokevirtual 27) 3 := by decide +kernel
theorem d78_2_27 : Dq K32 27 .pop 1 := by decide +kernel
theorem d78_2_28 : Dq K32 28 (.aload_n 0) 1 := by decide +kernel
theorem d78_2_29 : Dq K32 29 (.aload_n 1) 1 := by decide +kernel
theorem d78_2_30 : Dq K32 30 (.putfield 31) 3 := by decide +kernel
theorem d78_2_33 : Dq K32 33 .return_ 1 := by decide +kernel
theorem d59_2_0 : Dq K33 0 (.aload_n 0) 1 := by decide +kernel
theorem d59_2_1 : Dq K33 1 (.aload_n 1) 1 := by decide +kernel
theorem d59_2_2 : Dq K33 2 (.invokespecial 7) 3 := by decide +kernel
theorem d59_2_5 : Dq K33 5 .return_ 1 := by decide +kernel
theorem dp20_1_0 : Dq K34 0 (.aload_n 0) 1 := by decide +kernel
theorem dp20_1_1 : Dq K34 1 (.iload_n 1) 1 := by decide +kernel
theorem dp20_1_2 : Dq K34 2 (.ifCond .le 34) 3 := by decide +kernel
theorem dp20_1_36 : Dq K34 36 (.aload_n 2) 1 := by decide +kernel
theorem dp20_1_37 : Dq K34 37 (.invokespecial 22) 3 := by decide +kernel
theorem dp20_1_40 : Dq K34 40 (.aload_n 0) 1 := by decide +kernel
theorem dp20_1_41 : Dq K34 41 (.iload_n 1) 1 := by decide +kernel
theorem dp20_1_42 : Dq K34 42 (.putfield 27) 3 := by decide +kernel
theorem dp20_1_45 : Dq K34 45 (.aload_n 0) 1 := by decide +kernel
theorem dp20_1_46 : Dq K34 46 (.aload_n 2) 1 := by decide +kernel
theorem dp20_1_47 : Dq K34 47 (.putfield 33) 3 := by decide +kernel
theorem dp20_1_50 : Dq K34 50 .return_ 1 := by decide +kernel
theorem dp20_1_5 : Dq K34 5 (.new 1) 3 := by decide +kernel
theorem dp20_1_8 : Dq K34 8 .dup 1 := by decide +kernel
theorem dp20_1_9 : Dq K34 9 (.invokespecial 3) 3 := by decide +kernel
theorem dp20_1_12 : Dq K34 12 (.ldc 7) 2 := by decide +kernel
theorem dp20_1_14 : Dq K34 14 (.invokevirtual 9) 3 := by decide +kernel
theorem dp20_1_17 : Dq K34 17 (.iload_n 1) 1 := by decide +kernel
theorem dp20_1_18 : Dq K34 18 (.invokevirtual 13) 3 := by decide +kernel
theorem dp20_1_21 : Dq K34 21 (.ldc 16) 2 := by decide +kernel
theorem dp20_1_23 : Dq K34 23 (.invokevirtual 9) 3 := by decide +kernel
theorem dp20_1_26 : Dq K34 26 (.aload_n 2) 1 := by decide +kernel
theorem dp20_1_27 : Dq K34 27 (.invokevirtual 9) 3 := by decide +kernel
theorem dp20_1_30 : Dq K34 30 (.invokevirtual 18) 3 := by decide +kernel
theorem dp20_1_33 : Dq K34 33 (.goto 4) 3 := by decide +kernel
theorem d78_6_0 : Dq K35 0 (.aload_n 0) 1 := by decide +kernel
theorem d78_6_1 : Dq K35 1 (.getfield 31) 3 := by decide +kernel
theorem d78_6_4 : Dq K35 4 .areturn 1 := by decide +kernel
theorem dp20_4_0 : Dq K36 0 (.new 1) 3 := by decide +kernel
theorem dp20_4_3 : Dq K36 3 .dup 1 := by decide +kernel
theorem dp20_4_4 : Dq K36 4 (.invokespecial 3) 3 := by decide +kernel
theorem dp20_4_7 : Dq K36 7 (.ldc 37) 2 := by decide +kernel
theorem dp20_4_9 : Dq K36 9 (.invokevirtual 9) 3 := by decide +kernel
theorem dp20_4_12 : Dq K36 12 (.aload_n 0) 1 := by decide +kernel
theorem dp20_4_13 : Dq K36 13 (.getfield 27) 3 := by decide +kernel
theorem dp20_4_16 : Dq K36 16 (.ifCond .le 8) 3 := by decide +kernel
theorem dp20_4_24 : Dq K36 24 (.ldc 16) 2 := by decide +kernel
theorem dp20_4_26 : Dq K36 26 (.invokevirtual 9) 3 := by decide +kernel
theorem dp20_4_29 : Dq K36 29 (.aload_n 0) 1 := by decide +kernel
theorem dp20_4_30 : Dq K36 30 (.invokevirtual 41) 3 := by decide +kernel
theorem dp20_4_33 : Dq K36 33 (.invokevirtual 9) 3 := by decide +kernel
theorem dp20_4_36 : Dq K36 36 (.invokevirtual 18) 3 := by decide +kernel
theorem dp20_4_39 : Dq K36 39 .areturn 1 := by decide +kernel
theorem dp20_4_19 : Dq K36 19 (.ldc 39) 2 := by decide +kernel
theorem dp20_4_21 : Dq K36 21 (.goto 5) 3 := by decide +kernel
theorem dm7_0 : Dq K37 0 (.iload_n 0) 1 := by decide +kernel
theorem dm7_1 : Dq K37 1 (.bipush 10) 2 := by decide +kernel
theorem dm7_3 : Dq K37 3 (.if_icmp .ge 5) 3 := by decide +kernel
theorem dm7_6 : Dq K37 6 (.iconst 1) 1 := by decide +kernel
theorem dm7_7 : Dq K37 7 .ireturn 1 := by decide +kernel
theorem dm7_8 : Dq K37 8 (.iload_n 0) 1 := by decide +kernel
theorem dm7_9 : Dq K37 9 (.bipush 100) 2 := by decide +kernel
theorem dm7_11 : Dq K37 11 (.if_icmp .ge 5) 3 := by decide +kernel
theorem dm7_14 : Dq K37 14 (.iconst 2) 1 := by decide +kernel
theorem dm7_15 : Dq K37 15 .ireturn 1 := by decide +kernel
theorem dm7_16 : Dq K37 16 (.iload_n 0) 1 := by decide +kernel
theorem dm7_17 : Dq K37 17 (.sipush 1000) 3 := by decide +kernel
theorem dm7_20 : Dq K37 20 (.if_icmp .ge 5) 3 := by decide +kernel
theorem dm7_23 : Dq K37 23 (.iconst 3) 1 := by decide +kernel
theorem dm7_24 : Dq K37 24 .ireturn 1 := by decide +kernel
theorem dm7_25 : Dq K37 25 (.iload_n 0) 1 := by decide +kernel
theorem dm7_26 : Dq K37 26 (.sipush 10000) 3 := by decide +kernel
theorem dm7_29 : Dq K37 29 (.if_icmp .ge 5) 3 := by decide +kernel
theorem dm7_32 : Dq K37 32 (.iconst 4) 1 := by decide +kernel
theorem dm7_33 : Dq K37 33 .ireturn 1 := by decide +kernel
theorem dm7_34 : Dq K37 34 (.iload_n 0) 1 := by decide +kernel
theorem dm7_35 : Dq K37 35 (.ldc 64) 2 := by decide +kernel
theorem dm7_37 : Dq K37 37 (.if_icmp .ge 5) 3 := by decide +kernel
theorem dm7_40 : Dq K37 40 (.iconst 5) 1 := by decide +kernel
theorem dm7_41 : Dq K37 41 .ireturn 1 := by decide +kernel
theorem dm7_42 : Dq K37 42 (.iload_n 0) 1 := by decide +kernel
theorem dm7_43 : Dq K37 43 (.ldc 65) 2 := by decide +kernel
theorem dm7_45 : Dq K37 45 (.if_icmp .ge 6) 3 := by decide +kernel
theorem dm7_48 : Dq K37 48 (.bipush 6) 2 := by decide +kernel
theorem dm7_50 : Dq K37 50 .ireturn 1 := by decide +kernel
theorem dm7_51 : Dq K37 51 (.iload_n 0) 1 := by decide +kernel
theorem dm7_52 : Dq K37 52 (.ldc 66) 2 := by decide +kernel
theorem dm7_54 : Dq K37 54 (.if_icmp .ge 6) 3 := by decide +kernel
theorem dm7_57 : Dq K37 57 (.bipush 7) 2 := by decide +kernel
theorem dm7_59 : Dq K37 59 .ireturn 1 := by decide +kernel
theorem dm7_60 : Dq K37 60 (.iload_n 0) 1 := by decide +kernel
theorem dm7_61 : Dq K37 61 (.ldc 67) 2 := by decide +kernel
theorem dm7_63 : Dq K37 63 (.if_icmp .ge 6) 3 := by decide +kernel
theorem dm7_66 : Dq K37 66 (.bipush 8) 2 := by decide +kernel
theorem dm7_68 : Dq K37 68 .ireturn 1 := by decide +kernel
theorem dm7_69 : Dq K37 69 (.iload_n 0) 1 := by decide +kernel
theorem dm7_70 : Dq K37 70 (.ldc 68) 2 := by decide +kernel
theorem dm7_72 : Dq K37 72 (.if_icmp .ge 6) 3 := by decide +kernel
theorem dm7_75 : Dq K37 75 (.bipush 9) 2 := by decide +kernel
theorem dm7_77 : Dq K37 77 .ireturn 1 := by decide +kernel
theorem dm7_78 : Dq K37 78 (.bipush 10) 2 := by decide +kernel
theorem dm7_80 : Dq K37 80 .ireturn 1 := by decide +kernel
theorem dm8_0 : Dq K38 0 (.bipush 10) 2 := by decide +kernel
theorem dm8_2 : Dq K38 2 (.newarray .int) 2 := by decide +kernel
theorem dm8_4 : Dq K38 4 .dup 1 := by decide +kernel
theorem dm8_5 : Dq K38 5 (.iconst 0) 1 := by decide +kernel
theorem dm8_6 : Dq K38 6 (.iconst 1) 1 := by decide +kernel
theorem dm8_7 : Dq K38 7 .iastore 1 := by decide +kernel
theorem dm8_8 : Dq K38 8 .dup 1 := by decide +kernel
theorem dm8_9 : Dq K38 9 (.iconst 1) 1 := by decide +kernel
theorem dm8_10 : Dq K38 10 (.bipush 10) 2 := by decide +kernel
theorem dm8_12 : Dq K38 12 .iastore 1 := by decide +kernel
theorem dm8_13 : Dq K38 13 .dup 1 := by decide +kernel
theorem dm8_14 : Dq K38 14 (.iconst 2) 1 := by decide +kernel
theorem dm8_15 : Dq K38 15 (.bipush 100) 2 := by decide +kernel
theorem dm8_17 : Dq K38 17 .iastore 1 := by decide +kernel
theorem dm8_18 : Dq K38 18 .dup 1 := by decide +kernel
theorem dm8_19 : Dq K38 19 (.iconst 3) 1 := by decide +kernel
theorem dm8_20 : Dq K38 20 (.sipush 1000) 3 := by decide +kernel
theorem dm8_23 : Dq K38 23 .iastore 1 := by decide +kernel
theorem dm8_24 : Dq K38 24 .dup 1 := by decide +kernel
theorem dm8_25 : Dq K38 25 (.iconst 4) 1 := by decide +kernel
theorem dm8_26 : Dq K38 26 (.sipush 10000) 3 := by decide +kernel
theorem dm8_29 : Dq K38 29 .iastore 1 := by decide +kernel
theorem dm8_30 : Dq K38 30 .dup 1 := by decide +kernel
theorem dm8_31 : Dq K38 31 (.iconst 5) 1 := by decide +kernel
theorem dm8_32 : Dq K38 32 (.ldc 64) 2 := by decide +kernel
theorem dm8_34 : Dq K38 34 .iastore 1 := by decide +kernel
theorem dm8_35 : Dq K38 35 .dup 1 := by decide +kernel
theorem dm8_36 : Dq K38 36 (.bipush 6) 2 := by decide +kernel
theorem dm8_38 : Dq K38 38 (.ldc 65) 2 := by decide +kernel
theorem dm8_40 : Dq K38 40 .iastore 1 := by decide +kernel
theorem dm8_41 : Dq K38 41 .dup 1 := by decide +kernel
theorem dm8_42 : Dq K38 42 (.bipush 7) 2 := by decide +kernel
theorem dm8_44 : Dq K38 44 (.ldc 66) 2 := by decide +kernel
theorem dm8_46 : Dq K38 46 .iastore 1 := by decide +kernel
theorem dm8_47 : Dq K38 47 .dup 1 := by decide +kernel
theorem dm8_48 : Dq K38 48 (.bipush 8) 2 := by decide +kernel
theorem dm8_50 : Dq K38 50 (.ldc 67) 2 := by decide +kernel
theorem dm8_52 : Dq K38 52 .iastore 1 := by decide +kernel
theorem dm8_53 : Dq K38 53 .dup 1 := by decide +kernel
theorem dm8_54 : Dq K38 54 (.bipush 9) 2 := by decide +kernel
theorem dm8_56 : Dq K38 56 (.ldc 68) 2 := by decide +kernel
theorem dm8_58 : Dq K38 58 .iastore 1 := by decide +kernel
theorem dm8_59 : Dq K38 59 (.astore_n 1) 1 := by decide +kernel
theorem dm8_60 : Dq K38 60 (.aload_n 1) 1 := by decide +kernel
theorem dm8_61 : Dq K38 61 (.iload_n 0) 1 := by decide +kernel
theorem dm8_62 : Dq K38 62 .iaload 1 := by decide +kernel
theorem dm8_63 : Dq K38 63 .ireturn 1 := by decide +kernel
theorem dm6_0 : Dq K39 0 (.iload_n 0) 1 := by decide +kernel
theorem dm6_1 : Dq K39 1 (.ifCond .ne 5) 3 := by decide +kernel
theorem dm6_4 : Dq K39 4 (.iload_n 1) 1 := by decide +kernel
theorem dm6_5 : Dq K39 5 .ireturn 1 := by decide +kernel
theorem dm6_6 : Dq K39 6 (.iload_n 0) 1 := by decide +kernel
theorem dm6_7 : Dq K39 7 (.iconst 1) 1 := by decide +kernel
theorem dm6_8 : Dq K39 8 (.if_icmp .ne 5) 3 := by decide +kernel
theorem dm6_11 : Dq K39 11 (.iload_n 2) 1 := by decide +kernel
theorem dm6_12 : Dq K39 12 .ireturn 1 := by decide +kernel
theorem dm6_13 : Dq K39 13 (.iload_n 3) 1 := by decide +kernel
theorem dm6_14 : Dq K39 14 .ireturn 1 := by decide +kernel
theorem dm5_0 : Dq K40 0 (.iload_n 1) 1 := by decide +kernel
theorem dm5_1 : Dq K40 1 (.ifCond .le 86) 3 := by decide +kernel
theorem dm5_4 : Dq K40 4 (.iload_n 0) 1 := by decide +kernel
theorem dm5_5 : Dq K40 5 (.bipush 24) 2 := by decide +kernel
theorem dm5_7 : Dq K40 7 (.if_icmp .ge 10) 3 := by decide +kernel
theorem dm5_10 : Dq K40 10 (.ldc 53) 2 := by decide +kernel
theorem dm5_12 : Dq K40 12 (.iload_n 0) 1 := by decide +kernel
theorem dm5_13 : Dq K40 13 (.invokevirtual 45) 3 := by decide +kernel
theorem dm5_16 : Dq K40 16 .ireturn 1 := by decide +kernel
theorem dm5_17 : Dq K40 17 (.iload_n 0) 1 := by decide +kernel
theorem dm5_18 : Dq K40 18 (.bipush 24) 2 := by decide +kernel
theorem dm5_20 : Dq K40 20 (.iload_n 2) 1 := by decide +kernel
theorem dm5_21 : Dq K40 21 .iadd 1 := by decide +kernel
theorem dm5_22 : Dq K40 22 (.if_icmp .ge 28) 3 := by decide +kernel
theorem dm5_25 : Dq K40 25 (.iload_n 0) 1 := by decide +kernel
theorem dm5_26 : Dq K40 26 (.bipush 24) 2 := by decide +kernel
theorem dm5_28 : Dq K40 28 .isub 1 := by decide +kernel
theorem dm5_29 : Dq K40 29 (.istore 6) 2 := by decide +kernel
theorem dm5_31 : Dq K40 31 (.bipush 48) 2 := by decide +kernel
theorem dm5_33 : Dq K40 33 (.iload_n 1) 1 := by decide +kernel
theorem dm5_34 : Dq K40 34 (.iload_n 2) 1 := by decide +kernel
theorem dm5_35 : Dq K40 35 (.iconst 1) 1 := by decide +kernel
theorem dm5_36 : Dq K40 36 .isub 1 := by decide +kernel
theorem dm5_37 : Dq K40 37 (.iload 6) 2 := by decide +kernel
theorem dm5_39 : Dq K40 39 .isub 1 := by decide +kernel
theorem dm5_40 : Dq K40 40 (.invokestatic 55) 3 := by decide +kernel
theorem dm5_43 : Dq K40 43 .idiv 1 := by decide +kernel
theorem dm5_44 : Dq K40 44 (.bipush 10) 2 := by decide +kernel
theorem dm5_46 : Dq K40 46 .irem 1 := by decide +kernel
theorem dm5_47 : Dq K40 47 .iadd 1 := by decide +kernel
theorem dm5_48 : Dq K40 48 .i2c 1 := by decide +kernel
theorem dm5_49 : Dq K40 49 .ireturn 1 := by decide +kernel
theorem dm5_50 : Dq K40 50 (.iload_n 0) 1 := by decide +kernel
theorem dm5_51 : Dq K40 51 (.bipush 24) 2 := by decide +kernel
theorem dm5_53 : Dq K40 53 (.iload_n 2) 1 := by decide +kernel
theorem dm5_54 : Dq K40 54 .iadd 1 := by decide +kernel
theorem dm5_55 : Dq K40 55 (.if_icmp .ne 6) 3 := by decide +kernel
theorem dm5_58 : Dq K40 58 (.bipush 58) 2 := by decide +kernel
theorem dm5_60 : Dq K40 60 .ireturn 1 := by decide +kernel
theorem dm5_61 : Dq K40 61 (.iload_n 0) 1 := by decide +kernel
theorem dm5_62 : Dq K40 62 (.bipush 25) 2 := by decide +kernel
theorem dm5_64 : Dq K40 64 (.iload_n 2) 1 := by decide +kernel
theorem dm5_65 : Dq K40 65 .iadd 1 := by decide +kernel
theorem dm5_66 : Dq K40 66 (.if_icmp .ne 6) 3 := by decide +kernel
theorem dm5_69 : Dq K40 69 (.bipush 32) 2 := by decide +kernel
theorem dm5_71 : Dq K40 71 .ireturn 1 := by decide +kernel
theorem dm5_72 : Dq K40 72 (.iload_n 0) 1 := by decide +kernel
theorem dm5_73 : Dq K40 73 (.bipush 26) 2 := by decide +kernel
theorem dm5_75 : Dq K40 75 .isub 1 := by decide +kernel
theorem dm5_76 : Dq K40 76 (.iload_n 2) 1 := by decide +kernel
theorem dm5_77 : Dq K40 77 .isub 1 := by decide +kernel
theorem dm5_78 : Dq K40 78 (.iload_n 3) 1 := by decide +kernel
theorem dm5_79 : Dq K40 79 (.iload 4) 2 := by decide +kernel
theorem dm5_81 : Dq K40 81 (.iload 5) 2 := by decide +kernel
theorem dm5_83 : Dq K40 83 (.invokestatic 58) 3 := by decide +kernel
theorem dm5_86 : Dq K40 86 .ireturn 1 := by decide +kernel
theorem dm5_87 : Dq K40 87 (.iload_n 0) 1 := by decide +kernel
theorem dm5_88 : Dq K40 88 (.bipush 13) 2 := by decide +kernel
theorem dm5_90 : Dq K40 90 (.if_icmp .ge 10) 3 := by decide +kernel
theorem dm5_93 : Dq K40 93 (.ldc 62) 2 := by decide +kernel
theorem dm5_95 : Dq K40 95 (.iload_n 0) 1 := by decide +kernel
theorem dm5_96 : Dq K40 96 (.invokevirtual 45) 3 := by decide +kernel
theorem dm5_99 : Dq K40 99 .ireturn 1 := by decide +kernel
theorem dm5_100 : Dq K40 100 (.iload_n 0) 1 := by decide +kernel
theorem dm5_101 : Dq K40 101 (.bipush 13) 2 := by decide +kernel
theorem dm5_103 : Dq K40 103 .isub 1 := by decide +kernel
theorem dm5_104 : Dq K40 104 (.iload_n 3) 1 := by decide +kernel
theorem dm5_105 : Dq K40 105 (.iload 4) 2 := by decide +kernel
theorem dm5_107 : Dq K40 107 (.iload 5) 2 := by decide +kernel
theorem dm5_109 : Dq K40 109 (.invokestatic 58) 3 := by decide +kernel
theorem dm5_112 : Dq K40 112 .ireturn 1 := by decide +kernel
theorem dm4_0 : Dq K41 0 (.iload_n 1) 1 := by decide +kernel
theorem dm4_1 : Dq K41 1 (.iload_n 2) 1 := by decide +kernel
theorem dm4_2 : Dq K41 2 (.if_icmp .ge 24) 3 := by decide +kernel
theorem dm4_26 : Dq K41 26 (.iconst 1) 1 := by decide +kernel
theorem dm4_27 : Dq K41 27 (.goto 4) 3 := by decide +kernel
theorem dm4_31 : Dq K41 31 .ireturn 1 := by decide +kernel
theorem dm4_5 : Dq K41 5 (.aload_n 0) 1 := by decide +kernel
theorem dm4_6 : Dq K41 6 (.iload_n 1) 1 := by decide +kernel
theorem dm4_7 : Dq K41 7 (.invokevirtual 45) 3 := by decide +kernel
theorem dm4_10 : Dq K41 10 (.iload_n 1) 1 := by decide +kernel
theorem dm4_11 : Dq K41 11 (.iload_n 3) 1 := by decide +kernel
theorem dm4_12 : Dq K41 12 (.iload 4) 2 := by decide +kernel
theorem dm4_14 : Dq K41 14 (.iload 5) 2 := by decide +kernel
theorem dm4_16 : Dq K41 16 (.iload 6) 2 := by decide +kernel
theorem dm4_18 : Dq K41 18 (.iload 7) 2 := by decide +kernel
theorem dm4_20 : Dq K41 20 (.invokestatic 49) 3 := by decide +kernel
theorem dm4_23 : Dq K41 23 (.if_icmp .ne 7) 3 := by decide +kernel
theorem dm3_0 : Dq K42 0 (.aload_n 0) 1 := by decide +kernel
theorem dm3_1 : Dq K42 1 (.iload_n 1) 1 := by decide +kernel
theorem dm3_2 : Dq K42 2 (.iload_n 2) 1 := by decide +kernel
theorem dm3_3 : Dq K42 3 (.iload_n 3) 1 := by decide +kernel
theorem dm3_4 : Dq K42 4 (.iload 4) 2 := by decide +kernel
theorem dm3_6 : Dq K42 6 (.iload 5) 2 := by decide +kernel
theorem dm3_8 : Dq K42 8 (.iload 6) 2 := by decide +kernel
theorem dm3_10 : Dq K42 10 (.iload 7) 2 := by decide +kernel
theorem dm3_12 : Dq K42 12 (.invokestatic 42) 3 := by decide +kernel
theorem dm3_15 : Dq K42 15 (.ifCond .eq 149) 3 := by decide +kernel
theorem dm3_18 : Dq K42 18 (.aload_n 0) 1 := by decide +kernel
theorem dm3_19 : Dq K42 19 (.iload_n 1) 1 := by decide +kernel
theorem dm3_20 : Dq K42 20 (.iconst 1) 1 := by decide +kernel
theorem dm3_21 : Dq K42 21 .iadd 1 := by decide +kernel
theorem dm3_22 : Dq K42 22 (.iload_n 2) 1 := by decide +kernel
theorem dm3_23 : Dq K42 23 (.iload_n 3) 1 := by decide +kernel
theorem dm3_24 : Dq K42 24 (.iload 4) 2 := by decide +kernel
theorem dm3_26 : Dq K42 26 (.iload 5) 2 := by decide +kernel
theorem dm3_28 : Dq K42 28 (.iload 6) 2 := by decide +kernel
theorem dm3_30 : Dq K42 30 (.iload 7) 2 := by decide +kernel
theorem dm3_32 : Dq K42 32 (.invokestatic 42) 3 := by decide +kernel
theorem dm3_35 : Dq K42 35 (.ifCond .eq 129) 3 := by decide +kernel
theorem dm3_38 : Dq K42 38 (.aload_n 0) 1 := by decide +kernel
theorem dm3_39 : Dq K42 39 (.iload_n 1) 1 := by decide +kernel
theorem dm3_40 : Dq K42 40 (.iconst 2) 1 := by decide +kernel
theorem dm3_41 : Dq K42 41 .iadd 1 := by decide +kernel
theorem dm3_42 : Dq K42 42 (.iload_n 2) 1 := by decide +kernel
theorem dm3_43 : Dq K42 43 (.iload_n 3) 1 := by decide +kernel
theorem dm3_44 : Dq K42 44 (.iload 4) 2 := by decide +kernel
theorem dm3_46 : Dq K42 46 (.iload 5) 2 := by decide +kernel
theorem dm3_48 : Dq K42 48 (.iload 6) 2 := by decide +kernel
theorem dm3_50 : Dq K42 50 (.iload 7) 2 := by decide +kernel
theorem dm3_52 : Dq K42 52 (.invokestatic 42) 3 := by decide +kernel
theorem dm3_55 : Dq K42 55 (.ifCond .eq 109) 3 := by decide +kernel
theorem dm3_58 : Dq K42 58 (.aload_n 0) 1 := by decide +kernel
theorem dm3_59 : Dq K42 59 (.iload_n 1) 1 := by decide +kernel
theorem dm3_60 : Dq K42 60 (.iconst 3) 1 := by decide +kernel
theorem dm3_61 : Dq K42 61 .iadd 1 := by decide +kernel
theorem dm3_62 : Dq K42 62 (.iload_n 2) 1 := by decide +kernel
theorem dm3_63 : Dq K42 63 (.iload_n 3) 1 := by decide +kernel
theorem dm3_64 : Dq K42 64 (.iload 4) 2 := by decide +kernel
theorem dm3_66 : Dq K42 66 (.iload 5) 2 := by decide +kernel
theorem dm3_68 : Dq K42 68 (.iload 6) 2 := by decide +kernel
theorem dm3_70 : Dq K42 70 (.iload 7) 2 := by decide +kernel
theorem dm3_72 : Dq K42 72 (.invokestatic 42) 3 := by decide +kernel
theorem dm3_75 : Dq K42 75 (.ifCond .eq 89) 3 := by decide +kernel
theorem dm3_78 : Dq K42 78 (.aload_n 0) 1 := by decide +kernel
theorem dm3_79 : Dq K42 79 (.iload_n 1) 1 := by decide +kernel
theorem dm3_80 : Dq K42 80 (.iconst 4) 1 := by decide +kernel
theorem dm3_81 : Dq K42 81 .iadd 1 := by decide +kernel
theorem dm3_82 : Dq K42 82 (.iload_n 2) 1 := by decide +kernel
theorem dm3_83 : Dq K42 83 (.iload_n 3) 1 := by decide +kernel
theorem dm3_84 : Dq K42 84 (.iload 4) 2 := by decide +kernel
theorem dm3_86 : Dq K42 86 (.iload 5) 2 := by decide +kernel
theorem dm3_88 : Dq K42 88 (.iload 6) 2 := by decide +kernel
theorem dm3_90 : Dq K42 90 (.iload 7) 2 := by decide +kernel
theorem dm3_92 : Dq K42 92 (.invokestatic 42) 3 := by decide +kernel
theorem dm3_95 : Dq K42 95 (.ifCond .eq 69) 3 := by decide +kernel
theorem dm3_98 : Dq K42 98 (.aload_n 0) 1 := by decide +kernel
theorem dm3_99 : Dq K42 99 (.iload_n 1) 1 := by decide +kernel
theorem dm3_100 : Dq K42 100 (.iconst 5) 1 := by decide +kernel
theorem dm3_101 : Dq K42 101 .iadd 1 := by decide +kernel
theorem dm3_102 : Dq K42 102 (.iload_n 2) 1 := by decide +kernel
theorem dm3_103 : Dq K42 103 (.iload_n 3) 1 := by decide +kernel
theorem dm3_104 : Dq K42 104 (.iload 4) 2 := by decide +kernel
theorem dm3_106 : Dq K42 106 (.iload 5) 2 := by decide +kernel
theorem dm3_108 : Dq K42 108 (.iload 6) 2 := by decide +kernel
theorem dm3_110 : Dq K42 110 (.iload 7) 2 := by decide +kernel
theorem dm3_112 : Dq K42 112 (.invokestatic 42) 3 := by decide +kernel
theorem dm3_115 : Dq K42 115 (.ifCond .eq 49) 3 := by decide +kernel
theorem dm3_118 : Dq K42 118 (.aload_n 0) 1 := by decide +kernel
theorem dm3_119 : Dq K42 119 (.iload_n 1) 1 := by decide +kernel
theorem dm3_120 : Dq K42 120 (.bipush 6) 2 := by decide +kernel
theorem dm3_122 : Dq K42 122 .iadd 1 := by decide +kernel
theorem dm3_123 : Dq K42 123 (.iload_n 2) 1 := by decide +kernel
theorem dm3_124 : Dq K42 124 (.iload_n 3) 1 := by decide +kernel
theorem dm3_125 : Dq K42 125 (.iload 4) 2 := by decide +kernel
theorem dm3_127 : Dq K42 127 (.iload 5) 2 := by decide +kernel
theorem dm3_129 : Dq K42 129 (.iload 6) 2 := by decide +kernel
theorem dm3_131 : Dq K42 131 (.iload 7) 2 := by decide +kernel
theorem dm3_133 : Dq K42 133 (.invokestatic 42) 3 := by decide +kernel
theorem dm3_136 : Dq K42 136 (.ifCond .eq 28) 3 := by decide +kernel
theorem dm3_139 : Dq K42 139 (.aload_n 0) 1 := by decide +kernel
theorem dm3_140 : Dq K42 140 (.iload_n 1) 1 := by decide +kernel
theorem dm3_141 : Dq K42 141 (.bipush 7) 2 := by decide +kernel
theorem dm3_143 : Dq K42 143 .iadd 1 := by decide +kernel
theorem dm3_144 : Dq K42 144 (.iload_n 2) 1 := by decide +kernel
theorem dm3_145 : Dq K42 145 (.iload_n 3) 1 := by decide +kernel
theorem dm3_146 : Dq K42 146 (.iload 4) 2 := by decide +kernel
theorem dm3_148 : Dq K42 148 (.iload 5) 2 := by decide +kernel
theorem dm3_150 : Dq K42 150 (.iload 6) 2 := by decide +kernel
theorem dm3_152 : Dq K42 152 (.iload 7) 2 := by decide +kernel
theorem dm3_154 : Dq K42 154 (.invokestatic 42) 3 := by decide +kernel
theorem dm3_157 : Dq K42 157 (.ifCond .eq 7) 3 := by decide +kernel
theorem dm3_160 : Dq K42 160 (.iconst 1) 1 := by decide +kernel
theorem dm3_161 : Dq K42 161 (.goto 4) 3 := by decide +kernel
theorem dm3_165 : Dq K42 165 .ireturn 1 := by decide +kernel
theorem pd0 : parseMethodDescriptor "(C)Z" = some ⟨[.char], some .boolean⟩ := by decide +kernel
theorem pd1 : parseMethodDescriptor "(C)[B" = some ⟨[.char], some (.array .byte)⟩ := by decide +kernel
theorem pd2 : parseMethodDescriptor "([BB)V" = some ⟨[(.array .byte), .byte], none⟩ := by decide +kernel
theorem pd3 : parseMethodDescriptor "(II)V" = some ⟨[.int, .int], none⟩ := by decide +kernel
theorem pd4 : parseMethodDescriptor "(II)I" = some ⟨[.int, .int], some .int⟩ := by decide +kernel
theorem pd5 : parseMethodDescriptor "([BII)[B" = some ⟨[(.array .byte), .int, .int], some (.array .byte)⟩ := by decide +kernel
theorem pd6 : parseMethodDescriptor "(III)I" = some ⟨[.int, .int, .int], some .int⟩ := by decide +kernel
theorem pd7 : parseMethodDescriptor "(I)I" = some ⟨[.int], some .int⟩ := by decide +kernel
theorem pd8 : parseMethodDescriptor "([BI)[B" = some ⟨[(.array .byte), .int], some (.array .byte)⟩ := by decide +kernel
theorem pd9 : parseMethodDescriptor "()B" = some ⟨[], some .byte⟩ := by decide +kernel
theorem pd10 : parseMethodDescriptor "(Ljava/lang/String;)V" = some ⟨[(.object "java/lang/String")], none⟩ := by decide +kernel
theorem pd11 : parseMethodDescriptor "([BIB)V" = some ⟨[(.array .byte), .int, .byte], none⟩ := by decide +kernel
theorem pd12 : parseMethodDescriptor "(I)V" = some ⟨[.int], none⟩ := by decide +kernel
theorem pd13 : parseMethodDescriptor "(ILjava/lang/String;)V" = some ⟨[.int, (.object "java/lang/String")], none⟩ := by decide +kernel
theorem pd14 : parseMethodDescriptor "(Ljava/lang/String;)Ljava/lang/AbstractStringBuilder;" = some ⟨[(.object "java/lang/String")], some (.object "java/lang/AbstractStringBuilder")⟩ := by decide +kernel
theorem pd15 : parseMethodDescriptor "()Z" = some ⟨[], some .boolean⟩ := by decide +kernel
theorem pd16 : parseMethodDescriptor "(II[B)I" = some ⟨[.int, .int, (.array .byte)], some .int⟩ := by decide +kernel
theorem pd17 : parseMethodDescriptor "(I)Ljava/lang/AbstractStringBuilder;" = some ⟨[.int], some (.object "java/lang/AbstractStringBuilder")⟩ := by decide +kernel
theorem pd18 : parseMethodDescriptor "()I" = some ⟨[], some .int⟩ := by decide +kernel
theorem pd19 : parseMethodDescriptor "()[B" = some ⟨[], some (.array .byte)⟩ := by decide +kernel
theorem pd20 : parseMethodDescriptor "(Ljava/lang/AbstractStringBuilder;Ljava/lang/Void;)V" = some ⟨[(.object "java/lang/AbstractStringBuilder"), (.object "java/lang/Void")], none⟩ := by decide +kernel
theorem pd21 : parseMethodDescriptor "(Ljava/lang/StringBuilder;)V" = some ⟨[(.object "java/lang/StringBuilder")], none⟩ := by decide +kernel
theorem pd22 : parseMethodDescriptor "()V" = some ⟨[], none⟩ := by decide +kernel
theorem pd23 : parseMethodDescriptor "(Ljava/lang/String;)Ljava/lang/StringBuilder;" = some ⟨[(.object "java/lang/String")], some (.object "java/lang/StringBuilder")⟩ := by decide +kernel
theorem pd24 : parseMethodDescriptor "(I)Ljava/lang/StringBuilder;" = some ⟨[.int], some (.object "java/lang/StringBuilder")⟩ := by decide +kernel
theorem pd25 : parseMethodDescriptor "()Ljava/lang/String;" = some ⟨[], some (.object "java/lang/String")⟩ := by decide +kernel
theorem pd26 : parseMethodDescriptor "(ICCC)C" = some ⟨[.int, .char, .char, .char], some .char⟩ := by decide +kernel
theorem pd27 : parseMethodDescriptor "(IIICCC)C" = some ⟨[.int, .int, .int, .char, .char, .char], some .char⟩ := by decide +kernel
theorem pd28 : parseMethodDescriptor "(Ljava/lang/String;IIIICCC)Z" = some ⟨[(.object "java/lang/String"), .int, .int, .int, .int, .char, .char, .char], some .boolean⟩ := by decide +kernel
theorem pd29 : parseMethodDescriptor "(C)Ljava/lang/String;" = some ⟨[.char], some (.object "java/lang/String")⟩ := by decide +kernel
theorem hwns {a0 : Array Value} {Z : State} (hw : W a0 Z) : ∀ d ∈ StrChars.Road.words, d.before a0 Z = true := fun d hd => hw d ((by decide +kernel : ∀ d ∈ StrChars.Road.words, d ∈ tables_1) d hd)
theorem hwln {a0 : Array Value} {Z : State} (hw : W a0 Z) : ∀ d ∈ StrChars.Road.wordsLen, d.before a0 Z = true := fun d hd => hw d ((by decide +kernel : ∀ d ∈ StrChars.Road.wordsLen, d ∈ tables_1) d hd)
theorem hwch {a0 : Array Value} {Z : State} (hw : W a0 Z) : ∀ d ∈ StrChars.Road.wordsChN, d.before a0 Z = true := fun d hd => hw d ((by decide +kernel : ∀ d ∈ StrChars.Road.wordsChN, d ∈ tables_1) d hd)
theorem wS0 {a0 : Array Value} {Z : State} (hw : W a0 Z) : ∀ d ∈ Bundle.stringAtoms, d.before a0 Z = true := fun d hd => hw d ((by decide +kernel : ∀ d ∈ Bundle.stringAtoms, d ∈ tables_1) d hd)
def Rg (c : Int32) : Prop := ¬ c < 0 ∧ ¬ (65535 : Int32) < c
/-- small naturals as ints -/
theorem n_toInt {n : Nat} (h : n < 2147483648) : (Int32.ofNat n).toInt = n := Int32.toInt_ofNat_small (by omega)
theorem n_nat {n : Nat} (h : n < 2147483648) : (Int32.ofNat n).toNatClampNeg = n := by
  rw [Int32.toNatClampNeg, n_toInt h]; rfl
theorem n_add (a b : Nat) : Int32.ofNat a + Int32.ofNat b = Int32.ofNat (a + b) := (Int32.ofNat_add a b).symm
theorem n_sub {a b : Nat} (h : b ≤ a) : Int32.ofNat a - Int32.ofNat b = Int32.ofNat (a - b) := by
  have e := n_add (a - b) b
  rw [Nat.sub_add_cancel h] at e
  rw [← e, Int32.add_sub_cancel]
theorem n_lt {a b : Nat} (ha : a < 2147483648) (hb : b < 2147483648) : Int32.ofNat a < Int32.ofNat b ↔ a < b := by
  rw [Int32.lt_iff_toInt_lt, n_toInt ha, n_toInt hb]; omega
theorem n_eq {a b : Nat} (ha : a < 2147483648) (hb : b < 2147483648) : Int32.ofNat a = Int32.ofNat b ↔ a = b := by
  rw [← Int32.toInt_inj, n_toInt ha, n_toInt hb]; omega
theorem n_in {i n : Nat} (hi : i < n) (hn : n < 2147483648) : ¬ Int32.ofNat i < 0 ∧ Int32.ofNat i < Int32.ofNat n :=
  ⟨fun q => by rw [show (0 : Int32) = Int32.ofNat 0 from rfl, n_lt (by omega) (by omega)] at q; omega, (n_lt (by omega) hn).mpr hi⟩
theorem n_neg {i : Nat} (h : i < 2147483648) : ¬ Int32.ofNat i < 0 := fun q => by
  rw [show (0 : Int32) = Int32.ofNat 0 from rfl, n_lt h (by omega)] at q; omega
theorem n_shr0 (x : Int32) : x >>> ((0 : Int32) &&& 31) = x := by
  have e : ((0 : Int32) &&& 31) = 0 := by decide
  rw [e]
  apply Int32.toBitVec_inj.mp
  rw [Int32.toBitVec_shiftRight]
  have e1 : ((0 : Int32).toBitVec.smod 32) = 0#32 := by decide
  rw [e1, BitVec.sshiftRight_eq']
  exact BitVec.sshiftRight_zero
theorem own_eqI {x y : Int32} (h : (x.toInt - y.toInt) % 4294967296 = 0) : x = y := by
  have := x.toInt_lt
  have := x.le_toInt
  have := y.toInt_lt
  have := y.le_toInt
  exact Int32.toInt_inj.mp (by omega)
theorem own_rg {c : Int32} : Rg c ↔ 0 ≤ c.toInt ∧ c.toInt ≤ 65535 := by
  unfold Rg
  rw [Int32.lt_iff_toInt_lt, Int32.lt_iff_toInt_lt]
  have e0 : (0 : Int32).toInt = 0 := rfl
  have e1 : (65535 : Int32).toInt = 65535 := rfl
  omega
theorem own_narb (x : Int32) : nar .byte (x.toInt8.toInt32) = x.toInt8.toInt32 := by
  have a := c_i2b x
  have b := c_i2b x.toInt8.toInt32
  show (x.toInt8.toInt32).toInt8.toInt32 = x.toInt8.toInt32
  exact Int32.toInt_inj.mp (by omega)
theorem own_narc {x : Int32} (h : Rg x) : nar .char x = x := by
  have a := c_i2c x
  have h := own_rg.mp h
  show x.toUInt32.toUInt16.toUInt32.toInt32 = x
  exact Int32.toInt_inj.mp (by omega)
abbrev LB (cs : List Int32) : List Value := (cs.map fun c => c.toInt8.toInt32).map Value.int
def InH (h : Heap) (a : Addr) : Prop := a < h.size
theorem InH.lt {h : Heap} {a : Addr} (q : InH h a) : a < h.size := q
theorem InH.ext {h h' : Heap} {a : Addr} (q : InH h a) (E : Ext h h') : InH h' a := Nat.lt_of_lt_of_le q E.1
/-- a StringBuilder: the object sb, its byte[] va with room for cap chars, its chars ys, all Latin-1 -/
def BS (Z : State) (h : Heap) (sb va : Addr) (kv : ClassId) (cap : Nat) (ys : List Int32) : Prop := Exa Z h sb "java/lang/StringBuilder" ∧ Fld Z h sb "java/lang/AbstractStringBuilder" "value" "[B" (.ref va) ∧ Fld Z h sb "java/lang/AbstractStringBuilder" "count" "I" (.int (Int32.ofNat ys.length)) ∧ Fld Z h sb "java/lang/AbstractStringBuilder" "coder" "B" (.int (0 : Int32)) ∧ Arv Z h va kv .byte (Int32.ofNat cap) (LB ys) (.int (0 : Int32)) ∧ Exa Z h va "[B" ∧ (∀ c ∈ ys, ¬ c < 0 ∧ ¬ (255 : Int32) < c) ∧ ys.length ≤ cap
theorem BS.ext {Z : State} {h h' : Heap} {sb va : Addr} {kv : ClassId} {cap : Nat} {ys : List Int32} (B : BS Z h sb va kv cap ys) (E : Ext h h') : BS Z h' sb va kv cap ys := ⟨B.1.ext E, B.2.1.ext E, B.2.2.1.ext E, B.2.2.2.1.ext E, B.2.2.2.2.1.ext E, B.2.2.2.2.2.1.ext E, B.2.2.2.2.2.2⟩
theorem BS.keep {Z : State} {h h' : Heap} {sb va : Addr} {kv : ClassId} {cap : Nat} {ys : List Int32} {ws : List Addr} (B : BS Z h sb va kv cap ys) (K : Keep h h' ws) (n1 : sb ∉ ws) (n2 : va ∉ ws) : BS Z h' sb va kv cap ys := ⟨B.1.keep K, B.2.1.keep K n1, B.2.2.1.keep K n1, B.2.2.2.1.keep K n1, B.2.2.2.2.1.keep K n2, B.2.2.2.2.2.1.keep K, B.2.2.2.2.2.2⟩
theorem BS.exa {Z : State} {h : Heap} {sb va : Addr} {kv : ClassId} {cap : Nat} {ys : List Int32} (B : BS Z h sb va kv cap ys) : Exa Z h sb "java/lang/StringBuilder" := B.1
theorem BS.lt {Z : State} {h : Heap} {sb va : Addr} {kv : ClassId} {cap : Nat} {ys : List Int32} (B : BS Z h sb va kv cap ys) : sb < h.size := B.1.lt
theorem BS.blt {Z : State} {h : Heap} {sb va : Addr} {kv : ClassId} {cap : Nat} {ys : List Int32} (B : BS Z h sb va kv cap ys) : va < h.size := B.2.2.2.2.1.lt
theorem BS.vx {Z : State} {h : Heap} {sb va : Addr} {kv : ClassId} {cap : Nat} {ys : List Int32} (B : BS Z h sb va kv cap ys) : InH h va := B.blt
def nc (cap nd : Nat) : Nat := if nd ≤ cap then cap else max nd (2 * cap + 2)
theorem nc_sm {cap nd : Nat} (h : nd ≤ cap) : nc cap nd = cap := if_pos h
theorem nc_big {cap nd : Nat} (h : cap < nd) : nc cap nd = max nd (2 * cap + 2) := if_neg (by omega)
theorem own_big2 {n : Nat} (h : n ≤ 8000) : ¬ (2147483639 : Int32) < Int32.ofNat n := fun q => absurd ((n_lt (a := 2147483639) (b := n) (by omega) (by omega)).mp q) (by omega)
theorem own_nmax {n : Nat} (h : n ≤ 8000) : ¬ Int32.ofNat n = (2147483647 : Int32) := fun q => absurd ((n_eq (a := n) (b := 2147483647) (by omega) (by omega)).mp q) (by omega)
theorem own_cl {n cap : Nat} (h : n ≤ cap) (hb : n < 2147483648) : (Int32.ofNat n).toNatClampNeg ≤ cap := by rw [n_nat hb]; exact h
theorem own_maxL {x z : Nat} (h : x < z) : max x z = z := by omega
theorem own_maxR {x z : Nat} (h : ¬ x < z) : max x z = x := by omega
theorem own_le0 {n N : Nat} (h : n ≤ N) (hb : N < 2147483648) : (0 : Int32).toNatClampNeg + (Int32.ofNat n).toNatClampNeg ≤ (Int32.ofNat N).toNatClampNeg := by
  rw [n_nat (by omega), n_nat hb]
  show 0 + n ≤ N
  omega
theorem own_leA {d n N : Nat} (h : d + n ≤ N) (hb : N < 2147483648) (hd : d < 2147483648) : (Int32.ofNat d).toNatClampNeg + (Int32.ofNat n).toNatClampNeg ≤ (Int32.ofNat N).toNatClampNeg := by
  rw [n_nat (by omega), n_nat hb, n_nat (by omega)]
  exact h
theorem own_rng {vs : List Value} {m : Nat} {d : Value} (h : m ≤ vs.length) : vs.take m = (List.range m).map fun i => vs.getD i d := by
  apply List.ext_getElem
  · simp; omega
  · intro i h1 h2
    simp at h1 h2 ⊢
    rw [List.getElem?_eq_getElem (by omega)]
    rfl
theorem own_us {vs : List Value} {m : Nat} {d : Value} (hb : m < 2147483648) (h : m ≤ vs.length) : vs.take m = (List.range (Int32.ofNat m).toNatClampNeg).map fun i => vs.getD ((0 : Int32).toNatClampNeg + i) d := by
  rw [n_nat hb, own_rng h]
  congr 1
  funext i
  rw [show (0 : Int32).toNatClampNeg = 0 from rfl, Nat.zero_add]
theorem own_ln0 {m : Nat} {d : Value} (hb : m < 2147483648) : (0 : Int32).toNatClampNeg + (Int32.ofNat m).toNatClampNeg ≤ (List.replicate m d).length := by
  rw [n_nat hb, List.length_replicate]
  show 0 + m ≤ m
  omega
theorem own_cat {vs : List Value} {m : Nat} {d : Value} (hb : m < 2147483648) (h : m ≤ vs.length) : (List.replicate m d).take (0 : Int32).toNatClampNeg ++ vs.take m ++ (List.replicate m d).drop ((0 : Int32).toNatClampNeg + (Int32.ofNat m).toNatClampNeg) = vs.take m := by
  rw [n_nat hb, show (0 : Int32).toNatClampNeg = 0 from rfl, Nat.zero_add]
  simp
theorem own_us2 {vs : List Value} {N : Nat} {d : Value} (hb : N < 2147483648) (h : vs.length ≤ N) : vs ++ List.replicate (N - vs.length) d = (List.range (Int32.ofNat N).toNatClampNeg).map fun i => vs.getD ((0 : Int32).toNatClampNeg + i) d := by
  have q := own_rng (vs := vs ++ List.replicate (N - vs.length) d) (m := N) (d := d) (by simp; omega)
  rw [List.take_of_length_le (by simp; omega)] at q
  rw [n_nat hb, q]
  congr 1
  funext i
  rw [show (0 : Int32).toNatClampNeg = 0 from rfl, Nat.zero_add]
  exact pad_rep vs d _ i
theorem own_cat2 {vs : List Value} {N : Nat} {d : Value} (hb : N < 2147483648) (h : vs.length ≤ N) : (List.replicate N d).take (0 : Int32).toNatClampNeg ++ (vs ++ List.replicate (N - vs.length) d) ++ (List.replicate N d).drop ((0 : Int32).toNatClampNeg + (Int32.ofNat N).toNatClampNeg) = vs ++ List.replicate (N - vs.length) d := by
  rw [n_nat hb, show (0 : Int32).toNatClampNeg = 0 from rfl, Nat.zero_add]
  simp
theorem own_usA {vs : List Value} {m : Nat} {d : Value} (hb : m < 2147483648) (h : vs.length = m) : vs = (List.range (Int32.ofNat m).toNatClampNeg).map fun i => vs.getD ((0 : Int32).toNatClampNeg + i) d := by
  have q := own_us (d := d) hb (Nat.le_of_eq h.symm)
  rw [List.take_of_length_le (Nat.le_of_eq h)] at q
  exact q
theorem own_hlA {us vs : List Value} {a b : Nat} {d : Value} (ha : us.length = a) (hb : a + b < 2147483648) : (Int32.ofNat a).toNatClampNeg + (Int32.ofNat b).toNatClampNeg ≤ (us ++ List.replicate b d).length := by
  rw [n_nat (by omega), n_nat (by omega), List.length_append, List.length_replicate, ha]
  exact Nat.le_refl _
theorem own_catA {us vs : List Value} {a b : Nat} {d : Value} (ha : us.length = a) (hb : a + b < 2147483648) : (us ++ List.replicate b d).take (Int32.ofNat a).toNatClampNeg ++ vs ++ (us ++ List.replicate b d).drop ((Int32.ofNat a).toNatClampNeg + (Int32.ofNat b).toNatClampNeg) = us ++ vs := by
  rw [n_nat (by omega), n_nat (by omega)]
  subst ha
  rw [List.take_left' rfl, List.drop_of_length_le (by simp), List.append_nil]
theorem own_usL {xs : List Int32} {d : Value} (hb : xs.length < 2147483648) : LB xs = (List.range (Int32.ofNat xs.length).toNatClampNeg).map fun i => (LB xs).getD ((0 : Int32).toNatClampNeg + i) d := own_usA hb (by simp)
theorem own_hlL {ys xs : List Int32} {d : Value} (h : ys.length < 1000000) (hb : xs.length < 1000000) : (Int32.ofNat ys.length).toNatClampNeg + (Int32.ofNat xs.length).toNatClampNeg ≤ (LB ys ++ List.replicate xs.length d).length := own_hlA (vs := []) (by simp) (by omega)
theorem own_catL {ys xs : List Int32} {d : Value} (h : ys.length < 1000000) (hb : xs.length < 1000000) : (LB ys ++ List.replicate xs.length d).take (Int32.ofNat ys.length).toNatClampNeg ++ LB xs ++ (LB ys ++ List.replicate xs.length d).drop ((Int32.ofNat ys.length).toNatClampNeg + (Int32.ofNat xs.length).toNatClampNeg) = LB (ys ++ xs) := by
  rw [own_catA (by simp) (by omega)]
  simp [LB]
theorem own_shl0 (x : Int32) : x <<< ((0 : Int32) &&& 31) = x := by
  have a := c_ishl x 0 0 (by decide)
  apply own_eqI
  omega
theorem own_nc0 {cap nd : Nat} (h : cap < nd) : cap + max (nd - cap) (cap + 2) = max nd (2 * cap + 2) := by omega
theorem own_sle {a b : Nat} (h : a ≤ b) (hb : b < 1000000) : ¬ (0 : Int32) < Int32.ofNat a - Int32.ofNat b := by
  have q := c_isub (Int32.ofNat a) (Int32.ofNat b)
  rw [n_toInt (by omega), n_toInt (by omega)] at q
  have u := (Int32.ofNat a - Int32.ofNat b).toInt_lt
  have u' := (Int32.ofNat a - Int32.ofNat b).le_toInt
  rw [Int32.lt_iff_toInt_lt]
  have e : (0 : Int32).toInt = 0 := rfl
  omega
theorem own_ge2 {Zs : Nat} {h : Nat} {va v2 : Addr} (hz : Zs ≤ h) (g : Zs ≤ va) (q : v2 = va ∨ h ≤ v2) : Zs ≤ v2 := q.elim (fun e => e ▸ g) (fun e => Nat.le_trans hz e)
theorem own_ne2 {h : Nat} {sb va v2 : Addr} (n : sb ≠ va) (hs : sb < h) (q : v2 = va ∨ h ≤ v2) : sb ≠ v2 := q.elim (fun e => e ▸ n) (fun e => Nat.ne_of_lt (Nat.lt_of_lt_of_le hs e))
theorem own_allB {P : Int32 → Prop} {ys xs : List Int32} (h1 : ∀ c ∈ ys, P c) (h2 : ∀ c ∈ xs, P c) : ∀ c ∈ ys ++ xs, P c := fun c hc => (List.mem_append.mp hc).elim (h1 c) (h2 c)
/-- the decimal digits of a number -/
def dg (x : Nat) : List Int32 := if h : x < 10 then [Int32.ofNat (48 + x % 10)] else dg (x / 10) ++ [Int32.ofNat (48 + x % 10)]
termination_by x
decreasing_by omega
theorem own_dg1 {x : Nat} (h : x < 10) : dg x = [Int32.ofNat (48 + x % 10)] := by rw [dg, dif_pos h]
theorem own_dgs {x : Nat} (h : 10 ≤ x) : dg x = dg (x / 10) ++ [Int32.ofNat (48 + x % 10)] := by rw [dg, dif_neg (by omega)]
theorem own_dg2 {x : Nat} (h : 10 ≤ x) (h2 : x < 100) : dg x = [Int32.ofNat (48 + x / 10), Int32.ofNat (48 + x % 10)] := by
  rw [own_dgs h, own_dg1 (by omega), Nat.mod_eq_of_lt (show x / 10 < 10 by omega)]
  rfl
theorem own_dgh {x : Nat} (h : 100 ≤ x) : dg x = dg (x / 100) ++ [Int32.ofNat (48 + x % 100 / 10), Int32.ofNat (48 + x % 100 % 10)] := by
  rw [own_dgs (by omega), own_dgs (x := x / 10) (by omega), Nat.div_div_eq_div_mul, List.append_assoc, show x / 10 % 10 = x % 100 / 10 by omega, show x % 100 % 10 = x % 10 by omega]
  rfl
theorem own_dgLat {x : Nat} : ∀ c ∈ dg x, ¬ c < 0 ∧ ¬ (255 : Int32) < c := by
  have d : ∀ n : Nat, n < 10 → ¬ Int32.ofNat (48 + n) < 0 ∧ ¬ (255 : Int32) < Int32.ofNat (48 + n) := fun n hn => ⟨n_neg (by omega), fun q => absurd ((n_lt (a := 255) (b := 48 + n) (by omega) (by omega)).mp q) (by omega)⟩
  induction x using Nat.strongRecOn with
  | _ x ih =>
    intro c hc
    by_cases h : x < 10
    · rw [own_dg1 h] at hc
      cases List.mem_singleton.mp hc
      exact d _ (by omega)
    · rw [own_dgs (by omega)] at hc
      rcases List.mem_append.mp hc with k | k
      · exact ih (x / 10) (by omega) c k
      · cases List.mem_singleton.mp k
        exact d _ (by omega)
theorem dg_len : ∀ (d p : Nat), 10 ^ d ≤ p → p < 10 ^ (d + 1) → (dg p).length = d + 1
  | 0, p, _, h2 => by rw [own_dg1 (by simpa using h2)]; rfl
  | d + 1, p, h1, h2 => by
    have e : 10 ^ (d + 1) = 10 * 10 ^ d := by rw [Nat.pow_succ, Nat.mul_comm]
    have e' : 10 ^ (d + 1 + 1) = 10 * 10 ^ (d + 1) := by rw [Nat.pow_succ, Nat.mul_comm]
    have p0 : 0 < 10 ^ d := Nat.pos_of_ne_zero (by simp)
    rw [own_dgs (by omega), List.length_append, dg_len d (p / 10) (by omega) (by omega)]
    rfl
theorem own_dgl1 {p : Nat} (h : 1 ≤ p) (h2 : p < 10) : (dg p).length = 1 := dg_len 0 p h h2
theorem own_dgl2 {p : Nat} (h : 10 ≤ p) (h2 : p < 100) : (dg p).length = 2 := dg_len 1 p h h2
theorem own_dgl3 {p : Nat} (h : 100 ≤ p) (h2 : p < 1000) : (dg p).length = 3 := dg_len 2 p h h2
theorem own_dgl4 {p : Nat} (h : 1000 ≤ p) (h2 : p < 10000) : (dg p).length = 4 := dg_len 3 p h h2
theorem own_dgl5 {p : Nat} (h : 10000 ≤ p) (h2 : p < 100000) : (dg p).length = 5 := dg_len 4 p h h2
theorem own_dgl6 {p : Nat} (h : 100000 ≤ p) (h2 : p < 1000000) : (dg p).length = 6 := dg_len 5 p h h2
theorem own_dgl7 {p : Nat} (h : 1000000 ≤ p) (h2 : p < 10000000) : (dg p).length = 7 := dg_len 6 p h h2
theorem own_dgl8 {p : Nat} (h : 10000000 ≤ p) (h2 : p < 100000000) : (dg p).length = 8 := dg_len 7 p h h2
theorem own_dgl9 {p : Nat} (h : 100000000 ≤ p) (h2 : p < 1000000000) : (dg p).length = 9 := dg_len 8 p h h2
theorem own_dgl10 {p : Nat} (h : 1000000000 ≤ p) (h2 : p < 10000000000) : (dg p).length = 10 := dg_len 9 p h h2
theorem own_negt {p : Nat} (hp : p < 2147483648) : (-(Int32.ofNat p)).toInt = -(p : Int) := by
  have u := (-(Int32.ofNat p)).toInt_lt
  have u' := (-(Int32.ofNat p)).le_toInt
  have q := c_isub 0 (Int32.ofNat p)
  rw [n_toInt hp, Int32.zero_sub] at q
  have e : (0 : Int32).toInt = 0 := rfl
  omega
theorem own_th {p K : Nat} (hp : p < 2147483648) (hK : K < 2147483648) : -(Int32.ofNat K) < -(Int32.ofNat p) ↔ p < K := by
  rw [Int32.lt_iff_toInt_lt, own_negt hp, own_negt hK]
  omega
theorem own_th9 {p : Nat} (hp : p < 2147483648) : -(Int32.ofNat p) < (-9 : Int32) ↔ 9 < p := own_th (p := 9) (K := p) (by omega) hp
theorem own_dec {a b : Nat} (h : a = b + 1) : Int32.ofNat a + (-1 : Int32) = Int32.ofNat b := by
  subst h
  rw [← n_add b 1, Int32.add_assoc, show Int32.ofNat 1 + (-1 : Int32) = 0 from by decide, Int32.add_zero]
theorem own_d100 {x : Nat} (h : x < 2147483648) : -(Int32.ofNat x) / (100 : Int32) = -(Int32.ofNat (x / 100)) := by
  apply Int32.toInt_inj.mp
  rw [Int32.toInt_div_of_ne_right _ _ (by decide), own_negt h, own_negt (by omega), show (100 : Int32).toInt = 100 from rfl, Int.neg_tdiv]
  rfl
theorem own_r100 {x : Nat} (h : x < 2147483648) : -(Int32.ofNat (x / 100)) * (100 : Int32) - -(Int32.ofNat x) = Int32.ofNat (x % 100) := by
  have e : Int32.ofNat x = Int32.ofNat (x / 100) * 100 + Int32.ofNat (x % 100) := by
    rw [show (100 : Int32) = Int32.ofNat 100 from rfl, ← Int32.ofNat_mul, n_add]
    congr 1
    omega
  rw [Int32.sub_neg, Int32.neg_mul, e, ← Int32.add_assoc, Int32.add_left_neg, Int32.zero_add]
def TO : List Value := (List.range 100).map fun i => .int (Int32.ofNat (48 + i % 10))
def TT : List Value := (List.range 100).map fun i => .int (Int32.ofNat (48 + i / 10))
theorem own_to {r : Nat} {d : Value} (h : r < 100) : TO.getD (Int32.ofNat r).toNatClampNeg d = .int (Int32.ofNat (48 + r % 10)) := by
  rw [n_nat (by omega)]
  simp [TO, List.getD_eq_getElem?_getD, h]
theorem own_tt {r : Nat} {d : Value} (h : r < 100) : TT.getD (Int32.ofNat r).toNatClampNeg d = .int (Int32.ofNat (48 + r / 10)) := by
  rw [n_nat (by omega)]
  simp [TT, List.getD_eq_getElem?_getD, h]
theorem own_setd {ys tl : List Int32} {n : Nat} {c : Int32} {d : Value} : (LB ys ++ List.replicate (n + 1) d ++ LB tl).set (ys.length + n) (.int c.toInt8.toInt32) = LB ys ++ List.replicate n d ++ LB (c :: tl) := by
  rw [List.append_assoc, List.append_assoc, List.replicate_succ', List.append_assoc, ← List.append_assoc (LB ys), List.set_append_right _ _ (by simp), List.append_assoc]
  simp [LB]
def q53 : List Int32 := [113, 117, 101, 114, 121, 32, 101, 114, 114, 111, 114, 32, 97, 116, 32, 112, 111, 115, 105, 116, 105, 111, 110, 32]
def q62 : List Int32 := [113, 117, 101, 114, 121, 32, 101, 114, 114, 111, 114, 58, 32]
def qER : List Int32 := [113, 117, 101, 114, 121, 32, 101, 114, 114, 111, 114]
def qSP : List Int32 := [32]
def qCS : List Int32 := [58, 32]
def qAT : List Int32 := [97, 116, 32, 112, 111, 115, 105, 116, 105, 111, 110, 32]
/-- the exception's message and its report -/
def msgP (pp : Nat) (xs : List Int32) : List Int32 := ((([] ++ qAT) ++ dg pp) ++ qCS) ++ xs
def repL (sp mm : List Int32) : List Int32 := (([] ++ qER) ++ sp) ++ mm
def rcV (j : Nat) (c0 c1 c2 : Int32) : Int32 := if j = 0 then c0 else if j = 1 then c1 else c2
def exB (pp dd : Nat) (c0 c1 c2 : Int32) (i : Nat) : Int32 := if i < 24 + dd then Int32.ofNat (48 + pp / 10 ^ (dd - 1 - (i - 24)) % 10) else if i = 24 + dd then 58 else if i = 25 + dd then 32 else rcV (i - 26 - dd) c0 c1 c2
def exC (c0 c1 c2 : Int32) (i : Nat) : Int32 := if i < 13 then q62.getD i 0 else rcV (i - 13) c0 c1 c2
theorem own_narq {i : Nat} (h : i < 24) : nar .char (q53.getD i 0) = q53.getD i 0 := (by decide +kernel : ∀ i, i < 24 → nar .char (q53.getD i 0) = q53.getD i 0) i h
theorem own_narr {i : Nat} (h : i < 13) : nar .char (q62.getD i 0) = q62.getD i 0 := (by decide +kernel : ∀ i, i < 13 → nar .char (q62.getD i 0) = q62.getD i 0) i h
theorem own_rg8 {c : Int32} (h : ¬ c < 0 ∧ ¬ (255 : Int32) < c) : Rg c := ⟨h.1, fun q => h.2 (Int32.lt_trans (by decide) q)⟩
theorem own_rgn {n : Nat} (h : n < 65536) : Rg (Int32.ofNat n) := ⟨n_neg (by omega), fun q => absurd ((n_lt (a := 65535) (b := n) (by omega) (by omega)).mp q) (by omega)⟩
theorem own_narn {n : Nat} (h : n < 65536) : nar .char (Int32.ofNat n) = Int32.ofNat n := own_narc (own_rgn h)
theorem own_i2cn {n : Nat} (h : n < 65536) : (Int32.ofNat n).toUInt32.toUInt16.toUInt32.toInt32 = Int32.ofNat n := own_narn h
theorem own_c255 {x ch : Int32} (h : (x &&& (255 : Int32)).toUInt32.toUInt16.toUInt32.toInt32 = ch) : ¬ ch < 0 ∧ ¬ (255 : Int32) < ch := by
  have m := c_mask x 255 8 (by decide) (by decide)
  have a := c_i2c (x &&& 255)
  rw [h] at a
  have e0 : (0 : Int32).toInt = 0 := rfl
  have e1 : (255 : Int32).toInt = 255 := rfl
  rw [Int32.lt_iff_toInt_lt, Int32.lt_iff_toInt_lt]
  omega
theorem own_divn {x k : Nat} (hx : x < 2147483648) (hk : k < 2147483648) (h0 : k ≠ 0) : Int32.ofNat x / Int32.ofNat k = Int32.ofNat (x / k) := by
  apply Int32.toInt_inj.mp
  have e := n_toInt hx
  have e2 := n_toInt hk
  have e3 := n_toInt (n := x / k) (Nat.lt_of_le_of_lt (Nat.div_le_self _ _) hx)
  rw [Int32.toInt_div_of_ne_left _ _ (fun q => by rw [q] at e; have : (Int32.minValue).toInt = -2147483648 := rfl; omega), e, e2, e3]
  rfl
theorem own_nzn {k : Nat} (hk : k < 2147483648) (h0 : k ≠ 0) : ¬ Int32.ofNat k = 0 := fun q => h0 ((n_eq (a := k) (b := 0) hk (by omega)).mp q)
theorem own_r10 {x : Nat} (hx : x < 2147483648) : Int32.ofNat x % (10 : Int32) = Int32.ofNat (x % 10) := by
  apply Int32.toInt_inj.mp
  have e := n_toInt hx
  have e3 := n_toInt (n := x % 10) (by omega)
  rw [Int32.toInt_mod, e, e3]
  rfl
theorem own_p10 {j : Nat} {d : Value} (h : j < 10) : ([(.int (1 : Int32)), (.int (10 : Int32)), (.int (100 : Int32)), (.int (1000 : Int32)), (.int (10000 : Int32)), (.int (100000 : Int32)), (.int (1000000 : Int32)), (.int (10000000 : Int32)), (.int (100000000 : Int32)), (.int (1000000000 : Int32))] : List Value).getD (Int32.ofNat j).toNatClampNeg d = .int (Int32.ofNat (10 ^ j)) := by
  rw [n_nat (by omega)]
  match j, h with
  | 0, _ => rfl
  | 1, _ => rfl
  | 2, _ => rfl
  | 3, _ => rfl
  | 4, _ => rfl
  | 5, _ => rfl
  | 6, _ => rfl
  | 7, _ => rfl
  | 8, _ => rfl
  | 9, _ => rfl
theorem own_p10lt {j : Nat} (h : j < 10) : 10 ^ j < 2147483648 ∧ 10 ^ j ≠ 0 := ⟨Nat.lt_of_le_of_lt (Nat.pow_le_pow_right (by omega) (show j ≤ 9 by omega)) (by omega), by simp⟩
theorem own_nc34 {cap nd : Nat} (h : cap = 16 ∨ cap = 34) (hn : nd ≤ 34) : nc cap nd = 16 ∨ nc cap nd = 34 := by unfold nc; split <;> omega
theorem own_nc80 {cap nd : Nat} (h : cap = 16 ∨ cap = 34) (hn : nd ≤ 80) : nc cap nd ≤ 80 := by unfold nc; split <;> omega
theorem own_and31 (x : Int32) : x &&& (2147483647 : Int32) = 0 ∨ ∃ pp : Nat, 0 < pp ∧ pp < 2147483648 ∧ x &&& (2147483647 : Int32) = Int32.ofNat pp := by
  have m := c_mask x 2147483647 31 (by decide) (by decide)
  by_cases h : (x &&& (2147483647 : Int32)).toInt = 0
  · exact Or.inl (Int32.toInt_inj.mp h)
  · refine Or.inr ⟨(x &&& (2147483647 : Int32)).toInt.toNat, by omega, by omega, Int32.toInt_inj.mp ?_⟩
    rw [n_toInt (by omega)]
    omega
theorem own_len4 (x : Int32) : x &&& (3 : Int32) = 0 ∨ x &&& (3 : Int32) = 1 ∨ x &&& (3 : Int32) = 2 ∨ x &&& (3 : Int32) = 3 := by
  have m := c_mask x 3 2 (by decide) (by decide)
  have e0 : (0 : Int32).toInt = 0 := rfl
  have e1 : (1 : Int32).toInt = 1 := rfl
  have e2 : (2 : Int32).toInt = 2 := rfl
  have e3 : (3 : Int32).toInt = 3 := rfl
  rw [← Int32.toInt_inj, ← Int32.toInt_inj, ← Int32.toInt_inj, ← Int32.toInt_inj]
  omega
theorem own_dlen {p : Nat} (hp : p < 2147483648) : 1 ≤ (dg p).length ∧ (dg p).length ≤ 10 := by
  have z : ∀ n : Nat, ∀ q : Nat, q < 10 ^ (n + 1) → 1 ≤ (dg q).length ∧ (dg q).length ≤ n + 1 := by
    intro n
    induction n with
    | zero => intro q hq; rw [own_dg1 (by simpa using hq)]; simp
    | succ n ih =>
      intro q hq
      by_cases h : q < 10
      · rw [own_dg1 h]; simp
      · rw [own_dgs (by omega), List.length_append]
        have := ih (q / 10) (by rw [Nat.pow_succ] at hq; omega)
        simp
        omega
  exact z 9 p (by omega)
theorem own_dgat : ∀ (p k : Nat), k < (dg p).length → (dg p).getD k 0 = Int32.ofNat (48 + p / 10 ^ ((dg p).length - 1 - k) % 10) := by
  intro p
  induction p using Nat.strongRecOn with
  | _ p ih =>
    intro k hk
    by_cases h : p < 10
    · rw [own_dg1 h] at hk ⊢
      have : k = 0 := by simpa using hk
      subst this
      simp
    · rw [own_dgs (by omega)] at hk ⊢
      have hl : (dg (p / 10) ++ [Int32.ofNat (48 + p % 10)]).length = (dg (p / 10)).length + 1 := by simp
      rw [hl] at hk ⊢
      by_cases hq : k < (dg (p / 10)).length
      · rw [List.getD_eq_getElem?_getD, List.getElem?_append_left hq, ← List.getD_eq_getElem?_getD, ih (p / 10) (by omega) k hq, Nat.div_div_eq_div_mul, show (dg (p / 10)).length + 1 - 1 - k = ((dg (p / 10)).length - 1 - k) + 1 by omega, Nat.pow_succ, Nat.mul_comm 10]
      · have e : k = (dg (p / 10)).length := by omega
        rw [List.getD_eq_getElem?_getD, e, List.getElem?_append_right (Nat.le_refl _)]
        simp
theorem own_repP (pp : Nat) (xs : List Int32) : repL qSP (msgP pp xs) = q53 ++ (dg pp ++ (qCS ++ xs)) := by
  simp only [repL, msgP, List.nil_append, List.append_assoc]
  rfl
theorem own_repPl (pp : Nat) (xs : List Int32) : (repL qSP (msgP pp xs)).length = 26 + (dg pp).length + xs.length := by
  rw [own_repP]
  simp [q53, qCS]
  omega
theorem own_gA {l r : List Int32} {i : Nat} (h : i < l.length) : (l ++ r).getD i 0 = l.getD i 0 := by rw [List.getD_eq_getElem?_getD, List.getElem?_append_left h, ← List.getD_eq_getElem?_getD]
theorem own_gB {l r : List Int32} {i : Nat} (h : l.length ≤ i) : (l ++ r).getD i 0 = r.getD (i - l.length) 0 := by rw [List.getD_eq_getElem?_getD, List.getElem?_append_right h, ← List.getD_eq_getElem?_getD]
theorem own_eA (pp : Nat) (xs : List Int32) : ∀ i, i < 24 → (repL qSP (msgP pp xs)).getD i 0 = q53.getD i 0 := fun i hi => by rw [own_repP, own_gA (show i < q53.length from hi)]
theorem own_eB (pp : Nat) {xs : List Int32} {c0 c1 c2 : Int32} (hx : ∀ j, j < xs.length → xs.getD j 0 = rcV j c0 c1 c2) : ∀ i, 24 ≤ i → i < 26 + (dg pp).length + xs.length → (repL qSP (msgP pp xs)).getD i 0 = exB pp (dg pp).length c0 c1 c2 i := by
  intro i h1 h2
  rw [own_repP, own_gB (show q53.length ≤ i from h1), show q53.length = 24 from rfl]
  unfold exB
  by_cases a : i < 24 + (dg pp).length
  · rw [if_pos a, own_gA (by omega), own_dgat _ _ (by omega)]
  · rw [if_neg a, own_gB (by omega)]
    by_cases b : i = 24 + (dg pp).length
    · rw [if_pos b, show i - 24 - (dg pp).length = 0 by omega]; rfl
    · rw [if_neg b]
      by_cases c : i = 25 + (dg pp).length
      · rw [if_pos c, show i - 24 - (dg pp).length = 1 by omega]; rfl
      · rw [if_neg c, own_gB (by show 2 ≤ _; omega), show qCS.length = 2 from rfl, show i - 24 - (dg pp).length - 2 = i - 26 - (dg pp).length by omega]
        exact hx _ (by omega)
theorem own_eC {xs : List Int32} {c0 c1 c2 : Int32} (hx : ∀ j, j < xs.length → xs.getD j 0 = rcV j c0 c1 c2) : ∀ i, i < 13 + xs.length → (repL qCS xs).getD i 0 = exC c0 c1 c2 i := by
  intro i h
  have e : repL qCS xs = q62 ++ xs := by simp only [repL, List.nil_append]; rfl
  rw [e]
  unfold exC
  by_cases a : i < 13
  · rw [if_pos a, own_gA (show i < q62.length from a)]
  · rw [if_neg a, own_gB (show q62.length ≤ i from (by show 13 ≤ i; omega)), show q62.length = 13 from rfl]
    exact hx _ (by omega)
theorem own_x0 {c0 c1 c2 : Int32} : ∀ j, j < ([] : List Int32).length → ([] : List Int32).getD j 0 = rcV j c0 c1 c2 := fun j h => absurd h (Nat.not_lt_zero _)
theorem own_x1 {c0 c1 c2 : Int32} : ∀ j, j < [c0].length → [c0].getD j 0 = rcV j c0 c1 c2
  | 0, _ => rfl
theorem own_x2 {c0 c1 c2 : Int32} : ∀ j, j < [c0, c1].length → [c0, c1].getD j 0 = rcV j c0 c1 c2
  | 0, _ => rfl
  | 1, _ => rfl
theorem own_x3 {c0 c1 c2 : Int32} : ∀ j, j < [c0, c1, c2].length → [c0, c1, c2].getD j 0 = rcV j c0 c1 c2
  | 0, _ => rfl
  | 1, _ => rfl
  | 2, _ => rfl
theorem own_l1 {c : Int32} (h : ¬ c < 0 ∧ ¬ (255 : Int32) < c) : ∀ z ∈ [c], ¬ z < 0 ∧ ¬ (255 : Int32) < z := fun z hz => by cases List.mem_singleton.mp hz; exact h
theorem own_l2 {c d : Int32} (h : ¬ c < 0 ∧ ¬ (255 : Int32) < c) (h2 : ¬ d < 0 ∧ ¬ (255 : Int32) < d) : ∀ z ∈ [c, d], ¬ z < 0 ∧ ¬ (255 : Int32) < z := fun z hz => by
  rcases List.mem_cons.mp hz with rfl | hz
  · exact h
  · exact own_l1 h2 z hz
theorem own_l3 {c d e : Int32} (h : ¬ c < 0 ∧ ¬ (255 : Int32) < c) (h2 : ¬ d < 0 ∧ ¬ (255 : Int32) < d) (h3 : ¬ e < 0 ∧ ¬ (255 : Int32) < e) : ∀ z ∈ [c, d, e], ¬ z < 0 ∧ ¬ (255 : Int32) < z := fun z hz => by
  rcases List.mem_cons.mp hz with rfl | hz
  · exact h
  · exact own_l2 h2 h3 z hz
theorem own_d58 (x : Nat) : 48 + x % 10 < 65536 := by omega
theorem own_rcl {j : Nat} {c0 c1 c2 : Int32} (k0 : ¬ c0 < 0 ∧ ¬ (255 : Int32) < c0) (k1 : ¬ c1 < 0 ∧ ¬ (255 : Int32) < c1) (k2 : ¬ c2 < 0 ∧ ¬ (255 : Int32) < c2) : ¬ rcV j c0 c1 c2 < 0 ∧ ¬ (255 : Int32) < rcV j c0 c1 c2 := by
  unfold rcV
  split
  · exact k0
  · split
    · exact k1
    · exact k2
theorem own_msgl (pp : Nat) (xs : List Int32) : (msgP pp xs).length = 14 + (dg pp).length + xs.length := by
  simp [msgP, qAT, qCS]
  omega
theorem own_rep0l (xs : List Int32) : (repL qCS xs).length = 13 + xs.length := by
  simp [repL, qER, qCS]
  omega
/-- a pinned byte[] of 100, element by element -/
theorem own_digits {Z : State} {args : Array Value} {t r : Term} (hx : (Cond.arrayClass .byte).before args Z = true) (he : (Cond.exactly t "[B").before args Z = true) (hl : (Cond.eq (Term.length t) (Term.int 100)).before args Z = true) (ha : (Cond.all t (Cond.eq (Term.elem t (Term.index 0)) r)).before args Z = true) (hti : ∀ i, t.eval args Z none [i] Z = t.eval args Z none [] Z)
    {vs : List Value} {fn : Nat → Int32} (hr : ∀ j, j < 100 → r.eval args Z none [j] Z = some (.int (fn j))) (hvs : ∀ j, j < 100 → vs.getD j (.int 0) = .int (fn j)) (hfit : ∀ j, j < 100 → fits .byte (.int (fn j)) = true) :
    ∃ a k, t.eval args Z none [] Z = some (.ref a) ∧ Arv Z Z.heap a k .byte 100 vs (.int 0) := by
  obtain ⟨a, c', cell, k, e1, e2, e3, e4, e5, e6, e7⟩ := Cond.exactly_spec he
  obtain ⟨c2, k2, comp, x1, x2, x3⟩ := Cond.arrayClass_spec (show (Cond.arrayClass .byte).holds args Z none Z [] = true from hx)
  have hcc : c' = c2 := Option.some.inj (e2.symm.trans x1)
  subst hcc
  have hv := Cond.before_iff.mp hl
  have hia : Z.isArrayOf cell .byte := ⟨(fun q hq => by rw [hq] at e5; cases e5), k2, by rw [e6]; exact x2, comp, x3⟩
  have hs : Z.arrayAt? a = some cell ∧ cell.slots.size = 100 := by
    cases q : (Term.length t).eval args Z none [] Z with
    | none => simp [Cond.value, q] at hv
    | some v =>
      obtain ⟨a', c3, h1, h2, h3, h4⟩ := length_spec q
      cases e1.symm.trans h1
      have hc : c3 = cell := by
        have z := h2
        simp only [State.arrayAt?, e3] at z
        grind
      subst hc h4
      rw [Cond.eq_ints q (Term.int_eval 100)] at hv
      have h5 := of_decide_eq_true (Option.some.inj hv)
      have h6 : (c3.slots.size.toInt32).toInt = c3.slots.size := Int32.toInt_ofNat_of_lt h3
      rw [h5] at h6
      have : (100 : Int32).toInt = 100 := rfl
      exact ⟨h2, by omega⟩
  obtain ⟨harr, hz⟩ := hs
  have hku : cell.vm ≠ .unknown := fun q => by
    simp only [State.arrayAt?, e3] at harr
    grind
  have hE := Cond.all_elim e1 harr (Cond.before_iff.mp ha)
  have hg : ∀ j : Nat, j < 100 → cell.slots[j]? = some (.int (fn j)) := by
    intro j hj
    have h1 := hE j (by omega)
    have hn0 : ¬ (Nat.toInt32 j) < 0 := fun q => by
      rw [Int32.lt_iff_toInt_lt, show (Nat.toInt32 j).toInt = j from Int32.toInt_ofNat_of_lt (by omega)] at q
      have e0 : (0 : Int32).toInt = 0 := rfl
      omega
    have hcl : (Nat.toInt32 j).toNatClampNeg = j := by rw [Int32.toNatClampNeg, show (Nat.toInt32 j).toInt = j from Int32.toInt_ofNat_of_lt (by omega)]; rfl
    have ev : (Term.elem t (Term.index 0)).eval args Z none [j] Z = cell.slots[j]? := by
      simp only [Term.eval, hti, e1, Option.bind_eq_bind, Option.bind_some, List.getElem?_cons_zero, Option.map_some, hn0, if_false, harr, hcl]
    have hlt : j < cell.slots.size := by omega
    rw [Array.getElem?_eq_getElem hlt] at ev ⊢
    cases hq : cell.slots[j] with
    | int w =>
      rw [hq] at ev
      rw [Cond.eq_ints ev (hr j hj)] at h1
      rw [of_decide_eq_true (Option.some.inj h1)]
    | _ => rw [hq] at ev; simp [Cond.value, ev, hr j hj] at h1
  exact ⟨a, cell.cls, e1, cell, ⟨e3, hia, hku⟩, rfl, by rw [hz]; decide, by decide, fun j hj => by rw [hg j (by omega), hvs j (by omega)], fun j hj => by rw [hvs j (by omega)]; exact hfit j (by omega)⟩
theorem own_rTO {args : Array Value} {Z : State} (j : Nat) (h : j < 100) : (Term.add (Term.int (48 : Int32)) (Term.rem (Term.index (0 : Nat)) (Term.int (10 : Int32)))).eval args Z none [j] Z = some (.int (Int32.ofNat (48 + j % 10))) := by
  have q := (by decide : ∀ j, j < 100 → Nat.toInt32 j % 10 = Int32.ofNat (j % 10)) j h
  simp [Term.eval]
  exact q
theorem own_rTT {args : Array Value} {Z : State} (j : Nat) (h : j < 100) : (Term.add (Term.int (48 : Int32)) (Term.div (Term.index (0 : Nat)) (Term.int (10 : Int32)))).eval args Z none [j] Z = some (.int (Int32.ofNat (48 + j / 10))) := by
  have q := (by decide : ∀ j, j < 100 → Nat.toInt32 j / 10 = Int32.ofNat (j / 10)) j h
  simp [Term.eval]
  exact q
theorem own_vTO (j : Nat) (h : j < 100) : TO.getD j (.int 0) = .int (Int32.ofNat (48 + j % 10)) := by simp [TO, List.getD_eq_getElem?_getD, h]
theorem own_vTT (j : Nat) (h : j < 100) : TT.getD j (.int 0) = .int (Int32.ofNat (48 + j / 10)) := by simp [TT, List.getD_eq_getElem?_getD, h]
theorem own_fTO (j : Nat) (h : j < 100) : fits .byte (.int (Int32.ofNat (48 + j % 10))) = true := (by decide +kernel : ∀ j, j < 100 → fits .byte (.int (Int32.ofNat (48 + j % 10))) = true) j h
theorem own_fTT (j : Nat) (h : j < 100) : fits .byte (.int (Int32.ofNat (48 + j / 10))) = true := (by decide +kernel : ∀ j, j < 100 → fits .byte (.int (Int32.ofNat (48 + j / 10))) = true) j h
theorem own_mk {s : State} (h : Jvm.D.tablesKnown s = true) : s.vm.MethodsKnown := by
  intro m x hx
  obtain ⟨k, hk, hm⟩ : ∃ k, s.vm.classes[m.cls]? = some k ∧ k.methods[m.idx]? = some x := by
    simp only [Vm.method?, Option.bind_eq_bind, Option.bind_eq_some_iff] at hx
    exact hx
  refine ⟨k, hk, fun cf hcf => ?_⟩
  obtain ⟨hlt, hkk⟩ := Array.getElem?_eq_some_iff.mp hk
  have q := (Array.all_eq_true.mp (show Array.all _ _ = true from h)) m.cls hlt
  rw [hkk, hcf] at q
  have e : k.methods.size = cf.methods.size := by simpa using q
  have hi := (Array.getElem?_eq_some_iff.mp hm).1
  rw [e] at hi
  rw [Array.getElem?_eq_getElem hi]
  rfl
theorem own_fk {s : State} {m : MethodId} {args : Array Value} {below : List Frame} (hf : s.frames = Frame.invoking m args :: below) (h : Jvm.D.framesKnown s = true) : s.vm.FramesKnown below := by
  have key : ∀ mm : MethodId, Jvm.D.methodKnown s.vm mm = true → s.vm.knowsMethod mm := by
    intro mm q
    unfold Jvm.D.methodKnown at q
    cases hk : s.vm.classes[mm.cls]? with
    | none => rw [hk] at q; cases q
    | some k =>
      rw [hk] at q
      refine ⟨k, hk, fun cf hcf => ?_⟩
      simp only [hcf] at q
      exact q
  intro y hy m' hm
  have q := List.all_eq_true.mp (show List.all _ _ = true from h) y (by rw [hf]; exact List.mem_cons_of_mem _ hy)
  cases y with
  | java g =>
    obtain rfl : g.method = m' := Option.some.inj hm
    exact key _ q
  | native n =>
    obtain rfl : n.method = m' := Option.some.inj hm
    exact key _ q
  | _ => exact absurd hm (by simp [frameMethod?])
theorem own_lenref {Z : State} {args : Array Value} {t : Term} {n : Int32} (hl : (Cond.eq (Term.length t) (Term.int n)).before args Z = true) : ∃ a, t.eval args Z none [] Z = some (.ref a) := by
  have hv := Cond.before_iff.mp hl
  cases q : (Term.length t).eval args Z none [] Z with
  | none => simp [Cond.value, q] at hv
  | some v =>
    obtain ⟨a', c3, h1, -⟩ := length_spec q
    exact ⟨a', h1⟩

theorem c_can {l : Launch} {Z : State} {a0 : Array Value} (hw : W a0 Z) (x : Int32) (h0 : Heap) (hx : ¬ ((255 : Int32) < x)) :
    Con l Z EL0 (⟨"java/lang/StringLatin1", "canEncode", "(C)Z"⟩ : MethodName) jdk_43_method_3_code 1 (some .boolean) ({ frames := 0, cells := 0, slots := 0, locals := 0 } : Room) #[(.int x)] h0 [] (fun v h' Sf => v = some (.int 1) ∧ h' = h0) := by
  refine Con.intro (plainFor_of_name pn0) ?_
  intro p e s m below meth c T X hss
  refine Goes.cast (g' := mkF m 0 #[.val (.int x)] []) (by first | (simp [entryFrame, mkF, argsToLocals, Value.category]; done) | rfl) ?_
  refine o_iloadN X d43_3_0 rfl (q := 1) rfl ?_
  refine o_sipush X d43_3_1 (w := 255) rfl (q := 4) rfl ?_
  refine o_icmpN X d43_3_4 (flt hx).2.2.1 (q := 7) rfl ?_
  refine o_iconst X d43_3_7 (w := 1) rfl (q := 8) rfl ?_
  refine o_goto X d43_3_8 (by decide) (q := 12) (by decide) ?_
  exact o_retN X d43_3_12 (by simp) (fun Sf hSf => ⟨rfl, rfl⟩) (by decide) (by decide)
theorem c_toB {l : Launch} {Z : State} {a0 : Array Value} (hw : W a0 Z) (x : Int32) (h0 : Heap)  :
    Con l Z EL0 (⟨"java/lang/StringLatin1", "toBytes", "(C)[B"⟩ : MethodName) jdk_43_method_46_code 1 (some (.array .byte)) ({ frames := 0, cells := 1, slots := 1, locals := 0 } : Room) #[(.int x)] h0 [] (fun v h' Sf => ∃ (b : Addr) (kb : ClassId), v = some (.ref b) ∧ Keep h0 h' [] ∧ h0.size ≤ b ∧ Sf b ∧ Exa Z h' b "[B" ∧ Arv Z h' b kb .byte (1 : Int32) [(.int x.toInt8.toInt32)] (.int (0 : Int32))) := by
  refine Con.intro (plainFor_of_name pn0) ?_
  intro p e s m below meth c T X hss
  refine Goes.cast (g' := mkF m 0 #[.val (.int x)] []) (by first | (simp [entryFrame, mkF, argsToLocals, Value.category]; done) | rfl) ?_
  refine o_iconst X d43_46_0 (w := 1) rfl (q := 1) rfl ?_
  refine o_newarrE X (cap := 1) 1 (w4 hw) d43_46_1 (by decide) (by decide) (by decide) (by decide) (by decide) (q := 3) rfl ?_
  intro T1 h1 b1 k1 gb1 X1 E1 R1 S1 V1 A1 g0_b1
  have V1 : Arv Z h1 b1 k1 .byte (1 : Int32) [(.int (0 : Int32))] (.int (0 : Int32)) := V1
  refine o_dup X1 d43_46_3 rfl (q := 4) rfl ?_
  refine o_iconst X1 d43_46_4 (w := 0) rfl (q := 5) rfl ?_
  refine o_iloadN X1 d43_46_5 rfl (q := 6) rfl ?_
  refine o_i2b X1 d43_46_6 (w := (x.toInt8.toInt32)) rfl (q := 7) rfl ?_
  refine o_bastore X1 0 V1 g0_b1 S1 (by decide) rfl (lb rfl) (v := (.int x.toInt8.toInt32)) (by rw [own_narb]) d43_46_7 (q := 8) rfl ?_
  intro T2 h2 l2 X2 W2 R2 V2
  have V2 : Arv Z h2 b1 k1 .byte (1 : Int32) [(.int x.toInt8.toInt32)] (.int (0 : Int32)) := V2
  have sz3 := Nat.le_trans (Keep.refl h0 []).1 (Nat.le_of_eq gb1.symm)
  have k4 := Keep.ext (Keep.refl h0 []) E1
  have k5 := Keep.wr k4 W2 (Or.inr sz3)
  have f6 := (CHr.safe R2 (A1.lt) S1)
  have f7 := (A1.wr W2)
  exact o_retR X2 d43_46_8 rfl rfl rfl (fun Sf hSf => ⟨b1, k1, rfl, k5, sz3, hSf _ V2.lt f6, f7, V2⟩) (by decide) (by decide)
theorem c_bb0 {l : Launch} {Z : State} {a0 : Array Value} (hw : W a0 Z) (a b : Addr) (h0 : Heap) (E : Exa Z h0 a "java/lang/String") (ga : Z.heap.size ≤ a) (Fv : Fld Z h0 a "java/lang/String" "value" "[B" .null) (Fc : Fld Z h0 a "java/lang/String" "coder" "B" (.int (0 : Int32))) :
    Con l Z EL0 (⟨"java/lang/String", "<init>", "([BB)V"⟩ : MethodName) jdk_42_method_151_code 3 none ({ frames := 1, cells := 0, slots := 0, locals := 12 } : Room) #[(.ref a), (.ref b), (.int (0 : Int32))] h0 [a] (fun v h' Sf => v = none ∧ Keep h0 h' [a] ∧ Fld Z h' a "java/lang/String" "coder" "B" (.int (0 : Int32)) ∧ Fld Z h' a "java/lang/String" "value" "[B" (.ref b)) := by
  refine Con.intro (plainFor_of_name pn1) ?_
  intro p e s m below meth c T X hss
  have S_a := hss a (by simp)
  refine Goes.cast (g' := mkF m 0 #[.val (.ref a), .val (.ref b), .val (.int (0 : Int32))] []) (by first | (simp [entryFrame, mkF, argsToLocals, Value.category]; done) | rfl) ?_
  refine o_aloadN X d42_151_0 rfl rfl (q := 1) rfl ?_
  refine o_initO X (w163 hw) (w27 hw) (w28 hw) d42_151_1 rfl (by decide) (lb rfl) (q := 4) rfl ?_
  intro T1 X1
  refine o_aloadN X1 d42_151_4 rfl rfl (q := 5) rfl ?_
  refine o_aloadN X1 d42_151_5 rfl rfl (q := 6) rfl ?_
  refine o_putF X1 Fv E ga S_a (host := "") (Or.inl (w108 hw)) Via.refl (Or.inr ⟨(w5 hw), rfl, rfl⟩) (w3 hw) (ty := (.array .byte)) (by decide) rfl rfl d42_151_6 (q := 9) rfl ?_
  intro T2 h2 l2 X2 W2 R2 F2
  refine o_aloadN X2 d42_151_9 rfl rfl (q := 10) rfl ?_
  refine o_iloadN X2 d42_151_10 rfl (q := 11) rfl ?_
  have f3 := (Fc.other W2 (Or.inr (slot_ne (Or.inr (w6 hw)) (Or.inr (w5 hw)) (by decide) (t := .byte) (t' := (.array .byte)) (by decide) (by decide))))
  have f4 := (E.wr W2)
  have f6 := (CHr.safe R2 (E.lt) S_a)
  refine o_putF X2 f3 f4 ga f6 (host := "") (Or.inl (w115 hw)) Via.refl (Or.inr ⟨(w6 hw), rfl, rfl⟩) (w3 hw) (ty := .byte) (by decide) (by decide) (by decide) d42_151_11 (q := 14) rfl ?_
  intro T5 h5 l5 X5 W5 R5 F5
  have k7 := Keep.wr (Keep.refl h0 [a]) W2 (Or.inl (by simp))
  have k8 := Keep.wr k7 W5 (Or.inl (by simp))
  have f9 := (F2.other W5 (Or.inr (slot_ne (Or.inr (w5 hw)) (Or.inr (w6 hw)) (by decide) (t := (.array .byte)) (t' := .byte) (by decide) (by decide))))
  exact o_ret X5 d42_151_14 (fun Sf hSf => ⟨rfl, k8, F5, f9⟩) (by decide) (by decide)
theorem c_valueOf {l : Launch} {Z : State} {a0 : Array Value} (hw : W a0 Z) (x : Int32) (h0 : Heap) {zc : Int32} (O2 : Sta Z Z.heap "java/lang/String" "COMPACT_STRINGS" "Z" (.int zc)) (P5 : ¬ zc = 0) (hx : ¬ x < 0 ∧ ¬ (255 : Int32) < x) :
    Con l Z EL0 (⟨"java/lang/String", "valueOf", "(C)Ljava/lang/String;"⟩ : MethodName) jdk_42_method_139_code 1 (some (.object "java/lang/String")) ({ frames := 2, cells := 2, slots := 5, locals := 27 } : Room) #[(.int x)] h0 [] (fun v h' Sf => ∃ (r b : Addr) (kb : ClassId), v = some (.ref r) ∧ Keep h0 h' [] ∧ LS Z h' r b kb [x]) := by
  refine Con.intro (plainFor_of_name pn1) ?_
  intro p e s m below meth c T X hss
  refine Goes.cast (g' := mkF m 0 #[.val (.int x)] []) (by first | (simp [entryFrame, mkF, argsToLocals, Value.category]; done) | rfl) ?_
  refine o_getS X O2 (host := "") (Or.inl (w114 hw)) Via.refl d42_139_0 (q := 3) rfl ?_
  intro T1 X1
  refine o_ifN X1 d42_139_3 (feq P5).1 (q := 6) rfl ?_
  refine o_iloadN X1 d42_139_6 rfl (q := 7) rfl ?_
  refine o_stat X1 [(.int x)] (y' := ⟨"java/lang/StringLatin1", "canEncode", "(C)Z"⟩) (c_can hw x _ hx.2) all0 (w234 hw) (w235 hw) (w217 hw) (w236 hw) (by decide) d42_139_7 (rest := []) rfl rfl (lenOf pd0 rfl) rfl (by decide) (lb rfl) (by decide) (by decide) (q := 10) rfl ?_
  intro v2 vm2 T2 h2 l2 X2 R2 q2
  obtain ⟨rfl, e2⟩ := q2
  have e2 := e2.symm
  subst e2
  show Goes p e below _ T2 (mkF m 10 #[.val (.int x)] [(.int (1 : Int32))])
  refine o_ifN X2 d42_139_10 (by decide) (q := 13) rfl ?_
  refine o_new X2 (w237 hw) (w3 hw) (w2 hw) d42_139_13 (by decide) (by decide) (q := 16) rfl ?_
  intro T3 h3 b3 gb3 X3 E3 R3 S3 A3 D3 g0_b3
  have f4 : Fld Z h3 b3 "java/lang/String" "value" "[B" .null := D3 (Or.inr (w5 hw)) (ty := (.array .byte)) (by decide)
  have f5 : Fld Z h3 b3 "java/lang/String" "coder" "B" (.int (0 : Int32)) := D3 (Or.inr (w6 hw)) (ty := .byte) (by decide)
  refine o_dup X3 d42_139_16 rfl (q := 17) rfl ?_
  refine o_iloadN X3 d42_139_17 rfl (q := 18) rfl ?_
  refine o_stat X3 [(.int x)] (y' := ⟨"java/lang/StringLatin1", "toBytes", "(C)[B"⟩) (c_toB hw x _) all0 (w238 hw) (w239 hw) (w217 hw) (w240 hw) (by decide) d42_139_18 (rest := [(.ref b3), (.ref b3)]) rfl rfl (lenOf pd1 rfl) rfl (by decide) (lb rfl) (by decide) (by decide) (q := 21) rfl ?_
  intro v6 vm6 T6 h6 l6 X6 R6 q6
  obtain ⟨b6, kb6, rfl, K6, g6, s6, A6, V6⟩ := q6
  show Goes p e below _ T6 (mkF m 21 #[.val (.int x)] [(.ref b6), (.ref b3), (.ref b3)])
  refine o_iconst X6 d42_139_21 (w := 0) rfl (q := 22) rfl ?_
  have f7 := (A3.keep K6)
  have f8 := (f4.keep K6 nin0)
  have f9 := (f5.keep K6 nin0)
  have f11 := (CHr.safe R6 (A3.lt) S3)
  refine o_spec X6 [(.ref b6), (.int (0 : Int32))] (y' := ⟨"java/lang/String", "<init>", "([BB)V"⟩) (c_bb0 hw b3 b6 _ f7 g0_b3 f8 f9) (allS ⟨f7.lt, f11⟩ all0) rfl (w241 hw) (w242 hw) (w243 hw) (w2 hw) (by decide) d42_139_22 (rest := [(.ref b3)]) rfl rfl (lenOf pd2 rfl) rfl (by decide) (lb rfl) (by decide) (by decide) (q := 25) rfl ?_
  intro v10 vm10 T10 h10 l10 X10 R10 q10
  obtain ⟨rfl, K10, Fc10, Fv10⟩ := q10
  show Goes p e below _ T10 (mkF m 25 #[.val (.int x)] [(.ref b3)])
  have sz12 := Nat.le_trans (Keep.refl h0 []).1 (Nat.le_of_eq gb3.symm)
  have k13 := Keep.ext (Keep.refl h0 []) E3
  have sz14 := Nat.le_trans k13.1 g6
  have k15 := Keep.trans k13 K6 all0
  have k16 := Keep.trans k15 K10 (allS (Or.inr sz12) all0)
  have f17 := (f7.keep K10)
  have f18 := (V6.keep K10 (ninS (Ne.symm (Nat.ne_of_lt (Nat.lt_of_lt_of_le A3.lt g6))) nin0))
  exact o_retR X10 d42_139_25 rfl rfl rfl (fun Sf hSf => ⟨b3, b6, kb6, rfl, k16, f17, Fc10, Fv10, f18, (fun c hc => by cases List.mem_singleton.mp hc; exact hx), Nat.le_of_ble_eq_true rfl⟩) (by decide) (by decide)
theorem c_coder0 {l : Launch} {Z : State} {a0 : Array Value} (hw : W a0 Z) (a : Addr) (h0 : Heap) {zc : Int32} (O2 : Sta Z Z.heap "java/lang/String" "COMPACT_STRINGS" "Z" (.int zc)) (P5 : ¬ zc = 0) (Fc : Fld Z h0 a "java/lang/String" "coder" "B" (.int (0 : Int32))) :
    Con l Z EL0 (⟨"java/lang/String", "coder", "()B"⟩ : MethodName) jdk_42_method_152_code 1 (some .byte) ({ frames := 0, cells := 0, slots := 0, locals := 0 } : Room) #[(.ref a)] h0 [] (fun v h' Sf => v = some (.int (0 : Int32)) ∧ h' = h0) := by
  refine Con.intro (plainFor_of_name pn1) ?_
  intro p e s m below meth c T X hss
  refine Goes.cast (g' := mkF m 0 #[.val (.ref a)] []) (by first | (simp [entryFrame, mkF, argsToLocals, Value.category]; done) | rfl) ?_
  refine o_getS X O2 (host := "") (Or.inl (w114 hw)) Via.refl d42_152_0 (q := 3) rfl ?_
  intro T1 X1
  refine o_ifN X1 d42_152_3 (feq P5).1 (q := 6) rfl ?_
  refine o_aloadN X1 d42_152_6 rfl rfl (q := 7) rfl ?_
  refine o_getF X1 Fc (host := "") (Or.inl (w115 hw)) Via.refl d42_152_7 (q := 10) rfl ?_
  intro T2 X2
  refine o_goto X2 d42_152_10 (by decide) (q := 14) (by decide) ?_
  exact o_retN X2 d42_152_14 (by simp) (fun Sf hSf => ⟨rfl, rfl⟩) (by decide) (by decide)
theorem c_minG {l : Launch} {Z : State} {a0 : Array Value} (hw : W a0 Z) (x z : Nat) (h0 : Heap) (h : z < x) (hx : x ≤ 4000) :
    Con l Z EL0 (⟨"java/lang/Math", "min", "(II)I"⟩ : MethodName) jdk_29_method_69_code 2 (some .int) ({ frames := 0, cells := 0, slots := 0, locals := 0 } : Room) #[(.int (Int32.ofNat x)), (.int (Int32.ofNat z))] h0 [] (fun v h' Sf => v = some (.int (Int32.ofNat z)) ∧ h' = h0) := by
  refine Con.intro (Jvm.Free.JP.mathPlain rfl (by decide +kernel)) ?_
  intro p e s m below meth c T X hss
  refine Goes.cast (g' := mkF m 0 #[.val (.int (Int32.ofNat x)), .val (.int (Int32.ofNat z))] []) (by first | (simp [entryFrame, mkF, argsToLocals, Value.category]; done) | rfl) ?_
  refine o_iloadN X d29_69_0 rfl (q := 1) rfl ?_
  refine o_iloadN X d29_69_1 rfl (q := 2) rfl ?_
  refine o_icmpY X d29_69_2 (tlt ((n_lt (by omega) (by omega)).mpr (by omega))).2.2.1 (by decide) (q := 9) (by decide) ?_
  refine o_iloadN X d29_69_9 rfl (q := 10) rfl ?_
  exact o_retI X d29_69_10 (fun Sf hSf => ⟨rfl, rfl⟩) (by decide) (by decide)
theorem c_minL {l : Launch} {Z : State} {a0 : Array Value} (hw : W a0 Z) (x z : Nat) (h0 : Heap) (h : x ≤ z) (hx : z ≤ 4000) :
    Con l Z EL0 (⟨"java/lang/Math", "min", "(II)I"⟩ : MethodName) jdk_29_method_69_code 2 (some .int) ({ frames := 0, cells := 0, slots := 0, locals := 0 } : Room) #[(.int (Int32.ofNat x)), (.int (Int32.ofNat z))] h0 [] (fun v h' Sf => v = some (.int (Int32.ofNat x)) ∧ h' = h0) := by
  refine Con.intro (Jvm.Free.JP.mathPlain rfl (by decide +kernel)) ?_
  intro p e s m below meth c T X hss
  refine Goes.cast (g' := mkF m 0 #[.val (.int (Int32.ofNat x)), .val (.int (Int32.ofNat z))] []) (by first | (simp [entryFrame, mkF, argsToLocals, Value.category]; done) | rfl) ?_
  refine o_iloadN X d29_69_0 rfl (q := 1) rfl ?_
  refine o_iloadN X d29_69_1 rfl (q := 2) rfl ?_
  refine o_icmpN X d29_69_2 (flt (fun q => absurd ((n_lt (by omega) (by omega)).mp q) (by omega))).2.2.1 (q := 5) rfl ?_
  refine o_iloadN X d29_69_5 rfl (q := 6) rfl ?_
  refine o_goto X d29_69_6 (by decide) (q := 10) (by decide) ?_
  exact o_retI X d29_69_10 (fun Sf hSf => ⟨rfl, rfl⟩) (by decide) (by decide)
theorem c_max {l : Launch} {Z : State} {a0 : Array Value} (hw : W a0 Z) (x z : Nat) (h0 : Heap) (hx : x ≤ 4000) (hz : z ≤ 4000) :
    Con l Z EL0 (⟨"java/lang/Math", "max", "(II)I"⟩ : MethodName) jdk_29_method_65_code 2 (some .int) ({ frames := 0, cells := 0, slots := 0, locals := 0 } : Room) #[(.int (Int32.ofNat x)), (.int (Int32.ofNat z))] h0 [] (fun v h' Sf => v = some (.int (Int32.ofNat (max x z))) ∧ h' = h0) := by
  refine Con.intro (Jvm.Free.JP.mathPlain rfl (by decide +kernel)) ?_
  intro p e s m below meth c T X hss
  refine Goes.cast (g' := mkF m 0 #[.val (.int (Int32.ofNat x)), .val (.int (Int32.ofNat z))] []) (by first | (simp [entryFrame, mkF, argsToLocals, Value.category]; done) | rfl) ?_
  refine o_iloadN X d29_65_0 rfl (q := 1) rfl ?_
  refine o_iloadN X d29_65_1 rfl (q := 2) rfl ?_
  by_cases hc2 : (Int32.ofNat x) < (Int32.ofNat z)
  · refine o_icmpY X d29_65_2 (tlt hc2).1 (by decide) (q := 9) (by decide) ?_
    refine o_iloadN X d29_65_9 rfl (q := 10) rfl ?_
    exact o_retI X d29_65_10 (fun Sf hSf => ⟨by rw [own_maxL ((n_lt (by omega) (by omega)).mp hc2)], rfl⟩) (by decide) (by decide)
  · refine o_icmpN X d29_65_2 (flt hc2).1 (q := 5) rfl ?_
    refine o_iloadN X d29_65_5 rfl (q := 6) rfl ?_
    refine o_goto X d29_65_6 (by decide) (q := 10) (by decide) ?_
    exact o_retI X d29_65_10 (fun Sf hSf => ⟨by rw [own_maxR (fun q => hc2 ((n_lt (by omega) (by omega)).mpr q))], rfl⟩) (by decide) (by decide)
theorem c_ckl {l : Launch} {Z : State} {a0 : Array Value} (hw : W a0 Z) (mq : Nat) (h0 : Heap) (hm : mq ≤ 4000) :
    Con l Z EL0 (⟨"java/util/Arrays", "checkLength", "(II)V"⟩ : MethodName) jdk_65_method_131_code 2 none ({ frames := 0, cells := 0, slots := 0, locals := 0 } : Room) #[(.int (0 : Int32)), (.int (Int32.ofNat mq))] h0 [] (fun v h' Sf => v = none ∧ h' = h0) := by
  refine Con.intro (plainFor_of_name pn2) ?_
  intro p e s m below meth c T X hss
  refine Goes.cast (g' := mkF m 0 #[.val (.int (0 : Int32)), .val (.int (Int32.ofNat mq))] []) (by first | (simp [entryFrame, mkF, argsToLocals, Value.category]; done) | rfl) ?_
  refine o_iloadN X d65_131_0 rfl (q := 1) rfl ?_
  refine o_iloadN X d65_131_1 rfl (q := 2) rfl ?_
  refine o_icmpY X d65_131_2 (flt (n_neg (by omega))).2.1 (by decide) (q := 37) (by decide) ?_
  exact o_ret X d65_131_37 (fun Sf hSf => ⟨rfl, rfl⟩) (by decide) (by decide)
theorem c_corb {l : Launch} {Z : State} {a0 : Array Value} (hw : W a0 Z) (va : Addr) (mq N : Nat) (h0 : Heap) {kv : ClassId} {vs : List Value} (Va : Arv Z h0 va kv .byte (Int32.ofNat N) vs (.int (0 : Int32))) (Ea : Exa Z h0 va "[B") (hN : N ≤ 4000) (hv : mq ≤ vs.length) (hM : mq ≤ 80) (hm : mq < N) :
    Con l Z EL0 (⟨"java/util/Arrays", "copyOfRangeByte", "([BII)[B"⟩ : MethodName) jdk_65_method_133_code 5 (some (.array .byte)) ({ frames := 1, cells := 1, slots := 80, locals := 18 } : Room) #[(.ref va), (.int (0 : Int32)), (.int (Int32.ofNat mq))] h0 [] (fun v h' Sf => ∃ (b : Addr) (kb : ClassId), v = some (.ref b) ∧ Keep h0 h' [] ∧ h0.size ≤ b ∧ Sf b ∧ Exa Z h' b "[B" ∧ Arv Z h' b kb .byte (Int32.ofNat mq) (vs.take mq) (.int (0 : Int32))) := by
  refine Con.intro (plainFor_of_name pn2) ?_
  intro p e s m below meth c T X hss
  refine Goes.cast (g' := mkF m 0 #[.val (.ref va), .val (.int (0 : Int32)), .val (.int (Int32.ofNat mq)), .unset, .unset] []) (by first | (simp [entryFrame, mkF, argsToLocals, Value.category]; done) | rfl) ?_
  refine o_iloadN X d65_133_0 rfl (q := 1) rfl ?_
  refine o_iloadN X d65_133_1 rfl (q := 2) rfl ?_
  refine o_stat X [(.int (0 : Int32)), (.int (Int32.ofNat mq))] (y' := ⟨"java/util/Arrays", "checkLength", "(II)V"⟩) (c_ckl hw mq _ (by omega)) all0 (w189 hw) (w190 hw) (w184 hw) (w191 hw) (by decide) d65_133_2 (rest := []) rfl rfl (lenOf pd3 rfl) rfl (by decide) (lb rfl) (by decide) (by decide) (q := 5) rfl ?_
  intro v1 vm1 T1 h1 l1 X1 R1 q1
  obtain ⟨rfl, e1⟩ := q1
  have e1 := e1.symm
  subst e1
  show Goes p e below _ T1 (mkF m 5 #[.val (.ref va), .val (.int (0 : Int32)), .val (.int (Int32.ofNat mq)), .unset, .unset] [])
  refine o_iloadN X1 d65_133_5 rfl (q := 6) rfl ?_
  refine o_iloadN X1 d65_133_6 rfl (q := 7) rfl ?_
  refine o_isub X1 d65_133_7 (w := (Int32.ofNat mq)) (Int32.sub_zero _) (q := 8) rfl ?_
  refine o_istoreN X1 d65_133_8 rfl (L' := #[.val (.ref va), .val (.int (0 : Int32)), .val (.int (Int32.ofNat mq)), .val (.int (Int32.ofNat mq)), .unset]) rfl (q := 9) rfl ?_
  refine o_iloadN X1 d65_133_9 rfl (q := 10) rfl ?_
  refine o_newarrE X1 (cap := 80) mq (w4 hw) d65_133_10 (n_neg (by omega)) (own_cl (by omega) (by omega)) (by decide) (by decide) (by decide) (q := 12) rfl ?_
  intro T2 h2 b2 k2 gb2 X2 E2 R2 S2 V2 A2 g0_b2
  refine o_astore X2 d65_133_12 rfl (L' := #[.val (.ref va), .val (.int (0 : Int32)), .val (.int (Int32.ofNat mq)), .val (.int (Int32.ofNat mq)), .val (.ref b2)]) rfl (q := 14) rfl ?_
  refine o_aloadN X2 d65_133_14 rfl rfl (q := 15) rfl ?_
  refine o_iloadN X2 d65_133_15 rfl (q := 16) rfl ?_
  refine o_aload X2 d65_133_16 rfl rfl (q := 18) rfl ?_
  refine o_iconst X2 d65_133_18 (w := 0) rfl (q := 19) rfl ?_
  refine o_aloadN X2 d65_133_19 rfl rfl (q := 20) rfl ?_
  have f3 := (Va.ext E2)
  refine o_len X2 f3 d65_133_20 (q := 21) rfl ?_
  refine o_iloadN X2 d65_133_21 rfl (q := 22) rfl ?_
  refine o_isub X2 d65_133_22 (w := (Int32.ofNat N)) (Int32.sub_zero _) (q := 23) rfl ?_
  refine o_iloadN X2 d65_133_23 rfl (q := 24) rfl ?_
  refine o_stat X2 [(.int (Int32.ofNat N)), (.int (Int32.ofNat mq))] (y' := ⟨"java/lang/Math", "min", "(II)I"⟩) (c_minG hw N mq _ hm (by omega)) all0 (w192 hw) (w193 hw) (w194 hw) (w195 hw) (by decide) d65_133_24 (rest := [(.int (0 : Int32)), (.ref b2), (.int (0 : Int32)), (.ref va)]) rfl rfl (lenOf pd4 rfl) rfl (by decide) (lb rfl) (by decide) (by decide) (q := 27) rfl ?_
  intro v4 vm4 T4 h4 l4 X4 R4 q4
  obtain ⟨rfl, e4⟩ := q4
  have e4 := e4.symm
  subst e4
  show Goes p e below _ T4 (mkF m 27 #[.val (.ref va), .val (.int (0 : Int32)), .val (.int (Int32.ofNat mq)), .val (.int (Int32.ofNat mq)), .val (.ref b2)] [(.int (Int32.ofNat mq)), (.int (0 : Int32)), (.ref b2), (.int (0 : Int32)), (.ref va)])
  have f5 := f3
  have f6 := V2
  have f8 := (CHr.safe R4 (A2.lt) S2)
  refine o_copy X4 (us := (vs.take mq)) (vs' := (vs.take mq)) f5 f6 (Or.inl ⟨rfl, rfl⟩) g0_b2 f8 (by decide) (by decide) (n_neg (by omega)) (own_le0 (by omega) (by omega)) (own_le0 (by omega) (by omega)) (own_us (by omega) hv) (own_ln0 (by omega)) (own_cat (by omega) hv) (w196 hw) (w142 hw) (w140 hw) (w141 hw) d65_133_27 rfl (by decide) (lb rfl) (q := 30) rfl ?_
  intro T7 h7 l7 X7 K7 R7 V7
  refine o_aload X7 d65_133_30 rfl rfl (q := 32) rfl ?_
  have sz9 := Nat.le_trans (Keep.refl h0 []).1 (Nat.le_of_eq gb2.symm)
  have k10 := Keep.ext (Keep.refl h0 []) E2
  have k11 := Keep.trans k10 K7 (allS (Or.inr sz9) all0)
  have f12 := (CHr.safe R7 (f6.lt) f8)
  have f13 := (A2.keep K7)
  exact o_retR X7 d65_133_32 rfl rfl rfl (fun Sf hSf => ⟨b2, k2, rfl, k11, sz9, hSf _ V7.lt f12, f13, V7⟩) (by decide) (by decide)
theorem c_cor0 {l : Launch} {Z : State} {a0 : Array Value} (hw : W a0 Z) (va : Addr) (mq N : Nat) (h0 : Heap) {kv : ClassId} {vs : List Value} (Va : Arv Z h0 va kv .byte (Int32.ofNat N) vs (.int (0 : Int32))) (Ea : Exa Z h0 va "[B") (hN : N ≤ 4000) (hv : mq ≤ vs.length) (hM : mq ≤ 80) (hm : mq < N) :
    Con l Z EL0 (⟨"java/util/Arrays", "copyOfRange", "([BII)[B"⟩ : MethodName) jdk_65_method_132_code 3 (some (.array .byte)) ({ frames := 2, cells := 1, slots := 80, locals := 34 } : Room) #[(.ref va), (.int (0 : Int32)), (.int (Int32.ofNat mq))] h0 [] (fun v h' Sf => ∃ (b : Addr) (kb : ClassId), v = some (.ref b) ∧ Keep h0 h' [] ∧ h0.size ≤ b ∧ Sf b ∧ Exa Z h' b "[B" ∧ Arv Z h' b kb .byte (Int32.ofNat mq) (vs.take mq) (.int (0 : Int32))) := by
  refine Con.intro (plainFor_of_name pn2) ?_
  intro p e s m below meth c T X hss
  refine Goes.cast (g' := mkF m 0 #[.val (.ref va), .val (.int (0 : Int32)), .val (.int (Int32.ofNat mq))] []) (by first | (simp [entryFrame, mkF, argsToLocals, Value.category]; done) | rfl) ?_
  refine o_iloadN X d65_132_0 rfl (q := 1) rfl ?_
  refine o_ifN X d65_132_1 (by decide) (q := 4) rfl ?_
  refine o_iloadN X d65_132_4 rfl (q := 5) rfl ?_
  refine o_aloadN X d65_132_5 rfl rfl (q := 6) rfl ?_
  refine o_len X Va d65_132_6 (q := 7) rfl ?_
  refine o_icmpN X d65_132_7 (feq (fun q => absurd ((n_eq (by omega) (by omega)).mp q) (by omega))).1 (q := 10) rfl ?_
  refine o_aloadN X d65_132_10 rfl rfl (q := 11) rfl ?_
  refine o_iloadN X d65_132_11 rfl (q := 12) rfl ?_
  refine o_iloadN X d65_132_12 rfl (q := 13) rfl ?_
  refine o_stat X [(.ref va), (.int (0 : Int32)), (.int (Int32.ofNat mq))] (y' := ⟨"java/util/Arrays", "copyOfRangeByte", "([BII)[B"⟩) (c_corb hw va mq N _ Va Ea hN hv hM hm) all0 (w186 hw) (w187 hw) (w184 hw) (w188 hw) (by decide) d65_132_13 (rest := []) rfl rfl (lenOf pd5 rfl) rfl (by decide) (lb rfl) (by decide) (by decide) (q := 16) rfl ?_
  intro v1 vm1 T1 h1 l1 X1 R1 q1
  obtain ⟨b1, kb1, rfl, K1, g1, s1, A1, V1⟩ := q1
  show Goes p e below _ T1 (mkF m 16 #[.val (.ref va), .val (.int (0 : Int32)), .val (.int (Int32.ofNat mq))] [(.ref b1)])
  have sz2 := Nat.le_trans (Keep.refl h0 []).1 g1
  have k3 := Keep.trans (Keep.refl h0 []) K1 all0
  exact o_retR X1 d65_132_16 rfl rfl rfl (fun Sf hSf => ⟨b1, kb1, rfl, k3, sz2, hSf _ A1.lt s1, A1, V1⟩) (by decide) (by decide)
theorem c_cor1 {l : Launch} {Z : State} {a0 : Array Value} (hw : W a0 Z) (va : Addr) (mq N : Nat) (h0 : Heap) {kv : ClassId} {vs : List Value} (Va : Arv Z h0 va kv .byte (Int32.ofNat N) vs (.int (0 : Int32))) (Ea : Exa Z h0 va "[B") (hN : N ≤ 4000) (hv : mq ≤ vs.length) (hM : mq ≤ 80) (hm : mq = N) (hv2 : vs.length ≤ N) :
    Con l Z EL0 (⟨"java/util/Arrays", "copyOfRange", "([BII)[B"⟩ : MethodName) jdk_65_method_132_code 3 (some (.array .byte)) ({ frames := 2, cells := 1, slots := 80, locals := 34 } : Room) #[(.ref va), (.int (0 : Int32)), (.int (Int32.ofNat mq))] h0 [] (fun v h' Sf => ∃ (b : Addr) (kb : ClassId), v = some (.ref b) ∧ Keep h0 h' [] ∧ h0.size ≤ b ∧ Sf b ∧ Exa Z h' b "[B" ∧ Arv Z h' b kb .byte (Int32.ofNat mq) (vs.take mq) (.int (0 : Int32))) := by
  refine Con.intro (plainFor_of_name pn2) ?_
  intro p e s m below meth c T X hss
  refine Goes.cast (g' := mkF m 0 #[.val (.ref va), .val (.int (0 : Int32)), .val (.int (Int32.ofNat mq))] []) (by first | (simp [entryFrame, mkF, argsToLocals, Value.category]; done) | rfl) ?_
  refine o_iloadN X d65_132_0 rfl (q := 1) rfl ?_
  refine o_ifN X d65_132_1 (by decide) (q := 4) rfl ?_
  refine o_iloadN X d65_132_4 rfl (q := 5) rfl ?_
  refine o_aloadN X d65_132_5 rfl rfl (q := 6) rfl ?_
  refine o_len X Va d65_132_6 (q := 7) rfl ?_
  refine o_icmpY X d65_132_7 (teq (by rw [hm])).1 (by decide) (q := 17) (by decide) ?_
  refine o_aloadN X d65_132_17 rfl rfl (q := 18) rfl ?_
  refine o_clone X (cap := 80) Va Ea (w316 hw) (w317 hw) (w321 hw) (w319 hw) (w320 hw) (w322 hw) d65_132_18 rfl (by decide) (lb rfl) (own_cl (by omega) (by omega)) (by decide) (by decide) (q := 21) rfl ?_
  intro T1 h1 b1 gb1 X1 E1 R1 S1 V1 A1 g0_b1
  refine o_cast X1 (Ins.self A1) (w323 hw) d65_132_21 (q := 24) rfl ?_
  intro T2 X2
  have sz3 := Nat.le_trans (Keep.refl h0 []).1 (Nat.le_of_eq gb1.symm)
  have k4 := Keep.ext (Keep.refl h0 []) E1
  exact o_retR X2 d65_132_24 rfl rfl rfl (fun Sf hSf => ⟨b1, kv, rfl, k4, sz3, hSf _ A1.lt S1, A1, (by rw [hm, List.take_of_length_le (by omega)]; exact V1)⟩) (by decide) (by decide)
theorem c_cor {l : Launch} {Z : State} {a0 : Array Value} (hw : W a0 Z) (va : Addr) (mq N : Nat) (h0 : Heap) {kv : ClassId} {vs : List Value} (Va : Arv Z h0 va kv .byte (Int32.ofNat N) vs (.int (0 : Int32))) (Ea : Exa Z h0 va "[B") (hN : N ≤ 4000) (hv : mq ≤ vs.length) (hM : mq ≤ 80) (hm : mq ≤ N) (hv2 : vs.length ≤ N) :
    Con l Z EL0 (⟨"java/util/Arrays", "copyOfRange", "([BII)[B"⟩ : MethodName) jdk_65_method_132_code 3 (some (.array .byte)) ({ frames := 2, cells := 1, slots := 80, locals := 34 } : Room) #[(.ref va), (.int (0 : Int32)), (.int (Int32.ofNat mq))] h0 [] (fun v h' Sf => ∃ (b : Addr) (kb : ClassId), v = some (.ref b) ∧ Keep h0 h' [] ∧ h0.size ≤ b ∧ Sf b ∧ Exa Z h' b "[B" ∧ Arv Z h' b kb .byte (Int32.ofNat mq) (vs.take mq) (.int (0 : Int32))) := by
  rcases Nat.lt_or_ge mq N with hq | hq
  · exact c_cor0 hw va mq N h0 Va Ea hN hv hM hq
  · exact c_cor1 hw va mq N h0 Va Ea hN hv hM (by omega) hv2
theorem c_cpo {l : Launch} {Z : State} {a0 : Array Value} (hw : W a0 Z) (va : Addr) (mq N : Nat) (h0 : Heap) {kv : ClassId} {vs : List Value} (Va : Arv Z h0 va kv .byte (Int32.ofNat N) vs (.int (0 : Int32))) (hm : N < mq) (hM : mq ≤ 80) (hv : vs.length ≤ N) :
    Con l Z EL0 (⟨"java/util/Arrays", "copyOf", "([BI)[B"⟩ : MethodName) jdk_65_method_121_code 3 (some (.array .byte)) ({ frames := 1, cells := 1, slots := 80, locals := 18 } : Room) #[(.ref va), (.int (Int32.ofNat mq))] h0 [] (fun v h' Sf => ∃ (b : Addr) (kb : ClassId), v = some (.ref b) ∧ Keep h0 h' [] ∧ h0.size ≤ b ∧ Sf b ∧ Exa Z h' b "[B" ∧ Arv Z h' b kb .byte (Int32.ofNat mq) vs (.int (0 : Int32))) := by
  refine Con.intro (plainFor_of_name pn2) ?_
  intro p e s m below meth c T X hss
  refine Goes.cast (g' := mkF m 0 #[.val (.ref va), .val (.int (Int32.ofNat mq)), .unset] []) (by first | (simp [entryFrame, mkF, argsToLocals, Value.category]; done) | rfl) ?_
  refine o_iloadN X d65_121_0 rfl (q := 1) rfl ?_
  refine o_aloadN X d65_121_1 rfl rfl (q := 2) rfl ?_
  refine o_len X Va d65_121_2 (q := 3) rfl ?_
  refine o_icmpY X d65_121_3 (feq (fun q => absurd ((n_eq (by omega) (by omega)).mp q) (by omega))).2 (by decide) (q := 14) (by decide) ?_
  refine o_iloadN X d65_121_14 rfl (q := 15) rfl ?_
  refine o_newarrE X (cap := 80) N (w4 hw) d65_121_15 (n_neg (by omega)) (own_cl (by omega) (by omega)) (by decide) (by decide) (by decide) (q := 17) rfl ?_
  intro T1 h1 b1 k1 gb1 X1 E1 R1 S1 V1 A1 g0_b1
  refine o_astoreN X1 d65_121_17 rfl (L' := #[.val (.ref va), .val (.int (Int32.ofNat mq)), .val (.ref b1)]) rfl (q := 18) rfl ?_
  refine o_aloadN X1 d65_121_18 rfl rfl (q := 19) rfl ?_
  refine o_iconst X1 d65_121_19 (w := 0) rfl (q := 20) rfl ?_
  refine o_aloadN X1 d65_121_20 rfl rfl (q := 21) rfl ?_
  refine o_iconst X1 d65_121_21 (w := 0) rfl (q := 22) rfl ?_
  refine o_aloadN X1 d65_121_22 rfl rfl (q := 23) rfl ?_
  have f2 := (Va.ext E1)
  refine o_len X1 f2 d65_121_23 (q := 24) rfl ?_
  refine o_iloadN X1 d65_121_24 rfl (q := 25) rfl ?_
  refine o_stat X1 [(.int (Int32.ofNat N)), (.int (Int32.ofNat mq))] (y' := ⟨"java/lang/Math", "min", "(II)I"⟩) (c_minL hw N mq _ (by omega) (by omega)) all0 (w192 hw) (w193 hw) (w194 hw) (w195 hw) (by decide) d65_121_25 (rest := [(.int (0 : Int32)), (.ref b1), (.int (0 : Int32)), (.ref va)]) rfl rfl (lenOf pd4 rfl) rfl (by decide) (lb rfl) (by decide) (by decide) (q := 28) rfl ?_
  intro v3 vm3 T3 h3 l3 X3 R3 q3
  obtain ⟨rfl, e3⟩ := q3
  have e3 := e3.symm
  subst e3
  show Goes p e below _ T3 (mkF m 28 #[.val (.ref va), .val (.int (Int32.ofNat mq)), .val (.ref b1)] [(.int (Int32.ofNat N)), (.int (0 : Int32)), (.ref b1), (.int (0 : Int32)), (.ref va)])
  have f4 := f2
  have f5 := V1
  have f7 := (CHr.safe R3 (A1.lt) S1)
  refine o_copy X3 (us := (vs ++ List.replicate (N - vs.length) (.int (0 : Int32)))) (vs' := (vs ++ List.replicate (N - vs.length) (.int (0 : Int32)))) f4 f5 (Or.inl ⟨rfl, rfl⟩) g0_b1 f7 (by decide) (by decide) (n_neg (by omega)) (own_le0 (by omega) (by omega)) (own_le0 (by omega) (by omega)) (own_us2 (by omega) hv) (own_ln0 (by omega)) (own_cat2 (by omega) hv) (w196 hw) (w142 hw) (w140 hw) (w141 hw) d65_121_28 rfl (by decide) (lb rfl) (q := 31) rfl ?_
  intro T6 h6 l6 X6 K6 R6 V6
  refine o_aloadN X6 d65_121_31 rfl rfl (q := 32) rfl ?_
  have sz8 := Nat.le_trans (Keep.refl h0 []).1 (Nat.le_of_eq gb1.symm)
  have k9 := Keep.ext (Keep.refl h0 []) E1
  have k10 := Keep.trans k9 K6 (allS (Or.inr sz8) all0)
  have f11 := (CHr.safe R6 (f5.lt) f7)
  have f12 := (A1.keep K6)
  exact o_retR X6 d65_121_32 rfl rfl rfl (fun Sf hSf => ⟨b1, k1, rfl, k10, sz8, hSf _ V6.lt f11, f12, V6.pad (fun i => (pad_rep vs _ _ i).symm)⟩) (by decide) (by decide)
theorem c_newL {l : Launch} {Z : State} {a0 : Array Value} (hw : W a0 Z) (x g z : Nat) (h0 : Heap) (hx : x ≤ 808) (hg : g ≤ 4000) (hz : z ≤ 4000) (h0g : 0 < g) :
    Con l Z EL0 (⟨"jdk/internal/util/ArraysSupport", "newLength", "(III)I"⟩ : MethodName) jdk_48_method_27_code 4 (some .int) ({ frames := 1, cells := 0, slots := 0, locals := 14 } : Room) #[(.int (Int32.ofNat x)), (.int (Int32.ofNat g)), (.int (Int32.ofNat z))] h0 [] (fun v h' Sf => v = some (.int (Int32.ofNat (x + max g z))) ∧ h' = h0) := by
  refine Con.intro (plainFor_of_name pn3) ?_
  intro p e s m below meth c T X hss
  refine Goes.cast (g' := mkF m 0 #[.val (.int (Int32.ofNat x)), .val (.int (Int32.ofNat g)), .val (.int (Int32.ofNat z)), .unset] []) (by first | (simp [entryFrame, mkF, argsToLocals, Value.category]; done) | rfl) ?_
  refine o_iloadN X d48_27_0 rfl (q := 1) rfl ?_
  refine o_iloadN X d48_27_1 rfl (q := 2) rfl ?_
  refine o_iloadN X d48_27_2 rfl (q := 3) rfl ?_
  refine o_stat X [(.int (Int32.ofNat g)), (.int (Int32.ofNat z))] (y' := ⟨"java/lang/Math", "max", "(II)I"⟩) (c_max hw g z _ (by omega) (by omega)) all0 (w276 hw) (w277 hw) (w194 hw) (w278 hw) (by decide) d48_27_3 (rest := [(.int (Int32.ofNat x))]) rfl rfl (lenOf pd4 rfl) rfl (by decide) (lb rfl) (by decide) (by decide) (q := 6) rfl ?_
  intro v1 vm1 T1 h1 l1 X1 R1 q1
  obtain ⟨rfl, e1⟩ := q1
  have e1 := e1.symm
  subst e1
  show Goes p e below _ T1 (mkF m 6 #[.val (.int (Int32.ofNat x)), .val (.int (Int32.ofNat g)), .val (.int (Int32.ofNat z)), .unset] [(.int (Int32.ofNat (max g z))), (.int (Int32.ofNat x))])
  refine o_iadd X1 d48_27_6 (w := (Int32.ofNat (x + (max g z)))) (n_add _ _) (q := 7) rfl ?_
  refine o_istoreN X1 d48_27_7 rfl (L' := #[.val (.int (Int32.ofNat x)), .val (.int (Int32.ofNat g)), .val (.int (Int32.ofNat z)), .val (.int (Int32.ofNat (x + (max g z))))]) rfl (q := 8) rfl ?_
  refine o_iconst X1 d48_27_8 (w := 0) rfl (q := 9) rfl ?_
  refine o_iloadN X1 d48_27_9 rfl (q := 10) rfl ?_
  refine o_icmpN X1 d48_27_10 (tlt ((n_lt (a := 0) (by omega) (by omega)).mpr (by omega))).2.1 (q := 13) rfl ?_
  refine o_iloadN X1 d48_27_13 rfl (q := 14) rfl ?_
  refine o_ldcI X1 (w279 hw) d48_27_14 (q := 16) rfl ?_
  refine o_icmpN X1 d48_27_16 (flt (own_big2 (by omega))).2.2.1 (q := 19) rfl ?_
  refine o_iloadN X1 d48_27_19 rfl (q := 20) rfl ?_
  exact o_retI X1 d48_27_20 (fun Sf hSf => ⟨rfl, rfl⟩) (by decide) (by decide)
theorem c_ncap {l : Launch} {Z : State} {a0 : Array Value} (hw : W a0 Z) (sb va : Addr) (cap nd : Nat) (ys : List Int32) (h0 : Heap) (E : Exa Z h0 sb "java/lang/StringBuilder") (gs : Z.heap.size ≤ sb) (F_value : Fld Z h0 sb "java/lang/AbstractStringBuilder" "value" "[B" (.ref va)) (F_coder : Fld Z h0 sb "java/lang/AbstractStringBuilder" "coder" "B" (.int (0 : Int32))) (F_count : Fld Z h0 sb "java/lang/AbstractStringBuilder" "count" "I" (.int (Int32.ofNat ys.length))) {kv : ClassId} (Vv : Arv Z h0 va kv .byte (Int32.ofNat cap) (LB ys) (.int (0 : Int32))) (Ev : Exa Z h0 va "[B") (gv : Z.heap.size ≤ va) (hsv : sb ≠ va) (hc : ys.length ≤ cap) (hcb : cap ≤ 80) (hgr : cap < nd) (hnd : (max nd (2 * cap + 2)) ≤ 80) :
    Con l Z EL0 (⟨"java/lang/AbstractStringBuilder", "newCapacity", "(I)I"⟩ : MethodName) jdk_68_method_10_code 6 (some .int) ({ frames := 2, cells := 0, slots := 0, locals := 29 } : Room) #[(.ref sb), (.int (Int32.ofNat nd))] h0 [] (fun v h' Sf => v = some (.int (Int32.ofNat (max nd (2 * cap + 2)))) ∧ h' = h0) := by
  refine Con.intro (plainFor_of_name pn4) ?_
  intro p e s m below meth c T X hss
  refine Goes.cast (g' := mkF m 0 #[.val (.ref sb), .val (.int (Int32.ofNat nd)), .unset, .unset, .unset, .unset] []) (by first | (simp [entryFrame, mkF, argsToLocals, Value.category]; done) | rfl) ?_
  refine o_aloadN X d68_10_0 rfl rfl (q := 1) rfl ?_
  refine o_getF X F_value (host := "") (Or.inl (w88 hw)) Via.refl d68_10_1 (q := 4) rfl ?_
  intro T1 X1
  refine o_len X1 Vv d68_10_4 (q := 5) rfl ?_
  refine o_istoreN X1 d68_10_5 rfl (L' := #[.val (.ref sb), .val (.int (Int32.ofNat nd)), .val (.int (Int32.ofNat cap)), .unset, .unset, .unset]) rfl (q := 6) rfl ?_
  refine o_iloadN X1 d68_10_6 rfl (q := 7) rfl ?_
  refine o_aloadN X1 d68_10_7 rfl rfl (q := 8) rfl ?_
  refine o_getF X1 F_coder (host := "") (Or.inl (w90 hw)) Via.refl d68_10_8 (q := 11) rfl ?_
  intro T2 X2
  refine o_ishl X2 d68_10_11 (w := (Int32.ofNat nd)) (own_shl0 _) (q := 12) rfl ?_
  refine o_istoreN X2 d68_10_12 rfl (L' := #[.val (.ref sb), .val (.int (Int32.ofNat nd)), .val (.int (Int32.ofNat cap)), .val (.int (Int32.ofNat nd)), .unset, .unset]) rfl (q := 13) rfl ?_
  refine o_iloadN X2 d68_10_13 rfl (q := 14) rfl ?_
  refine o_iloadN X2 d68_10_14 rfl (q := 15) rfl ?_
  refine o_isub X2 d68_10_15 (w := (Int32.ofNat (nd - cap))) (n_sub (by omega)) (q := 16) rfl ?_
  refine o_istore X2 d68_10_16 rfl (L' := #[.val (.ref sb), .val (.int (Int32.ofNat nd)), .val (.int (Int32.ofNat cap)), .val (.int (Int32.ofNat nd)), .val (.int (Int32.ofNat (nd - cap))), .unset]) rfl (q := 18) rfl ?_
  refine o_iloadN X2 d68_10_18 rfl (q := 19) rfl ?_
  refine o_iload X2 d68_10_19 rfl (q := 21) rfl ?_
  refine o_iloadN X2 d68_10_21 rfl (q := 22) rfl ?_
  refine o_iconst X2 d68_10_22 (w := 2) rfl (q := 23) rfl ?_
  refine o_aloadN X2 d68_10_23 rfl rfl (q := 24) rfl ?_
  refine o_getF X2 F_coder (host := "") (Or.inl (w90 hw)) Via.refl d68_10_24 (q := 27) rfl ?_
  intro T3 X3
  refine o_ishl X3 d68_10_27 (w := (2 : Int32)) (by decide) (q := 28) rfl ?_
  refine o_iadd X3 d68_10_28 (w := (Int32.ofNat (cap + 2))) (n_add _ _) (q := 29) rfl ?_
  refine o_stat X3 [(.int (Int32.ofNat cap)), (.int (Int32.ofNat (nd - cap))), (.int (Int32.ofNat (cap + 2)))] (y' := ⟨"jdk/internal/util/ArraysSupport", "newLength", "(III)I"⟩) (c_newL hw cap (nd - cap) (cap + 2) _ (by omega) (by omega) (by omega) (by omega)) all0 (w272 hw) (w273 hw) (w274 hw) (w275 hw) (by decide) d68_10_29 (rest := []) rfl rfl (lenOf pd6 rfl) rfl (by decide) (lb rfl) (by decide) (by decide) (q := 32) rfl ?_
  intro v4 vm4 T4 h4 l4 X4 R4 q4
  obtain ⟨rfl, e4⟩ := q4
  have e4 := e4.symm
  subst e4
  show Goes p e below _ T4 (mkF m 32 #[.val (.ref sb), .val (.int (Int32.ofNat nd)), .val (.int (Int32.ofNat cap)), .val (.int (Int32.ofNat nd)), .val (.int (Int32.ofNat (nd - cap))), .unset] [(.int (Int32.ofNat (cap + max (nd - cap) (cap + 2))))])
  refine o_istore X4 d68_10_32 rfl (L' := #[.val (.ref sb), .val (.int (Int32.ofNat nd)), .val (.int (Int32.ofNat cap)), .val (.int (Int32.ofNat nd)), .val (.int (Int32.ofNat (nd - cap))), .val (.int (Int32.ofNat (cap + max (nd - cap) (cap + 2))))]) rfl (q := 34) rfl ?_
  refine o_iload X4 d68_10_34 rfl (q := 36) rfl ?_
  refine o_ldcI X4 (w280 hw) d68_10_36 (q := 38) rfl ?_
  refine o_icmpY X4 d68_10_38 (feq (own_nmax (by omega))).2 (by decide) (q := 51) (by decide) ?_
  refine o_iload X4 d68_10_51 rfl (q := 53) rfl ?_
  refine o_aloadN X4 d68_10_53 rfl rfl (q := 54) rfl ?_
  have f5 := F_coder
  refine o_getF X4 f5 (host := "") (Or.inl (w90 hw)) Via.refl d68_10_54 (q := 57) rfl ?_
  intro T6 X6
  refine o_ishr X6 d68_10_57 (w := (Int32.ofNat (max nd (2 * cap + 2)))) (by rw [own_nc0 hgr]; exact n_shr0 _) (q := 58) rfl ?_
  exact o_retI X6 d68_10_58 (fun Sf hSf => ⟨rfl, rfl⟩) (by decide) (by decide)
theorem c_ensn {l : Launch} {Z : State} {a0 : Array Value} (hw : W a0 Z) (sb va : Addr) (cap nd : Nat) (ys : List Int32) (h0 : Heap) (E : Exa Z h0 sb "java/lang/StringBuilder") (gs : Z.heap.size ≤ sb) (F_value : Fld Z h0 sb "java/lang/AbstractStringBuilder" "value" "[B" (.ref va)) (F_coder : Fld Z h0 sb "java/lang/AbstractStringBuilder" "coder" "B" (.int (0 : Int32))) (F_count : Fld Z h0 sb "java/lang/AbstractStringBuilder" "count" "I" (.int (Int32.ofNat ys.length))) {kv : ClassId} (Vv : Arv Z h0 va kv .byte (Int32.ofNat cap) (LB ys) (.int (0 : Int32))) (Ev : Exa Z h0 va "[B") (gv : Z.heap.size ≤ va) (hsv : sb ≠ va) (hc : ys.length ≤ cap) (hcb : cap ≤ 80) (hgr : nd ≤ cap) :
    Con l Z EL0 (⟨"java/lang/AbstractStringBuilder", "ensureCapacityInternal", "(I)V"⟩ : MethodName) jdk_68_method_9_code 3 none ({ frames := 0, cells := 0, slots := 0, locals := 0 } : Room) #[(.ref sb), (.int (Int32.ofNat nd))] h0 [] (fun v h' Sf => v = none ∧ h' = h0) := by
  refine Con.intro (plainFor_of_name pn4) ?_
  intro p e s m below meth c T X hss
  refine Goes.cast (g' := mkF m 0 #[.val (.ref sb), .val (.int (Int32.ofNat nd)), .unset] []) (by first | (simp [entryFrame, mkF, argsToLocals, Value.category]; done) | rfl) ?_
  refine o_aloadN X d68_9_0 rfl rfl (q := 1) rfl ?_
  refine o_getF X F_value (host := "") (Or.inl (w88 hw)) Via.refl d68_9_1 (q := 4) rfl ?_
  intro T1 X1
  refine o_len X1 Vv d68_9_4 (q := 5) rfl ?_
  refine o_aloadN X1 d68_9_5 rfl rfl (q := 6) rfl ?_
  refine o_getF X1 F_coder (host := "") (Or.inl (w90 hw)) Via.refl d68_9_6 (q := 9) rfl ?_
  intro T2 X2
  refine o_ishr X2 d68_9_9 (w := (Int32.ofNat cap)) (n_shr0 _) (q := 10) rfl ?_
  refine o_istoreN X2 d68_9_10 rfl (L' := #[.val (.ref sb), .val (.int (Int32.ofNat nd)), .val (.int (Int32.ofNat cap))]) rfl (q := 11) rfl ?_
  refine o_iloadN X2 d68_9_11 rfl (q := 12) rfl ?_
  refine o_iloadN X2 d68_9_12 rfl (q := 13) rfl ?_
  refine o_isub X2 d68_9_13 (w := ((Int32.ofNat nd) - (Int32.ofNat cap))) rfl (q := 14) rfl ?_
  refine o_ifY X2 d68_9_14 (flt (own_sle (by omega) (by omega))).2.2.2 (by decide) (q := 38) (by decide) ?_
  exact o_ret X2 d68_9_38 (fun Sf hSf => ⟨rfl, rfl⟩) (by decide) (by decide)
theorem c_ensg {l : Launch} {Z : State} {a0 : Array Value} (hw : W a0 Z) (sb va : Addr) (cap nd : Nat) (ys : List Int32) (h0 : Heap) (E : Exa Z h0 sb "java/lang/StringBuilder") (gs : Z.heap.size ≤ sb) (F_value : Fld Z h0 sb "java/lang/AbstractStringBuilder" "value" "[B" (.ref va)) (F_coder : Fld Z h0 sb "java/lang/AbstractStringBuilder" "coder" "B" (.int (0 : Int32))) (F_count : Fld Z h0 sb "java/lang/AbstractStringBuilder" "count" "I" (.int (Int32.ofNat ys.length))) {kv : ClassId} (Vv : Arv Z h0 va kv .byte (Int32.ofNat cap) (LB ys) (.int (0 : Int32))) (Ev : Exa Z h0 va "[B") (gv : Z.heap.size ≤ va) (hsv : sb ≠ va) (hc : ys.length ≤ cap) (hcb : cap ≤ 80) (hgr : cap < nd) (hnd : (max nd (2 * cap + 2)) ≤ 80) :
    Con l Z EL0 (⟨"java/lang/AbstractStringBuilder", "ensureCapacityInternal", "(I)V"⟩ : MethodName) jdk_68_method_9_code 3 none ({ frames := 3, cells := 1, slots := 80, locals := 48 } : Room) #[(.ref sb), (.int (Int32.ofNat nd))] h0 [] (fun v h' Sf => v = none ∧ Keep h0 h' [sb] ∧ ∃ (v2 : Addr) (k2 : ClassId), h0.size ≤ v2 ∧ Sf v2 ∧ Exa Z h' v2 "[B" ∧ Fld Z h' sb "java/lang/AbstractStringBuilder" "value" "[B" (.ref v2) ∧ Fld Z h' sb "java/lang/AbstractStringBuilder" "coder" "B" (.int (0 : Int32)) ∧ Fld Z h' sb "java/lang/AbstractStringBuilder" "count" "I" (.int (Int32.ofNat ys.length)) ∧ Arv Z h' v2 k2 .byte (Int32.ofNat (max nd (2 * cap + 2))) (LB ys) (.int (0 : Int32))) := by
  refine Con.intro (plainFor_of_name pn4) ?_
  intro p e s m below meth c T X hss
  refine Goes.cast (g' := mkF m 0 #[.val (.ref sb), .val (.int (Int32.ofNat nd)), .unset] []) (by first | (simp [entryFrame, mkF, argsToLocals, Value.category]; done) | rfl) ?_
  refine o_aloadN X d68_9_0 rfl rfl (q := 1) rfl ?_
  refine o_getF X F_value (host := "") (Or.inl (w88 hw)) Via.refl d68_9_1 (q := 4) rfl ?_
  intro T1 X1
  refine o_len X1 Vv d68_9_4 (q := 5) rfl ?_
  refine o_aloadN X1 d68_9_5 rfl rfl (q := 6) rfl ?_
  refine o_getF X1 F_coder (host := "") (Or.inl (w90 hw)) Via.refl d68_9_6 (q := 9) rfl ?_
  intro T2 X2
  refine o_ishr X2 d68_9_9 (w := (Int32.ofNat cap)) (n_shr0 _) (q := 10) rfl ?_
  refine o_istoreN X2 d68_9_10 rfl (L' := #[.val (.ref sb), .val (.int (Int32.ofNat nd)), .val (.int (Int32.ofNat cap))]) rfl (q := 11) rfl ?_
  refine o_iloadN X2 d68_9_11 rfl (q := 12) rfl ?_
  refine o_iloadN X2 d68_9_12 rfl (q := 13) rfl ?_
  refine o_isub X2 d68_9_13 (w := (Int32.ofNat (nd - cap))) (n_sub (by omega)) (q := 14) rfl ?_
  refine o_ifN X2 d68_9_14 (tlt ((n_lt (a := 0) (by omega) (by omega)).mpr (by omega))).2.2.2 (q := 17) rfl ?_
  refine o_aloadN X2 d68_9_17 rfl rfl (q := 18) rfl ?_
  refine o_aloadN X2 d68_9_18 rfl rfl (q := 19) rfl ?_
  refine o_getF X2 F_value (host := "") (Or.inl (w88 hw)) Via.refl d68_9_19 (q := 22) rfl ?_
  intro T3 X3
  refine o_aloadN X3 d68_9_22 rfl rfl (q := 23) rfl ?_
  refine o_iloadN X3 d68_9_23 rfl (q := 24) rfl ?_
  refine o_priv X3 [(.int (Int32.ofNat nd))] (y' := ⟨"java/lang/AbstractStringBuilder", "newCapacity", "(I)I"⟩) E (c_ncap hw sb va cap nd ys _ E gs F_value F_coder F_count Vv Ev gv hsv hc hcb hgr hnd) all0 (w267 hw) (w268 hw) (sel_up (w270 hw) (w268 hw) (w269 hw) (by decide)) (w269 hw) (w271 hw) (w84 hw) (by decide) d68_9_24 (rest := [(.ref va), (.ref sb)]) rfl rfl (lenOf pd7 rfl) rfl (by decide) (lb rfl) (by decide) (by decide) (q := 27) rfl ?_
  intro v4 vm4 T4 h4 l4 X4 R4 q4
  obtain ⟨rfl, e4⟩ := q4
  have e4 := e4.symm
  subst e4
  show Goes p e below _ T4 (mkF m 27 #[.val (.ref sb), .val (.int (Int32.ofNat nd)), .val (.int (Int32.ofNat cap))] [(.int (Int32.ofNat (max nd (2 * cap + 2)))), (.ref va), (.ref sb)])
  refine o_aloadN X4 d68_9_27 rfl rfl (q := 28) rfl ?_
  have f5 := F_coder
  refine o_getF X4 f5 (host := "") (Or.inl (w90 hw)) Via.refl d68_9_28 (q := 31) rfl ?_
  intro T6 X6
  refine o_ishl X6 d68_9_31 (w := (Int32.ofNat (max nd (2 * cap + 2)))) (own_shl0 _) (q := 32) rfl ?_
  have f7 := Vv
  refine o_stat X6 [(.ref va), (.int (Int32.ofNat (max nd (2 * cap + 2))))] (y' := ⟨"java/util/Arrays", "copyOf", "([BI)[B"⟩) (c_cpo hw va (max nd (2 * cap + 2)) cap _ f7 (by omega) (by omega) (by simp <;> omega)) all0 (w281 hw) (w282 hw) (w184 hw) (w283 hw) (by decide) d68_9_32 (rest := [(.ref sb)]) rfl rfl (lenOf pd8 rfl) rfl (by decide) (lb rfl) (by decide) (by decide) (q := 35) rfl ?_
  intro v8 vm8 T8 h8 l8 X8 R8 q8
  obtain ⟨b8, kb8, rfl, K8, g8, s8, A8, V8⟩ := q8
  show Goes p e below _ T8 (mkF m 35 #[.val (.ref sb), .val (.int (Int32.ofNat nd)), .val (.int (Int32.ofNat cap))] [(.ref b8), (.ref sb)])
  have f9 := (F_value.keep K8 nin0)
  have f10 := (E.keep K8)
  refine o_putF X8 f9 f10 gs (Safe.exa X8.alike f10 (by decide) (by decide)) (host := "") (Or.inl (w88 hw)) Via.refl (Or.inl (w89 hw)) (w75 hw) (ty := (.array .byte)) (by decide) rfl rfl d68_9_35 (q := 38) rfl ?_
  intro T11 h11 l11 X11 W11 R11 F11
  have sz12 := Nat.le_trans (Keep.refl h0 [sb]).1 g8
  have k13 := Keep.trans (Keep.refl h0 [sb]) K8 all0
  have k14 := Keep.wr k13 W11 (Or.inl (by simp))
  have f15 := (CHr.safe R11 (A8.lt) s8)
  have f16 := (A8.wr W11)
  have f17 := ((f5.keep K8 nin0).other W11 (Or.inr (slot_ne (Or.inl (w91 hw)) (Or.inl (w89 hw)) (by decide) (t := .byte) (t' := (.array .byte)) (by decide) (by decide))))
  have f18 := ((F_count.keep K8 nin0).other W11 (Or.inr (slot_ne (Or.inl (w117 hw)) (Or.inl (w89 hw)) (by decide) (t := .int) (t' := (.array .byte)) (by decide) (by decide))))
  have f19 := (V8.other W11 (Ne.symm (Nat.ne_of_lt (Nat.lt_of_lt_of_le f5.lt g8))))
  exact o_ret X11 d68_9_38 (fun Sf hSf => ⟨rfl, k14, b8, kb8, sz12, hSf _ (A8.wr W11).lt f15, f16, F11, f17, f18, f19⟩) (by decide) (by decide)
theorem c_aLat {l : Launch} {Z : State} {a0 : Array Value} (hw : W a0 Z) (sb : Addr) (h0 : Heap) {zc : Int32} (O2 : Sta Z Z.heap "java/lang/String" "COMPACT_STRINGS" "Z" (.int zc)) (P5 : ¬ zc = 0) (Fc : Fld Z h0 sb "java/lang/AbstractStringBuilder" "coder" "B" (.int (0 : Int32))) :
    Con l Z EL0 (⟨"java/lang/AbstractStringBuilder", "isLatin1", "()Z"⟩ : MethodName) jdk_68_method_68_code 1 (some .boolean) ({ frames := 0, cells := 0, slots := 0, locals := 0 } : Room) #[(.ref sb)] h0 [] (fun v h' Sf => v = some (.int (1 : Int32)) ∧ h' = h0) := by
  refine Con.intro (plainFor_of_name pn4) ?_
  intro p e s m below meth c T X hss
  refine Goes.cast (g' := mkF m 0 #[.val (.ref sb)] []) (by first | (simp [entryFrame, mkF, argsToLocals, Value.category]; done) | rfl) ?_
  refine o_getS X O2 (host := "") (Or.inl (w87 hw)) Via.refl d68_68_0 (q := 3) rfl ?_
  intro T1 X1
  refine o_ifN X1 d68_68_3 (feq P5).1 (q := 6) rfl ?_
  refine o_aloadN X1 d68_68_6 rfl rfl (q := 7) rfl ?_
  refine o_getF X1 Fc (host := "") (Or.inl (w90 hw)) Via.refl d68_68_7 (q := 10) rfl ?_
  intro T2 X2
  refine o_ifN X2 d68_68_10 (by decide) (q := 13) rfl ?_
  refine o_iconst X2 d68_68_13 (w := 1) rfl (q := 14) rfl ?_
  refine o_goto X2 d68_68_14 (by decide) (q := 18) (by decide) ?_
  exact o_retN X2 d68_68_18 (by simp) (fun Sf hSf => ⟨rfl, rfl⟩) (by decide) (by decide)
theorem c_ifn {l : Launch} {Z : State} {a0 : Array Value} (hw : W a0 Z) (sb va st tb : Addr) (cap : Nat) (ys xs : List Int32) (h0 : Heap) {zc : Int32} (O2 : Sta Z Z.heap "java/lang/String" "COMPACT_STRINGS" "Z" (.int zc)) (P5 : ¬ zc = 0) (E : Exa Z h0 sb "java/lang/StringBuilder") (gs : Z.heap.size ≤ sb) (F_value : Fld Z h0 sb "java/lang/AbstractStringBuilder" "value" "[B" (.ref va)) (F_coder : Fld Z h0 sb "java/lang/AbstractStringBuilder" "coder" "B" (.int (0 : Int32))) (F_count : Fld Z h0 sb "java/lang/AbstractStringBuilder" "count" "I" (.int (Int32.ofNat ys.length))) {kv : ClassId} (Vv : Arv Z h0 va kv .byte (Int32.ofNat cap) (LB ys) (.int (0 : Int32))) (Ev : Exa Z h0 va "[B") (gv : Z.heap.size ≤ va) (hsv : sb ≠ va) {kt : ClassId} (L : LS Z h0 st tb kt xs) :
    Con l Z EL0 (⟨"java/lang/AbstractStringBuilder", "inflateIfNeededFor", "(Ljava/lang/String;)V"⟩ : MethodName) jdk_68_method_71_code 2 none ({ frames := 1, cells := 0, slots := 0, locals := 13 } : Room) #[(.ref sb), (.ref st)] h0 [] (fun v h' Sf => v = none ∧ h' = h0) := by
  refine Con.intro (plainFor_of_name pn4) ?_
  intro p e s m below meth c T X hss
  refine Goes.cast (g' := mkF m 0 #[.val (.ref sb), .val (.ref st)] []) (by first | (simp [entryFrame, mkF, argsToLocals, Value.category]; done) | rfl) ?_
  refine o_getS X O2 (host := "") (Or.inl (w87 hw)) Via.refl d68_71_0 (q := 3) rfl ?_
  intro T1 X1
  refine o_ifN X1 d68_71_3 (feq P5).1 (q := 6) rfl ?_
  refine o_aloadN X1 d68_71_6 rfl rfl (q := 7) rfl ?_
  refine o_getF X1 F_coder (host := "") (Or.inl (w90 hw)) Via.refl d68_71_7 (q := 10) rfl ?_
  intro T2 X2
  refine o_aloadN X2 d68_71_10 rfl rfl (q := 11) rfl ?_
  refine o_virt X2 [] (y' := ⟨"java/lang/String", "coder", "()B"⟩) L.1 (c_coder0 hw st _ O2 P5 L.2.1) all0 (w133 hw) (w110 hw) (w112 hw) (w111 hw) (w113 hw) (w2 hw) (by decide) d68_71_11 (rest := [(.int (0 : Int32))]) rfl rfl (lenOf pd9 rfl) rfl (by decide) (lb rfl) (by decide) (by decide) (q := 14) rfl ?_
  intro v3 vm3 T3 h3 l3 X3 R3 q3
  obtain ⟨rfl, e3⟩ := q3
  have e3 := e3.symm
  subst e3
  show Goes p e below _ T3 (mkF m 14 #[.val (.ref sb), .val (.ref st)] [(.int (0 : Int32)), (.int (0 : Int32))])
  refine o_icmpY X3 d68_71_14 (by decide) (by decide) (q := 21) (by decide) ?_
  exact o_ret X3 d68_71_21 (fun Sf hSf => ⟨rfl, rfl⟩) (by decide) (by decide)
theorem c_gb {l : Launch} {Z : State} {a0 : Array Value} (hw : W a0 Z) (va st tb : Addr) (cap : Nat) (ys xs : List Int32) (h0 : Heap) {zc : Int32} (O2 : Sta Z Z.heap "java/lang/String" "COMPACT_STRINGS" "Z" (.int zc)) (P5 : ¬ zc = 0) {kv : ClassId} (Vv : Arv Z h0 va kv .byte (Int32.ofNat cap) (LB ys) (.int (0 : Int32))) (gv : Z.heap.size ≤ va) {kt : ClassId} (L : LS Z h0 st tb kt xs) (n2 : st ≠ va) (n4 : tb ≠ va) (hsum : ys.length + xs.length ≤ cap) (hcb : cap ≤ 80) :
    Con l Z EL0 (⟨"java/lang/String", "getBytes", "([BIB)V"⟩ : MethodName) jdk_42_method_147_code 4 none ({ frames := 1, cells := 0, slots := 0, locals := 18 } : Room) #[(.ref st), (.ref va), (.int (Int32.ofNat ys.length)), (.int (0 : Int32))] h0 [va] (fun v h' Sf => v = none ∧ Keep h0 h' [va] ∧ Arv Z h' va kv .byte (Int32.ofNat cap) (LB (ys ++ xs)) (.int (0 : Int32))) := by
  refine Con.intro (plainFor_of_name pn1) ?_
  intro p e s m below meth c T X hss
  have S_va := hss va (by simp)
  refine Goes.cast (g' := mkF m 0 #[.val (.ref st), .val (.ref va), .val (.int (Int32.ofNat ys.length)), .val (.int (0 : Int32))] []) (by first | (simp [entryFrame, mkF, argsToLocals, Value.category]; done) | rfl) ?_
  refine o_aloadN X d42_147_0 rfl rfl (q := 1) rfl ?_
  refine o_virt X [] (y' := ⟨"java/lang/String", "coder", "()B"⟩) L.1 (c_coder0 hw st _ O2 P5 L.2.1) all0 (w109 hw) (w110 hw) (w112 hw) (w111 hw) (w113 hw) (w2 hw) (by decide) d42_147_1 (rest := []) rfl rfl (lenOf pd9 rfl) rfl (by decide) (lb rfl) (by decide) (by decide) (q := 4) rfl ?_
  intro v1 vm1 T1 h1 l1 X1 R1 q1
  obtain ⟨rfl, e1⟩ := q1
  have e1 := e1.symm
  subst e1
  show Goes p e below _ T1 (mkF m 4 #[.val (.ref st), .val (.ref va), .val (.int (Int32.ofNat ys.length)), .val (.int (0 : Int32))] [(.int (0 : Int32))])
  refine o_iloadN X1 d42_147_4 rfl (q := 5) rfl ?_
  refine o_icmpN X1 d42_147_5 (by decide) (q := 8) rfl ?_
  refine o_aloadN X1 d42_147_8 rfl rfl (q := 9) rfl ?_
  have f2 := L.2.2.1
  refine o_getF X1 f2 (host := "") (Or.inl (w108 hw)) Via.refl d42_147_9 (q := 12) rfl ?_
  intro T3 X3
  refine o_iconst X3 d42_147_12 (w := 0) rfl (q := 13) rfl ?_
  refine o_aloadN X3 d42_147_13 rfl rfl (q := 14) rfl ?_
  refine o_iloadN X3 d42_147_14 rfl (q := 15) rfl ?_
  refine o_iloadN X3 d42_147_15 rfl (q := 16) rfl ?_
  refine o_ishl X3 d42_147_16 (w := (Int32.ofNat ys.length)) (own_shl0 _) (q := 17) rfl ?_
  refine o_aloadN X3 d42_147_17 rfl rfl (q := 18) rfl ?_
  refine o_getF X3 f2 (host := "") (Or.inl (w108 hw)) Via.refl d42_147_18 (q := 21) rfl ?_
  intro T4 X4
  have f5 := L.2.2.2.1
  refine o_len X4 f5 d42_147_21 (q := 22) rfl ?_
  have f6 := Vv
  have vp7 := f6.pad (pad_rep _ _ xs.length)
  have f9 := (CHr.safe R1 (Vv.lt) S_va)
  refine o_copy X4 (us := (LB xs)) (vs' := (LB (ys ++ xs))) f5 vp7 (Or.inl ⟨rfl, rfl⟩) gv f9 (by decide) (n_neg (by omega)) (n_neg (by omega)) (own_le0 (by omega) (by omega)) (own_leA (by omega) (by omega) (by omega)) (own_usL (by omega)) (own_hlL (by omega) (by omega)) (own_catL (by omega) (by omega)) (w139 hw) (w142 hw) (w140 hw) (w141 hw) d42_147_22 rfl (by decide) (lb rfl) (q := 25) rfl ?_
  intro T8 h8 l8 X8 K8 R8 V8
  refine o_goto X8 d42_147_25 (by decide) (q := 43) (by decide) ?_
  have k10 := Keep.trans (Keep.refl h0 [va]) K8 (allS (Or.inl (by simp)) all0)
  exact o_ret X8 d42_147_43 (fun Sf hSf => ⟨rfl, k10, V8⟩) (by decide) (by decide)
theorem c_psa {l : Launch} {Z : State} {a0 : Array Value} (hw : W a0 Z) (sb va st tb : Addr) (cap : Nat) (ys xs : List Int32) (h0 : Heap) {zc : Int32} (O2 : Sta Z Z.heap "java/lang/String" "COMPACT_STRINGS" "Z" (.int zc)) (P5 : ¬ zc = 0) (E : Exa Z h0 sb "java/lang/StringBuilder") (gs : Z.heap.size ≤ sb) (F_value : Fld Z h0 sb "java/lang/AbstractStringBuilder" "value" "[B" (.ref va)) (F_coder : Fld Z h0 sb "java/lang/AbstractStringBuilder" "coder" "B" (.int (0 : Int32))) (F_count : Fld Z h0 sb "java/lang/AbstractStringBuilder" "count" "I" (.int (Int32.ofNat ys.length))) {kv : ClassId} (Vv : Arv Z h0 va kv .byte (Int32.ofNat cap) (LB ys) (.int (0 : Int32))) (Ev : Exa Z h0 va "[B") (gv : Z.heap.size ≤ va) (hsv : sb ≠ va) {kt : ClassId} (L : LS Z h0 st tb kt xs) (n1 : st ≠ sb) (n2 : st ≠ va) (n3 : tb ≠ sb) (n4 : tb ≠ va) (hc : ys.length ≤ cap) (hcb : cap ≤ 80) (hsum : ys.length + xs.length ≤ cap) :
    Con l Z EL0 (⟨"java/lang/AbstractStringBuilder", "putStringAt", "(ILjava/lang/String;)V"⟩ : MethodName) jdk_68_method_73_code 3 none ({ frames := 2, cells := 0, slots := 0, locals := 33 } : Room) #[(.ref sb), (.int (Int32.ofNat ys.length)), (.ref st)] h0 [va] (fun v h' Sf => v = none ∧ Keep h0 h' [va] ∧ Arv Z h' va kv .byte (Int32.ofNat cap) (LB (ys ++ xs)) (.int (0 : Int32))) := by
  refine Con.intro (plainFor_of_name pn4) ?_
  intro p e s m below meth c T X hss
  have S_va := hss va (by simp)
  refine Goes.cast (g' := mkF m 0 #[.val (.ref sb), .val (.int (Int32.ofNat ys.length)), .val (.ref st)] []) (by first | (simp [entryFrame, mkF, argsToLocals, Value.category]; done) | rfl) ?_
  refine o_aloadN X d68_73_0 rfl rfl (q := 1) rfl ?_
  refine o_aloadN X d68_73_1 rfl rfl (q := 2) rfl ?_
  refine o_priv X [(.ref st)] (y' := ⟨"java/lang/AbstractStringBuilder", "inflateIfNeededFor", "(Ljava/lang/String;)V"⟩) E (c_ifn hw sb va st tb cap ys xs _ O2 P5 E gs F_value F_coder F_count Vv Ev gv hsv ⟨L.1, L.2.1, L.2.2.1, L.2.2.2.1, L.2.2.2.2⟩) all0 (w128 hw) (w129 hw) (sel_up (w131 hw) (w129 hw) (w130 hw) (by decide)) (w130 hw) (w132 hw) (w84 hw) (by decide) d68_73_2 (rest := []) rfl rfl (lenOf pd10 rfl) rfl (by decide) (lb rfl) (by decide) (by decide) (q := 5) rfl ?_
  intro v1 vm1 T1 h1 l1 X1 R1 q1
  obtain ⟨rfl, e1⟩ := q1
  have e1 := e1.symm
  subst e1
  show Goes p e below _ T1 (mkF m 5 #[.val (.ref sb), .val (.int (Int32.ofNat ys.length)), .val (.ref st)] [])
  refine o_aloadN X1 d68_73_5 rfl rfl (q := 6) rfl ?_
  refine o_aloadN X1 d68_73_6 rfl rfl (q := 7) rfl ?_
  have f2 := F_value
  refine o_getF X1 f2 (host := "") (Or.inl (w88 hw)) Via.refl d68_73_7 (q := 10) rfl ?_
  intro T3 X3
  refine o_iloadN X3 d68_73_10 rfl (q := 11) rfl ?_
  refine o_aloadN X3 d68_73_11 rfl rfl (q := 12) rfl ?_
  have f4 := F_coder
  refine o_getF X3 f4 (host := "") (Or.inl (w90 hw)) Via.refl d68_73_12 (q := 15) rfl ?_
  intro T5 X5
  have f6 := Vv
  have f7 := L.1
  have f8 := L.2.1
  have f9 := L.2.2.1
  have f10 := L.2.2.2.1
  have f12 := (CHr.safe R1 (Ev.lt) S_va)
  refine o_virt X5 [(.ref va), (.int (Int32.ofNat ys.length)), (.int (0 : Int32))] (y' := ⟨"java/lang/String", "getBytes", "([BIB)V"⟩) f7 (c_gb hw va st tb cap ys xs _ O2 P5 f6 gv ⟨f7, f8, f9, f10, L.2.2.2.2⟩ n2 n4 hsum hcb) (allS ⟨f6.lt, f12⟩ all0) (w134 hw) (w135 hw) (w137 hw) (w136 hw) (w138 hw) (w2 hw) (by decide) d68_73_15 (rest := []) rfl rfl (lenOf pd11 rfl) rfl (by decide) (lb rfl) (by decide) (by decide) (q := 18) rfl ?_
  intro v11 vm11 T11 h11 l11 X11 R11 q11
  obtain ⟨rfl, K11, V11⟩ := q11
  show Goes p e below _ T11 (mkF m 18 #[.val (.ref sb), .val (.int (Int32.ofNat ys.length)), .val (.ref st)] [])
  have k13 := Keep.trans (Keep.refl h0 [va]) K11 (allS (Or.inl (by simp)) all0)
  exact o_ret X11 d68_73_18 (fun Sf hSf => ⟨rfl, k13, V11⟩) (by decide) (by decide)
theorem c_appn {l : Launch} {Z : State} {a0 : Array Value} (hw : W a0 Z) (sb va st tb : Addr) (cap : Nat) (ys xs : List Int32) (h0 : Heap) {zc : Int32} (O2 : Sta Z Z.heap "java/lang/String" "COMPACT_STRINGS" "Z" (.int zc)) (P5 : ¬ zc = 0) (E : Exa Z h0 sb "java/lang/StringBuilder") (gs : Z.heap.size ≤ sb) (F_value : Fld Z h0 sb "java/lang/AbstractStringBuilder" "value" "[B" (.ref va)) (F_coder : Fld Z h0 sb "java/lang/AbstractStringBuilder" "coder" "B" (.int (0 : Int32))) (F_count : Fld Z h0 sb "java/lang/AbstractStringBuilder" "count" "I" (.int (Int32.ofNat ys.length))) {kv : ClassId} (Vv : Arv Z h0 va kv .byte (Int32.ofNat cap) (LB ys) (.int (0 : Int32))) (Ev : Exa Z h0 va "[B") (gv : Z.heap.size ≤ va) (hsv : sb ≠ va) {kt : ClassId} (L : LS Z h0 st tb kt xs) (n1 : st ≠ sb) (n2 : st ≠ va) (n3 : tb ≠ sb) (n4 : tb ≠ va) (hc : ys.length ≤ cap) (hcb : cap ≤ 80) (hyl : (∀ c ∈ ys, ¬ c < 0 ∧ ¬ (255 : Int32) < c)) (hgr : ys.length + xs.length ≤ cap) :
    Con l Z EL0 (⟨"java/lang/AbstractStringBuilder", "append", "(Ljava/lang/String;)Ljava/lang/AbstractStringBuilder;"⟩ : MethodName) jdk_68_method_22_code 3 (some (.object "java/lang/AbstractStringBuilder")) ({ frames := 4, cells := 1, slots := 80, locals := 62 } : Room) #[(.ref sb), (.ref st)] h0 [va] (fun v h' Sf => v = some (.ref sb) ∧ Keep h0 h' [sb, va] ∧ ∃ (v2 : Addr) (k2 : ClassId), (v2 = va ∨ h0.size ≤ v2) ∧ Sf v2 ∧ BS Z h' sb v2 k2 (nc cap (ys.length + xs.length)) (ys ++ xs)) := by
  refine Con.intro (plainFor_of_name pn4) ?_
  intro p e s m below meth c T X hss
  have S_va := hss va (by simp)
  refine Goes.cast (g' := mkF m 0 #[.val (.ref sb), .val (.ref st), .unset] []) (by first | (simp [entryFrame, mkF, argsToLocals, Value.category]; done) | rfl) ?_
  refine o_aloadN X d68_22_0 rfl rfl (q := 1) rfl ?_
  refine o_ifnonnullY X d68_22_1 (by decide) (q := 9) (by decide) ?_
  refine o_aloadN X d68_22_9 rfl rfl (q := 10) rfl ?_
  refine o_strlen X L O2 P5 (hwln hw) (w3 hw) (w103 hw) (w104 hw) (w106 hw) (w105 hw) d68_22_10 rfl (by decide) (lb rfl) (by decide) (by decide) (q := 13) rfl ?_
  intro T1 l1 X1
  refine o_istoreN X1 d68_22_13 rfl (L' := #[.val (.ref sb), .val (.ref st), .val (.int (Int32.ofNat xs.length))]) rfl (q := 14) rfl ?_
  refine o_aloadN X1 d68_22_14 rfl rfl (q := 15) rfl ?_
  refine o_aloadN X1 d68_22_15 rfl rfl (q := 16) rfl ?_
  refine o_getF X1 F_count (host := "") (Or.inl (w116 hw)) Via.refl d68_22_16 (q := 19) rfl ?_
  intro T2 X2
  refine o_iloadN X2 d68_22_19 rfl (q := 20) rfl ?_
  refine o_iadd X2 d68_22_20 (w := (Int32.ofNat (ys.length + xs.length))) (n_add _ _) (q := 21) rfl ?_
  refine o_priv X2 [(.int (Int32.ofNat (ys.length + xs.length)))] (y' := ⟨"java/lang/AbstractStringBuilder", "ensureCapacityInternal", "(I)V"⟩) E (c_ensn hw sb va cap (ys.length + xs.length) ys _ E gs F_value F_coder F_count Vv Ev gv hsv hc hcb hgr) all0 (w118 hw) (w119 hw) (sel_up (w121 hw) (w119 hw) (w120 hw) (by decide)) (w120 hw) (w122 hw) (w84 hw) (by decide) d68_22_21 (rest := []) rfl rfl (lenOf pd12 rfl) rfl (by decide) (lb rfl) (by decide) (by decide) (q := 24) rfl ?_
  intro v3 vm3 T3 h3 l3 X3 R3 q3
  obtain ⟨rfl, e3⟩ := q3
  have e3 := e3.symm
  subst e3
  show Goes p e below _ T3 (mkF m 24 #[.val (.ref sb), .val (.ref st), .val (.int (Int32.ofNat xs.length))] [])
  refine o_aloadN X3 d68_22_24 rfl rfl (q := 25) rfl ?_
  refine o_aloadN X3 d68_22_25 rfl rfl (q := 26) rfl ?_
  have f4 := F_count
  refine o_getF X3 f4 (host := "") (Or.inl (w116 hw)) Via.refl d68_22_26 (q := 29) rfl ?_
  intro T5 X5
  refine o_aloadN X5 d68_22_29 rfl rfl (q := 30) rfl ?_
  have f6 := E
  have f7 := F_value
  have f8 := F_coder
  have f9 := Vv
  have f10 := Ev
  have f11 := L.1
  have f12 := L.2.1
  have f13 := L.2.2.1
  have f14 := L.2.2.2.1
  have f16 := (CHr.safe R3 (Ev.lt) S_va)
  refine o_priv X5 [(.int (Int32.ofNat ys.length)), (.ref st)] (y' := ⟨"java/lang/AbstractStringBuilder", "putStringAt", "(ILjava/lang/String;)V"⟩) f6 (c_psa hw sb va st tb cap ys xs _ O2 P5 f6 gs f7 f8 f4 f9 f10 gv hsv ⟨f11, f12, f13, f14, L.2.2.2.2⟩ n1 n2 n3 n4 (by omega) (by omega) (by omega)) (allS ⟨f10.lt, f16⟩ all0) (w123 hw) (w124 hw) (sel_up (w126 hw) (w124 hw) (w125 hw) (by decide)) (w125 hw) (w127 hw) (w84 hw) (by decide) d68_22_30 (rest := []) rfl rfl (lenOf pd13 rfl) rfl (by decide) (lb rfl) (by decide) (by decide) (q := 33) rfl ?_
  intro v15 vm15 T15 h15 l15 X15 R15 q15
  obtain ⟨rfl, K15, V15⟩ := q15
  show Goes p e below _ T15 (mkF m 33 #[.val (.ref sb), .val (.ref st), .val (.int (Int32.ofNat xs.length))] [])
  refine o_aloadN X15 d68_22_33 rfl rfl (q := 34) rfl ?_
  refine o_dup X15 d68_22_34 rfl (q := 35) rfl ?_
  have f17 := (f4.keep K15 (ninS hsv nin0))
  refine o_getF X15 f17 (host := "") (Or.inl (w116 hw)) Via.refl d68_22_35 (q := 38) rfl ?_
  intro T18 X18
  refine o_iloadN X18 d68_22_38 rfl (q := 39) rfl ?_
  refine o_iadd X18 d68_22_39 (w := (Int32.ofNat (ys.length + xs.length))) (n_add _ _) (q := 40) rfl ?_
  have f19 := (f6.keep K15)
  refine o_putF X18 f17 f19 gs (Safe.exa X18.alike f19 (by decide) (by decide)) (host := "") (Or.inl (w116 hw)) Via.refl (Or.inl (w117 hw)) (w75 hw) (ty := .int) (by decide) rfl rfl d68_22_40 (q := 43) rfl ?_
  intro T20 h20 l20 X20 W20 R20 F20
  refine o_aloadN X20 d68_22_43 rfl rfl (q := 44) rfl ?_
  have k21 := Keep.trans (Keep.refl h0 [sb, va]) K15 (allS (Or.inl (by simp)) all0)
  have k22 := Keep.wr k21 W20 (Or.inl (by simp))
  have f23 := ((f7.keep K15 (ninS hsv nin0)).other W20 (Or.inr (slot_ne (Or.inl (w89 hw)) (Or.inl (w117 hw)) (by decide) (t := (.array .byte)) (t' := .int) (by decide) (by decide))))
  have f24 := ((f8.keep K15 (ninS hsv nin0)).other W20 (Or.inr (slot_ne (Or.inl (w91 hw)) (Or.inl (w117 hw)) (by decide) (t := .byte) (t' := .int) (by decide) (by decide))))
  have f25 := (CHr.safe R20 (V15.lt) (CHr.safe R15 (f10.lt) f16))
  have f26 := (f19.wr W20)
  have f27 := (V15.other W20 (Ne.symm hsv))
  have f28 := ((f10.keep K15).wr W20)
  exact o_retR X20 d68_22_44 rfl rfl rfl (fun Sf hSf => ⟨rfl, k22, va, kv, Or.inl rfl, hSf _ (Nat.lt_of_lt_of_le V15.lt (Keep.of_wr W20).1) f25, (by rw [nc_sm hgr]; exact ⟨f26, f23, (by rw [List.length_append]; exact F20), f24, f27, f28, (own_allB hyl L.2.2.2.2.1), by rw [List.length_append]; omega⟩)⟩) (by decide) (by decide)
theorem c_appg {l : Launch} {Z : State} {a0 : Array Value} (hw : W a0 Z) (sb va st tb : Addr) (cap : Nat) (ys xs : List Int32) (h0 : Heap) {zc : Int32} (O2 : Sta Z Z.heap "java/lang/String" "COMPACT_STRINGS" "Z" (.int zc)) (P5 : ¬ zc = 0) (E : Exa Z h0 sb "java/lang/StringBuilder") (gs : Z.heap.size ≤ sb) (F_value : Fld Z h0 sb "java/lang/AbstractStringBuilder" "value" "[B" (.ref va)) (F_coder : Fld Z h0 sb "java/lang/AbstractStringBuilder" "coder" "B" (.int (0 : Int32))) (F_count : Fld Z h0 sb "java/lang/AbstractStringBuilder" "count" "I" (.int (Int32.ofNat ys.length))) {kv : ClassId} (Vv : Arv Z h0 va kv .byte (Int32.ofNat cap) (LB ys) (.int (0 : Int32))) (Ev : Exa Z h0 va "[B") (gv : Z.heap.size ≤ va) (hsv : sb ≠ va) {kt : ClassId} (L : LS Z h0 st tb kt xs) (n1 : st ≠ sb) (n2 : st ≠ va) (n3 : tb ≠ sb) (n4 : tb ≠ va) (hc : ys.length ≤ cap) (hcb : cap ≤ 80) (hyl : (∀ c ∈ ys, ¬ c < 0 ∧ ¬ (255 : Int32) < c)) (hgr : cap < ys.length + xs.length) (hnd : max (ys.length + xs.length) (2 * cap + 2) ≤ 80) :
    Con l Z EL0 (⟨"java/lang/AbstractStringBuilder", "append", "(Ljava/lang/String;)Ljava/lang/AbstractStringBuilder;"⟩ : MethodName) jdk_68_method_22_code 3 (some (.object "java/lang/AbstractStringBuilder")) ({ frames := 4, cells := 1, slots := 80, locals := 62 } : Room) #[(.ref sb), (.ref st)] h0 [va] (fun v h' Sf => v = some (.ref sb) ∧ Keep h0 h' [sb, va] ∧ ∃ (v2 : Addr) (k2 : ClassId), (v2 = va ∨ h0.size ≤ v2) ∧ Sf v2 ∧ BS Z h' sb v2 k2 (nc cap (ys.length + xs.length)) (ys ++ xs)) := by
  refine Con.intro (plainFor_of_name pn4) ?_
  intro p e s m below meth c T X hss
  have S_va := hss va (by simp)
  refine Goes.cast (g' := mkF m 0 #[.val (.ref sb), .val (.ref st), .unset] []) (by first | (simp [entryFrame, mkF, argsToLocals, Value.category]; done) | rfl) ?_
  refine o_aloadN X d68_22_0 rfl rfl (q := 1) rfl ?_
  refine o_ifnonnullY X d68_22_1 (by decide) (q := 9) (by decide) ?_
  refine o_aloadN X d68_22_9 rfl rfl (q := 10) rfl ?_
  refine o_strlen X L O2 P5 (hwln hw) (w3 hw) (w103 hw) (w104 hw) (w106 hw) (w105 hw) d68_22_10 rfl (by decide) (lb rfl) (by decide) (by decide) (q := 13) rfl ?_
  intro T1 l1 X1
  refine o_istoreN X1 d68_22_13 rfl (L' := #[.val (.ref sb), .val (.ref st), .val (.int (Int32.ofNat xs.length))]) rfl (q := 14) rfl ?_
  refine o_aloadN X1 d68_22_14 rfl rfl (q := 15) rfl ?_
  refine o_aloadN X1 d68_22_15 rfl rfl (q := 16) rfl ?_
  refine o_getF X1 F_count (host := "") (Or.inl (w116 hw)) Via.refl d68_22_16 (q := 19) rfl ?_
  intro T2 X2
  refine o_iloadN X2 d68_22_19 rfl (q := 20) rfl ?_
  refine o_iadd X2 d68_22_20 (w := (Int32.ofNat (ys.length + xs.length))) (n_add _ _) (q := 21) rfl ?_
  refine o_priv X2 [(.int (Int32.ofNat (ys.length + xs.length)))] (y' := ⟨"java/lang/AbstractStringBuilder", "ensureCapacityInternal", "(I)V"⟩) E (c_ensg hw sb va cap (ys.length + xs.length) ys _ E gs F_value F_coder F_count Vv Ev gv hsv hc hcb hgr hnd) all0 (w118 hw) (w119 hw) (sel_up (w121 hw) (w119 hw) (w120 hw) (by decide)) (w120 hw) (w122 hw) (w84 hw) (by decide) d68_22_21 (rest := []) rfl rfl (lenOf pd12 rfl) rfl (by decide) (lb rfl) (by decide) (by decide) (q := 24) rfl ?_
  intro v3 vm3 T3 h3 l3 X3 R3 q3
  obtain ⟨rfl, K3, b3, kb3, g3, s3, A3, Fvalue3, Fcoder3, Fcount3, V3⟩ := q3
  show Goes p e below _ T3 (mkF m 24 #[.val (.ref sb), .val (.ref st), .val (.int (Int32.ofNat xs.length))] [])
  refine o_aloadN X3 d68_22_24 rfl rfl (q := 25) rfl ?_
  refine o_aloadN X3 d68_22_25 rfl rfl (q := 26) rfl ?_
  refine o_getF X3 Fcount3 (host := "") (Or.inl (w116 hw)) Via.refl d68_22_26 (q := 29) rfl ?_
  intro T4 X4
  refine o_aloadN X4 d68_22_29 rfl rfl (q := 30) rfl ?_
  have f5 := (E.keep K3)
  have f6 := (L.1.keep K3)
  have f7 := (L.2.1.keep K3 (ninS n1 nin0))
  have f8 := (L.2.2.1.keep K3 (ninS n1 nin0))
  have f9 := (L.2.2.2.1.keep K3 (ninS n3 nin0))
  refine o_priv X4 [(.int (Int32.ofNat ys.length)), (.ref st)] (y' := ⟨"java/lang/AbstractStringBuilder", "putStringAt", "(ILjava/lang/String;)V"⟩) f5 (c_psa hw sb b3 st tb (max (ys.length + xs.length) (2 * cap + 2)) ys xs _ O2 P5 f5 gs Fvalue3 Fcoder3 Fcount3 V3 A3 (Nat.le_trans X2.size g3) (Nat.ne_of_lt (Nat.lt_of_lt_of_le E.lt g3)) ⟨f6, f7, f8, f9, L.2.2.2.2⟩ n1 (Nat.ne_of_lt (Nat.lt_of_lt_of_le L.1.lt g3)) n3 (Nat.ne_of_lt (Nat.lt_of_lt_of_le L.2.2.2.1.lt g3)) (by omega) (by omega) (by omega)) (allS ⟨A3.lt, s3⟩ all0) (w123 hw) (w124 hw) (sel_up (w126 hw) (w124 hw) (w125 hw) (by decide)) (w125 hw) (w127 hw) (w84 hw) (by decide) d68_22_30 (rest := []) rfl rfl (lenOf pd13 rfl) rfl (by decide) (lb rfl) (by decide) (by decide) (q := 33) rfl ?_
  intro v10 vm10 T10 h10 l10 X10 R10 q10
  obtain ⟨rfl, K10, V10⟩ := q10
  show Goes p e below _ T10 (mkF m 33 #[.val (.ref sb), .val (.ref st), .val (.int (Int32.ofNat xs.length))] [])
  refine o_aloadN X10 d68_22_33 rfl rfl (q := 34) rfl ?_
  refine o_dup X10 d68_22_34 rfl (q := 35) rfl ?_
  have f11 := (Fcount3.keep K10 (ninS (Nat.ne_of_lt (Nat.lt_of_lt_of_le E.lt g3)) nin0))
  refine o_getF X10 f11 (host := "") (Or.inl (w116 hw)) Via.refl d68_22_35 (q := 38) rfl ?_
  intro T12 X12
  refine o_iloadN X12 d68_22_38 rfl (q := 39) rfl ?_
  refine o_iadd X12 d68_22_39 (w := (Int32.ofNat (ys.length + xs.length))) (n_add _ _) (q := 40) rfl ?_
  have f13 := (f5.keep K10)
  refine o_putF X12 f11 f13 gs (Safe.exa X12.alike f13 (by decide) (by decide)) (host := "") (Or.inl (w116 hw)) Via.refl (Or.inl (w117 hw)) (w75 hw) (ty := .int) (by decide) rfl rfl d68_22_40 (q := 43) rfl ?_
  intro T14 h14 l14 X14 W14 R14 F14
  refine o_aloadN X14 d68_22_43 rfl rfl (q := 44) rfl ?_
  have sz15 := Nat.le_trans (Keep.refl h0 [sb, va]).1 g3
  have k16 := Keep.trans (Keep.refl h0 [sb, va]) K3 (allS (Or.inl (by simp)) all0)
  have k17 := Keep.trans k16 K10 (allS (Or.inr sz15) all0)
  have k18 := Keep.wr k17 W14 (Or.inl (by simp))
  have f19 := ((Fvalue3.keep K10 (ninS (Nat.ne_of_lt (Nat.lt_of_lt_of_le E.lt g3)) nin0)).other W14 (Or.inr (slot_ne (Or.inl (w89 hw)) (Or.inl (w117 hw)) (by decide) (t := (.array .byte)) (t' := .int) (by decide) (by decide))))
  have f20 := ((Fcoder3.keep K10 (ninS (Nat.ne_of_lt (Nat.lt_of_lt_of_le E.lt g3)) nin0)).other W14 (Or.inr (slot_ne (Or.inl (w91 hw)) (Or.inl (w117 hw)) (by decide) (t := .byte) (t' := .int) (by decide) (by decide))))
  have f21 := (CHr.safe R14 (V10.lt) (CHr.safe R10 (A3.lt) s3))
  have f22 := (f13.wr W14)
  have f23 := (V10.other W14 (Ne.symm (Nat.ne_of_lt (Nat.lt_of_lt_of_le E.lt g3))))
  have f24 := ((A3.keep K10).wr W14)
  exact o_retR X14 d68_22_44 rfl rfl rfl (fun Sf hSf => ⟨rfl, k18, b3, kb3, Or.inr sz15, hSf _ (Nat.lt_of_lt_of_le V10.lt (Keep.of_wr W14).1) f21, (by rw [nc_big hgr]; exact ⟨f22, f19, (by rw [List.length_append]; exact F14), f20, f23, f24, (own_allB hyl L.2.2.2.2.1), by rw [List.length_append]; omega⟩)⟩) (by decide) (by decide)
theorem c_app {l : Launch} {Z : State} {a0 : Array Value} (hw : W a0 Z) (sb va st tb : Addr) (cap : Nat) (ys xs : List Int32) (h0 : Heap) {zc : Int32} (O2 : Sta Z Z.heap "java/lang/String" "COMPACT_STRINGS" "Z" (.int zc)) (P5 : ¬ zc = 0) {kv : ClassId} (B : BS Z h0 sb va kv cap ys) (gs : Z.heap.size ≤ sb) (gv : Z.heap.size ≤ va) (hsv : sb ≠ va) {kt : ClassId} (L : LS Z h0 st tb kt xs) (n1 : st ≠ sb) (n2 : st ≠ va) (n3 : tb ≠ sb) (n4 : tb ≠ va) (hcb : cap ≤ 80) (hnd : nc cap (ys.length + xs.length) ≤ 80) :
    Con l Z EL0 (⟨"java/lang/AbstractStringBuilder", "append", "(Ljava/lang/String;)Ljava/lang/AbstractStringBuilder;"⟩ : MethodName) jdk_68_method_22_code 3 (some (.object "java/lang/AbstractStringBuilder")) ({ frames := 4, cells := 1, slots := 80, locals := 62 } : Room) #[(.ref sb), (.ref st)] h0 [va] (fun v h' Sf => v = some (.ref sb) ∧ Keep h0 h' [sb, va] ∧ ∃ (v2 : Addr) (k2 : ClassId), (v2 = va ∨ h0.size ≤ v2) ∧ Sf v2 ∧ BS Z h' sb v2 k2 (nc cap (ys.length + xs.length)) (ys ++ xs)) := by
  obtain ⟨E, F_value, F_count, F_coder, Vv, Ev, hyl, hc⟩ := B
  by_cases hgr : ys.length + xs.length ≤ cap
  · exact c_appn hw sb va st tb cap ys xs h0 O2 P5 E gs F_value F_coder F_count Vv Ev gv hsv L n1 n2 n3 n4 hc hcb hyl hgr
  · exact c_appg hw sb va st tb cap ys xs h0 O2 P5 E gs F_value F_coder F_count Vv Ev gv hsv L n1 n2 n3 n4 hc hcb hyl (by omega) (by rw [nc_big (by omega)] at hnd; omega)
theorem c_sba {l : Launch} {Z : State} {a0 : Array Value} (hw : W a0 Z) (sb va st tb : Addr) (cap : Nat) (ys xs : List Int32) (h0 : Heap) {zc : Int32} (O2 : Sta Z Z.heap "java/lang/String" "COMPACT_STRINGS" "Z" (.int zc)) (P5 : ¬ zc = 0) {kv : ClassId} (B : BS Z h0 sb va kv cap ys) (gs : Z.heap.size ≤ sb) (gv : Z.heap.size ≤ va) (hsv : sb ≠ va) {kt : ClassId} (L : LS Z h0 st tb kt xs) (n1 : st ≠ sb) (n2 : st ≠ va) (n3 : tb ≠ sb) (n4 : tb ≠ va) (hcb : cap ≤ 80) (hnd : nc cap (ys.length + xs.length) ≤ 80) :
    Con l Z EL0 (⟨"java/lang/StringBuilder", "append", "(Ljava/lang/String;)Ljava/lang/StringBuilder;"⟩ : MethodName) jdk_67_method_7_code 2 (some (.object "java/lang/StringBuilder")) ({ frames := 5, cells := 1, slots := 80, locals := 76 } : Room) #[(.ref sb), (.ref st)] h0 [va] (fun v h' Sf => v = some (.ref sb) ∧ Keep h0 h' [sb, va] ∧ ∃ (v2 : Addr) (k2 : ClassId), (v2 = va ∨ h0.size ≤ v2) ∧ Sf v2 ∧ BS Z h' sb v2 k2 (nc cap (ys.length + xs.length)) (ys ++ xs)) := by
  refine Con.intro (plainFor_of_name pn5) ?_
  intro p e s m below meth c T X hss
  have S_va := hss va (by simp)
  refine Goes.cast (g' := mkF m 0 #[.val (.ref sb), .val (.ref st)] []) (by first | (simp [entryFrame, mkF, argsToLocals, Value.category]; done) | rfl) ?_
  refine o_aloadN X d67_7_0 rfl rfl (q := 1) rfl ?_
  refine o_aloadN X d67_7_1 rfl rfl (q := 2) rfl ?_
  refine o_super X [(.ref st)] (y' := ⟨"java/lang/AbstractStringBuilder", "append", "(Ljava/lang/String;)Ljava/lang/AbstractStringBuilder;"⟩) B.1 (c_app hw sb va st tb cap ys xs _ O2 P5 B gs gv hsv L n1 n2 n3 n4 hcb hnd) (allS ⟨B.vx.lt, S_va⟩ all0) (w98 hw) (same_up (w121 hw) (w99 hw) rfl (by decide)) (w99 hw) (w100 hw) (by decide) (w102 hw) (w84 hw) d67_7_2 (rest := []) rfl rfl (lenOf pd14 rfl) rfl (by decide) (lb rfl) (by decide) (by decide) (q := 5) rfl ?_
  intro v1 vm1 T1 h1 l1 X1 R1 q1
  obtain ⟨rfl, K1, v21, k21, g1, s1, B1⟩ := q1
  show Goes p e below _ T1 (mkF m 5 #[.val (.ref sb), .val (.ref st)] [(.ref sb)])
  refine o_pop X1 d67_7_5 rfl (q := 6) rfl ?_
  refine o_aloadN X1 d67_7_6 rfl rfl (q := 7) rfl ?_
  exact o_retR X1 d67_7_7 rfl rfl rfl (fun Sf hSf => ⟨rfl, K1, v21, k21, g1, hSf _ B1.blt s1, B1⟩) (by decide) (by decide)
theorem c_sz {l : Launch} {Z : State} {a0 : Array Value} (hw : W a0 Z) (pp : Nat) (h0 : Heap) (hp : 0 < pp) (hp2 : pp < 2147483648) :
    Con l Z EL0 (⟨"java/lang/Integer", "stringSize", "(I)I"⟩ : MethodName) jdk_33_method_13_code 4 (some .int) ({ frames := 0, cells := 0, slots := 0, locals := 0 } : Room) #[(.int (Int32.ofNat pp))] h0 [] (fun v h' Sf => ∃ d : Nat, v = some (.int (Int32.ofNat d)) ∧ h' = h0 ∧ (dg pp).length = d) := by
  refine Con.intro (plainFor_of_name pn6) ?_
  intro p e s m below meth c T X hss
  refine Goes.cast (g' := mkF m 0 #[.val (.int (Int32.ofNat pp)), .unset, .unset, .unset] []) (by first | (simp [entryFrame, mkF, argsToLocals, Value.category]; done) | rfl) ?_
  refine o_iconst X d33_13_0 (w := 1) rfl (q := 1) rfl ?_
  refine o_istoreN X d33_13_1 rfl (L' := #[.val (.int (Int32.ofNat pp)), .val (.int (1 : Int32)), .unset, .unset]) rfl (q := 2) rfl ?_
  refine o_iloadN X d33_13_2 rfl (q := 3) rfl ?_
  refine o_ifN X d33_13_3 (flt (n_neg (by omega))).1 (q := 6) rfl ?_
  refine o_iconst X d33_13_6 (w := 0) rfl (q := 7) rfl ?_
  refine o_istoreN X d33_13_7 rfl (L' := #[.val (.int (Int32.ofNat pp)), .val (.int (0 : Int32)), .unset, .unset]) rfl (q := 8) rfl ?_
  refine o_iloadN X d33_13_8 rfl (q := 9) rfl ?_
  refine o_ineg X d33_13_9 (w := (-(Int32.ofNat pp))) rfl (q := 10) rfl ?_
  refine o_istoreN X d33_13_10 rfl (L' := #[.val (.int (-(Int32.ofNat pp))), .val (.int (0 : Int32)), .unset, .unset]) rfl (q := 11) rfl ?_
  refine o_bipush X d33_13_11 (w := -10) rfl (q := 13) rfl ?_
  refine o_istoreN X d33_13_13 rfl (L' := #[.val (.int (-(Int32.ofNat pp))), .val (.int (0 : Int32)), .val (.int (-10 : Int32)), .unset]) rfl (q := 14) rfl ?_
  refine o_iconst X d33_13_14 (w := 1) rfl (q := 15) rfl ?_
  refine o_istoreN X d33_13_15 rfl (L' := #[.val (.int (-(Int32.ofNat pp))), .val (.int (0 : Int32)), .val (.int (-10 : Int32)), .val (.int (1 : Int32))]) rfl (q := 16) rfl ?_
  refine o_iloadN X d33_13_16 rfl (q := 17) rfl ?_
  refine o_bipush X d33_13_17 (w := 10) rfl (q := 19) rfl ?_
  refine o_icmpN X d33_13_19 (by decide) (q := 22) rfl ?_
  refine o_iloadN X d33_13_22 rfl (q := 23) rfl ?_
  refine o_iloadN X d33_13_23 rfl (q := 24) rfl ?_
  by_cases hc24 : (-10 : Int32) < (-(Int32.ofNat pp))
  · refine o_icmpN X d33_13_24 (tlt hc24).2.2.2 (q := 27) rfl ?_
    refine o_iloadN X d33_13_27 rfl (q := 28) rfl ?_
    refine o_iloadN X d33_13_28 rfl (q := 29) rfl ?_
    refine o_iadd X d33_13_29 (w := (1 : Int32)) (by decide) (q := 30) rfl ?_
    have q1 : pp < 10 := (own_th (K := 10) (by omega) (by omega)).mp hc24
    exact o_retI X d33_13_30 (fun Sf hSf => ⟨1, rfl, rfl, own_dgl1 (by omega) (by omega)⟩) (by decide) (by decide)
  · refine o_icmpY X d33_13_24 (flt hc24).2.2.2 (by decide) (q := 31) (by decide) ?_
    refine o_bipush X d33_13_31 (w := 10) rfl (q := 33) rfl ?_
    refine o_iloadN X d33_13_33 rfl (q := 34) rfl ?_
    refine o_imul X d33_13_34 (w := (-100 : Int32)) (by decide) (q := 35) rfl ?_
    refine o_istoreN X d33_13_35 rfl (L' := #[.val (.int (-(Int32.ofNat pp))), .val (.int (0 : Int32)), .val (.int (-100 : Int32)), .val (.int (1 : Int32))]) rfl (q := 36) rfl ?_
    refine o_iinc X d33_13_36 rfl (z := (2 : Int32)) (by decide) (L' := #[.val (.int (-(Int32.ofNat pp))), .val (.int (0 : Int32)), .val (.int (-100 : Int32)), .val (.int (2 : Int32))]) rfl (q := 39) rfl ?_
    refine o_goto X d33_13_39 (by decide) (q := 16) (by decide) ?_
    refine o_iloadN X d33_13_16 rfl (q := 17) rfl ?_
    refine o_bipush X d33_13_17 (w := 10) rfl (q := 19) rfl ?_
    refine o_icmpN X d33_13_19 (by decide) (q := 22) rfl ?_
    refine o_iloadN X d33_13_22 rfl (q := 23) rfl ?_
    refine o_iloadN X d33_13_23 rfl (q := 24) rfl ?_
    by_cases hc24x : (-100 : Int32) < (-(Int32.ofNat pp))
    · refine o_icmpN X d33_13_24 (tlt hc24x).2.2.2 (q := 27) rfl ?_
      refine o_iloadN X d33_13_27 rfl (q := 28) rfl ?_
      refine o_iloadN X d33_13_28 rfl (q := 29) rfl ?_
      refine o_iadd X d33_13_29 (w := (2 : Int32)) (by decide) (q := 30) rfl ?_
      have q2 : ¬ pp < 10 := fun q => hc24 ((own_th (K := 10) (by omega) (by omega)).mpr q)
      have q3 : pp < 100 := (own_th (K := 100) (by omega) (by omega)).mp hc24x
      exact o_retI X d33_13_30 (fun Sf hSf => ⟨2, rfl, rfl, own_dgl2 (by omega) (by omega)⟩) (by decide) (by decide)
    · refine o_icmpY X d33_13_24 (flt hc24x).2.2.2 (by decide) (q := 31) (by decide) ?_
      refine o_bipush X d33_13_31 (w := 10) rfl (q := 33) rfl ?_
      refine o_iloadN X d33_13_33 rfl (q := 34) rfl ?_
      refine o_imul X d33_13_34 (w := (-1000 : Int32)) (by decide) (q := 35) rfl ?_
      refine o_istoreN X d33_13_35 rfl (L' := #[.val (.int (-(Int32.ofNat pp))), .val (.int (0 : Int32)), .val (.int (-1000 : Int32)), .val (.int (2 : Int32))]) rfl (q := 36) rfl ?_
      refine o_iinc X d33_13_36 rfl (z := (3 : Int32)) (by decide) (L' := #[.val (.int (-(Int32.ofNat pp))), .val (.int (0 : Int32)), .val (.int (-1000 : Int32)), .val (.int (3 : Int32))]) rfl (q := 39) rfl ?_
      refine o_goto X d33_13_39 (by decide) (q := 16) (by decide) ?_
      refine o_iloadN X d33_13_16 rfl (q := 17) rfl ?_
      refine o_bipush X d33_13_17 (w := 10) rfl (q := 19) rfl ?_
      refine o_icmpN X d33_13_19 (by decide) (q := 22) rfl ?_
      refine o_iloadN X d33_13_22 rfl (q := 23) rfl ?_
      refine o_iloadN X d33_13_23 rfl (q := 24) rfl ?_
      by_cases hc24xx : (-1000 : Int32) < (-(Int32.ofNat pp))
      · refine o_icmpN X d33_13_24 (tlt hc24xx).2.2.2 (q := 27) rfl ?_
        refine o_iloadN X d33_13_27 rfl (q := 28) rfl ?_
        refine o_iloadN X d33_13_28 rfl (q := 29) rfl ?_
        refine o_iadd X d33_13_29 (w := (3 : Int32)) (by decide) (q := 30) rfl ?_
        have q4 : ¬ pp < 10 := fun q => hc24 ((own_th (K := 10) (by omega) (by omega)).mpr q)
        have q5 : ¬ pp < 100 := fun q => hc24x ((own_th (K := 100) (by omega) (by omega)).mpr q)
        have q6 : pp < 1000 := (own_th (K := 1000) (by omega) (by omega)).mp hc24xx
        exact o_retI X d33_13_30 (fun Sf hSf => ⟨3, rfl, rfl, own_dgl3 (by omega) (by omega)⟩) (by decide) (by decide)
      · refine o_icmpY X d33_13_24 (flt hc24xx).2.2.2 (by decide) (q := 31) (by decide) ?_
        refine o_bipush X d33_13_31 (w := 10) rfl (q := 33) rfl ?_
        refine o_iloadN X d33_13_33 rfl (q := 34) rfl ?_
        refine o_imul X d33_13_34 (w := (-10000 : Int32)) (by decide) (q := 35) rfl ?_
        refine o_istoreN X d33_13_35 rfl (L' := #[.val (.int (-(Int32.ofNat pp))), .val (.int (0 : Int32)), .val (.int (-10000 : Int32)), .val (.int (3 : Int32))]) rfl (q := 36) rfl ?_
        refine o_iinc X d33_13_36 rfl (z := (4 : Int32)) (by decide) (L' := #[.val (.int (-(Int32.ofNat pp))), .val (.int (0 : Int32)), .val (.int (-10000 : Int32)), .val (.int (4 : Int32))]) rfl (q := 39) rfl ?_
        refine o_goto X d33_13_39 (by decide) (q := 16) (by decide) ?_
        refine o_iloadN X d33_13_16 rfl (q := 17) rfl ?_
        refine o_bipush X d33_13_17 (w := 10) rfl (q := 19) rfl ?_
        refine o_icmpN X d33_13_19 (by decide) (q := 22) rfl ?_
        refine o_iloadN X d33_13_22 rfl (q := 23) rfl ?_
        refine o_iloadN X d33_13_23 rfl (q := 24) rfl ?_
        by_cases hc24xxx : (-10000 : Int32) < (-(Int32.ofNat pp))
        · refine o_icmpN X d33_13_24 (tlt hc24xxx).2.2.2 (q := 27) rfl ?_
          refine o_iloadN X d33_13_27 rfl (q := 28) rfl ?_
          refine o_iloadN X d33_13_28 rfl (q := 29) rfl ?_
          refine o_iadd X d33_13_29 (w := (4 : Int32)) (by decide) (q := 30) rfl ?_
          have q7 : ¬ pp < 10 := fun q => hc24 ((own_th (K := 10) (by omega) (by omega)).mpr q)
          have q8 : ¬ pp < 100 := fun q => hc24x ((own_th (K := 100) (by omega) (by omega)).mpr q)
          have q9 : ¬ pp < 1000 := fun q => hc24xx ((own_th (K := 1000) (by omega) (by omega)).mpr q)
          have q10 : pp < 10000 := (own_th (K := 10000) (by omega) (by omega)).mp hc24xxx
          exact o_retI X d33_13_30 (fun Sf hSf => ⟨4, rfl, rfl, own_dgl4 (by omega) (by omega)⟩) (by decide) (by decide)
        · refine o_icmpY X d33_13_24 (flt hc24xxx).2.2.2 (by decide) (q := 31) (by decide) ?_
          refine o_bipush X d33_13_31 (w := 10) rfl (q := 33) rfl ?_
          refine o_iloadN X d33_13_33 rfl (q := 34) rfl ?_
          refine o_imul X d33_13_34 (w := (-100000 : Int32)) (by decide) (q := 35) rfl ?_
          refine o_istoreN X d33_13_35 rfl (L' := #[.val (.int (-(Int32.ofNat pp))), .val (.int (0 : Int32)), .val (.int (-100000 : Int32)), .val (.int (4 : Int32))]) rfl (q := 36) rfl ?_
          refine o_iinc X d33_13_36 rfl (z := (5 : Int32)) (by decide) (L' := #[.val (.int (-(Int32.ofNat pp))), .val (.int (0 : Int32)), .val (.int (-100000 : Int32)), .val (.int (5 : Int32))]) rfl (q := 39) rfl ?_
          refine o_goto X d33_13_39 (by decide) (q := 16) (by decide) ?_
          refine o_iloadN X d33_13_16 rfl (q := 17) rfl ?_
          refine o_bipush X d33_13_17 (w := 10) rfl (q := 19) rfl ?_
          refine o_icmpN X d33_13_19 (by decide) (q := 22) rfl ?_
          refine o_iloadN X d33_13_22 rfl (q := 23) rfl ?_
          refine o_iloadN X d33_13_23 rfl (q := 24) rfl ?_
          by_cases hc24xxxx : (-100000 : Int32) < (-(Int32.ofNat pp))
          · refine o_icmpN X d33_13_24 (tlt hc24xxxx).2.2.2 (q := 27) rfl ?_
            refine o_iloadN X d33_13_27 rfl (q := 28) rfl ?_
            refine o_iloadN X d33_13_28 rfl (q := 29) rfl ?_
            refine o_iadd X d33_13_29 (w := (5 : Int32)) (by decide) (q := 30) rfl ?_
            have q11 : ¬ pp < 10 := fun q => hc24 ((own_th (K := 10) (by omega) (by omega)).mpr q)
            have q12 : ¬ pp < 100 := fun q => hc24x ((own_th (K := 100) (by omega) (by omega)).mpr q)
            have q13 : ¬ pp < 1000 := fun q => hc24xx ((own_th (K := 1000) (by omega) (by omega)).mpr q)
            have q14 : ¬ pp < 10000 := fun q => hc24xxx ((own_th (K := 10000) (by omega) (by omega)).mpr q)
            have q15 : pp < 100000 := (own_th (K := 100000) (by omega) (by omega)).mp hc24xxxx
            exact o_retI X d33_13_30 (fun Sf hSf => ⟨5, rfl, rfl, own_dgl5 (by omega) (by omega)⟩) (by decide) (by decide)
          · refine o_icmpY X d33_13_24 (flt hc24xxxx).2.2.2 (by decide) (q := 31) (by decide) ?_
            refine o_bipush X d33_13_31 (w := 10) rfl (q := 33) rfl ?_
            refine o_iloadN X d33_13_33 rfl (q := 34) rfl ?_
            refine o_imul X d33_13_34 (w := (-1000000 : Int32)) (by decide) (q := 35) rfl ?_
            refine o_istoreN X d33_13_35 rfl (L' := #[.val (.int (-(Int32.ofNat pp))), .val (.int (0 : Int32)), .val (.int (-1000000 : Int32)), .val (.int (5 : Int32))]) rfl (q := 36) rfl ?_
            refine o_iinc X d33_13_36 rfl (z := (6 : Int32)) (by decide) (L' := #[.val (.int (-(Int32.ofNat pp))), .val (.int (0 : Int32)), .val (.int (-1000000 : Int32)), .val (.int (6 : Int32))]) rfl (q := 39) rfl ?_
            refine o_goto X d33_13_39 (by decide) (q := 16) (by decide) ?_
            refine o_iloadN X d33_13_16 rfl (q := 17) rfl ?_
            refine o_bipush X d33_13_17 (w := 10) rfl (q := 19) rfl ?_
            refine o_icmpN X d33_13_19 (by decide) (q := 22) rfl ?_
            refine o_iloadN X d33_13_22 rfl (q := 23) rfl ?_
            refine o_iloadN X d33_13_23 rfl (q := 24) rfl ?_
            by_cases hc24xxxxx : (-1000000 : Int32) < (-(Int32.ofNat pp))
            · refine o_icmpN X d33_13_24 (tlt hc24xxxxx).2.2.2 (q := 27) rfl ?_
              refine o_iloadN X d33_13_27 rfl (q := 28) rfl ?_
              refine o_iloadN X d33_13_28 rfl (q := 29) rfl ?_
              refine o_iadd X d33_13_29 (w := (6 : Int32)) (by decide) (q := 30) rfl ?_
              have q16 : ¬ pp < 10 := fun q => hc24 ((own_th (K := 10) (by omega) (by omega)).mpr q)
              have q17 : ¬ pp < 100 := fun q => hc24x ((own_th (K := 100) (by omega) (by omega)).mpr q)
              have q18 : ¬ pp < 1000 := fun q => hc24xx ((own_th (K := 1000) (by omega) (by omega)).mpr q)
              have q19 : ¬ pp < 10000 := fun q => hc24xxx ((own_th (K := 10000) (by omega) (by omega)).mpr q)
              have q20 : ¬ pp < 100000 := fun q => hc24xxxx ((own_th (K := 100000) (by omega) (by omega)).mpr q)
              have q21 : pp < 1000000 := (own_th (K := 1000000) (by omega) (by omega)).mp hc24xxxxx
              exact o_retI X d33_13_30 (fun Sf hSf => ⟨6, rfl, rfl, own_dgl6 (by omega) (by omega)⟩) (by decide) (by decide)
            · refine o_icmpY X d33_13_24 (flt hc24xxxxx).2.2.2 (by decide) (q := 31) (by decide) ?_
              refine o_bipush X d33_13_31 (w := 10) rfl (q := 33) rfl ?_
              refine o_iloadN X d33_13_33 rfl (q := 34) rfl ?_
              refine o_imul X d33_13_34 (w := (-10000000 : Int32)) (by decide) (q := 35) rfl ?_
              refine o_istoreN X d33_13_35 rfl (L' := #[.val (.int (-(Int32.ofNat pp))), .val (.int (0 : Int32)), .val (.int (-10000000 : Int32)), .val (.int (6 : Int32))]) rfl (q := 36) rfl ?_
              refine o_iinc X d33_13_36 rfl (z := (7 : Int32)) (by decide) (L' := #[.val (.int (-(Int32.ofNat pp))), .val (.int (0 : Int32)), .val (.int (-10000000 : Int32)), .val (.int (7 : Int32))]) rfl (q := 39) rfl ?_
              refine o_goto X d33_13_39 (by decide) (q := 16) (by decide) ?_
              refine o_iloadN X d33_13_16 rfl (q := 17) rfl ?_
              refine o_bipush X d33_13_17 (w := 10) rfl (q := 19) rfl ?_
              refine o_icmpN X d33_13_19 (by decide) (q := 22) rfl ?_
              refine o_iloadN X d33_13_22 rfl (q := 23) rfl ?_
              refine o_iloadN X d33_13_23 rfl (q := 24) rfl ?_
              by_cases hc24xxxxxx : (-10000000 : Int32) < (-(Int32.ofNat pp))
              · refine o_icmpN X d33_13_24 (tlt hc24xxxxxx).2.2.2 (q := 27) rfl ?_
                refine o_iloadN X d33_13_27 rfl (q := 28) rfl ?_
                refine o_iloadN X d33_13_28 rfl (q := 29) rfl ?_
                refine o_iadd X d33_13_29 (w := (7 : Int32)) (by decide) (q := 30) rfl ?_
                have q22 : ¬ pp < 10 := fun q => hc24 ((own_th (K := 10) (by omega) (by omega)).mpr q)
                have q23 : ¬ pp < 100 := fun q => hc24x ((own_th (K := 100) (by omega) (by omega)).mpr q)
                have q24 : ¬ pp < 1000 := fun q => hc24xx ((own_th (K := 1000) (by omega) (by omega)).mpr q)
                have q25 : ¬ pp < 10000 := fun q => hc24xxx ((own_th (K := 10000) (by omega) (by omega)).mpr q)
                have q26 : ¬ pp < 100000 := fun q => hc24xxxx ((own_th (K := 100000) (by omega) (by omega)).mpr q)
                have q27 : ¬ pp < 1000000 := fun q => hc24xxxxx ((own_th (K := 1000000) (by omega) (by omega)).mpr q)
                have q28 : pp < 10000000 := (own_th (K := 10000000) (by omega) (by omega)).mp hc24xxxxxx
                exact o_retI X d33_13_30 (fun Sf hSf => ⟨7, rfl, rfl, own_dgl7 (by omega) (by omega)⟩) (by decide) (by decide)
              · refine o_icmpY X d33_13_24 (flt hc24xxxxxx).2.2.2 (by decide) (q := 31) (by decide) ?_
                refine o_bipush X d33_13_31 (w := 10) rfl (q := 33) rfl ?_
                refine o_iloadN X d33_13_33 rfl (q := 34) rfl ?_
                refine o_imul X d33_13_34 (w := (-100000000 : Int32)) (by decide) (q := 35) rfl ?_
                refine o_istoreN X d33_13_35 rfl (L' := #[.val (.int (-(Int32.ofNat pp))), .val (.int (0 : Int32)), .val (.int (-100000000 : Int32)), .val (.int (7 : Int32))]) rfl (q := 36) rfl ?_
                refine o_iinc X d33_13_36 rfl (z := (8 : Int32)) (by decide) (L' := #[.val (.int (-(Int32.ofNat pp))), .val (.int (0 : Int32)), .val (.int (-100000000 : Int32)), .val (.int (8 : Int32))]) rfl (q := 39) rfl ?_
                refine o_goto X d33_13_39 (by decide) (q := 16) (by decide) ?_
                refine o_iloadN X d33_13_16 rfl (q := 17) rfl ?_
                refine o_bipush X d33_13_17 (w := 10) rfl (q := 19) rfl ?_
                refine o_icmpN X d33_13_19 (by decide) (q := 22) rfl ?_
                refine o_iloadN X d33_13_22 rfl (q := 23) rfl ?_
                refine o_iloadN X d33_13_23 rfl (q := 24) rfl ?_
                by_cases hc24xxxxxxx : (-100000000 : Int32) < (-(Int32.ofNat pp))
                · refine o_icmpN X d33_13_24 (tlt hc24xxxxxxx).2.2.2 (q := 27) rfl ?_
                  refine o_iloadN X d33_13_27 rfl (q := 28) rfl ?_
                  refine o_iloadN X d33_13_28 rfl (q := 29) rfl ?_
                  refine o_iadd X d33_13_29 (w := (8 : Int32)) (by decide) (q := 30) rfl ?_
                  have q29 : ¬ pp < 10 := fun q => hc24 ((own_th (K := 10) (by omega) (by omega)).mpr q)
                  have q30 : ¬ pp < 100 := fun q => hc24x ((own_th (K := 100) (by omega) (by omega)).mpr q)
                  have q31 : ¬ pp < 1000 := fun q => hc24xx ((own_th (K := 1000) (by omega) (by omega)).mpr q)
                  have q32 : ¬ pp < 10000 := fun q => hc24xxx ((own_th (K := 10000) (by omega) (by omega)).mpr q)
                  have q33 : ¬ pp < 100000 := fun q => hc24xxxx ((own_th (K := 100000) (by omega) (by omega)).mpr q)
                  have q34 : ¬ pp < 1000000 := fun q => hc24xxxxx ((own_th (K := 1000000) (by omega) (by omega)).mpr q)
                  have q35 : ¬ pp < 10000000 := fun q => hc24xxxxxx ((own_th (K := 10000000) (by omega) (by omega)).mpr q)
                  have q36 : pp < 100000000 := (own_th (K := 100000000) (by omega) (by omega)).mp hc24xxxxxxx
                  exact o_retI X d33_13_30 (fun Sf hSf => ⟨8, rfl, rfl, own_dgl8 (by omega) (by omega)⟩) (by decide) (by decide)
                · refine o_icmpY X d33_13_24 (flt hc24xxxxxxx).2.2.2 (by decide) (q := 31) (by decide) ?_
                  refine o_bipush X d33_13_31 (w := 10) rfl (q := 33) rfl ?_
                  refine o_iloadN X d33_13_33 rfl (q := 34) rfl ?_
                  refine o_imul X d33_13_34 (w := (-1000000000 : Int32)) (by decide) (q := 35) rfl ?_
                  refine o_istoreN X d33_13_35 rfl (L' := #[.val (.int (-(Int32.ofNat pp))), .val (.int (0 : Int32)), .val (.int (-1000000000 : Int32)), .val (.int (8 : Int32))]) rfl (q := 36) rfl ?_
                  refine o_iinc X d33_13_36 rfl (z := (9 : Int32)) (by decide) (L' := #[.val (.int (-(Int32.ofNat pp))), .val (.int (0 : Int32)), .val (.int (-1000000000 : Int32)), .val (.int (9 : Int32))]) rfl (q := 39) rfl ?_
                  refine o_goto X d33_13_39 (by decide) (q := 16) (by decide) ?_
                  refine o_iloadN X d33_13_16 rfl (q := 17) rfl ?_
                  refine o_bipush X d33_13_17 (w := 10) rfl (q := 19) rfl ?_
                  refine o_icmpN X d33_13_19 (by decide) (q := 22) rfl ?_
                  refine o_iloadN X d33_13_22 rfl (q := 23) rfl ?_
                  refine o_iloadN X d33_13_23 rfl (q := 24) rfl ?_
                  by_cases hc24xxxxxxxx : (-1000000000 : Int32) < (-(Int32.ofNat pp))
                  · refine o_icmpN X d33_13_24 (tlt hc24xxxxxxxx).2.2.2 (q := 27) rfl ?_
                    refine o_iloadN X d33_13_27 rfl (q := 28) rfl ?_
                    refine o_iloadN X d33_13_28 rfl (q := 29) rfl ?_
                    refine o_iadd X d33_13_29 (w := (9 : Int32)) (by decide) (q := 30) rfl ?_
                    have q37 : ¬ pp < 10 := fun q => hc24 ((own_th (K := 10) (by omega) (by omega)).mpr q)
                    have q38 : ¬ pp < 100 := fun q => hc24x ((own_th (K := 100) (by omega) (by omega)).mpr q)
                    have q39 : ¬ pp < 1000 := fun q => hc24xx ((own_th (K := 1000) (by omega) (by omega)).mpr q)
                    have q40 : ¬ pp < 10000 := fun q => hc24xxx ((own_th (K := 10000) (by omega) (by omega)).mpr q)
                    have q41 : ¬ pp < 100000 := fun q => hc24xxxx ((own_th (K := 100000) (by omega) (by omega)).mpr q)
                    have q42 : ¬ pp < 1000000 := fun q => hc24xxxxx ((own_th (K := 1000000) (by omega) (by omega)).mpr q)
                    have q43 : ¬ pp < 10000000 := fun q => hc24xxxxxx ((own_th (K := 10000000) (by omega) (by omega)).mpr q)
                    have q44 : ¬ pp < 100000000 := fun q => hc24xxxxxxx ((own_th (K := 100000000) (by omega) (by omega)).mpr q)
                    have q45 : pp < 1000000000 := (own_th (K := 1000000000) (by omega) (by omega)).mp hc24xxxxxxxx
                    exact o_retI X d33_13_30 (fun Sf hSf => ⟨9, rfl, rfl, own_dgl9 (by omega) (by omega)⟩) (by decide) (by decide)
                  · refine o_icmpY X d33_13_24 (flt hc24xxxxxxxx).2.2.2 (by decide) (q := 31) (by decide) ?_
                    refine o_bipush X d33_13_31 (w := 10) rfl (q := 33) rfl ?_
                    refine o_iloadN X d33_13_33 rfl (q := 34) rfl ?_
                    refine o_imul X d33_13_34 (w := (-1410065408 : Int32)) (by decide) (q := 35) rfl ?_
                    refine o_istoreN X d33_13_35 rfl (L' := #[.val (.int (-(Int32.ofNat pp))), .val (.int (0 : Int32)), .val (.int (-1410065408 : Int32)), .val (.int (9 : Int32))]) rfl (q := 36) rfl ?_
                    refine o_iinc X d33_13_36 rfl (z := (10 : Int32)) (by decide) (L' := #[.val (.int (-(Int32.ofNat pp))), .val (.int (0 : Int32)), .val (.int (-1410065408 : Int32)), .val (.int (10 : Int32))]) rfl (q := 39) rfl ?_
                    refine o_goto X d33_13_39 (by decide) (q := 16) (by decide) ?_
                    refine o_iloadN X d33_13_16 rfl (q := 17) rfl ?_
                    refine o_bipush X d33_13_17 (w := 10) rfl (q := 19) rfl ?_
                    refine o_icmpY X d33_13_19 (by decide) (by decide) (q := 42) (by decide) ?_
                    refine o_bipush X d33_13_42 (w := 10) rfl (q := 44) rfl ?_
                    refine o_iloadN X d33_13_44 rfl (q := 45) rfl ?_
                    refine o_iadd X d33_13_45 (w := (10 : Int32)) (by decide) (q := 46) rfl ?_
                    have q46 : ¬ pp < 10 := fun q => hc24 ((own_th (K := 10) (by omega) (by omega)).mpr q)
                    have q47 : ¬ pp < 100 := fun q => hc24x ((own_th (K := 100) (by omega) (by omega)).mpr q)
                    have q48 : ¬ pp < 1000 := fun q => hc24xx ((own_th (K := 1000) (by omega) (by omega)).mpr q)
                    have q49 : ¬ pp < 10000 := fun q => hc24xxx ((own_th (K := 10000) (by omega) (by omega)).mpr q)
                    have q50 : ¬ pp < 100000 := fun q => hc24xxxx ((own_th (K := 100000) (by omega) (by omega)).mpr q)
                    have q51 : ¬ pp < 1000000 := fun q => hc24xxxxx ((own_th (K := 1000000) (by omega) (by omega)).mpr q)
                    have q52 : ¬ pp < 10000000 := fun q => hc24xxxxxx ((own_th (K := 10000000) (by omega) (by omega)).mpr q)
                    have q53 : ¬ pp < 100000000 := fun q => hc24xxxxxxx ((own_th (K := 100000000) (by omega) (by omega)).mpr q)
                    have q54 : ¬ pp < 1000000000 := fun q => hc24xxxxxxxx ((own_th (K := 1000000000) (by omega) (by omega)).mpr q)
                    exact o_retI X d33_13_46 (fun Sf hSf => ⟨10, rfl, rfl, own_dgl10 (by omega) (by omega)⟩) (by decide) (by decide)
theorem c_gc {l : Launch} {Z : State} {a0 : Array Value} (hw : W a0 Z) (va : Addr) (cap pp : Nat) (ys : List Int32) (h0 : Heap) {do_ dt_ : Addr} {kdo kdt : ClassId} (SDo : Sta Z Z.heap "java/lang/Integer" "DigitOnes" "[B" (.ref do_)) (VDo : Arv Z Z.heap do_ kdo .byte (100 : Int32) TO (.int (0 : Int32))) (SDt : Sta Z Z.heap "java/lang/Integer" "DigitTens" "[B" (.ref dt_)) (VDt : Arv Z Z.heap dt_ kdt .byte (100 : Int32) TT (.int (0 : Int32))) {kv : ClassId} (Vv : Arv Z h0 va kv .byte (Int32.ofNat cap) (LB ys) (.int (0 : Int32))) (gv : Z.heap.size ≤ va) (hsum : ys.length + (dg pp).length ≤ cap) (hcb : cap ≤ 80) (hp : 0 < pp) (hp2 : pp < 2147483648) :
    Con l Z EL0 (⟨"java/lang/Integer", "getChars", "(II[B)I"⟩ : MethodName) jdk_33_method_12_code 7 (some .int) ({ frames := 0, cells := 0, slots := 0, locals := 0 } : Room) #[(.int (Int32.ofNat pp)), (.int (Int32.ofNat (ys.length + (dg pp).length))), (.ref va)] h0 [va] (fun v h' Sf => ∃ z : Int32, v = some (.int z) ∧ Keep h0 h' [va] ∧ Arv Z h' va kv .byte (Int32.ofNat cap) (LB (ys ++ dg pp)) (.int (0 : Int32))) := by
  refine Con.intro (plainFor_of_name pn6) ?_
  intro p e s m below meth c T X hss
  have S_va := hss va (by simp)
  refine Goes.cast (g' := mkF m 0 #[.val (.int (Int32.ofNat pp)), .val (.int (Int32.ofNat (ys.length + (dg pp).length))), .val (.ref va), .unset, .unset, .unset, .unset] []) (by first | (simp [entryFrame, mkF, argsToLocals, Value.category]; done) | rfl) ?_
  refine o_iloadN X d33_12_0 rfl (q := 1) rfl ?_
  refine o_istore X d33_12_1 rfl (L' := #[.val (.int (Int32.ofNat pp)), .val (.int (Int32.ofNat (ys.length + (dg pp).length))), .val (.ref va), .unset, .unset, .val (.int (Int32.ofNat (ys.length + (dg pp).length))), .unset]) rfl (q := 3) rfl ?_
  refine o_iloadN X d33_12_3 rfl (q := 4) rfl ?_
  refine o_ifY X d33_12_4 (flt (n_neg (by omega))).2.1 (by decide) (q := 11) (by decide) ?_
  refine o_iconst X d33_12_11 (w := 0) rfl (q := 12) rfl ?_
  refine o_istore X d33_12_12 rfl (L' := #[.val (.int (Int32.ofNat pp)), .val (.int (Int32.ofNat (ys.length + (dg pp).length))), .val (.ref va), .unset, .unset, .val (.int (Int32.ofNat (ys.length + (dg pp).length))), .val (.int (0 : Int32))]) rfl (q := 14) rfl ?_
  refine o_iload X d33_12_14 rfl (q := 16) rfl ?_
  refine o_ifN X d33_12_16 (by decide) (q := 19) rfl ?_
  refine o_iloadN X d33_12_19 rfl (q := 20) rfl ?_
  refine o_ineg X d33_12_20 (w := (-(Int32.ofNat pp))) rfl (q := 21) rfl ?_
  refine o_istoreN X d33_12_21 rfl (L' := #[.val (.int (-(Int32.ofNat pp))), .val (.int (Int32.ofNat (ys.length + (dg pp).length))), .val (.ref va), .unset, .unset, .val (.int (Int32.ofNat (ys.length + (dg pp).length))), .val (.int (0 : Int32))]) rfl (q := 22) rfl ?_
  have loop : ∀ (k x : Nat) {vm : Vm} {T : State} {h : Heap} {locs : List Loc} (tl : List Int32) (s3 s4 : Slot), One s3 → One s4 → x ≤ k → x < 2147483648 → dg pp = dg x ++ tl → Keep h0 h [va] → Arv Z h va kv .byte (Int32.ofNat cap) (LB ys ++ List.replicate (dg x).length (.int (0 : Int32)) ++ LB tl) (.int (0 : Int32)) → Ext Z.heap h → Safe Z EL0 vm h va → On l Z EL0 p e ({ frames := 0, cells := 0, slots := 0, locals := 0 } : Room) s m #[(.int (Int32.ofNat pp)), (.int (Int32.ofNat (ys.length + (dg pp).length))), (.ref va)] below meth c (⟨"java/lang/Integer", "getChars", "(II[B)I"⟩ : MethodName) jdk_33_method_12_code 7 (some .int) vm T h locs 0 0 → Goes p e below (FinQ Z EL0 s (fun v h' Sf => ∃ z : Int32, v = some (.int z) ∧ Keep h0 h' [va] ∧ Arv Z h' va kv .byte (Int32.ofNat cap) (LB (ys ++ dg pp)) (.int (0 : Int32))) (({ frames := 0, cells := 0, slots := 0, locals := 0 } : Room)).cells (({ frames := 0, cells := 0, slots := 0, locals := 0 } : Room)).slots) T (mkF m 22 #[.val (.int (-(Int32.ofNat x))), .val (.int (Int32.ofNat (ys.length + (dg pp).length))), .val (.ref va), s3, s4, .val (.int (Int32.ofNat (ys.length + (dg x).length))), .val (.int (0 : Int32))] []) := by
    intro k
    induction k with
    | zero =>
      intro x vm T h locs tl s3 s4 o3 o4 hk hx2 hq Kp Vb hE Sb X
      by_cases hx10 : x < 10
      · have e1 : (dg x).length = 1 := by rw [own_dg1 (by omega)]; rfl
        have hdl := congrArg List.length hq
        rw [List.length_append, e1] at hdl
        rw [e1] at Vb
        rw [e1]
        refine o_iloadN X d33_12_22 rfl (q := 23) rfl ?_
        refine o_bipush X d33_12_23 (w := -100) rfl (q := 25) rfl ?_
        refine o_icmpY X d33_12_25 (tlt ((own_th (K := 100) (by omega) (by omega)).mpr (by omega))).2.2.1 (by decide) (q := 72) (by decide) ?_
        refine o_aloadN X d33_12_72 rfl rfl (q := 73) rfl ?_
        refine o_iinc X d33_12_73 rfl (z := (Int32.ofNat (ys.length + 0))) (own_dec rfl) (L' := #[.val (.int (-(Int32.ofNat x))), .val (.int (Int32.ofNat (ys.length + (dg pp).length))), .val (.ref va), s3, s4, .val (.int (Int32.ofNat (ys.length + 0))), .val (.int (0 : Int32))]) rfl (q := 76) rfl ?_
        refine o_iload X d33_12_76 rfl (q := 78) rfl ?_
        refine o_getS X SDo (host := "") (Or.inl (w265 hw)) Via.refl d33_12_78 (q := 81) rfl ?_
        intro T1 X1
        refine o_iloadN X1 d33_12_81 rfl (q := 82) rfl ?_
        refine o_ineg X1 d33_12_82 (w := (Int32.ofNat x)) (Int32.neg_neg) (q := 83) rfl ?_
        refine o_baload X1 (VDo.ext X1.ext) (n_in (n := 100) (by omega) (by omega)) (v := .int (Int32.ofNat (48 + x % 10))) (own_to (by omega)) d33_12_83 (q := 84) rfl ?_
        refine o_bastore X1 (ys.length + 0) Vb gv Sb (n_in (by omega) (by omega)) (n_nat (by omega)) (by simp <;> omega) (v := (.int (Int32.ofNat (48 + x % 10)).toInt8.toInt32)) rfl d33_12_84 (q := 85) rfl ?_
        intro T2 h2 l2 X2 W2 R2 V2
        have V2 : Arv Z h2 va kv .byte (Int32.ofNat cap) (LB ys ++ List.replicate 0 (.int (0 : Int32)) ++ LB ((Int32.ofNat (48 + x % 10)) :: tl)) (.int (0 : Int32)) := by rw [← own_setd]; exact V2
        refine o_iloadN X2 d33_12_85 rfl (q := 86) rfl ?_
        refine o_bipush X2 d33_12_86 (w := -9) rfl (q := 88) rfl ?_
        refine o_icmpY X2 d33_12_88 (flt (fun q => absurd ((own_th9 (by omega)).mp q) (by omega))).2.1 (by decide) (q := 104) (by decide) ?_
        refine o_iload X2 d33_12_104 rfl (q := 106) rfl ?_
        refine o_ifY X2 d33_12_106 (by decide) (by decide) (q := 118) (by decide) ?_
        refine o_iload X2 d33_12_118 rfl (q := 120) rfl ?_
        have k3 := Keep.wr (Keep.refl h [va]) W2 (Or.inl (by simp))
        exact o_retI X2 d33_12_120 (fun Sf hSf => ⟨_, rfl, (Keep.trans Kp k3 (allS (Or.inl (by simp)) all0)), (by rw [hq, own_dg1 (by omega)]; have q := V2; rw [List.replicate_zero, List.append_nil] at q; simpa [LB] using q)⟩) (by decide) (by decide)
      · have e1 : (dg x).length = 2 := by rw [own_dg2 (by omega) (by omega)]; rfl
        have hdl := congrArg List.length hq
        rw [List.length_append, e1] at hdl
        rw [e1] at Vb
        rw [e1]
        refine o_iloadN X d33_12_22 rfl (q := 23) rfl ?_
        refine o_bipush X d33_12_23 (w := -100) rfl (q := 25) rfl ?_
        refine o_icmpY X d33_12_25 (tlt ((own_th (K := 100) (by omega) (by omega)).mpr (by omega))).2.2.1 (by decide) (q := 72) (by decide) ?_
        refine o_aloadN X d33_12_72 rfl rfl (q := 73) rfl ?_
        refine o_iinc X d33_12_73 rfl (z := (Int32.ofNat (ys.length + 1))) (own_dec rfl) (L' := #[.val (.int (-(Int32.ofNat x))), .val (.int (Int32.ofNat (ys.length + (dg pp).length))), .val (.ref va), s3, s4, .val (.int (Int32.ofNat (ys.length + 1))), .val (.int (0 : Int32))]) rfl (q := 76) rfl ?_
        refine o_iload X d33_12_76 rfl (q := 78) rfl ?_
        refine o_getS X SDo (host := "") (Or.inl (w265 hw)) Via.refl d33_12_78 (q := 81) rfl ?_
        intro T4 X4
        refine o_iloadN X4 d33_12_81 rfl (q := 82) rfl ?_
        refine o_ineg X4 d33_12_82 (w := (Int32.ofNat x)) (Int32.neg_neg) (q := 83) rfl ?_
        refine o_baload X4 (VDo.ext X4.ext) (n_in (n := 100) (by omega) (by omega)) (v := .int (Int32.ofNat (48 + x % 10))) (own_to (by omega)) d33_12_83 (q := 84) rfl ?_
        refine o_bastore X4 (ys.length + 1) Vb gv Sb (n_in (by omega) (by omega)) (n_nat (by omega)) (by simp <;> omega) (v := (.int (Int32.ofNat (48 + x % 10)).toInt8.toInt32)) rfl d33_12_84 (q := 85) rfl ?_
        intro T5 h5 l5 X5 W5 R5 V5
        have V5 : Arv Z h5 va kv .byte (Int32.ofNat cap) (LB ys ++ List.replicate 1 (.int (0 : Int32)) ++ LB ((Int32.ofNat (48 + x % 10)) :: tl)) (.int (0 : Int32)) := by rw [← own_setd]; exact V5
        refine o_iloadN X5 d33_12_85 rfl (q := 86) rfl ?_
        refine o_bipush X5 d33_12_86 (w := -9) rfl (q := 88) rfl ?_
        refine o_icmpN X5 d33_12_88 (tlt ((own_th9 (by omega)).mpr (by omega))).2.1 (q := 91) rfl ?_
        refine o_aloadN X5 d33_12_91 rfl rfl (q := 92) rfl ?_
        refine o_iinc X5 d33_12_92 rfl (z := (Int32.ofNat (ys.length + 0))) (own_dec rfl) (L' := #[.val (.int (-(Int32.ofNat x))), .val (.int (Int32.ofNat (ys.length + (dg pp).length))), .val (.ref va), s3, s4, .val (.int (Int32.ofNat (ys.length + 0))), .val (.int (0 : Int32))]) rfl (q := 95) rfl ?_
        refine o_iload X5 d33_12_95 rfl (q := 97) rfl ?_
        refine o_getS X5 SDt (host := "") (Or.inl (w266 hw)) Via.refl d33_12_97 (q := 100) rfl ?_
        intro T6 X6
        refine o_iloadN X6 d33_12_100 rfl (q := 101) rfl ?_
        refine o_ineg X6 d33_12_101 (w := (Int32.ofNat x)) (Int32.neg_neg) (q := 102) rfl ?_
        refine o_baload X6 (VDt.ext X6.ext) (n_in (n := 100) (by omega) (by omega)) (v := .int (Int32.ofNat (48 + x / 10))) (own_tt (by omega)) d33_12_102 (q := 103) rfl ?_
        have f8 := (CHr.safe R5 (Vb.lt) Sb)
        refine o_bastore X6 (ys.length + 0) V5 gv f8 (n_in (by omega) (by omega)) (n_nat (by omega)) (by simp <;> omega) (v := (.int (Int32.ofNat (48 + x / 10)).toInt8.toInt32)) rfl d33_12_103 (q := 104) rfl ?_
        intro T7 h7 l7 X7 W7 R7 V7
        have V7 : Arv Z h7 va kv .byte (Int32.ofNat cap) (LB ys ++ List.replicate 0 (.int (0 : Int32)) ++ LB ((Int32.ofNat (48 + x / 10)) :: (Int32.ofNat (48 + x % 10)) :: tl)) (.int (0 : Int32)) := by rw [← own_setd]; exact V7
        refine o_iload X7 d33_12_104 rfl (q := 106) rfl ?_
        refine o_ifY X7 d33_12_106 (by decide) (by decide) (q := 118) (by decide) ?_
        refine o_iload X7 d33_12_118 rfl (q := 120) rfl ?_
        have k9 := Keep.wr (Keep.refl h [va]) W5 (Or.inl (by simp))
        have k10 := Keep.wr k9 W7 (Or.inl (by simp))
        exact o_retI X7 d33_12_120 (fun Sf hSf => ⟨_, rfl, (Keep.trans Kp k10 (allS (Or.inl (by simp)) all0)), (by rw [hq, own_dg2 (by omega) (by omega)]; have q := V7; rw [List.replicate_zero, List.append_nil] at q; simpa [LB] using q)⟩) (by decide) (by decide)
    | succ k ih =>
      intro x vm T h locs tl s3 s4 o3 o4 hk hx2 hq Kp Vb hE Sb X
      by_cases hx : x < 100
      · by_cases hx10 : x < 10
        · have e1 : (dg x).length = 1 := by rw [own_dg1 (by omega)]; rfl
          have hdl := congrArg List.length hq
          rw [List.length_append, e1] at hdl
          rw [e1] at Vb
          rw [e1]
          refine o_iloadN X d33_12_22 rfl (q := 23) rfl ?_
          refine o_bipush X d33_12_23 (w := -100) rfl (q := 25) rfl ?_
          refine o_icmpY X d33_12_25 (tlt ((own_th (K := 100) (by omega) (by omega)).mpr (by omega))).2.2.1 (by decide) (q := 72) (by decide) ?_
          refine o_aloadN X d33_12_72 rfl rfl (q := 73) rfl ?_
          refine o_iinc X d33_12_73 rfl (z := (Int32.ofNat (ys.length + 0))) (own_dec rfl) (L' := #[.val (.int (-(Int32.ofNat x))), .val (.int (Int32.ofNat (ys.length + (dg pp).length))), .val (.ref va), s3, s4, .val (.int (Int32.ofNat (ys.length + 0))), .val (.int (0 : Int32))]) rfl (q := 76) rfl ?_
          refine o_iload X d33_12_76 rfl (q := 78) rfl ?_
          refine o_getS X SDo (host := "") (Or.inl (w265 hw)) Via.refl d33_12_78 (q := 81) rfl ?_
          intro T11 X11
          refine o_iloadN X11 d33_12_81 rfl (q := 82) rfl ?_
          refine o_ineg X11 d33_12_82 (w := (Int32.ofNat x)) (Int32.neg_neg) (q := 83) rfl ?_
          refine o_baload X11 (VDo.ext X11.ext) (n_in (n := 100) (by omega) (by omega)) (v := .int (Int32.ofNat (48 + x % 10))) (own_to (by omega)) d33_12_83 (q := 84) rfl ?_
          refine o_bastore X11 (ys.length + 0) Vb gv Sb (n_in (by omega) (by omega)) (n_nat (by omega)) (by simp <;> omega) (v := (.int (Int32.ofNat (48 + x % 10)).toInt8.toInt32)) rfl d33_12_84 (q := 85) rfl ?_
          intro T12 h12 l12 X12 W12 R12 V12
          have V12 : Arv Z h12 va kv .byte (Int32.ofNat cap) (LB ys ++ List.replicate 0 (.int (0 : Int32)) ++ LB ((Int32.ofNat (48 + x % 10)) :: tl)) (.int (0 : Int32)) := by rw [← own_setd]; exact V12
          refine o_iloadN X12 d33_12_85 rfl (q := 86) rfl ?_
          refine o_bipush X12 d33_12_86 (w := -9) rfl (q := 88) rfl ?_
          refine o_icmpY X12 d33_12_88 (flt (fun q => absurd ((own_th9 (by omega)).mp q) (by omega))).2.1 (by decide) (q := 104) (by decide) ?_
          refine o_iload X12 d33_12_104 rfl (q := 106) rfl ?_
          refine o_ifY X12 d33_12_106 (by decide) (by decide) (q := 118) (by decide) ?_
          refine o_iload X12 d33_12_118 rfl (q := 120) rfl ?_
          have k13 := Keep.wr (Keep.refl h [va]) W12 (Or.inl (by simp))
          exact o_retI X12 d33_12_120 (fun Sf hSf => ⟨_, rfl, (Keep.trans Kp k13 (allS (Or.inl (by simp)) all0)), (by rw [hq, own_dg1 (by omega)]; have q := V12; rw [List.replicate_zero, List.append_nil] at q; simpa [LB] using q)⟩) (by decide) (by decide)
        · have e1 : (dg x).length = 2 := by rw [own_dg2 (by omega) (by omega)]; rfl
          have hdl := congrArg List.length hq
          rw [List.length_append, e1] at hdl
          rw [e1] at Vb
          rw [e1]
          refine o_iloadN X d33_12_22 rfl (q := 23) rfl ?_
          refine o_bipush X d33_12_23 (w := -100) rfl (q := 25) rfl ?_
          refine o_icmpY X d33_12_25 (tlt ((own_th (K := 100) (by omega) (by omega)).mpr (by omega))).2.2.1 (by decide) (q := 72) (by decide) ?_
          refine o_aloadN X d33_12_72 rfl rfl (q := 73) rfl ?_
          refine o_iinc X d33_12_73 rfl (z := (Int32.ofNat (ys.length + 1))) (own_dec rfl) (L' := #[.val (.int (-(Int32.ofNat x))), .val (.int (Int32.ofNat (ys.length + (dg pp).length))), .val (.ref va), s3, s4, .val (.int (Int32.ofNat (ys.length + 1))), .val (.int (0 : Int32))]) rfl (q := 76) rfl ?_
          refine o_iload X d33_12_76 rfl (q := 78) rfl ?_
          refine o_getS X SDo (host := "") (Or.inl (w265 hw)) Via.refl d33_12_78 (q := 81) rfl ?_
          intro T14 X14
          refine o_iloadN X14 d33_12_81 rfl (q := 82) rfl ?_
          refine o_ineg X14 d33_12_82 (w := (Int32.ofNat x)) (Int32.neg_neg) (q := 83) rfl ?_
          refine o_baload X14 (VDo.ext X14.ext) (n_in (n := 100) (by omega) (by omega)) (v := .int (Int32.ofNat (48 + x % 10))) (own_to (by omega)) d33_12_83 (q := 84) rfl ?_
          refine o_bastore X14 (ys.length + 1) Vb gv Sb (n_in (by omega) (by omega)) (n_nat (by omega)) (by simp <;> omega) (v := (.int (Int32.ofNat (48 + x % 10)).toInt8.toInt32)) rfl d33_12_84 (q := 85) rfl ?_
          intro T15 h15 l15 X15 W15 R15 V15
          have V15 : Arv Z h15 va kv .byte (Int32.ofNat cap) (LB ys ++ List.replicate 1 (.int (0 : Int32)) ++ LB ((Int32.ofNat (48 + x % 10)) :: tl)) (.int (0 : Int32)) := by rw [← own_setd]; exact V15
          refine o_iloadN X15 d33_12_85 rfl (q := 86) rfl ?_
          refine o_bipush X15 d33_12_86 (w := -9) rfl (q := 88) rfl ?_
          refine o_icmpN X15 d33_12_88 (tlt ((own_th9 (by omega)).mpr (by omega))).2.1 (q := 91) rfl ?_
          refine o_aloadN X15 d33_12_91 rfl rfl (q := 92) rfl ?_
          refine o_iinc X15 d33_12_92 rfl (z := (Int32.ofNat (ys.length + 0))) (own_dec rfl) (L' := #[.val (.int (-(Int32.ofNat x))), .val (.int (Int32.ofNat (ys.length + (dg pp).length))), .val (.ref va), s3, s4, .val (.int (Int32.ofNat (ys.length + 0))), .val (.int (0 : Int32))]) rfl (q := 95) rfl ?_
          refine o_iload X15 d33_12_95 rfl (q := 97) rfl ?_
          refine o_getS X15 SDt (host := "") (Or.inl (w266 hw)) Via.refl d33_12_97 (q := 100) rfl ?_
          intro T16 X16
          refine o_iloadN X16 d33_12_100 rfl (q := 101) rfl ?_
          refine o_ineg X16 d33_12_101 (w := (Int32.ofNat x)) (Int32.neg_neg) (q := 102) rfl ?_
          refine o_baload X16 (VDt.ext X16.ext) (n_in (n := 100) (by omega) (by omega)) (v := .int (Int32.ofNat (48 + x / 10))) (own_tt (by omega)) d33_12_102 (q := 103) rfl ?_
          have f18 := (CHr.safe R15 (Vb.lt) Sb)
          refine o_bastore X16 (ys.length + 0) V15 gv f18 (n_in (by omega) (by omega)) (n_nat (by omega)) (by simp <;> omega) (v := (.int (Int32.ofNat (48 + x / 10)).toInt8.toInt32)) rfl d33_12_103 (q := 104) rfl ?_
          intro T17 h17 l17 X17 W17 R17 V17
          have V17 : Arv Z h17 va kv .byte (Int32.ofNat cap) (LB ys ++ List.replicate 0 (.int (0 : Int32)) ++ LB ((Int32.ofNat (48 + x / 10)) :: (Int32.ofNat (48 + x % 10)) :: tl)) (.int (0 : Int32)) := by rw [← own_setd]; exact V17
          refine o_iload X17 d33_12_104 rfl (q := 106) rfl ?_
          refine o_ifY X17 d33_12_106 (by decide) (by decide) (q := 118) (by decide) ?_
          refine o_iload X17 d33_12_118 rfl (q := 120) rfl ?_
          have k19 := Keep.wr (Keep.refl h [va]) W15 (Or.inl (by simp))
          have k20 := Keep.wr k19 W17 (Or.inl (by simp))
          exact o_retI X17 d33_12_120 (fun Sf hSf => ⟨_, rfl, (Keep.trans Kp k20 (allS (Or.inl (by simp)) all0)), (by rw [hq, own_dg2 (by omega) (by omega)]; have q := V17; rw [List.replicate_zero, List.append_nil] at q; simpa [LB] using q)⟩) (by decide) (by decide)
      · have e2 : (dg x).length = (dg (x / 100)).length + 2 := by rw [own_dgh (by omega)]; simp
        have hdl := congrArg List.length hq
        rw [List.length_append, e2] at hdl
        rw [e2] at Vb
        rw [e2]
        refine o_iloadN X d33_12_22 rfl (q := 23) rfl ?_
        refine o_bipush X d33_12_23 (w := -100) rfl (q := 25) rfl ?_
        refine o_icmpN X d33_12_25 (flt (fun q => absurd ((own_th (K := 100) (by omega) (by omega)).mp q) (by omega))).2.2.1 (q := 28) rfl ?_
        refine o_iloadN X d33_12_28 rfl (q := 29) rfl ?_
        refine o_bipush X d33_12_29 (w := 100) rfl (q := 31) rfl ?_
        refine o_idiv X d33_12_31 (by decide) (w := (-(Int32.ofNat (x / 100)))) (own_d100 (by omega)) (q := 32) rfl ?_
        refine o_istoreN X d33_12_32 rfl (L' := #[.val (.int (-(Int32.ofNat x))), .val (.int (Int32.ofNat (ys.length + (dg pp).length))), .val (.ref va), .val (.int (-(Int32.ofNat (x / 100)))), s4, .val (.int (Int32.ofNat (ys.length + ((dg (x / 100)).length + 2)))), .val (.int (0 : Int32))]) (Jvm.Free.XS.store1 rfl o3 rfl) (q := 33) rfl ?_
        refine o_iloadN X d33_12_33 rfl (q := 34) rfl ?_
        refine o_bipush X d33_12_34 (w := 100) rfl (q := 36) rfl ?_
        refine o_imul X d33_12_36 (w := ((-(Int32.ofNat (x / 100))) * (100 : Int32))) rfl (q := 37) rfl ?_
        refine o_iloadN X d33_12_37 rfl (q := 38) rfl ?_
        refine o_isub X d33_12_38 (w := (Int32.ofNat (x % 100))) (own_r100 (by omega)) (q := 39) rfl ?_
        refine o_istore X d33_12_39 rfl (L' := #[.val (.int (-(Int32.ofNat x))), .val (.int (Int32.ofNat (ys.length + (dg pp).length))), .val (.ref va), .val (.int (-(Int32.ofNat (x / 100)))), .val (.int (Int32.ofNat (x % 100))), .val (.int (Int32.ofNat (ys.length + ((dg (x / 100)).length + 2)))), .val (.int (0 : Int32))]) (Jvm.Free.XS.store1 rfl o4 rfl) (q := 41) rfl ?_
        refine o_iloadN X d33_12_41 rfl (q := 42) rfl ?_
        refine o_istoreN X d33_12_42 rfl (L' := #[.val (.int (-(Int32.ofNat (x / 100)))), .val (.int (Int32.ofNat (ys.length + (dg pp).length))), .val (.ref va), .val (.int (-(Int32.ofNat (x / 100)))), .val (.int (Int32.ofNat (x % 100))), .val (.int (Int32.ofNat (ys.length + ((dg (x / 100)).length + 2)))), .val (.int (0 : Int32))]) rfl (q := 43) rfl ?_
        refine o_aloadN X d33_12_43 rfl rfl (q := 44) rfl ?_
        refine o_iinc X d33_12_44 rfl (z := (Int32.ofNat (ys.length + ((dg (x / 100)).length + 1)))) (own_dec (by omega)) (L' := #[.val (.int (-(Int32.ofNat (x / 100)))), .val (.int (Int32.ofNat (ys.length + (dg pp).length))), .val (.ref va), .val (.int (-(Int32.ofNat (x / 100)))), .val (.int (Int32.ofNat (x % 100))), .val (.int (Int32.ofNat (ys.length + ((dg (x / 100)).length + 1)))), .val (.int (0 : Int32))]) rfl (q := 47) rfl ?_
        refine o_iload X d33_12_47 rfl (q := 49) rfl ?_
        refine o_getS X SDo (host := "") (Or.inl (w265 hw)) Via.refl d33_12_49 (q := 52) rfl ?_
        intro T21 X21
        refine o_iload X21 d33_12_52 rfl (q := 54) rfl ?_
        refine o_baload X21 (VDo.ext X21.ext) (n_in (n := 100) (by omega) (by omega)) (v := .int (Int32.ofNat (48 + x % 100 % 10))) (own_to (by omega)) d33_12_54 (q := 55) rfl ?_
        refine o_bastore X21 (ys.length + ((dg (x / 100)).length + 1)) Vb gv Sb (n_in (by omega) (by omega)) (n_nat (by omega)) (by simp <;> omega) (v := (.int (Int32.ofNat (48 + x % 100 % 10)).toInt8.toInt32)) rfl d33_12_55 (q := 56) rfl ?_
        intro T22 h22 l22 X22 W22 R22 V22
        have V22 : Arv Z h22 va kv .byte (Int32.ofNat cap) (LB ys ++ List.replicate ((dg (x / 100)).length + 1) (.int (0 : Int32)) ++ LB ((Int32.ofNat (48 + x % 100 % 10)) :: tl)) (.int (0 : Int32)) := by rw [← own_setd]; exact V22
        refine o_aloadN X22 d33_12_56 rfl rfl (q := 57) rfl ?_
        refine o_iinc X22 d33_12_57 rfl (z := (Int32.ofNat (ys.length + (dg (x / 100)).length))) (own_dec (by omega)) (L' := #[.val (.int (-(Int32.ofNat (x / 100)))), .val (.int (Int32.ofNat (ys.length + (dg pp).length))), .val (.ref va), .val (.int (-(Int32.ofNat (x / 100)))), .val (.int (Int32.ofNat (x % 100))), .val (.int (Int32.ofNat (ys.length + (dg (x / 100)).length))), .val (.int (0 : Int32))]) rfl (q := 60) rfl ?_
        refine o_iload X22 d33_12_60 rfl (q := 62) rfl ?_
        refine o_getS X22 SDt (host := "") (Or.inl (w266 hw)) Via.refl d33_12_62 (q := 65) rfl ?_
        intro T23 X23
        refine o_iload X23 d33_12_65 rfl (q := 67) rfl ?_
        refine o_baload X23 (VDt.ext X23.ext) (n_in (n := 100) (by omega) (by omega)) (v := .int (Int32.ofNat (48 + x % 100 / 10))) (own_tt (by omega)) d33_12_67 (q := 68) rfl ?_
        have f25 := (CHr.safe R22 (Vb.lt) Sb)
        refine o_bastore X23 (ys.length + (dg (x / 100)).length) V22 gv f25 (n_in (by omega) (by omega)) (n_nat (by omega)) (by simp <;> omega) (v := (.int (Int32.ofNat (48 + x % 100 / 10)).toInt8.toInt32)) rfl d33_12_68 (q := 69) rfl ?_
        intro T24 h24 l24 X24 W24 R24 V24
        have V24 : Arv Z h24 va kv .byte (Int32.ofNat cap) (LB ys ++ List.replicate (dg (x / 100)).length (.int (0 : Int32)) ++ LB ((Int32.ofNat (48 + x % 100 / 10)) :: (Int32.ofNat (48 + x % 100 % 10)) :: tl)) (.int (0 : Int32)) := by rw [← own_setd]; exact V24
        refine o_goto X24 d33_12_69 (by decide) (q := 22) (by decide) ?_
        have k26 := Keep.wr (Keep.refl h [va]) W22 (Or.inl (by simp))
        have k27 := Keep.wr k26 W24 (Or.inl (by simp))
        have f28 := (CHr.safe R24 (V22.lt) f25)
        exact ih (x / 100) ((Int32.ofNat (48 + x % 100 / 10)) :: (Int32.ofNat (48 + x % 100 % 10)) :: tl) _ _ (One.val rfl) (One.val rfl) (by omega) (by omega) (by rw [hq, own_dgh (by omega)]; simp) (Keep.trans Kp k27 (allS (Or.inl (by simp)) all0)) V24 X24.ext f28 X24
  exact loop pp pp [] _ _ One.u One.u (Nat.le_refl _) (by omega) (by rw [List.append_nil]) (Keep.refl _ _) (by have q := Vv.pad (pad_rep _ _ (dg pp).length); simpa [LB] using q) X.ext S_va X
theorem c_apin {l : Launch} {Z : State} {a0 : Array Value} (hw : W a0 Z) (sb va : Addr) (cap pp : Nat) (ys : List Int32) (h0 : Heap) {zc : Int32} (O2 : Sta Z Z.heap "java/lang/String" "COMPACT_STRINGS" "Z" (.int zc)) (P5 : ¬ zc = 0) {do_ dt_ : Addr} {kdo kdt : ClassId} (SDo : Sta Z Z.heap "java/lang/Integer" "DigitOnes" "[B" (.ref do_)) (VDo : Arv Z Z.heap do_ kdo .byte (100 : Int32) TO (.int (0 : Int32))) (SDt : Sta Z Z.heap "java/lang/Integer" "DigitTens" "[B" (.ref dt_)) (VDt : Arv Z Z.heap dt_ kdt .byte (100 : Int32) TT (.int (0 : Int32))) (E : Exa Z h0 sb "java/lang/StringBuilder") (gs : Z.heap.size ≤ sb) (F_value : Fld Z h0 sb "java/lang/AbstractStringBuilder" "value" "[B" (.ref va)) (F_coder : Fld Z h0 sb "java/lang/AbstractStringBuilder" "coder" "B" (.int (0 : Int32))) (F_count : Fld Z h0 sb "java/lang/AbstractStringBuilder" "count" "I" (.int (Int32.ofNat ys.length))) {kv : ClassId} (Vv : Arv Z h0 va kv .byte (Int32.ofNat cap) (LB ys) (.int (0 : Int32))) (Ev : Exa Z h0 va "[B") (gv : Z.heap.size ≤ va) (hsv : sb ≠ va) (hc : ys.length ≤ cap) (hcb : cap ≤ 80) (hp : 0 < pp) (hp2 : pp < 2147483648) (hyl : (∀ c ∈ ys, ¬ c < 0 ∧ ¬ (255 : Int32) < c)) (hgr : ys.length + (dg pp).length ≤ cap) :
    Con l Z EL0 (⟨"java/lang/AbstractStringBuilder", "append", "(I)Ljava/lang/AbstractStringBuilder;"⟩ : MethodName) jdk_68_method_32_code 4 (some (.object "java/lang/AbstractStringBuilder")) ({ frames := 4, cells := 1, slots := 80, locals := 62 } : Room) #[(.ref sb), (.int (Int32.ofNat pp))] h0 [va] (fun v h' Sf => v = some (.ref sb) ∧ Keep h0 h' [sb, va] ∧ ∃ (v2 : Addr) (k2 : ClassId), (v2 = va ∨ h0.size ≤ v2) ∧ Sf v2 ∧ BS Z h' sb v2 k2 (nc cap (ys.length + (dg pp).length)) (ys ++ (dg pp))) := by
  refine Con.intro (plainFor_of_name pn4) ?_
  intro p e s m below meth c T X hss
  have S_va := hss va (by simp)
  refine Goes.cast (g' := mkF m 0 #[.val (.ref sb), .val (.int (Int32.ofNat pp)), .unset, .unset] []) (by first | (simp [entryFrame, mkF, argsToLocals, Value.category]; done) | rfl) ?_
  refine o_aloadN X d68_32_0 rfl rfl (q := 1) rfl ?_
  refine o_getF X F_count (host := "") (Or.inl (w116 hw)) Via.refl d68_32_1 (q := 4) rfl ?_
  intro T1 X1
  refine o_istoreN X1 d68_32_4 rfl (L' := #[.val (.ref sb), .val (.int (Int32.ofNat pp)), .val (.int (Int32.ofNat ys.length)), .unset]) rfl (q := 5) rfl ?_
  refine o_iloadN X1 d68_32_5 rfl (q := 6) rfl ?_
  refine o_iloadN X1 d68_32_6 rfl (q := 7) rfl ?_
  refine o_stat X1 [(.int (Int32.ofNat pp))] (y' := ⟨"java/lang/Integer", "stringSize", "(I)I"⟩) (c_sz hw pp _ hp hp2) all0 (w257 hw) (w258 hw) (w259 hw) (w260 hw) (by decide) d68_32_7 (rest := [(.int (Int32.ofNat ys.length))]) rfl rfl (lenOf pd7 rfl) rfl (by decide) (lb rfl) (by decide) (by decide) (q := 10) rfl ?_
  intro v2 vm2 T2 h2 l2 X2 R2 q2
  obtain ⟨_, rfl, e2, rfl⟩ := q2
  have e2 := e2.symm
  subst e2
  show Goes p e below _ T2 (mkF m 10 #[.val (.ref sb), .val (.int (Int32.ofNat pp)), .val (.int (Int32.ofNat ys.length)), .unset] [(.int (Int32.ofNat (dg pp).length)), (.int (Int32.ofNat ys.length))])
  refine o_iadd X2 d68_32_10 (w := (Int32.ofNat (ys.length + (dg pp).length))) (n_add _ _) (q := 11) rfl ?_
  refine o_istoreN X2 d68_32_11 rfl (L' := #[.val (.ref sb), .val (.int (Int32.ofNat pp)), .val (.int (Int32.ofNat ys.length)), .val (.int (Int32.ofNat (ys.length + (dg pp).length)))]) rfl (q := 12) rfl ?_
  refine o_aloadN X2 d68_32_12 rfl rfl (q := 13) rfl ?_
  refine o_iloadN X2 d68_32_13 rfl (q := 14) rfl ?_
  have f3 := E
  have f4 := F_value
  have f5 := F_coder
  have f6 := F_count
  have f7 := Vv
  have f8 := Ev
  refine o_priv X2 [(.int (Int32.ofNat (ys.length + (dg pp).length)))] (y' := ⟨"java/lang/AbstractStringBuilder", "ensureCapacityInternal", "(I)V"⟩) f3 (c_ensn hw sb va cap (ys.length + (dg pp).length) ys _ f3 gs f4 f5 f6 f7 f8 gv hsv hc hcb hgr) all0 (w118 hw) (w119 hw) (sel_up (w121 hw) (w119 hw) (w120 hw) (by decide)) (w120 hw) (w122 hw) (w84 hw) (by decide) d68_32_14 (rest := []) rfl rfl (lenOf pd12 rfl) rfl (by decide) (lb rfl) (by decide) (by decide) (q := 17) rfl ?_
  intro v9 vm9 T9 h9 l9 X9 R9 q9
  obtain ⟨rfl, e9⟩ := q9
  have e9 := e9.symm
  subst e9
  show Goes p e below _ T9 (mkF m 17 #[.val (.ref sb), .val (.int (Int32.ofNat pp)), .val (.int (Int32.ofNat ys.length)), .val (.int (Int32.ofNat (ys.length + (dg pp).length)))] [])
  refine o_aloadN X9 d68_32_17 rfl rfl (q := 18) rfl ?_
  have f10 := f5
  have f12 := f3
  refine o_virt X9 [] (y' := ⟨"java/lang/AbstractStringBuilder", "isLatin1", "()Z"⟩) f12 (c_aLat hw sb _ O2 P5 f10) all0 (w261 hw) (w178 hw) (w180 hw) (w179 hw) (w181 hw) (w84 hw) (by decide) d68_32_18 (rest := []) rfl rfl (lenOf pd15 rfl) rfl (by decide) (lb rfl) (by decide) (by decide) (q := 21) rfl ?_
  intro v11 vm11 T11 h11 l11 X11 R11 q11
  obtain ⟨rfl, e11⟩ := q11
  have e11 := e11.symm
  subst e11
  show Goes p e below _ T11 (mkF m 21 #[.val (.ref sb), .val (.int (Int32.ofNat pp)), .val (.int (Int32.ofNat ys.length)), .val (.int (Int32.ofNat (ys.length + (dg pp).length)))] [(.int (1 : Int32))])
  refine o_ifN X11 d68_32_21 (by decide) (q := 24) rfl ?_
  refine o_iloadN X11 d68_32_24 rfl (q := 25) rfl ?_
  refine o_iloadN X11 d68_32_25 rfl (q := 26) rfl ?_
  refine o_aloadN X11 d68_32_26 rfl rfl (q := 27) rfl ?_
  have f13 := f4
  refine o_getF X11 f13 (host := "") (Or.inl (w88 hw)) Via.refl d68_32_27 (q := 30) rfl ?_
  intro T14 X14
  have f15 := f7
  have f17 := (CHr.safe R11 (f8.lt) (CHr.safe R9 (f8.lt) (CHr.safe R2 (Ev.lt) S_va)))
  refine o_stat X14 [(.int (Int32.ofNat pp)), (.int (Int32.ofNat (ys.length + (dg pp).length))), (.ref va)] (y' := ⟨"java/lang/Integer", "getChars", "(II[B)I"⟩) (c_gc hw va cap pp ys _ SDo VDo SDt VDt f15 gv (by omega) (by omega) hp hp2) (allS ⟨f15.lt, f17⟩ all0) (w262 hw) (w263 hw) (w259 hw) (w264 hw) (by decide) d68_32_30 (rest := []) rfl rfl (lenOf pd16 rfl) rfl (by decide) (lb rfl) (by decide) (by decide) (q := 33) rfl ?_
  intro v16 vm16 T16 h16 l16 X16 R16 q16
  obtain ⟨z16, rfl, K16, V16⟩ := q16
  show Goes p e below _ T16 (mkF m 33 #[.val (.ref sb), .val (.int (Int32.ofNat pp)), .val (.int (Int32.ofNat ys.length)), .val (.int (Int32.ofNat (ys.length + (dg pp).length)))] [(.int z16)])
  refine o_pop X16 d68_32_33 rfl (q := 34) rfl ?_
  refine o_goto X16 d68_32_34 (by decide) (q := 48) (by decide) ?_
  refine o_aloadN X16 d68_32_48 rfl rfl (q := 49) rfl ?_
  refine o_iloadN X16 d68_32_49 rfl (q := 50) rfl ?_
  have f18 := (f6.keep K16 (ninS hsv nin0))
  have f19 := (f12.keep K16)
  refine o_putF X16 f18 f19 gs (Safe.exa X16.alike f19 (by decide) (by decide)) (host := "") (Or.inl (w116 hw)) Via.refl (Or.inl (w117 hw)) (w75 hw) (ty := .int) (by decide) rfl rfl d68_32_50 (q := 53) rfl ?_
  intro T20 h20 l20 X20 W20 R20 F20
  refine o_aloadN X20 d68_32_53 rfl rfl (q := 54) rfl ?_
  have k21 := Keep.trans (Keep.refl h0 [sb, va]) K16 (allS (Or.inl (by simp)) all0)
  have k22 := Keep.wr k21 W20 (Or.inl (by simp))
  have f23 := ((f13.keep K16 (ninS hsv nin0)).other W20 (Or.inr (slot_ne (Or.inl (w89 hw)) (Or.inl (w117 hw)) (by decide) (t := (.array .byte)) (t' := .int) (by decide) (by decide))))
  have f24 := ((f10.keep K16 (ninS hsv nin0)).other W20 (Or.inr (slot_ne (Or.inl (w91 hw)) (Or.inl (w117 hw)) (by decide) (t := .byte) (t' := .int) (by decide) (by decide))))
  have f25 := (CHr.safe R20 (V16.lt) (CHr.safe R16 (f15.lt) f17))
  have f26 := (f19.wr W20)
  have f27 := (V16.other W20 (Ne.symm hsv))
  have f28 := ((f8.keep K16).wr W20)
  exact o_retR X20 d68_32_54 rfl rfl rfl (fun Sf hSf => ⟨rfl, k22, va, kv, Or.inl rfl, hSf _ (Nat.lt_of_lt_of_le V16.lt (Keep.of_wr W20).1) f25, (by rw [nc_sm hgr]; exact ⟨f26, f23, (by rw [List.length_append]; exact F20), f24, f27, f28, (own_allB hyl own_dgLat), by rw [List.length_append]; omega⟩)⟩) (by decide) (by decide)
theorem c_apig {l : Launch} {Z : State} {a0 : Array Value} (hw : W a0 Z) (sb va : Addr) (cap pp : Nat) (ys : List Int32) (h0 : Heap) {zc : Int32} (O2 : Sta Z Z.heap "java/lang/String" "COMPACT_STRINGS" "Z" (.int zc)) (P5 : ¬ zc = 0) {do_ dt_ : Addr} {kdo kdt : ClassId} (SDo : Sta Z Z.heap "java/lang/Integer" "DigitOnes" "[B" (.ref do_)) (VDo : Arv Z Z.heap do_ kdo .byte (100 : Int32) TO (.int (0 : Int32))) (SDt : Sta Z Z.heap "java/lang/Integer" "DigitTens" "[B" (.ref dt_)) (VDt : Arv Z Z.heap dt_ kdt .byte (100 : Int32) TT (.int (0 : Int32))) (E : Exa Z h0 sb "java/lang/StringBuilder") (gs : Z.heap.size ≤ sb) (F_value : Fld Z h0 sb "java/lang/AbstractStringBuilder" "value" "[B" (.ref va)) (F_coder : Fld Z h0 sb "java/lang/AbstractStringBuilder" "coder" "B" (.int (0 : Int32))) (F_count : Fld Z h0 sb "java/lang/AbstractStringBuilder" "count" "I" (.int (Int32.ofNat ys.length))) {kv : ClassId} (Vv : Arv Z h0 va kv .byte (Int32.ofNat cap) (LB ys) (.int (0 : Int32))) (Ev : Exa Z h0 va "[B") (gv : Z.heap.size ≤ va) (hsv : sb ≠ va) (hc : ys.length ≤ cap) (hcb : cap ≤ 80) (hp : 0 < pp) (hp2 : pp < 2147483648) (hyl : (∀ c ∈ ys, ¬ c < 0 ∧ ¬ (255 : Int32) < c)) (hgr : cap < ys.length + (dg pp).length) (hnd : max (ys.length + (dg pp).length) (2 * cap + 2) ≤ 80) :
    Con l Z EL0 (⟨"java/lang/AbstractStringBuilder", "append", "(I)Ljava/lang/AbstractStringBuilder;"⟩ : MethodName) jdk_68_method_32_code 4 (some (.object "java/lang/AbstractStringBuilder")) ({ frames := 4, cells := 1, slots := 80, locals := 62 } : Room) #[(.ref sb), (.int (Int32.ofNat pp))] h0 [va] (fun v h' Sf => v = some (.ref sb) ∧ Keep h0 h' [sb, va] ∧ ∃ (v2 : Addr) (k2 : ClassId), (v2 = va ∨ h0.size ≤ v2) ∧ Sf v2 ∧ BS Z h' sb v2 k2 (nc cap (ys.length + (dg pp).length)) (ys ++ (dg pp))) := by
  refine Con.intro (plainFor_of_name pn4) ?_
  intro p e s m below meth c T X hss
  have S_va := hss va (by simp)
  refine Goes.cast (g' := mkF m 0 #[.val (.ref sb), .val (.int (Int32.ofNat pp)), .unset, .unset] []) (by first | (simp [entryFrame, mkF, argsToLocals, Value.category]; done) | rfl) ?_
  refine o_aloadN X d68_32_0 rfl rfl (q := 1) rfl ?_
  refine o_getF X F_count (host := "") (Or.inl (w116 hw)) Via.refl d68_32_1 (q := 4) rfl ?_
  intro T1 X1
  refine o_istoreN X1 d68_32_4 rfl (L' := #[.val (.ref sb), .val (.int (Int32.ofNat pp)), .val (.int (Int32.ofNat ys.length)), .unset]) rfl (q := 5) rfl ?_
  refine o_iloadN X1 d68_32_5 rfl (q := 6) rfl ?_
  refine o_iloadN X1 d68_32_6 rfl (q := 7) rfl ?_
  refine o_stat X1 [(.int (Int32.ofNat pp))] (y' := ⟨"java/lang/Integer", "stringSize", "(I)I"⟩) (c_sz hw pp _ hp hp2) all0 (w257 hw) (w258 hw) (w259 hw) (w260 hw) (by decide) d68_32_7 (rest := [(.int (Int32.ofNat ys.length))]) rfl rfl (lenOf pd7 rfl) rfl (by decide) (lb rfl) (by decide) (by decide) (q := 10) rfl ?_
  intro v2 vm2 T2 h2 l2 X2 R2 q2
  obtain ⟨_, rfl, e2, rfl⟩ := q2
  have e2 := e2.symm
  subst e2
  show Goes p e below _ T2 (mkF m 10 #[.val (.ref sb), .val (.int (Int32.ofNat pp)), .val (.int (Int32.ofNat ys.length)), .unset] [(.int (Int32.ofNat (dg pp).length)), (.int (Int32.ofNat ys.length))])
  refine o_iadd X2 d68_32_10 (w := (Int32.ofNat (ys.length + (dg pp).length))) (n_add _ _) (q := 11) rfl ?_
  refine o_istoreN X2 d68_32_11 rfl (L' := #[.val (.ref sb), .val (.int (Int32.ofNat pp)), .val (.int (Int32.ofNat ys.length)), .val (.int (Int32.ofNat (ys.length + (dg pp).length)))]) rfl (q := 12) rfl ?_
  refine o_aloadN X2 d68_32_12 rfl rfl (q := 13) rfl ?_
  refine o_iloadN X2 d68_32_13 rfl (q := 14) rfl ?_
  have f3 := E
  have f4 := F_value
  have f5 := F_coder
  have f6 := F_count
  have f7 := Vv
  have f8 := Ev
  refine o_priv X2 [(.int (Int32.ofNat (ys.length + (dg pp).length)))] (y' := ⟨"java/lang/AbstractStringBuilder", "ensureCapacityInternal", "(I)V"⟩) f3 (c_ensg hw sb va cap (ys.length + (dg pp).length) ys _ f3 gs f4 f5 f6 f7 f8 gv hsv hc hcb hgr hnd) all0 (w118 hw) (w119 hw) (sel_up (w121 hw) (w119 hw) (w120 hw) (by decide)) (w120 hw) (w122 hw) (w84 hw) (by decide) d68_32_14 (rest := []) rfl rfl (lenOf pd12 rfl) rfl (by decide) (lb rfl) (by decide) (by decide) (q := 17) rfl ?_
  intro v9 vm9 T9 h9 l9 X9 R9 q9
  obtain ⟨rfl, K9, b9, kb9, g9, s9, A9, Fvalue9, Fcoder9, Fcount9, V9⟩ := q9
  show Goes p e below _ T9 (mkF m 17 #[.val (.ref sb), .val (.int (Int32.ofNat pp)), .val (.int (Int32.ofNat ys.length)), .val (.int (Int32.ofNat (ys.length + (dg pp).length)))] [])
  refine o_aloadN X9 d68_32_17 rfl rfl (q := 18) rfl ?_
  have f11 := (f3.keep K9)
  refine o_virt X9 [] (y' := ⟨"java/lang/AbstractStringBuilder", "isLatin1", "()Z"⟩) f11 (c_aLat hw sb _ O2 P5 Fcoder9) all0 (w261 hw) (w178 hw) (w180 hw) (w179 hw) (w181 hw) (w84 hw) (by decide) d68_32_18 (rest := []) rfl rfl (lenOf pd15 rfl) rfl (by decide) (lb rfl) (by decide) (by decide) (q := 21) rfl ?_
  intro v10 vm10 T10 h10 l10 X10 R10 q10
  obtain ⟨rfl, e10⟩ := q10
  have e10 := e10.symm
  subst e10
  show Goes p e below _ T10 (mkF m 21 #[.val (.ref sb), .val (.int (Int32.ofNat pp)), .val (.int (Int32.ofNat ys.length)), .val (.int (Int32.ofNat (ys.length + (dg pp).length)))] [(.int (1 : Int32))])
  refine o_ifN X10 d68_32_21 (by decide) (q := 24) rfl ?_
  refine o_iloadN X10 d68_32_24 rfl (q := 25) rfl ?_
  refine o_iloadN X10 d68_32_25 rfl (q := 26) rfl ?_
  refine o_aloadN X10 d68_32_26 rfl rfl (q := 27) rfl ?_
  have f12 := Fvalue9
  refine o_getF X10 f12 (host := "") (Or.inl (w88 hw)) Via.refl d68_32_27 (q := 30) rfl ?_
  intro T13 X13
  have f14 := V9
  have f16 := (CHr.safe R10 (A9.lt) s9)
  refine o_stat X13 [(.int (Int32.ofNat pp)), (.int (Int32.ofNat (ys.length + (dg pp).length))), (.ref b9)] (y' := ⟨"java/lang/Integer", "getChars", "(II[B)I"⟩) (c_gc hw b9 (max (ys.length + (dg pp).length) (2 * cap + 2)) pp ys _ SDo VDo SDt VDt f14 (Nat.le_trans X2.size g9) (by omega) (by omega) hp hp2) (allS ⟨f14.lt, f16⟩ all0) (w262 hw) (w263 hw) (w259 hw) (w264 hw) (by decide) d68_32_30 (rest := []) rfl rfl (lenOf pd16 rfl) rfl (by decide) (lb rfl) (by decide) (by decide) (q := 33) rfl ?_
  intro v15 vm15 T15 h15 l15 X15 R15 q15
  obtain ⟨z15, rfl, K15, V15⟩ := q15
  show Goes p e below _ T15 (mkF m 33 #[.val (.ref sb), .val (.int (Int32.ofNat pp)), .val (.int (Int32.ofNat ys.length)), .val (.int (Int32.ofNat (ys.length + (dg pp).length)))] [(.int z15)])
  refine o_pop X15 d68_32_33 rfl (q := 34) rfl ?_
  refine o_goto X15 d68_32_34 (by decide) (q := 48) (by decide) ?_
  refine o_aloadN X15 d68_32_48 rfl rfl (q := 49) rfl ?_
  refine o_iloadN X15 d68_32_49 rfl (q := 50) rfl ?_
  have f17 := (Fcount9.keep K15 (ninS (Nat.ne_of_lt (Nat.lt_of_lt_of_le f3.lt g9)) nin0))
  have f18 := (f11.keep K15)
  refine o_putF X15 f17 f18 gs (Safe.exa X15.alike f18 (by decide) (by decide)) (host := "") (Or.inl (w116 hw)) Via.refl (Or.inl (w117 hw)) (w75 hw) (ty := .int) (by decide) rfl rfl d68_32_50 (q := 53) rfl ?_
  intro T19 h19 l19 X19 W19 R19 F19
  refine o_aloadN X19 d68_32_53 rfl rfl (q := 54) rfl ?_
  have sz20 := Nat.le_trans (Keep.refl h0 [sb, va]).1 g9
  have k21 := Keep.trans (Keep.refl h0 [sb, va]) K9 (allS (Or.inl (by simp)) all0)
  have k22 := Keep.trans k21 K15 (allS (Or.inr sz20) all0)
  have k23 := Keep.wr k22 W19 (Or.inl (by simp))
  have f24 := ((f12.keep K15 (ninS (Nat.ne_of_lt (Nat.lt_of_lt_of_le f3.lt g9)) nin0)).other W19 (Or.inr (slot_ne (Or.inl (w89 hw)) (Or.inl (w117 hw)) (by decide) (t := (.array .byte)) (t' := .int) (by decide) (by decide))))
  have f25 := ((Fcoder9.keep K15 (ninS (Nat.ne_of_lt (Nat.lt_of_lt_of_le f3.lt g9)) nin0)).other W19 (Or.inr (slot_ne (Or.inl (w91 hw)) (Or.inl (w117 hw)) (by decide) (t := .byte) (t' := .int) (by decide) (by decide))))
  have f26 := (CHr.safe R19 (V15.lt) (CHr.safe R15 (f14.lt) f16))
  have f27 := (f18.wr W19)
  have f28 := (V15.other W19 (Ne.symm (Nat.ne_of_lt (Nat.lt_of_lt_of_le f3.lt g9))))
  have f29 := ((A9.keep K15).wr W19)
  exact o_retR X19 d68_32_54 rfl rfl rfl (fun Sf hSf => ⟨rfl, k23, b9, kb9, Or.inr sz20, hSf _ (Nat.lt_of_lt_of_le V15.lt (Keep.of_wr W19).1) f26, (by rw [nc_big hgr]; exact ⟨f27, f24, (by rw [List.length_append]; exact F19), f25, f28, f29, (own_allB hyl own_dgLat), by rw [List.length_append]; omega⟩)⟩) (by decide) (by decide)
theorem c_api {l : Launch} {Z : State} {a0 : Array Value} (hw : W a0 Z) (sb va : Addr) (cap pp : Nat) (ys : List Int32) (h0 : Heap) {zc : Int32} (O2 : Sta Z Z.heap "java/lang/String" "COMPACT_STRINGS" "Z" (.int zc)) (P5 : ¬ zc = 0) {do_ dt_ : Addr} {kdo kdt : ClassId} (SDo : Sta Z Z.heap "java/lang/Integer" "DigitOnes" "[B" (.ref do_)) (VDo : Arv Z Z.heap do_ kdo .byte (100 : Int32) TO (.int (0 : Int32))) (SDt : Sta Z Z.heap "java/lang/Integer" "DigitTens" "[B" (.ref dt_)) (VDt : Arv Z Z.heap dt_ kdt .byte (100 : Int32) TT (.int (0 : Int32))) {kv : ClassId} (B : BS Z h0 sb va kv cap ys) (gs : Z.heap.size ≤ sb) (gv : Z.heap.size ≤ va) (hsv : sb ≠ va) (hp : 0 < pp) (hp2 : pp < 2147483648) (hcb : cap ≤ 80) (hnd : nc cap (ys.length + (dg pp).length) ≤ 80) :
    Con l Z EL0 (⟨"java/lang/AbstractStringBuilder", "append", "(I)Ljava/lang/AbstractStringBuilder;"⟩ : MethodName) jdk_68_method_32_code 4 (some (.object "java/lang/AbstractStringBuilder")) ({ frames := 4, cells := 1, slots := 80, locals := 62 } : Room) #[(.ref sb), (.int (Int32.ofNat pp))] h0 [va] (fun v h' Sf => v = some (.ref sb) ∧ Keep h0 h' [sb, va] ∧ ∃ (v2 : Addr) (k2 : ClassId), (v2 = va ∨ h0.size ≤ v2) ∧ Sf v2 ∧ BS Z h' sb v2 k2 (nc cap (ys.length + (dg pp).length)) (ys ++ (dg pp))) := by
  obtain ⟨E, F_value, F_count, F_coder, Vv, Ev, hyl, hc⟩ := B
  by_cases hgr : ys.length + (dg pp).length ≤ cap
  · exact c_apin hw sb va cap pp ys h0 O2 P5 SDo VDo SDt VDt E gs F_value F_coder F_count Vv Ev gv hsv hc hcb hp hp2 hyl hgr
  · exact c_apig hw sb va cap pp ys h0 O2 P5 SDo VDo SDt VDt E gs F_value F_coder F_count Vv Ev gv hsv hc hcb hp hp2 hyl (by omega) (by rw [nc_big (by omega)] at hnd; omega)
theorem c_sbi {l : Launch} {Z : State} {a0 : Array Value} (hw : W a0 Z) (sb va : Addr) (cap pp : Nat) (ys : List Int32) (h0 : Heap) {zc : Int32} (O2 : Sta Z Z.heap "java/lang/String" "COMPACT_STRINGS" "Z" (.int zc)) (P5 : ¬ zc = 0) {do_ dt_ : Addr} {kdo kdt : ClassId} (SDo : Sta Z Z.heap "java/lang/Integer" "DigitOnes" "[B" (.ref do_)) (VDo : Arv Z Z.heap do_ kdo .byte (100 : Int32) TO (.int (0 : Int32))) (SDt : Sta Z Z.heap "java/lang/Integer" "DigitTens" "[B" (.ref dt_)) (VDt : Arv Z Z.heap dt_ kdt .byte (100 : Int32) TT (.int (0 : Int32))) {kv : ClassId} (B : BS Z h0 sb va kv cap ys) (gs : Z.heap.size ≤ sb) (gv : Z.heap.size ≤ va) (hsv : sb ≠ va) (hp : 0 < pp) (hp2 : pp < 2147483648) (hcb : cap ≤ 80) (hnd : nc cap (ys.length + (dg pp).length) ≤ 80) :
    Con l Z EL0 (⟨"java/lang/StringBuilder", "append", "(I)Ljava/lang/StringBuilder;"⟩ : MethodName) jdk_67_method_15_code 2 (some (.object "java/lang/StringBuilder")) ({ frames := 5, cells := 1, slots := 80, locals := 77 } : Room) #[(.ref sb), (.int (Int32.ofNat pp))] h0 [va] (fun v h' Sf => v = some (.ref sb) ∧ Keep h0 h' [sb, va] ∧ ∃ (v2 : Addr) (k2 : ClassId), (v2 = va ∨ h0.size ≤ v2) ∧ Sf v2 ∧ BS Z h' sb v2 k2 (nc cap (ys.length + (dg pp).length)) (ys ++ (dg pp))) := by
  refine Con.intro (plainFor_of_name pn5) ?_
  intro p e s m below meth c T X hss
  have S_va := hss va (by simp)
  refine Goes.cast (g' := mkF m 0 #[.val (.ref sb), .val (.int (Int32.ofNat pp))] []) (by first | (simp [entryFrame, mkF, argsToLocals, Value.category]; done) | rfl) ?_
  refine o_aloadN X d67_15_0 rfl rfl (q := 1) rfl ?_
  refine o_iloadN X d67_15_1 rfl (q := 2) rfl ?_
  refine o_super X [(.int (Int32.ofNat pp))] (y' := ⟨"java/lang/AbstractStringBuilder", "append", "(I)Ljava/lang/AbstractStringBuilder;"⟩) B.1 (c_api hw sb va cap pp ys _ O2 P5 SDo VDo SDt VDt B gs gv hsv hp hp2 hcb hnd) (allS ⟨B.vx.lt, S_va⟩ all0) (w253 hw) (same_up (w121 hw) (w254 hw) rfl (by decide)) (w254 hw) (w100 hw) (by decide) (w256 hw) (w84 hw) d67_15_2 (rest := []) rfl rfl (lenOf pd17 rfl) rfl (by decide) (lb rfl) (by decide) (by decide) (q := 5) rfl ?_
  intro v1 vm1 T1 h1 l1 X1 R1 q1
  obtain ⟨rfl, K1, v21, k21, g1, s1, B1⟩ := q1
  show Goes p e below _ T1 (mkF m 5 #[.val (.ref sb), .val (.int (Int32.ofNat pp))] [(.ref sb)])
  refine o_pop X1 d67_15_5 rfl (q := 6) rfl ?_
  refine o_aloadN X1 d67_15_6 rfl rfl (q := 7) rfl ?_
  exact o_retR X1 d67_15_7 rfl rfl rfl (fun Sf hSf => ⟨rfl, K1, v21, k21, g1, hSf _ B1.blt s1, B1⟩) (by decide) (by decide)
theorem c_asb {l : Launch} {Z : State} {a0 : Array Value} (hw : W a0 Z) (sb : Addr) (h0 : Heap) {zc : Int32} (O2 : Sta Z Z.heap "java/lang/String" "COMPACT_STRINGS" "Z" (.int zc)) (P5 : ¬ zc = 0) (E : Exa Z h0 sb "java/lang/StringBuilder") (gs : Z.heap.size ≤ sb) (F_value : Fld Z h0 sb "java/lang/AbstractStringBuilder" "value" "[B" .null) (F_coder : Fld Z h0 sb "java/lang/AbstractStringBuilder" "coder" "B" (.int (0 : Int32))) (F_count : Fld Z h0 sb "java/lang/AbstractStringBuilder" "count" "I" (.int (0 : Int32))) :
    Con l Z EL0 (⟨"java/lang/AbstractStringBuilder", "<init>", "(I)V"⟩ : MethodName) jdk_68_method_2_code 2 none ({ frames := 1, cells := 1, slots := 16, locals := 12 } : Room) #[(.ref sb), (.int (16 : Int32))] h0 [] (fun v h' Sf => v = none ∧ Keep h0 h' [sb] ∧ ∃ (va : Addr) (kv : ClassId), h0.size ≤ va ∧ Sf va ∧ BS Z h' sb va kv 16 []) := by
  refine Con.intro (plainFor_of_name pn4) ?_
  intro p e s m below meth c T X hss
  refine Goes.cast (g' := mkF m 0 #[.val (.ref sb), .val (.int (16 : Int32))] []) (by first | (simp [entryFrame, mkF, argsToLocals, Value.category]; done) | rfl) ?_
  refine o_aloadN X d68_2_0 rfl rfl (q := 1) rfl ?_
  refine o_initO X (w86 hw) (w27 hw) (w28 hw) d68_2_1 rfl (by decide) (lb rfl) (q := 4) rfl ?_
  intro T1 X1
  refine o_getS X1 O2 (host := "") (Or.inl (w87 hw)) Via.refl d68_2_4 (q := 7) rfl ?_
  intro T2 X2
  refine o_ifN X2 d68_2_7 (feq P5).1 (q := 10) rfl ?_
  refine o_aloadN X2 d68_2_10 rfl rfl (q := 11) rfl ?_
  refine o_iloadN X2 d68_2_11 rfl (q := 12) rfl ?_
  refine o_newarrE X2 (cap := 16) 16 (w4 hw) d68_2_12 (by decide) (by decide) (by decide) (by decide) (by decide) (q := 14) rfl ?_
  intro T3 h3 b3 k3 gb3 X3 E3 R3 S3 V3 A3 g0_b3
  have V3 : Arv Z h3 b3 k3 .byte (16 : Int32) [(.int (0 : Int32)), (.int (0 : Int32)), (.int (0 : Int32)), (.int (0 : Int32)), (.int (0 : Int32)), (.int (0 : Int32)), (.int (0 : Int32)), (.int (0 : Int32)), (.int (0 : Int32)), (.int (0 : Int32)), (.int (0 : Int32)), (.int (0 : Int32)), (.int (0 : Int32)), (.int (0 : Int32)), (.int (0 : Int32)), (.int (0 : Int32))] (.int (0 : Int32)) := V3
  have f4 := (F_value.ext E3)
  have f5 := (E.ext E3)
  refine o_putF X3 f4 f5 gs (Safe.exa X3.alike f5 (by decide) (by decide)) (host := "") (Or.inl (w88 hw)) Via.refl (Or.inl (w89 hw)) (w75 hw) (ty := (.array .byte)) (by decide) rfl rfl d68_2_14 (q := 17) rfl ?_
  intro T6 h6 l6 X6 W6 R6 F6
  refine o_aloadN X6 d68_2_17 rfl rfl (q := 18) rfl ?_
  refine o_iconst X6 d68_2_18 (w := 0) rfl (q := 19) rfl ?_
  have f7 := ((F_coder.ext E3).other W6 (Or.inr (slot_ne (Or.inl (w91 hw)) (Or.inl (w89 hw)) (by decide) (t := .byte) (t' := (.array .byte)) (by decide) (by decide))))
  have f8 := (f5.wr W6)
  refine o_putF X6 f7 f8 gs (Safe.exa X6.alike f8 (by decide) (by decide)) (host := "") (Or.inl (w90 hw)) Via.refl (Or.inl (w91 hw)) (w75 hw) (ty := .byte) (by decide) (by decide) (by decide) d68_2_19 (q := 22) rfl ?_
  intro T9 h9 l9 X9 W9 R9 F9
  refine o_goto X9 d68_2_22 (by decide) (q := 38) (by decide) ?_
  have sz10 := Nat.le_trans (Keep.refl h0 [sb]).1 (Nat.le_of_eq gb3.symm)
  have k11 := Keep.ext (Keep.refl h0 [sb]) E3
  have k12 := Keep.wr k11 W6 (Or.inl (by simp))
  have k13 := Keep.wr k12 W9 (Or.inl (by simp))
  have f14 := (F6.other W9 (Or.inr (slot_ne (Or.inl (w89 hw)) (Or.inl (w91 hw)) (by decide) (t := (.array .byte)) (t' := .byte) (by decide) (by decide))))
  have f15 := (((F_count.ext E3).other W6 (Or.inr (slot_ne (Or.inl (w117 hw)) (Or.inl (w89 hw)) (by decide) (t := .int) (t' := (.array .byte)) (by decide) (by decide)))).other W9 (Or.inr (slot_ne (Or.inl (w117 hw)) (Or.inl (w91 hw)) (by decide) (t := .int) (t' := .byte) (by decide) (by decide))))
  have f16 := (CHr.safe R9 ((A3.wr W6).lt) (CHr.safe R6 (A3.lt) S3))
  have f17 := (f8.wr W9)
  have f18 := ((V3.other W6 (Ne.symm (Nat.ne_of_lt (Nat.lt_of_lt_of_le E.lt (Nat.le_of_eq gb3.symm))))).other W9 (Ne.symm (Nat.ne_of_lt (Nat.lt_of_lt_of_le E.lt (Nat.le_of_eq gb3.symm)))))
  have f19 := ((A3.wr W6).wr W9)
  exact o_ret X9 d68_2_38 (fun Sf hSf => ⟨rfl, k13, b3, k3, sz10, hSf _ ((A3.wr W6).wr W9).lt f16, f17, f14, f15, F9, f18.pad (fun i => (pad_rep [] _ 16 i).symm), f19, (fun c hc => nomatch hc), by decide⟩) (by decide) (by decide)
theorem c_sb {l : Launch} {Z : State} {a0 : Array Value} (hw : W a0 Z) (sb : Addr) (h0 : Heap) {zc : Int32} (O2 : Sta Z Z.heap "java/lang/String" "COMPACT_STRINGS" "Z" (.int zc)) (P5 : ¬ zc = 0) (E : Exa Z h0 sb "java/lang/StringBuilder") (gs : Z.heap.size ≤ sb) (F_value : Fld Z h0 sb "java/lang/AbstractStringBuilder" "value" "[B" .null) (F_coder : Fld Z h0 sb "java/lang/AbstractStringBuilder" "coder" "B" (.int (0 : Int32))) (F_count : Fld Z h0 sb "java/lang/AbstractStringBuilder" "count" "I" (.int (0 : Int32))) :
    Con l Z EL0 (⟨"java/lang/StringBuilder", "<init>", "()V"⟩ : MethodName) jdk_67_method_1_code 1 none ({ frames := 2, cells := 1, slots := 16, locals := 25 } : Room) #[(.ref sb)] h0 [] (fun v h' Sf => v = none ∧ Keep h0 h' [sb] ∧ ∃ (va : Addr) (kv : ClassId), h0.size ≤ va ∧ Sf va ∧ BS Z h' sb va kv 16 []) := by
  refine Con.intro (plainFor_of_name pn5) ?_
  intro p e s m below meth c T X hss
  refine Goes.cast (g' := mkF m 0 #[.val (.ref sb)] []) (by first | (simp [entryFrame, mkF, argsToLocals, Value.category]; done) | rfl) ?_
  refine o_aloadN X d67_1_0 rfl rfl (q := 1) rfl ?_
  refine o_bipush X d67_1_1 (w := 16) rfl (q := 3) rfl ?_
  refine o_spec X [(.int (16 : Int32))] (y' := ⟨"java/lang/AbstractStringBuilder", "<init>", "(I)V"⟩) (c_asb hw sb _ O2 P5 E gs F_value F_coder F_count) all0 rfl (w80 hw) (w81 hw) (w85 hw) (w84 hw) (by decide) d67_1_3 (rest := []) rfl rfl (lenOf pd12 rfl) rfl (by decide) (lb rfl) (by decide) (by decide) (q := 6) rfl ?_
  intro v1 vm1 T1 h1 l1 X1 R1 q1
  obtain ⟨rfl, K1, va1, kv1, g1, s1, B1⟩ := q1
  show Goes p e below _ T1 (mkF m 6 #[.val (.ref sb)] [])
  exact o_ret X1 d67_1_6 (fun Sf hSf => ⟨rfl, K1, va1, kv1, g1, hSf _ B1.blt s1, B1⟩) (by decide) (by decide)
theorem c_getV {l : Launch} {Z : State} {a0 : Array Value} (hw : W a0 Z) (sb va : Addr) (h0 : Heap) (F : Fld Z h0 sb "java/lang/AbstractStringBuilder" "value" "[B" (.ref va)) :
    Con l Z EL0 (⟨"java/lang/AbstractStringBuilder", "getValue", "()[B"⟩ : MethodName) jdk_68_method_64_code 1 (some (.array .byte)) ({ frames := 0, cells := 0, slots := 0, locals := 0 } : Room) #[(.ref sb)] h0 [] (fun v h' Sf => v = some (.ref va) ∧ h' = h0) := by
  refine Con.intro (plainFor_of_name pn4) ?_
  intro p e s m below meth c T X hss
  refine Goes.cast (g' := mkF m 0 #[.val (.ref sb)] []) (by first | (simp [entryFrame, mkF, argsToLocals, Value.category]; done) | rfl) ?_
  refine o_aloadN X d68_64_0 rfl rfl (q := 1) rfl ?_
  refine o_getF X F (host := "") (Or.inl (w88 hw)) Via.refl d68_64_1 (q := 4) rfl ?_
  intro T1 X1
  exact o_retR X1 d68_64_4 rfl rfl rfl (fun Sf hSf => ⟨rfl, rfl⟩) (by decide) (by decide)
theorem c_alen {l : Launch} {Z : State} {a0 : Array Value} (hw : W a0 Z) (sb : Addr) (n : Int32) (h0 : Heap) (F : Fld Z h0 sb "java/lang/AbstractStringBuilder" "count" "I" (.int n)) :
    Con l Z EL0 (⟨"java/lang/AbstractStringBuilder", "length", "()I"⟩ : MethodName) jdk_68_method_6_code 1 (some .int) ({ frames := 0, cells := 0, slots := 0, locals := 0 } : Room) #[(.ref sb)] h0 [] (fun v h' Sf => v = some (.int n) ∧ h' = h0) := by
  refine Con.intro (plainFor_of_name pn4) ?_
  intro p e s m below meth c T X hss
  refine Goes.cast (g' := mkF m 0 #[.val (.ref sb)] []) (by first | (simp [entryFrame, mkF, argsToLocals, Value.category]; done) | rfl) ?_
  refine o_aloadN X d68_6_0 rfl rfl (q := 1) rfl ?_
  refine o_getF X F (host := "") (Or.inl (w116 hw)) Via.refl d68_6_1 (q := 4) rfl ?_
  intro T1 X1
  exact o_retI X1 d68_6_4 (fun Sf hSf => ⟨rfl, rfl⟩) (by decide) (by decide)
theorem c_slen {l : Launch} {Z : State} {a0 : Array Value} (hw : W a0 Z) (sb : Addr) (n : Int32) (h0 : Heap) (E : Exa Z h0 sb "java/lang/StringBuilder") (F : Fld Z h0 sb "java/lang/AbstractStringBuilder" "count" "I" (.int n)) :
    Con l Z EL0 (⟨"java/lang/StringBuilder", "length", "()I"⟩ : MethodName) jdk_67_method_93_code 1 (some .int) ({ frames := 1, cells := 0, slots := 0, locals := 12 } : Room) #[(.ref sb)] h0 [] (fun v h' Sf => v = some (.int n) ∧ h' = h0) := by
  refine Con.intro (plainFor_of_name pn5) ?_
  intro p e s m below meth c T X hss
  refine Goes.cast (g' := mkF m 0 #[.val (.ref sb)] []) (by first | (simp [entryFrame, mkF, argsToLocals, Value.category]; done) | rfl) ?_
  refine o_aloadN X d67_93_0 rfl rfl (q := 1) rfl ?_
  refine o_super X [] (y' := ⟨"java/lang/AbstractStringBuilder", "length", "()I"⟩) E (c_alen hw sb n _ F) all0 (w175 hw) (same_up (w121 hw) (w171 hw) rfl (by decide)) (w171 hw) (w100 hw) (by decide) (w176 hw) (w84 hw) d67_93_1 (rest := []) rfl rfl (lenOf pd18 rfl) rfl (by decide) (lb rfl) (by decide) (by decide) (q := 4) rfl ?_
  intro v1 vm1 T1 h1 l1 X1 R1 q1
  obtain ⟨rfl, e1⟩ := q1
  have e1 := e1.symm
  subst e1
  show Goes p e below _ T1 (mkF m 4 #[.val (.ref sb)] [(.int n)])
  exact o_retI X1 d67_93_4 (fun Sf hSf => ⟨rfl, rfl⟩) (by decide) (by decide)
theorem c_tos0 {l : Launch} {Z : State} {a0 : Array Value} (hw : W a0 Z) (a sb va : Addr) (cap : Nat) (ys : List Int32) (h0 : Heap) {zc : Int32} (O2 : Sta Z Z.heap "java/lang/String" "COMPACT_STRINGS" "Z" (.int zc)) (P5 : ¬ zc = 0) (E : Exa Z h0 a "java/lang/String") (ga : Z.heap.size ≤ a) (Fv : Fld Z h0 a "java/lang/String" "value" "[B" .null) (Fc : Fld Z h0 a "java/lang/String" "coder" "B" (.int (0 : Int32))) (E_sb : Exa Z h0 sb "java/lang/StringBuilder") (gs : Z.heap.size ≤ sb) (F_value : Fld Z h0 sb "java/lang/AbstractStringBuilder" "value" "[B" (.ref va)) (F_coder : Fld Z h0 sb "java/lang/AbstractStringBuilder" "coder" "B" (.int (0 : Int32))) (F_count : Fld Z h0 sb "java/lang/AbstractStringBuilder" "count" "I" (.int (Int32.ofNat ys.length))) {kv : ClassId} (Vv : Arv Z h0 va kv .byte (Int32.ofNat cap) (LB ys) (.int (0 : Int32))) (Ev : Exa Z h0 va "[B") (n1 : sb ≠ a) (n2 : va ≠ a) (hcb : cap ≤ 80) (hc : ys.length ≤ cap) (hyl : (∀ c ∈ ys, ¬ c < 0 ∧ ¬ (255 : Int32) < c)) :
    Con l Z EL0 (⟨"java/lang/String", "<init>", "(Ljava/lang/AbstractStringBuilder;Ljava/lang/Void;)V"⟩ : MethodName) jdk_42_method_150_code 5 none ({ frames := 3, cells := 1, slots := 80, locals := 49 } : Room) #[(.ref a), (.ref sb), .null] h0 [a] (fun v h' Sf => v = none ∧ Keep h0 h' [a] ∧ ∃ (b : Addr) (kb : ClassId), h0.size ≤ b ∧ LS Z h' a b kb ys) := by
  refine Con.intro (plainFor_of_name pn1) ?_
  intro p e s m below meth c T X hss
  have S_a := hss a (by simp)
  refine Goes.cast (g' := mkF m 0 #[.val (.ref a), .val (.ref sb), .val .null, .unset, .unset] []) (by first | (simp [entryFrame, mkF, argsToLocals, Value.category]; done) | rfl) ?_
  refine o_aloadN X d42_150_0 rfl rfl (q := 1) rfl ?_
  refine o_initO X (w163 hw) (w27 hw) (w28 hw) d42_150_1 rfl (by decide) (lb rfl) (q := 4) rfl ?_
  intro T1 X1
  refine o_aloadN X1 d42_150_4 rfl rfl (q := 5) rfl ?_
  refine o_virt X1 [] (y' := ⟨"java/lang/AbstractStringBuilder", "getValue", "()[B"⟩) E_sb (c_getV hw sb va _ F_value) all0 (w164 hw) (w165 hw) (w167 hw) (w166 hw) (w168 hw) (w84 hw) (by decide) d42_150_5 (rest := []) rfl rfl (lenOf pd19 rfl) rfl (by decide) (lb rfl) (by decide) (by decide) (q := 8) rfl ?_
  intro v2 vm2 T2 h2 l2 X2 R2 q2
  obtain ⟨rfl, e2⟩ := q2
  have e2 := e2.symm
  subst e2
  show Goes p e below _ T2 (mkF m 8 #[.val (.ref a), .val (.ref sb), .val .null, .unset, .unset] [(.ref va)])
  refine o_astoreN X2 d42_150_8 rfl (L' := #[.val (.ref a), .val (.ref sb), .val .null, .val (.ref va), .unset]) rfl (q := 9) rfl ?_
  refine o_aloadN X2 d42_150_9 rfl rfl (q := 10) rfl ?_
  have f3 := E_sb
  have f4 := F_count
  refine o_virt2 X2 [] (z' := (⟨"java/lang/AbstractStringBuilder", "length", "()I"⟩ : MethodName)) (y' := ⟨"java/lang/StringBuilder", "length", "()I"⟩) f3 (c_slen hw sb _ _ f3 f4) all0 (w169 hw) (w170 hw) (w172 hw) (w121 hw) rfl (w173 hw) (w174 hw) (w76 hw) (by decide) d42_150_10 (rest := []) rfl rfl (lenOf pd18 rfl) rfl (by decide) (lb rfl) (by decide) (by decide) (q := 13) rfl ?_
  intro v5 vm5 T5 h5 l5 X5 R5 q5
  obtain ⟨rfl, e5⟩ := q5
  have e5 := e5.symm
  subst e5
  show Goes p e below _ T5 (mkF m 13 #[.val (.ref a), .val (.ref sb), .val .null, .val (.ref va), .unset] [(.int (Int32.ofNat ys.length))])
  refine o_istore X5 d42_150_13 rfl (L' := #[.val (.ref a), .val (.ref sb), .val .null, .val (.ref va), .val (.int (Int32.ofNat ys.length))]) rfl (q := 15) rfl ?_
  refine o_aloadN X5 d42_150_15 rfl rfl (q := 16) rfl ?_
  have f6 := F_coder
  have f8 := f3
  refine o_virt X5 [] (y' := ⟨"java/lang/AbstractStringBuilder", "isLatin1", "()Z"⟩) f8 (c_aLat hw sb _ O2 P5 f6) all0 (w177 hw) (w178 hw) (w180 hw) (w179 hw) (w181 hw) (w84 hw) (by decide) d42_150_16 (rest := []) rfl rfl (lenOf pd15 rfl) rfl (by decide) (lb rfl) (by decide) (by decide) (q := 19) rfl ?_
  intro v7 vm7 T7 h7 l7 X7 R7 q7
  obtain ⟨rfl, e7⟩ := q7
  have e7 := e7.symm
  subst e7
  show Goes p e below _ T7 (mkF m 19 #[.val (.ref a), .val (.ref sb), .val .null, .val (.ref va), .val (.int (Int32.ofNat ys.length))] [(.int (1 : Int32))])
  refine o_ifN X7 d42_150_19 (by decide) (q := 22) rfl ?_
  refine o_aloadN X7 d42_150_22 rfl rfl (q := 23) rfl ?_
  refine o_iconst X7 d42_150_23 (w := 0) rfl (q := 24) rfl ?_
  have f9 := Fc
  have f10 := E
  have f12 := (CHr.safe R7 (E.lt) (CHr.safe R5 (E.lt) (CHr.safe R2 (E.lt) S_a)))
  refine o_putF X7 f9 f10 ga f12 (host := "") (Or.inl (w115 hw)) Via.refl (Or.inr ⟨(w6 hw), rfl, rfl⟩) (w3 hw) (ty := .byte) (by decide) (by decide) (by decide) d42_150_24 (q := 27) rfl ?_
  intro T11 h11 l11 X11 W11 R11 F11
  refine o_aloadN X11 d42_150_27 rfl rfl (q := 28) rfl ?_
  refine o_aloadN X11 d42_150_28 rfl rfl (q := 29) rfl ?_
  refine o_iconst X11 d42_150_29 (w := 0) rfl (q := 30) rfl ?_
  refine o_iload X11 d42_150_30 rfl (q := 32) rfl ?_
  have f13 := (Vv.other W11 n2)
  have f14 := (Ev.wr W11)
  refine o_stat X11 [(.ref va), (.int (0 : Int32)), (.int (Int32.ofNat ys.length))] (y' := ⟨"java/util/Arrays", "copyOfRange", "([BII)[B"⟩) (c_cor hw va ys.length cap _ f13 f14 (by omega) (by simp) (by omega) hc (by simp <;> omega)) all0 (w182 hw) (w183 hw) (w184 hw) (w185 hw) (by decide) d42_150_32 (rest := [(.ref a)]) rfl rfl (lenOf pd5 rfl) rfl (by decide) (lb rfl) (by decide) (by decide) (q := 35) rfl ?_
  intro v15 vm15 T15 h15 l15 X15 R15 q15
  obtain ⟨b15, kb15, rfl, K15, g15, s15, A15, V15⟩ := q15
  show Goes p e below _ T15 (mkF m 35 #[.val (.ref a), .val (.ref sb), .val .null, .val (.ref va), .val (.int (Int32.ofNat ys.length))] [(.ref b15), (.ref a)])
  have f16 := ((Fv.other W11 (Or.inr (slot_ne (Or.inr (w5 hw)) (Or.inr (w6 hw)) (by decide) (t := (.array .byte)) (t' := .byte) (by decide) (by decide)))).keep K15 nin0)
  have f17 := ((f10.wr W11).keep K15)
  have f19 := (CHr.safe R15 (F11.lt) (CHr.safe R11 (f10.lt) f12))
  refine o_putF X15 f16 f17 ga f19 (host := "") (Or.inl (w108 hw)) Via.refl (Or.inr ⟨(w5 hw), rfl, rfl⟩) (w3 hw) (ty := (.array .byte)) (by decide) rfl rfl d42_150_35 (q := 38) rfl ?_
  intro T18 h18 l18 X18 W18 R18 F18
  refine o_goto X18 d42_150_38 (by decide) (q := 97) (by decide) ?_
  have k20 := Keep.wr (Keep.refl h0 [a]) W11 (Or.inl (by simp))
  have sz21 := Nat.le_trans k20.1 g15
  have k22 := Keep.trans k20 K15 all0
  have k23 := Keep.wr k22 W18 (Or.inl (by simp))
  have f24 := (f17.wr W18)
  have f25 := ((F11.keep K15 nin0).other W18 (Or.inr (slot_ne (Or.inr (w6 hw)) (Or.inr (w5 hw)) (by decide) (t := .byte) (t' := (.array .byte)) (by decide) (by decide))))
  have f26 := (V15.other W18 (Ne.symm (Nat.ne_of_lt (Nat.lt_of_lt_of_le F11.lt g15))))
  exact o_ret X18 d42_150_97 (fun Sf hSf => ⟨rfl, k23, b15, kb15, sz21, f24, f25, F18, (by have q := f26; rwa [List.take_of_length_le (by simp)] at q), hyl, by omega⟩) (by decide) (by decide)
theorem c_tosB {l : Launch} {Z : State} {a0 : Array Value} (hw : W a0 Z) (a sb va : Addr) (cap : Nat) (ys : List Int32) (h0 : Heap) {zc : Int32} (O2 : Sta Z Z.heap "java/lang/String" "COMPACT_STRINGS" "Z" (.int zc)) (P5 : ¬ zc = 0) (E : Exa Z h0 a "java/lang/String") (ga : Z.heap.size ≤ a) (Fv : Fld Z h0 a "java/lang/String" "value" "[B" .null) (Fc : Fld Z h0 a "java/lang/String" "coder" "B" (.int (0 : Int32))) {kv : ClassId} (B : BS Z h0 sb va kv cap ys) (gs : Z.heap.size ≤ sb) (n1 : sb ≠ a) (n2 : va ≠ a) (hcb : cap ≤ 80) :
    Con l Z EL0 (⟨"java/lang/String", "<init>", "(Ljava/lang/StringBuilder;)V"⟩ : MethodName) jdk_42_method_53_code 2 none ({ frames := 4, cells := 1, slots := 80, locals := 65 } : Room) #[(.ref a), (.ref sb)] h0 [a] (fun v h' Sf => v = none ∧ Keep h0 h' [a] ∧ ∃ (b : Addr) (kb : ClassId), h0.size ≤ b ∧ LS Z h' a b kb ys) := by
  refine Con.intro (plainFor_of_name pn1) ?_
  intro p e s m below meth c T X hss
  have S_a := hss a (by simp)
  refine Goes.cast (g' := mkF m 0 #[.val (.ref a), .val (.ref sb)] []) (by first | (simp [entryFrame, mkF, argsToLocals, Value.category]; done) | rfl) ?_
  refine o_aloadN X d42_53_0 rfl rfl (q := 1) rfl ?_
  refine o_aloadN X d42_53_1 rfl rfl (q := 2) rfl ?_
  refine o_null X d42_53_2 (q := 3) rfl ?_
  refine o_spec X [(.ref sb), .null] (y' := ⟨"java/lang/String", "<init>", "(Ljava/lang/AbstractStringBuilder;Ljava/lang/Void;)V"⟩) (c_tos0 hw a sb va cap ys _ O2 P5 E ga Fv Fc B.1 gs B.2.1 B.2.2.2.1 B.2.2.1 B.2.2.2.2.1 B.2.2.2.2.2.1 n1 n2 hcb B.2.2.2.2.2.2.2 B.2.2.2.2.2.2.1) (allS ⟨E.lt, S_a⟩ all0) rfl (w160 hw) (w161 hw) (w162 hw) (w2 hw) (by decide) d42_53_3 (rest := []) rfl rfl (lenOf pd20 rfl) rfl (by decide) (lb rfl) (by decide) (by decide) (q := 6) rfl ?_
  intro v1 vm1 T1 h1 l1 X1 R1 q1
  obtain ⟨rfl, K1, b1, kb1, g1, U1⟩ := q1
  show Goes p e below _ T1 (mkF m 6 #[.val (.ref a), .val (.ref sb)] [])
  exact o_ret X1 d42_53_6 (fun Sf hSf => ⟨rfl, K1, b1, kb1, g1, U1⟩) (by decide) (by decide)
theorem c_toS {l : Launch} {Z : State} {a0 : Array Value} (hw : W a0 Z) (sb va : Addr) (cap : Nat) (ys : List Int32) (h0 : Heap) {zc : Int32} (O2 : Sta Z Z.heap "java/lang/String" "COMPACT_STRINGS" "Z" (.int zc)) (P5 : ¬ zc = 0) {kv : ClassId} (B : BS Z h0 sb va kv cap ys) (gs : Z.heap.size ≤ sb) (hcb : cap ≤ 80) :
    Con l Z EL0 (⟨"java/lang/StringBuilder", "toString", "()Ljava/lang/String;"⟩ : MethodName) jdk_67_method_42_code 1 (some (.object "java/lang/String")) ({ frames := 5, cells := 2, slots := 84, locals := 79 } : Room) #[(.ref sb)] h0 [] (fun v h' Sf => ∃ (r b : Addr) (kb : ClassId), v = some (.ref r) ∧ Keep h0 h' [] ∧ h0.size ≤ r ∧ h0.size ≤ b ∧ LS Z h' r b kb ys) := by
  refine Con.intro (plainFor_of_name pn5) ?_
  intro p e s m below meth c T X hss
  refine Goes.cast (g' := mkF m 0 #[.val (.ref sb)] []) (by first | (simp [entryFrame, mkF, argsToLocals, Value.category]; done) | rfl) ?_
  refine o_new X (w155 hw) (w3 hw) (w2 hw) d67_42_0 (by decide) (by decide) (q := 3) rfl ?_
  intro T1 h1 b1 gb1 X1 E1 R1 S1 A1 D1 g0_b1
  have f2 : Fld Z h1 b1 "java/lang/String" "value" "[B" .null := D1 (Or.inr (w5 hw)) (ty := (.array .byte)) (by decide)
  have f3 : Fld Z h1 b1 "java/lang/String" "coder" "B" (.int (0 : Int32)) := D1 (Or.inr (w6 hw)) (ty := .byte) (by decide)
  refine o_dup X1 d67_42_3 rfl (q := 4) rfl ?_
  refine o_aloadN X1 d67_42_4 rfl rfl (q := 5) rfl ?_
  have f4 := (B.ext E1)
  refine o_spec X1 [(.ref sb)] (y' := ⟨"java/lang/String", "<init>", "(Ljava/lang/StringBuilder;)V"⟩) (c_tosB hw b1 sb va cap ys _ O2 P5 A1 g0_b1 f2 f3 f4 gs (Nat.ne_of_lt (Nat.lt_of_lt_of_le B.lt (Nat.le_of_eq gb1.symm))) (Nat.ne_of_lt (Nat.lt_of_lt_of_le B.blt (Nat.le_of_eq gb1.symm))) hcb) (allS ⟨A1.lt, S1⟩ all0) rfl (w156 hw) (w157 hw) (w159 hw) (w2 hw) (by decide) d67_42_5 (rest := [(.ref b1)]) rfl rfl (lenOf pd21 rfl) rfl (by decide) (lb rfl) (by decide) (by decide) (q := 8) rfl ?_
  intro v5 vm5 T5 h5 l5 X5 R5 q5
  obtain ⟨rfl, K5, b5, kb5, g5, U5⟩ := q5
  show Goes p e below _ T5 (mkF m 8 #[.val (.ref sb)] [(.ref b1)])
  have sz6 := Nat.le_trans (Keep.refl h0 []).1 (Nat.le_of_eq gb1.symm)
  have k7 := Keep.ext (Keep.refl h0 []) E1
  have sz8 := Nat.le_trans k7.1 g5
  have k9 := Keep.trans k7 K5 (allS (Or.inr sz6) all0)
  exact o_retR X5 d67_42_8 rfl rfl rfl (fun Sf hSf => ⟨b1, b5, kb5, rfl, k9, sz6, sz8, U5⟩) (by decide) (by decide)
theorem c_thr {l : Launch} {Z : State} {a0 : Array Value} (hw : W a0 Z) (a st : Addr) (h0 : Heap) {ua sa : Addr} (SUn : Sta Z Z.heap "java/lang/Throwable" "UNASSIGNED_STACK" "[Ljava/lang/StackTraceElement;" (.ref ua)) (SSe : Sta Z Z.heap "java/lang/Throwable" "SUPPRESSED_SENTINEL" "Ljava/util/List;" (.ref sa)) (hEx : ExW "com/example/parkville/parkville/QueryException" a0 Z) (hlt : l.stackTraces = true) (E : Exa Z h0 a "com/example/parkville/parkville/QueryException") (ga : Z.heap.size ≤ a) (Nu : Unt h0 a) (Fa : Fld Z h0 a "java/lang/Throwable" "cause" "Ljava/lang/Throwable;" .null) (Fb : Fld Z h0 a "java/lang/Throwable" "stackTrace" "[Ljava/lang/StackTraceElement;" .null) (Fc : Fld Z h0 a "java/lang/Throwable" "suppressedExceptions" "Ljava/util/List;" .null) (Fd : Fld Z h0 a "java/lang/Throwable" "backtrace" "Ljava/lang/Object;" .null) (Fe : Fld Z h0 a "java/lang/Throwable" "detailMessage" "Ljava/lang/String;" .null) (Fp : Fld Z h0 a "com/example/parkville/parkville/QueryException" "position" "I" (.int (0 : Int32))) (Fr_ : Fld Z h0 a "com/example/parkville/parkville/QueryException" "reason" "Ljava/lang/String;" .null) :
    ConK l Z EL0 (⟨"java/lang/Throwable", "<init>", "(Ljava/lang/String;)V"⟩ : MethodName) jdk_78_method_2_code 2 none ({ frames := 3, cells := 1, slots := 2752, locals := 42 } : Room) #[(.ref a), (.ref st)] h0 [a] (fun v h' Sf => v = none ∧ Keep h0 h' [a] ∧ Fld Z h' a "java/lang/Throwable" "detailMessage" "Ljava/lang/String;" (.ref st) ∧ Fld Z h' a "com/example/parkville/parkville/QueryException" "position" "I" (.int (0 : Int32)) ∧ Fld Z h' a "com/example/parkville/parkville/QueryException" "reason" "Ljava/lang/String;" .null) := by
  refine ConK.intro (plainFor_of_name pn7) ?_
  intro p e s m below meth c T X hss hK
  have S_a := hss a (by simp)
  refine Goes.cast (g' := mkF m 0 #[.val (.ref a), .val (.ref st)] []) (by first | (simp [entryFrame, mkF, argsToLocals, Value.category]; done) | rfl) ?_
  have hTS : ThS Z s.heap := by rw [hK.2.2]; exact ThS.ext X.ext ThS.start
  refine o_aloadN X d78_2_0 rfl rfl (q := 1) rfl ?_
  refine o_initO X (w26 hw) (w27 hw) (w28 hw) d78_2_1 rfl (by decide) (lb rfl) (q := 4) rfl ?_
  intro T1 X1
  refine o_aloadN X1 d78_2_4 rfl rfl (q := 5) rfl ?_
  refine o_aloadN X1 d78_2_5 rfl rfl (q := 6) rfl ?_
  refine o_putF X1 Fa E ga (Safe.exa X1.alike E (by decide) (by decide)) (host := "") (Or.inl (w29 hw)) Via.refl (Or.inl (w30 hw)) (w10 hw) (ty := (.object "java/lang/Throwable")) (by decide) rfl rfl d78_2_6 (q := 9) rfl ?_
  intro T2 h2 l2 X2 W2 R2 F2
  refine o_aloadN X2 d78_2_9 rfl rfl (q := 10) rfl ?_
  refine o_getS X2 SUn (host := "") (Or.inl (w31 hw)) Via.refl d78_2_10 (q := 13) rfl ?_
  intro T3 X3
  have f4 := (Fb.other W2 (Or.inr (slot_ne (Or.inl (w33 hw)) (Or.inl (w30 hw)) (by decide) (t := (.array (.object "java/lang/StackTraceElement"))) (t' := (.object "java/lang/Throwable")) (by decide) (by decide))))
  have f5 := (E.wr W2)
  refine o_putF X3 f4 f5 ga (Safe.exa X3.alike f5 (by decide) (by decide)) (host := "") (Or.inl (w32 hw)) Via.refl (Or.inl (w33 hw)) (w10 hw) (ty := (.array (.object "java/lang/StackTraceElement"))) (by decide) rfl rfl d78_2_13 (q := 16) rfl ?_
  intro T6 h6 l6 X6 W6 R6 F6
  refine o_aloadN X6 d78_2_16 rfl rfl (q := 17) rfl ?_
  refine o_getS X6 SSe (host := "") (Or.inl (w34 hw)) Via.refl d78_2_17 (q := 20) rfl ?_
  intro T7 X7
  have f8 := ((Fc.other W2 (Or.inr (slot_ne (Or.inl (w36 hw)) (Or.inl (w30 hw)) (by decide) (t := (.object "java/util/List")) (t' := (.object "java/lang/Throwable")) (by decide) (by decide)))).other W6 (Or.inr (slot_ne (Or.inl (w36 hw)) (Or.inl (w33 hw)) (by decide) (t := (.object "java/util/List")) (t' := (.array (.object "java/lang/StackTraceElement"))) (by decide) (by decide))))
  have f9 := (f5.wr W6)
  refine o_putF X7 f8 f9 ga (Safe.exa X7.alike f9 (by decide) (by decide)) (host := "") (Or.inl (w35 hw)) Via.refl (Or.inl (w36 hw)) (w10 hw) (ty := (.object "java/util/List")) (by decide) rfl rfl d78_2_20 (q := 23) rfl ?_
  intro T10 h10 l10 X10 W10 R10 F10
  refine o_aloadN X10 d78_2_23 rfl rfl (q := 24) rfl ?_
  have f11 := (f9.wr W10)
  have f12 := (((Nu.wr W2).wr W6).wr W10)
  have f13 := (((Fd.other W2 (Or.inr (slot_ne (Or.inl (w61 hw)) (Or.inl (w30 hw)) (by decide) (t := (.object "java/lang/Object")) (t' := (.object "java/lang/Throwable")) (by decide) (by decide)))).other W6 (Or.inr (slot_ne (Or.inl (w61 hw)) (Or.inl (w33 hw)) (by decide) (t := (.object "java/lang/Object")) (t' := (.array (.object "java/lang/StackTraceElement"))) (by decide) (by decide)))).other W10 (Or.inr (slot_ne (Or.inl (w61 hw)) (Or.inl (w36 hw)) (by decide) (t := (.object "java/lang/Object")) (t' := (.object "java/util/List")) (by decide) (by decide))))
  have f14 := (F6.other W10 (Or.inr (slot_ne (Or.inl (w33 hw)) (Or.inl (w36 hw)) (by decide) (t := (.array (.object "java/lang/StackTraceElement"))) (t' := (.object "java/util/List")) (by decide) (by decide))))
  refine o_fill X10 (u := .ref ua) hlt ⟨hK.1, hK.2.1, hTS⟩ rfl (by decide) hEx (w10 hw) f11 ga (Safe.exa X10.alike f11 (by decide) (by decide)) f12 f13 (fun q => nomatch q) rfl f14 SUn d78_2_24 rfl (by decide) (lb rfl) (by decide) (by decide) (q := 27) rfl ?_
  intro T15 ha15 hb15 hc15 h15 l15 va15 vb15 X15 E15 W115 W215 W315 R015 R115 R215 R315
  refine o_pop X15 d78_2_27 rfl (q := 28) rfl ?_
  refine o_aloadN X15 d78_2_28 rfl rfl (q := 29) rfl ?_
  refine o_aloadN X15 d78_2_29 rfl rfl (q := 30) rfl ?_
  have f16 := (((((((Fe.other W2 (Or.inr (slot_ne (Or.inl (w60 hw)) (Or.inl (w30 hw)) (by decide) (t := (.object "java/lang/String")) (t' := (.object "java/lang/Throwable")) (by decide) (by decide)))).other W6 (Or.inr (slot_ne (Or.inl (w60 hw)) (Or.inl (w33 hw)) (by decide) (t := (.object "java/lang/String")) (t' := (.array (.object "java/lang/StackTraceElement"))) (by decide) (by decide)))).other W10 (Or.inr (slot_ne (Or.inl (w60 hw)) (Or.inl (w36 hw)) (by decide) (t := (.object "java/lang/String")) (t' := (.object "java/util/List")) (by decide) (by decide)))).ext E15).other W115 (Or.inr (slot_ne (Or.inl (w60 hw)) (Or.inl (w61 hw)) (by decide) (t := (.object "java/lang/String")) (t' := (.object "java/lang/Object")) (by decide) (by decide)))).other W215 (Or.inr (slot_ne (Or.inl (w60 hw)) (Or.inl (w62 hw)) (by decide) (t := (.object "java/lang/String")) (t' := .int) (by decide) (by decide)))).other W315 (Or.inr (slot_ne (Or.inl (w60 hw)) (Or.inl (w33 hw)) (by decide) (t := (.object "java/lang/String")) (t' := (.array (.object "java/lang/StackTraceElement"))) (by decide) (by decide))))
  have f17 := ((((f11.ext E15).wr W115).wr W215).wr W315)
  refine o_putF X15 f16 f17 ga (Safe.exa X15.alike f17 (by decide) (by decide)) (host := "") (Or.inl (w64 hw)) Via.refl (Or.inl (w60 hw)) (w10 hw) (ty := (.object "java/lang/String")) (by decide) rfl rfl d78_2_30 (q := 33) rfl ?_
  intro T18 h18 l18 X18 W18 R18 F18
  have k19 := Keep.wr (Keep.refl h0 [a]) W2 (Or.inl (by simp))
  have k20 := Keep.wr k19 W6 (Or.inl (by simp))
  have k21 := Keep.wr k20 W10 (Or.inl (by simp))
  have k22 := Keep.ext k21 E15
  have k23 := Keep.wr k22 W115 (Or.inl (by simp))
  have k24 := Keep.wr k23 W215 (Or.inl (by simp))
  have k25 := Keep.wr k24 W315 (Or.inl (by simp))
  have k26 := Keep.wr k25 W18 (Or.inl (by simp))
  have f27 := ((((((((Fp.other W2 (Or.inr (slot_ne (Or.inr (w66 hw)) (Or.inl (w30 hw)) (by decide) (t := .int) (t' := (.object "java/lang/Throwable")) (by decide) (by decide)))).other W6 (Or.inr (slot_ne (Or.inr (w66 hw)) (Or.inl (w33 hw)) (by decide) (t := .int) (t' := (.array (.object "java/lang/StackTraceElement"))) (by decide) (by decide)))).other W10 (Or.inr (slot_ne (Or.inr (w66 hw)) (Or.inl (w36 hw)) (by decide) (t := .int) (t' := (.object "java/util/List")) (by decide) (by decide)))).ext E15).other W115 (Or.inr (slot_ne (Or.inr (w66 hw)) (Or.inl (w61 hw)) (by decide) (t := .int) (t' := (.object "java/lang/Object")) (by decide) (by decide)))).other W215 (Or.inr (slot_ne (Or.inr (w66 hw)) (Or.inl (w62 hw)) (by decide) (t := .int) (t' := .int) (by decide) (by decide)))).other W315 (Or.inr (slot_ne (Or.inr (w66 hw)) (Or.inl (w33 hw)) (by decide) (t := .int) (t' := (.array (.object "java/lang/StackTraceElement"))) (by decide) (by decide)))).other W18 (Or.inr (slot_ne (Or.inr (w66 hw)) (Or.inl (w60 hw)) (by decide) (t := .int) (t' := (.object "java/lang/String")) (by decide) (by decide))))
  have f28 := ((((((((Fr_.other W2 (Or.inr (slot_ne (Or.inr (w68 hw)) (Or.inl (w30 hw)) (by decide) (t := (.object "java/lang/String")) (t' := (.object "java/lang/Throwable")) (by decide) (by decide)))).other W6 (Or.inr (slot_ne (Or.inr (w68 hw)) (Or.inl (w33 hw)) (by decide) (t := (.object "java/lang/String")) (t' := (.array (.object "java/lang/StackTraceElement"))) (by decide) (by decide)))).other W10 (Or.inr (slot_ne (Or.inr (w68 hw)) (Or.inl (w36 hw)) (by decide) (t := (.object "java/lang/String")) (t' := (.object "java/util/List")) (by decide) (by decide)))).ext E15).other W115 (Or.inr (slot_ne (Or.inr (w68 hw)) (Or.inl (w61 hw)) (by decide) (t := (.object "java/lang/String")) (t' := (.object "java/lang/Object")) (by decide) (by decide)))).other W215 (Or.inr (slot_ne (Or.inr (w68 hw)) (Or.inl (w62 hw)) (by decide) (t := (.object "java/lang/String")) (t' := .int) (by decide) (by decide)))).other W315 (Or.inr (slot_ne (Or.inr (w68 hw)) (Or.inl (w33 hw)) (by decide) (t := (.object "java/lang/String")) (t' := (.array (.object "java/lang/StackTraceElement"))) (by decide) (by decide)))).other W18 (Or.inr (slot_ne (Or.inr (w68 hw)) (Or.inl (w60 hw)) (by decide) (t := (.object "java/lang/String")) (t' := (.object "java/lang/String")) (by decide) (by decide))))
  exact o_ret X18 d78_2_33 (fun Sf hSf => ⟨rfl, k26, F18, f27, f28⟩) (by decide) (by decide)
theorem c_exc {l : Launch} {Z : State} {a0 : Array Value} (hw : W a0 Z) (a st : Addr) (h0 : Heap) {ua sa : Addr} (SUn : Sta Z Z.heap "java/lang/Throwable" "UNASSIGNED_STACK" "[Ljava/lang/StackTraceElement;" (.ref ua)) (SSe : Sta Z Z.heap "java/lang/Throwable" "SUPPRESSED_SENTINEL" "Ljava/util/List;" (.ref sa)) (hEx : ExW "com/example/parkville/parkville/QueryException" a0 Z) (hlt : l.stackTraces = true) (E : Exa Z h0 a "com/example/parkville/parkville/QueryException") (ga : Z.heap.size ≤ a) (Nu : Unt h0 a) (Fa : Fld Z h0 a "java/lang/Throwable" "cause" "Ljava/lang/Throwable;" .null) (Fb : Fld Z h0 a "java/lang/Throwable" "stackTrace" "[Ljava/lang/StackTraceElement;" .null) (Fc : Fld Z h0 a "java/lang/Throwable" "suppressedExceptions" "Ljava/util/List;" .null) (Fd : Fld Z h0 a "java/lang/Throwable" "backtrace" "Ljava/lang/Object;" .null) (Fe : Fld Z h0 a "java/lang/Throwable" "detailMessage" "Ljava/lang/String;" .null) (Fp : Fld Z h0 a "com/example/parkville/parkville/QueryException" "position" "I" (.int (0 : Int32))) (Fr_ : Fld Z h0 a "com/example/parkville/parkville/QueryException" "reason" "Ljava/lang/String;" .null) :
    ConK l Z EL0 (⟨"java/lang/Exception", "<init>", "(Ljava/lang/String;)V"⟩ : MethodName) jdk_59_method_2_code 2 none ({ frames := 4, cells := 1, slots := 2752, locals := 55 } : Room) #[(.ref a), (.ref st)] h0 [a] (fun v h' Sf => v = none ∧ Keep h0 h' [a] ∧ Fld Z h' a "java/lang/Throwable" "detailMessage" "Ljava/lang/String;" (.ref st) ∧ Fld Z h' a "com/example/parkville/parkville/QueryException" "position" "I" (.int (0 : Int32)) ∧ Fld Z h' a "com/example/parkville/parkville/QueryException" "reason" "Ljava/lang/String;" .null) := by
  refine ConK.intro (plainFor_of_name pn8) ?_
  intro p e s m below meth c T X hss hK
  have S_a := hss a (by simp)
  refine Goes.cast (g' := mkF m 0 #[.val (.ref a), .val (.ref st)] []) (by first | (simp [entryFrame, mkF, argsToLocals, Value.category]; done) | rfl) ?_
  refine o_aloadN X d59_2_0 rfl rfl (q := 1) rfl ?_
  refine o_aloadN X d59_2_1 rfl rfl (q := 2) rfl ?_
  refine o_specK X [(.ref st)] (y' := ⟨"java/lang/Throwable", "<init>", "(Ljava/lang/String;)V"⟩) (c_thr hw a st _ SUn SSe hEx hlt E ga Nu Fa Fb Fc Fd Fe Fp Fr_) (allS ⟨E.lt, (Safe.exa X.alike E (by decide) (by decide))⟩ all0) ⟨hK.1, hK.2.1⟩ rfl (w20 hw) (w21 hw) (w25 hw) (w24 hw) (by decide) d59_2_2 (rest := []) rfl rfl (lenOf pd10 rfl) rfl (by decide) (lb rfl) (by decide) (by decide) (q := 5) rfl ?_
  intro v1 vm1 T1 h1 l1 X1 R1 q1
  obtain ⟨rfl, K1, Fm1, Fo1, Fq1⟩ := q1
  show Goes p e below _ T1 (mkF m 5 #[.val (.ref a), .val (.ref st)] [])
  have k2 := Keep.trans (Keep.refl h0 [a]) K1 (allS (Or.inl (by simp)) all0)
  exact o_ret X1 d59_2_5 (fun Sf hSf => ⟨rfl, k2, Fm1, Fo1, Fq1⟩) (by decide) (by decide)
theorem c_qe0 {l : Launch} {Z : State} {a0 : Array Value} (hw : W a0 Z) (a st tb : Addr) (xs : List Int32) (h0 : Heap) {ua sa : Addr} (SUn : Sta Z Z.heap "java/lang/Throwable" "UNASSIGNED_STACK" "[Ljava/lang/StackTraceElement;" (.ref ua)) (SSe : Sta Z Z.heap "java/lang/Throwable" "SUPPRESSED_SENTINEL" "Ljava/util/List;" (.ref sa)) (hEx : ExW "com/example/parkville/parkville/QueryException" a0 Z) (hlt : l.stackTraces = true) (E : Exa Z h0 a "com/example/parkville/parkville/QueryException") (ga : Z.heap.size ≤ a) (Nu : Unt h0 a) (Fa : Fld Z h0 a "java/lang/Throwable" "cause" "Ljava/lang/Throwable;" .null) (Fb : Fld Z h0 a "java/lang/Throwable" "stackTrace" "[Ljava/lang/StackTraceElement;" .null) (Fc : Fld Z h0 a "java/lang/Throwable" "suppressedExceptions" "Ljava/util/List;" .null) (Fd : Fld Z h0 a "java/lang/Throwable" "backtrace" "Ljava/lang/Object;" .null) (Fe : Fld Z h0 a "java/lang/Throwable" "detailMessage" "Ljava/lang/String;" .null) (Fp : Fld Z h0 a "com/example/parkville/parkville/QueryException" "position" "I" (.int (0 : Int32))) (Fr_ : Fld Z h0 a "com/example/parkville/parkville/QueryException" "reason" "Ljava/lang/String;" .null) {kt : ClassId} (L : LS Z h0 st tb kt xs) (n1 : st ≠ a) (n2 : tb ≠ a) (hx3 : xs.length ≤ 3) :
    ConK l Z EL0 (⟨"com/example/parkville/parkville/QueryException", "<init>", "(ILjava/lang/String;)V"⟩ : MethodName) prog_20_method_1_code 3 none ({ frames := 5, cells := 1, slots := 2752, locals := 68 } : Room) #[(.ref a), (.int (0 : Int32)), (.ref st)] h0 [a] (fun v h' Sf => v = none ∧ Keep h0 h' [a] ∧ Fld Z h' a "java/lang/Throwable" "detailMessage" "Ljava/lang/String;" (.ref st) ∧ Fld Z h' a "com/example/parkville/parkville/QueryException" "position" "I" (.int (0 : Int32))) := by
  refine ConK.intro (plainFor_of_name pn9) ?_
  intro p e s m below meth c T X hss hK
  have S_a := hss a (by simp)
  refine Goes.cast (g' := mkF m 0 #[.val (.ref a), .val (.int (0 : Int32)), .val (.ref st)] []) (by first | (simp [entryFrame, mkF, argsToLocals, Value.category]; done) | rfl) ?_
  refine o_aloadN X dp20_1_0 rfl rfl (q := 1) rfl ?_
  refine o_iloadN X dp20_1_1 rfl (q := 2) rfl ?_
  refine o_ifY X dp20_1_2 (by decide) (by decide) (q := 36) (by decide) ?_
  refine o_aloadN X dp20_1_36 rfl rfl (q := 37) rfl ?_
  refine o_specK X [(.ref st)] (y' := ⟨"java/lang/Exception", "<init>", "(Ljava/lang/String;)V"⟩) (c_exc hw a st _ SUn SSe hEx hlt E ga Nu Fa Fb Fc Fd Fe Fp Fr_) (allS ⟨E.lt, (Safe.exa X.alike E (by decide) (by decide))⟩ all0) ⟨hK.1, hK.2.1⟩ rfl (w15 hw) (w16 hw) (w19 hw) (w18 hw) (by decide) dp20_1_37 (rest := []) rfl rfl (lenOf pd10 rfl) rfl (by decide) (lb rfl) (by decide) (by decide) (q := 40) rfl ?_
  intro v1 vm1 T1 h1 l1 X1 R1 q1
  obtain ⟨rfl, K1, Fm1, Fo1, Fq1⟩ := q1
  show Goes p e below _ T1 (mkF m 40 #[.val (.ref a), .val (.int (0 : Int32)), .val (.ref st)] [])
  refine o_aloadN X1 dp20_1_40 rfl rfl (q := 41) rfl ?_
  refine o_iloadN X1 dp20_1_41 rfl (q := 42) rfl ?_
  have f2 := (E.keep K1)
  refine o_putF X1 Fo1 f2 ga (Safe.exa X1.alike f2 (by decide) (by decide)) (host := "") (Or.inl (w65 hw)) Via.refl (Or.inr ⟨(w66 hw), rfl, rfl⟩) (w10 hw) (ty := .int) (by decide) rfl rfl dp20_1_42 (q := 45) rfl ?_
  intro T3 h3 l3 X3 W3 R3 F3
  refine o_aloadN X3 dp20_1_45 rfl rfl (q := 46) rfl ?_
  refine o_aloadN X3 dp20_1_46 rfl rfl (q := 47) rfl ?_
  have f4 := (Fq1.other W3 (Or.inr (slot_ne (Or.inr (w68 hw)) (Or.inr (w66 hw)) (by decide) (t := (.object "java/lang/String")) (t' := .int) (by decide) (by decide))))
  have f5 := (f2.wr W3)
  refine o_putF X3 f4 f5 ga (Safe.exa X3.alike f5 (by decide) (by decide)) (host := "") (Or.inl (w67 hw)) Via.refl (Or.inr ⟨(w68 hw), rfl, rfl⟩) (w10 hw) (ty := (.object "java/lang/String")) (by decide) rfl rfl dp20_1_47 (q := 50) rfl ?_
  intro T6 h6 l6 X6 W6 R6 F6
  have k7 := Keep.trans (Keep.refl h0 [a]) K1 (allS (Or.inl (by simp)) all0)
  have k8 := Keep.wr k7 W3 (Or.inl (by simp))
  have k9 := Keep.wr k8 W6 (Or.inl (by simp))
  have f10 := ((Fm1.other W3 (Or.inr (slot_ne (Or.inl (w60 hw)) (Or.inr (w66 hw)) (by decide) (t := (.object "java/lang/String")) (t' := .int) (by decide) (by decide)))).other W6 (Or.inr (slot_ne (Or.inl (w60 hw)) (Or.inr (w68 hw)) (by decide) (t := (.object "java/lang/String")) (t' := (.object "java/lang/String")) (by decide) (by decide))))
  have f11 := (F3.other W6 (Or.inr (slot_ne (Or.inr (w66 hw)) (Or.inr (w68 hw)) (by decide) (t := .int) (t' := (.object "java/lang/String")) (by decide) (by decide))))
  exact o_ret X6 dp20_1_50 (fun Sf hSf => ⟨rfl, k9, f10, f11⟩) (by decide) (by decide)
theorem c_qeP {l : Launch} {Z : State} {a0 : Array Value} (hw : W a0 Z) (a st tb : Addr) (pp : Nat) (xs : List Int32) (h0 : Heap) {zc : Int32} (O2 : Sta Z Z.heap "java/lang/String" "COMPACT_STRINGS" "Z" (.int zc)) (P5 : ¬ zc = 0) {do_ dt_ : Addr} {kdo kdt : ClassId} (SDo : Sta Z Z.heap "java/lang/Integer" "DigitOnes" "[B" (.ref do_)) (VDo : Arv Z Z.heap do_ kdo .byte (100 : Int32) TO (.int (0 : Int32))) (SDt : Sta Z Z.heap "java/lang/Integer" "DigitTens" "[B" (.ref dt_)) (VDt : Arv Z Z.heap dt_ kdt .byte (100 : Int32) TT (.int (0 : Int32))) {ua sa : Addr} (SUn : Sta Z Z.heap "java/lang/Throwable" "UNASSIGNED_STACK" "[Ljava/lang/StackTraceElement;" (.ref ua)) (SSe : Sta Z Z.heap "java/lang/Throwable" "SUPPRESSED_SENTINEL" "Ljava/util/List;" (.ref sa)) (hEx : ExW "com/example/parkville/parkville/QueryException" a0 Z) (hlt : l.stackTraces = true) (E : Exa Z h0 a "com/example/parkville/parkville/QueryException") (ga : Z.heap.size ≤ a) (Nu : Unt h0 a) (Fa : Fld Z h0 a "java/lang/Throwable" "cause" "Ljava/lang/Throwable;" .null) (Fb : Fld Z h0 a "java/lang/Throwable" "stackTrace" "[Ljava/lang/StackTraceElement;" .null) (Fc : Fld Z h0 a "java/lang/Throwable" "suppressedExceptions" "Ljava/util/List;" .null) (Fd : Fld Z h0 a "java/lang/Throwable" "backtrace" "Ljava/lang/Object;" .null) (Fe : Fld Z h0 a "java/lang/Throwable" "detailMessage" "Ljava/lang/String;" .null) (Fp : Fld Z h0 a "com/example/parkville/parkville/QueryException" "position" "I" (.int (0 : Int32))) (Fr_ : Fld Z h0 a "com/example/parkville/parkville/QueryException" "reason" "Ljava/lang/String;" .null) {kt : ClassId} (L : LS Z h0 st tb kt xs) (n1 : st ≠ a) (n2 : tb ≠ a) (hx3 : xs.length ≤ 3) (hp : 0 < pp) (hp2 : pp < 2147483648) :
    ConK l Z EL0 (⟨"com/example/parkville/parkville/QueryException", "<init>", "(ILjava/lang/String;)V"⟩ : MethodName) prog_20_method_1_code 3 none ({ frames := 6, cells := 13, slots := 3240, locals := 92 } : Room) #[(.ref a), (.int (Int32.ofNat pp)), (.ref st)] h0 [a] (fun v h' Sf => v = none ∧ Keep h0 h' [a] ∧ ∃ (mr mb : Addr) (mk : ClassId), Fld Z h' a "java/lang/Throwable" "detailMessage" "Ljava/lang/String;" (.ref mr) ∧ LS Z h' mr mb mk (msgP pp xs) ∧ Fld Z h' a "com/example/parkville/parkville/QueryException" "position" "I" (.int (Int32.ofNat pp))) := by
  refine ConK.intro (plainFor_of_name pn9) ?_
  intro p e s m below meth c T X hss hK
  have S_a := hss a (by simp)
  refine Goes.cast (g' := mkF m 0 #[.val (.ref a), .val (.int (Int32.ofNat pp)), .val (.ref st)] []) (by first | (simp [entryFrame, mkF, argsToLocals, Value.category]; done) | rfl) ?_
  have hdl := own_dlen hp2
  refine o_aloadN X dp20_1_0 rfl rfl (q := 1) rfl ?_
  refine o_iloadN X dp20_1_1 rfl (q := 2) rfl ?_
  refine o_ifN X dp20_1_2 (tlt ((n_lt (a := 0) (by omega) (by omega)).mpr hp)).2.2.2 (q := 5) rfl ?_
  refine o_new X (w74 hw) (w75 hw) (w76 hw) dp20_1_5 (by decide) (by decide) (q := 8) rfl ?_
  intro T1 h1 b1 gb1 X1 E1 R1 S1 A1 D1 g0_b1
  have f2 : Fld Z h1 b1 "java/lang/AbstractStringBuilder" "value" "[B" .null := D1 (Or.inl (w89 hw)) (ty := (.array .byte)) (by decide)
  have f3 : Fld Z h1 b1 "java/lang/AbstractStringBuilder" "coder" "B" (.int (0 : Int32)) := D1 (Or.inl (w91 hw)) (ty := .byte) (by decide)
  have f4 : Fld Z h1 b1 "java/lang/AbstractStringBuilder" "count" "I" (.int (0 : Int32)) := D1 (Or.inl (w117 hw)) (ty := .int) (by decide)
  refine o_dup X1 dp20_1_8 rfl (q := 9) rfl ?_
  refine o_spec X1 [] (y' := ⟨"java/lang/StringBuilder", "<init>", "()V"⟩) (c_sb hw b1 _ O2 P5 A1 g0_b1 f2 f3 f4) all0 rfl (w77 hw) (w78 hw) (w79 hw) (w76 hw) (by decide) dp20_1_9 (rest := [(.ref b1), (.ref a)]) rfl rfl (lenOf pd22 rfl) rfl (by decide) (lb rfl) (by decide) (by decide) (q := 12) rfl ?_
  intro v5 vm5 T5 h5 l5 X5 R5 q5
  obtain ⟨rfl, K5, va5, kv5, g5, s5, B5⟩ := q5
  show Goes p e below _ T5 (mkF m 12 #[.val (.ref a), .val (.int (Int32.ofNat pp)), .val (.ref st)] [(.ref b1), (.ref a)])
  refine o_ldcS X5 (n := 48) (vs := [(.int (97 : Int32)), (.int (116 : Int32)), (.int (32 : Int32)), (.int (112 : Int32)), (.int (111 : Int32)), (.int (115 : Int32)), (.int (105 : Int32)), (.int (116 : Int32)), (.int (105 : Int32)), (.int (111 : Int32)), (.int (110 : Int32)), (.int (32 : Int32))]) (z := 12) (w247 hw) (wS0 hw) (List.mem_of_getElem? (i := 0) rfl) ⟨by decide, by decide⟩ (by decide) (by decide) dp20_1_12 (by decide) (by decide) (by decide) (by decide) (q := 14) rfl ?_
  intro vm6 T6 h6 a6 b6 k6 X6 E6 R6 A6 Fc6 Fv6 V6 ne6
  have lc7 : LS Z _ a6 b6 k6 [(97 : Int32), (116 : Int32), (32 : Int32), (112 : Int32), (111 : Int32), (115 : Int32), (105 : Int32), (116 : Int32), (105 : Int32), (111 : Int32), (110 : Int32), (32 : Int32)] := ⟨A6, Fc6, Fv6, (by rw [show (([(97 : Int32), (116 : Int32), (32 : Int32), (112 : Int32), (111 : Int32), (115 : Int32), (105 : Int32), (116 : Int32), (105 : Int32), (111 : Int32), (110 : Int32), (32 : Int32)] : List Int32).map (fun c => c.toInt8.toInt32)).map Value.int = [(.int (97 : Int32)), (.int (116 : Int32)), (.int (32 : Int32)), (.int (112 : Int32)), (.int (111 : Int32)), (.int (115 : Int32)), (.int (105 : Int32)), (.int (116 : Int32)), (.int (105 : Int32)), (.int (111 : Int32)), (.int (110 : Int32)), (.int (32 : Int32))] from by decide]; exact V6), by decide, by decide⟩
  have lq8 : LS Z _ a6 b6 k6 qAT := lc7
  have f9 := (B5.ext E6)
  have f11 := (CHr.safe R6 (B5.vx.lt) s5)
  have f12 := ((A1.keep K5).ext E6)
  refine o_virt X6 [(.ref a6)] (y' := ⟨"java/lang/StringBuilder", "append", "(Ljava/lang/String;)Ljava/lang/StringBuilder;"⟩) f12 (c_sba hw b1 va5 a6 b6 16 ([] : List Int32) qAT _ O2 P5 f9 g0_b1 (Nat.le_trans X1.size g5) (Nat.ne_of_lt (Nat.lt_of_lt_of_le A1.lt g5)) lq8 (Ne.symm (ne6 _ (CHr.safe R6 (B5.lt) (CHr.safe R5 (A1.lt) S1))).1) (Ne.symm (ne6 _ (CHr.safe R6 (B5.vx.lt) s5)).1) (Ne.symm (ne6 _ (CHr.safe R6 (B5.lt) (CHr.safe R5 (A1.lt) S1))).2) (Ne.symm (ne6 _ (CHr.safe R6 (B5.vx.lt) s5)).2) (by decide) (own_nc80 (Or.inl rfl) (by simp only [List.length_append, List.length_cons, List.length_nil, qER, qSP, qCS, qAT, msgP]; omega))) (allS ⟨(B5.vx.ext E6).lt, f11⟩ all0) (w93 hw) (w94 hw) (w96 hw) (w95 hw) (w97 hw) (w76 hw) (by decide) dp20_1_14 (rest := [(.ref a)]) rfl rfl (lenOf pd23 rfl) rfl (by decide) (lb rfl) (by decide) (by decide) (q := 17) rfl ?_
  intro v10 vm10 T10 h10 l10 X10 R10 q10
  obtain ⟨rfl, K10, v210, k210, g10, s10, B10⟩ := q10
  show Goes p e below _ T10 (mkF m 17 #[.val (.ref a), .val (.int (Int32.ofNat pp)), .val (.ref st)] [(.ref b1), (.ref a)])
  obtain ⟨cp10, hcp10⟩ : ∃ z : Nat, nc 16 (List.length ([] : List Int32) + List.length qAT) = z := ⟨_, rfl⟩
  rw [hcp10] at B10
  have hcb10 : cp10 ≤ 80 := hcp10 ▸ own_nc80 (Or.inl rfl) (by simp only [List.length_append, List.length_cons, List.length_nil, qER, qSP, qCS, qAT, msgP]; omega)
  have hcq10 : cp10 = 16 ∨ cp10 = 34 := hcp10 ▸ own_nc34 (Or.inl rfl) (by simp only [List.length_append, List.length_cons, List.length_nil, qER, qSP, qCS, qAT, msgP]; omega)
  have ge10 : Z.heap.size ≤ v210 := own_ge2 X6.size (Nat.le_trans X1.size g5) g10
  have nb10 : b1 ≠ v210 := own_ne2 (Nat.ne_of_lt (Nat.lt_of_lt_of_le A1.lt g5)) f9.lt g10
  refine o_iloadN X10 dp20_1_17 rfl (q := 18) rfl ?_
  have f14 := (f12.keep K10)
  refine o_virt X10 [(.int (Int32.ofNat pp))] (y' := ⟨"java/lang/StringBuilder", "append", "(I)Ljava/lang/StringBuilder;"⟩) f14 (c_sbi hw b1 v210 cp10 pp (([] : List Int32) ++ qAT) _ O2 P5 SDo VDo SDt VDt B10 g0_b1 ge10 nb10 hp hp2 (by omega) (own_nc80 hcq10 (by simp only [List.length_append, List.length_cons, List.length_nil, qER, qSP, qCS, qAT, msgP]; omega))) (allS ⟨B10.vx.lt, s10⟩ all0) (w248 hw) (w249 hw) (w251 hw) (w250 hw) (w252 hw) (w76 hw) (by decide) dp20_1_18 (rest := [(.ref a)]) rfl rfl (lenOf pd24 rfl) rfl (by decide) (lb rfl) (by decide) (by decide) (q := 21) rfl ?_
  intro v13 vm13 T13 h13 l13 X13 R13 q13
  obtain ⟨rfl, K13, v213, k213, g13, s13, B13⟩ := q13
  show Goes p e below _ T13 (mkF m 21 #[.val (.ref a), .val (.int (Int32.ofNat pp)), .val (.ref st)] [(.ref b1), (.ref a)])
  obtain ⟨cp13, hcp13⟩ : ∃ z : Nat, nc cp10 (List.length (([] : List Int32) ++ qAT) + List.length (dg pp)) = z := ⟨_, rfl⟩
  rw [hcp13] at B13
  have hcb13 : cp13 ≤ 80 := hcp13 ▸ own_nc80 hcq10 (by simp only [List.length_append, List.length_cons, List.length_nil, qER, qSP, qCS, qAT, msgP]; omega)
  have hcq13 : cp13 = 16 ∨ cp13 = 34 := hcp13 ▸ own_nc34 hcq10 (by simp only [List.length_append, List.length_cons, List.length_nil, qER, qSP, qCS, qAT, msgP]; omega)
  have ge13 : Z.heap.size ≤ v213 := own_ge2 X10.size ge10 g13
  have nb13 : b1 ≠ v213 := own_ne2 nb10 B10.lt g13
  refine o_ldcS X13 (n := 8) (vs := [(.int (58 : Int32)), (.int (32 : Int32))]) (z := 2) (w143 hw) (wS0 hw) (List.mem_of_getElem? (i := 1) rfl) ⟨by decide, by decide⟩ (by decide) (by decide) dp20_1_21 (by decide) (by decide) (by decide) (by decide) (q := 23) rfl ?_
  intro vm15 T15 h15 a15 b15 k15 X15 E15 R15 A15 Fc15 Fv15 V15 ne15
  have lc16 : LS Z _ a15 b15 k15 [(58 : Int32), (32 : Int32)] := ⟨A15, Fc15, Fv15, (by rw [show (([(58 : Int32), (32 : Int32)] : List Int32).map (fun c => c.toInt8.toInt32)).map Value.int = [(.int (58 : Int32)), (.int (32 : Int32))] from by decide]; exact V15), by decide, by decide⟩
  have lq17 : LS Z _ a15 b15 k15 qCS := lc16
  have f18 := (B13.ext E15)
  have f20 := (CHr.safe R15 (B13.vx.lt) s13)
  have f21 := ((f14.keep K13).ext E15)
  refine o_virt X15 [(.ref a15)] (y' := ⟨"java/lang/StringBuilder", "append", "(Ljava/lang/String;)Ljava/lang/StringBuilder;"⟩) f21 (c_sba hw b1 v213 a15 b15 cp13 ((([] : List Int32) ++ qAT) ++ (dg pp)) qCS _ O2 P5 f18 g0_b1 ge13 nb13 lq17 (Ne.symm (ne15 _ (CHr.safe R15 (B13.lt) (CHr.safe R13 (f14.lt) (CHr.safe R10 (f12.lt) (CHr.safe R6 (B5.lt) (CHr.safe R5 (A1.lt) S1)))))).1) (Ne.symm (ne15 _ (CHr.safe R15 (B13.vx.lt) s13)).1) (Ne.symm (ne15 _ (CHr.safe R15 (B13.lt) (CHr.safe R13 (f14.lt) (CHr.safe R10 (f12.lt) (CHr.safe R6 (B5.lt) (CHr.safe R5 (A1.lt) S1)))))).2) (Ne.symm (ne15 _ (CHr.safe R15 (B13.vx.lt) s13)).2) (by omega) (own_nc80 hcq13 (by simp only [List.length_append, List.length_cons, List.length_nil, qER, qSP, qCS, qAT, msgP]; omega))) (allS ⟨(B13.vx.ext E15).lt, f20⟩ all0) (w93 hw) (w94 hw) (w96 hw) (w95 hw) (w97 hw) (w76 hw) (by decide) dp20_1_23 (rest := [(.ref a)]) rfl rfl (lenOf pd23 rfl) rfl (by decide) (lb rfl) (by decide) (by decide) (q := 26) rfl ?_
  intro v19 vm19 T19 h19 l19 X19 R19 q19
  obtain ⟨rfl, K19, v219, k219, g19, s19, B19⟩ := q19
  show Goes p e below _ T19 (mkF m 26 #[.val (.ref a), .val (.int (Int32.ofNat pp)), .val (.ref st)] [(.ref b1), (.ref a)])
  obtain ⟨cp19, hcp19⟩ : ∃ z : Nat, nc cp13 (List.length ((([] : List Int32) ++ qAT) ++ (dg pp)) + List.length qCS) = z := ⟨_, rfl⟩
  rw [hcp19] at B19
  have hcb19 : cp19 ≤ 80 := hcp19 ▸ own_nc80 hcq13 (by simp only [List.length_append, List.length_cons, List.length_nil, qER, qSP, qCS, qAT, msgP]; omega)
  have hcq19 : cp19 = 16 ∨ cp19 = 34 := hcp19 ▸ own_nc34 hcq13 (by simp only [List.length_append, List.length_cons, List.length_nil, qER, qSP, qCS, qAT, msgP]; omega)
  have ge19 : Z.heap.size ≤ v219 := own_ge2 X15.size ge13 g19
  have nb19 : b1 ≠ v219 := own_ne2 nb13 f18.lt g19
  refine o_aloadN X19 dp20_1_26 rfl rfl (q := 27) rfl ?_
  have f22 := (((((((L.ext E1).keep K5 (ninS (Nat.ne_of_lt (Nat.lt_of_lt_of_le L.lt (Nat.le_of_eq gb1.symm))) nin0) (ninS (Nat.ne_of_lt (Nat.lt_of_lt_of_le L.2.2.2.1.lt (Nat.le_of_eq gb1.symm))) nin0)).ext E6).keep K10 (ninS (Nat.ne_of_lt (Nat.lt_of_lt_of_le L.lt (Nat.le_of_eq gb1.symm))) (ninS (Nat.ne_of_lt (Nat.lt_of_lt_of_le (L.ext E1).lt g5)) nin0)) (ninS (Nat.ne_of_lt (Nat.lt_of_lt_of_le L.2.2.2.1.lt (Nat.le_of_eq gb1.symm))) (ninS (Nat.ne_of_lt (Nat.lt_of_lt_of_le (Nat.lt_of_lt_of_le L.2.2.2.1.lt E1.1) g5)) nin0))).keep K13 (ninS (Nat.ne_of_lt (Nat.lt_of_lt_of_le L.lt (Nat.le_of_eq gb1.symm))) (ninS (own_ne2 (Nat.ne_of_lt (Nat.lt_of_lt_of_le (L.ext E1).lt g5)) (Nat.lt_of_lt_of_le (Nat.lt_of_lt_of_le (Nat.lt_of_lt_of_le L.lt E1.1) K5.1) E6.1) g10) nin0)) (ninS (Nat.ne_of_lt (Nat.lt_of_lt_of_le L.2.2.2.1.lt (Nat.le_of_eq gb1.symm))) (ninS (own_ne2 (Nat.ne_of_lt (Nat.lt_of_lt_of_le (Nat.lt_of_lt_of_le L.2.2.2.1.lt E1.1) g5)) (Nat.lt_of_lt_of_le (Nat.lt_of_lt_of_le (Nat.lt_of_lt_of_le L.2.2.2.1.lt E1.1) K5.1) E6.1) g10) nin0))).ext E15).keep K19 (ninS (Nat.ne_of_lt (Nat.lt_of_lt_of_le L.lt (Nat.le_of_eq gb1.symm))) (ninS (own_ne2 (own_ne2 (Nat.ne_of_lt (Nat.lt_of_lt_of_le (L.ext E1).lt g5)) (Nat.lt_of_lt_of_le (Nat.lt_of_lt_of_le (Nat.lt_of_lt_of_le L.lt E1.1) K5.1) E6.1) g10) (Nat.lt_of_lt_of_le (Nat.lt_of_lt_of_le (Nat.lt_of_lt_of_le (Nat.lt_of_lt_of_le L.lt E1.1) K5.1) E6.1) K10.1) g13) nin0)) (ninS (Nat.ne_of_lt (Nat.lt_of_lt_of_le L.2.2.2.1.lt (Nat.le_of_eq gb1.symm))) (ninS (own_ne2 (own_ne2 (Nat.ne_of_lt (Nat.lt_of_lt_of_le (Nat.lt_of_lt_of_le L.2.2.2.1.lt E1.1) g5)) (Nat.lt_of_lt_of_le (Nat.lt_of_lt_of_le (Nat.lt_of_lt_of_le L.2.2.2.1.lt E1.1) K5.1) E6.1) g10) (Nat.lt_of_lt_of_le (Nat.lt_of_lt_of_le (Nat.lt_of_lt_of_le (Nat.lt_of_lt_of_le L.2.2.2.1.lt E1.1) K5.1) E6.1) K10.1) g13) nin0)))
  have f24 := (f21.keep K19)
  refine o_virt X19 [(.ref st)] (y' := ⟨"java/lang/StringBuilder", "append", "(Ljava/lang/String;)Ljava/lang/StringBuilder;"⟩) f24 (c_sba hw b1 v219 st tb cp19 (((([] : List Int32) ++ qAT) ++ (dg pp)) ++ qCS) xs _ O2 P5 B19 g0_b1 ge19 nb19 f22 (Nat.ne_of_lt (Nat.lt_of_lt_of_le L.lt (Nat.le_of_eq gb1.symm))) (own_ne2 (own_ne2 (own_ne2 (Nat.ne_of_lt (Nat.lt_of_lt_of_le (L.ext E1).lt g5)) (Nat.lt_of_lt_of_le (Nat.lt_of_lt_of_le (Nat.lt_of_lt_of_le L.lt E1.1) K5.1) E6.1) g10) (Nat.lt_of_lt_of_le (Nat.lt_of_lt_of_le (Nat.lt_of_lt_of_le (Nat.lt_of_lt_of_le L.lt E1.1) K5.1) E6.1) K10.1) g13) (Nat.lt_of_lt_of_le (Nat.lt_of_lt_of_le (Nat.lt_of_lt_of_le (Nat.lt_of_lt_of_le (Nat.lt_of_lt_of_le (Nat.lt_of_lt_of_le L.lt E1.1) K5.1) E6.1) K10.1) K13.1) E15.1) g19) (Nat.ne_of_lt (Nat.lt_of_lt_of_le L.2.2.2.1.lt (Nat.le_of_eq gb1.symm))) (own_ne2 (own_ne2 (own_ne2 (Nat.ne_of_lt (Nat.lt_of_lt_of_le (Nat.lt_of_lt_of_le L.2.2.2.1.lt E1.1) g5)) (Nat.lt_of_lt_of_le (Nat.lt_of_lt_of_le (Nat.lt_of_lt_of_le L.2.2.2.1.lt E1.1) K5.1) E6.1) g10) (Nat.lt_of_lt_of_le (Nat.lt_of_lt_of_le (Nat.lt_of_lt_of_le (Nat.lt_of_lt_of_le L.2.2.2.1.lt E1.1) K5.1) E6.1) K10.1) g13) (Nat.lt_of_lt_of_le (Nat.lt_of_lt_of_le (Nat.lt_of_lt_of_le (Nat.lt_of_lt_of_le (Nat.lt_of_lt_of_le (Nat.lt_of_lt_of_le L.2.2.2.1.lt E1.1) K5.1) E6.1) K10.1) K13.1) E15.1) g19) (by omega) (own_nc80 hcq19 (by simp only [List.length_append, List.length_cons, List.length_nil, qER, qSP, qCS, qAT, msgP]; omega))) (allS ⟨B19.vx.lt, s19⟩ all0) (w93 hw) (w94 hw) (w96 hw) (w95 hw) (w97 hw) (w76 hw) (by decide) dp20_1_27 (rest := [(.ref a)]) rfl rfl (lenOf pd23 rfl) rfl (by decide) (lb rfl) (by decide) (by decide) (q := 30) rfl ?_
  intro v23 vm23 T23 h23 l23 X23 R23 q23
  obtain ⟨rfl, K23, v223, k223, g23, s23, B23⟩ := q23
  show Goes p e below _ T23 (mkF m 30 #[.val (.ref a), .val (.int (Int32.ofNat pp)), .val (.ref st)] [(.ref b1), (.ref a)])
  obtain ⟨cp23, hcp23⟩ : ∃ z : Nat, nc cp19 (List.length (((([] : List Int32) ++ qAT) ++ (dg pp)) ++ qCS) + List.length xs) = z := ⟨_, rfl⟩
  rw [hcp23] at B23
  have hcb23 : cp23 ≤ 80 := hcp23 ▸ own_nc80 hcq19 (by simp only [List.length_append, List.length_cons, List.length_nil, qER, qSP, qCS, qAT, msgP]; omega)
  have hcq23 : cp23 = 16 ∨ cp23 = 34 := hcp23 ▸ own_nc34 hcq19 (by simp only [List.length_append, List.length_cons, List.length_nil, qER, qSP, qCS, qAT, msgP]; omega)
  have ge23 : Z.heap.size ≤ v223 := own_ge2 X19.size ge19 g23
  have nb23 : b1 ≠ v223 := own_ne2 nb19 B19.lt g23
  have f26 := (f24.keep K23)
  refine o_virt X23 [] (y' := ⟨"java/lang/StringBuilder", "toString", "()Ljava/lang/String;"⟩) f26 (c_toS hw b1 v223 cp23 ((((([] : List Int32) ++ qAT) ++ (dg pp)) ++ qCS) ++ xs) _ O2 P5 B23 g0_b1 hcb23) all0 (w150 hw) (w151 hw) (w153 hw) (w152 hw) (w154 hw) (w76 hw) (by decide) dp20_1_30 (rest := [(.ref a)]) rfl rfl (lenOf pd25 rfl) rfl (by decide) (lb rfl) (by decide) (by decide) (q := 33) rfl ?_
  intro v25 vm25 T25 h25 l25 X25 R25 q25
  obtain ⟨r25, b25, kb25, rfl, K25, gr25, gb25, U25⟩ := q25
  show Goes p e below _ T25 (mkF m 33 #[.val (.ref a), .val (.int (Int32.ofNat pp)), .val (.ref st)] [(.ref r25), (.ref a)])
  have U25 : LS Z _ r25 b25 kb25 (msgP pp xs) := U25
  refine o_goto X25 dp20_1_33 (by decide) (q := 37) (by decide) ?_
  have f27 := (((((((((E.ext E1).keep K5).ext E6).keep K10).keep K13).ext E15).keep K19).keep K23).keep K25)
  have f28 := (((((((((Nu.ext E1).keep K5 (ninS (Nat.ne_of_lt (Nat.lt_of_lt_of_le E.lt (Nat.le_of_eq gb1.symm))) nin0)).ext E6).keep K10 (ninS (Nat.ne_of_lt (Nat.lt_of_lt_of_le E.lt (Nat.le_of_eq gb1.symm))) (ninS (Nat.ne_of_lt (Nat.lt_of_lt_of_le (E.ext E1).lt g5)) nin0))).keep K13 (ninS (Nat.ne_of_lt (Nat.lt_of_lt_of_le E.lt (Nat.le_of_eq gb1.symm))) (ninS (own_ne2 (Nat.ne_of_lt (Nat.lt_of_lt_of_le (E.ext E1).lt g5)) (((E.ext E1).keep K5).ext E6).lt g10) nin0))).ext E15).keep K19 (ninS (Nat.ne_of_lt (Nat.lt_of_lt_of_le E.lt (Nat.le_of_eq gb1.symm))) (ninS (own_ne2 (own_ne2 (Nat.ne_of_lt (Nat.lt_of_lt_of_le (E.ext E1).lt g5)) (((E.ext E1).keep K5).ext E6).lt g10) ((((E.ext E1).keep K5).ext E6).keep K10).lt g13) nin0))).keep K23 (ninS (Nat.ne_of_lt (Nat.lt_of_lt_of_le E.lt (Nat.le_of_eq gb1.symm))) (ninS (own_ne2 (own_ne2 (own_ne2 (Nat.ne_of_lt (Nat.lt_of_lt_of_le (E.ext E1).lt g5)) (((E.ext E1).keep K5).ext E6).lt g10) ((((E.ext E1).keep K5).ext E6).keep K10).lt g13) ((((((E.ext E1).keep K5).ext E6).keep K10).keep K13).ext E15).lt g19) nin0))).keep K25 nin0)
  have f29 := (((((((((Fa.ext E1).keep K5 (ninS (Nat.ne_of_lt (Nat.lt_of_lt_of_le E.lt (Nat.le_of_eq gb1.symm))) nin0)).ext E6).keep K10 (ninS (Nat.ne_of_lt (Nat.lt_of_lt_of_le E.lt (Nat.le_of_eq gb1.symm))) (ninS (Nat.ne_of_lt (Nat.lt_of_lt_of_le (E.ext E1).lt g5)) nin0))).keep K13 (ninS (Nat.ne_of_lt (Nat.lt_of_lt_of_le E.lt (Nat.le_of_eq gb1.symm))) (ninS (own_ne2 (Nat.ne_of_lt (Nat.lt_of_lt_of_le (E.ext E1).lt g5)) (((E.ext E1).keep K5).ext E6).lt g10) nin0))).ext E15).keep K19 (ninS (Nat.ne_of_lt (Nat.lt_of_lt_of_le E.lt (Nat.le_of_eq gb1.symm))) (ninS (own_ne2 (own_ne2 (Nat.ne_of_lt (Nat.lt_of_lt_of_le (E.ext E1).lt g5)) (((E.ext E1).keep K5).ext E6).lt g10) ((((E.ext E1).keep K5).ext E6).keep K10).lt g13) nin0))).keep K23 (ninS (Nat.ne_of_lt (Nat.lt_of_lt_of_le E.lt (Nat.le_of_eq gb1.symm))) (ninS (own_ne2 (own_ne2 (own_ne2 (Nat.ne_of_lt (Nat.lt_of_lt_of_le (E.ext E1).lt g5)) (((E.ext E1).keep K5).ext E6).lt g10) ((((E.ext E1).keep K5).ext E6).keep K10).lt g13) ((((((E.ext E1).keep K5).ext E6).keep K10).keep K13).ext E15).lt g19) nin0))).keep K25 nin0)
  have f30 := (((((((((Fb.ext E1).keep K5 (ninS (Nat.ne_of_lt (Nat.lt_of_lt_of_le E.lt (Nat.le_of_eq gb1.symm))) nin0)).ext E6).keep K10 (ninS (Nat.ne_of_lt (Nat.lt_of_lt_of_le E.lt (Nat.le_of_eq gb1.symm))) (ninS (Nat.ne_of_lt (Nat.lt_of_lt_of_le (E.ext E1).lt g5)) nin0))).keep K13 (ninS (Nat.ne_of_lt (Nat.lt_of_lt_of_le E.lt (Nat.le_of_eq gb1.symm))) (ninS (own_ne2 (Nat.ne_of_lt (Nat.lt_of_lt_of_le (E.ext E1).lt g5)) (((E.ext E1).keep K5).ext E6).lt g10) nin0))).ext E15).keep K19 (ninS (Nat.ne_of_lt (Nat.lt_of_lt_of_le E.lt (Nat.le_of_eq gb1.symm))) (ninS (own_ne2 (own_ne2 (Nat.ne_of_lt (Nat.lt_of_lt_of_le (E.ext E1).lt g5)) (((E.ext E1).keep K5).ext E6).lt g10) ((((E.ext E1).keep K5).ext E6).keep K10).lt g13) nin0))).keep K23 (ninS (Nat.ne_of_lt (Nat.lt_of_lt_of_le E.lt (Nat.le_of_eq gb1.symm))) (ninS (own_ne2 (own_ne2 (own_ne2 (Nat.ne_of_lt (Nat.lt_of_lt_of_le (E.ext E1).lt g5)) (((E.ext E1).keep K5).ext E6).lt g10) ((((E.ext E1).keep K5).ext E6).keep K10).lt g13) ((((((E.ext E1).keep K5).ext E6).keep K10).keep K13).ext E15).lt g19) nin0))).keep K25 nin0)
  have f31 := (((((((((Fc.ext E1).keep K5 (ninS (Nat.ne_of_lt (Nat.lt_of_lt_of_le E.lt (Nat.le_of_eq gb1.symm))) nin0)).ext E6).keep K10 (ninS (Nat.ne_of_lt (Nat.lt_of_lt_of_le E.lt (Nat.le_of_eq gb1.symm))) (ninS (Nat.ne_of_lt (Nat.lt_of_lt_of_le (E.ext E1).lt g5)) nin0))).keep K13 (ninS (Nat.ne_of_lt (Nat.lt_of_lt_of_le E.lt (Nat.le_of_eq gb1.symm))) (ninS (own_ne2 (Nat.ne_of_lt (Nat.lt_of_lt_of_le (E.ext E1).lt g5)) (((E.ext E1).keep K5).ext E6).lt g10) nin0))).ext E15).keep K19 (ninS (Nat.ne_of_lt (Nat.lt_of_lt_of_le E.lt (Nat.le_of_eq gb1.symm))) (ninS (own_ne2 (own_ne2 (Nat.ne_of_lt (Nat.lt_of_lt_of_le (E.ext E1).lt g5)) (((E.ext E1).keep K5).ext E6).lt g10) ((((E.ext E1).keep K5).ext E6).keep K10).lt g13) nin0))).keep K23 (ninS (Nat.ne_of_lt (Nat.lt_of_lt_of_le E.lt (Nat.le_of_eq gb1.symm))) (ninS (own_ne2 (own_ne2 (own_ne2 (Nat.ne_of_lt (Nat.lt_of_lt_of_le (E.ext E1).lt g5)) (((E.ext E1).keep K5).ext E6).lt g10) ((((E.ext E1).keep K5).ext E6).keep K10).lt g13) ((((((E.ext E1).keep K5).ext E6).keep K10).keep K13).ext E15).lt g19) nin0))).keep K25 nin0)
  have f32 := (((((((((Fd.ext E1).keep K5 (ninS (Nat.ne_of_lt (Nat.lt_of_lt_of_le E.lt (Nat.le_of_eq gb1.symm))) nin0)).ext E6).keep K10 (ninS (Nat.ne_of_lt (Nat.lt_of_lt_of_le E.lt (Nat.le_of_eq gb1.symm))) (ninS (Nat.ne_of_lt (Nat.lt_of_lt_of_le (E.ext E1).lt g5)) nin0))).keep K13 (ninS (Nat.ne_of_lt (Nat.lt_of_lt_of_le E.lt (Nat.le_of_eq gb1.symm))) (ninS (own_ne2 (Nat.ne_of_lt (Nat.lt_of_lt_of_le (E.ext E1).lt g5)) (((E.ext E1).keep K5).ext E6).lt g10) nin0))).ext E15).keep K19 (ninS (Nat.ne_of_lt (Nat.lt_of_lt_of_le E.lt (Nat.le_of_eq gb1.symm))) (ninS (own_ne2 (own_ne2 (Nat.ne_of_lt (Nat.lt_of_lt_of_le (E.ext E1).lt g5)) (((E.ext E1).keep K5).ext E6).lt g10) ((((E.ext E1).keep K5).ext E6).keep K10).lt g13) nin0))).keep K23 (ninS (Nat.ne_of_lt (Nat.lt_of_lt_of_le E.lt (Nat.le_of_eq gb1.symm))) (ninS (own_ne2 (own_ne2 (own_ne2 (Nat.ne_of_lt (Nat.lt_of_lt_of_le (E.ext E1).lt g5)) (((E.ext E1).keep K5).ext E6).lt g10) ((((E.ext E1).keep K5).ext E6).keep K10).lt g13) ((((((E.ext E1).keep K5).ext E6).keep K10).keep K13).ext E15).lt g19) nin0))).keep K25 nin0)
  have f33 := (((((((((Fe.ext E1).keep K5 (ninS (Nat.ne_of_lt (Nat.lt_of_lt_of_le E.lt (Nat.le_of_eq gb1.symm))) nin0)).ext E6).keep K10 (ninS (Nat.ne_of_lt (Nat.lt_of_lt_of_le E.lt (Nat.le_of_eq gb1.symm))) (ninS (Nat.ne_of_lt (Nat.lt_of_lt_of_le (E.ext E1).lt g5)) nin0))).keep K13 (ninS (Nat.ne_of_lt (Nat.lt_of_lt_of_le E.lt (Nat.le_of_eq gb1.symm))) (ninS (own_ne2 (Nat.ne_of_lt (Nat.lt_of_lt_of_le (E.ext E1).lt g5)) (((E.ext E1).keep K5).ext E6).lt g10) nin0))).ext E15).keep K19 (ninS (Nat.ne_of_lt (Nat.lt_of_lt_of_le E.lt (Nat.le_of_eq gb1.symm))) (ninS (own_ne2 (own_ne2 (Nat.ne_of_lt (Nat.lt_of_lt_of_le (E.ext E1).lt g5)) (((E.ext E1).keep K5).ext E6).lt g10) ((((E.ext E1).keep K5).ext E6).keep K10).lt g13) nin0))).keep K23 (ninS (Nat.ne_of_lt (Nat.lt_of_lt_of_le E.lt (Nat.le_of_eq gb1.symm))) (ninS (own_ne2 (own_ne2 (own_ne2 (Nat.ne_of_lt (Nat.lt_of_lt_of_le (E.ext E1).lt g5)) (((E.ext E1).keep K5).ext E6).lt g10) ((((E.ext E1).keep K5).ext E6).keep K10).lt g13) ((((((E.ext E1).keep K5).ext E6).keep K10).keep K13).ext E15).lt g19) nin0))).keep K25 nin0)
  have f34 := (((((((((Fp.ext E1).keep K5 (ninS (Nat.ne_of_lt (Nat.lt_of_lt_of_le E.lt (Nat.le_of_eq gb1.symm))) nin0)).ext E6).keep K10 (ninS (Nat.ne_of_lt (Nat.lt_of_lt_of_le E.lt (Nat.le_of_eq gb1.symm))) (ninS (Nat.ne_of_lt (Nat.lt_of_lt_of_le (E.ext E1).lt g5)) nin0))).keep K13 (ninS (Nat.ne_of_lt (Nat.lt_of_lt_of_le E.lt (Nat.le_of_eq gb1.symm))) (ninS (own_ne2 (Nat.ne_of_lt (Nat.lt_of_lt_of_le (E.ext E1).lt g5)) (((E.ext E1).keep K5).ext E6).lt g10) nin0))).ext E15).keep K19 (ninS (Nat.ne_of_lt (Nat.lt_of_lt_of_le E.lt (Nat.le_of_eq gb1.symm))) (ninS (own_ne2 (own_ne2 (Nat.ne_of_lt (Nat.lt_of_lt_of_le (E.ext E1).lt g5)) (((E.ext E1).keep K5).ext E6).lt g10) ((((E.ext E1).keep K5).ext E6).keep K10).lt g13) nin0))).keep K23 (ninS (Nat.ne_of_lt (Nat.lt_of_lt_of_le E.lt (Nat.le_of_eq gb1.symm))) (ninS (own_ne2 (own_ne2 (own_ne2 (Nat.ne_of_lt (Nat.lt_of_lt_of_le (E.ext E1).lt g5)) (((E.ext E1).keep K5).ext E6).lt g10) ((((E.ext E1).keep K5).ext E6).keep K10).lt g13) ((((((E.ext E1).keep K5).ext E6).keep K10).keep K13).ext E15).lt g19) nin0))).keep K25 nin0)
  have f35 := (((((((((Fr_.ext E1).keep K5 (ninS (Nat.ne_of_lt (Nat.lt_of_lt_of_le E.lt (Nat.le_of_eq gb1.symm))) nin0)).ext E6).keep K10 (ninS (Nat.ne_of_lt (Nat.lt_of_lt_of_le E.lt (Nat.le_of_eq gb1.symm))) (ninS (Nat.ne_of_lt (Nat.lt_of_lt_of_le (E.ext E1).lt g5)) nin0))).keep K13 (ninS (Nat.ne_of_lt (Nat.lt_of_lt_of_le E.lt (Nat.le_of_eq gb1.symm))) (ninS (own_ne2 (Nat.ne_of_lt (Nat.lt_of_lt_of_le (E.ext E1).lt g5)) (((E.ext E1).keep K5).ext E6).lt g10) nin0))).ext E15).keep K19 (ninS (Nat.ne_of_lt (Nat.lt_of_lt_of_le E.lt (Nat.le_of_eq gb1.symm))) (ninS (own_ne2 (own_ne2 (Nat.ne_of_lt (Nat.lt_of_lt_of_le (E.ext E1).lt g5)) (((E.ext E1).keep K5).ext E6).lt g10) ((((E.ext E1).keep K5).ext E6).keep K10).lt g13) nin0))).keep K23 (ninS (Nat.ne_of_lt (Nat.lt_of_lt_of_le E.lt (Nat.le_of_eq gb1.symm))) (ninS (own_ne2 (own_ne2 (own_ne2 (Nat.ne_of_lt (Nat.lt_of_lt_of_le (E.ext E1).lt g5)) (((E.ext E1).keep K5).ext E6).lt g10) ((((E.ext E1).keep K5).ext E6).keep K10).lt g13) ((((((E.ext E1).keep K5).ext E6).keep K10).keep K13).ext E15).lt g19) nin0))).keep K25 nin0)
  refine o_specK X25 [(.ref r25)] (y' := ⟨"java/lang/Exception", "<init>", "(Ljava/lang/String;)V"⟩) (c_exc hw a r25 _ SUn SSe hEx hlt f27 ga f28 f29 f30 f31 f32 f33 f34 f35) (allS ⟨f27.lt, (Safe.exa X25.alike f27 (by decide) (by decide))⟩ all0) ⟨hK.1, hK.2.1⟩ rfl (w15 hw) (w16 hw) (w19 hw) (w18 hw) (by decide) dp20_1_37 (rest := []) rfl rfl (lenOf pd10 rfl) rfl (by decide) (lb rfl) (by decide) (by decide) (q := 40) rfl ?_
  intro v36 vm36 T36 h36 l36 X36 R36 q36
  obtain ⟨rfl, K36, Fm36, Fo36, Fq36⟩ := q36
  show Goes p e below _ T36 (mkF m 40 #[.val (.ref a), .val (.int (Int32.ofNat pp)), .val (.ref st)] [])
  refine o_aloadN X36 dp20_1_40 rfl rfl (q := 41) rfl ?_
  refine o_iloadN X36 dp20_1_41 rfl (q := 42) rfl ?_
  have f37 := (f27.keep K36)
  refine o_putF X36 Fo36 f37 ga (Safe.exa X36.alike f37 (by decide) (by decide)) (host := "") (Or.inl (w65 hw)) Via.refl (Or.inr ⟨(w66 hw), rfl, rfl⟩) (w10 hw) (ty := .int) (by decide) rfl rfl dp20_1_42 (q := 45) rfl ?_
  intro T38 h38 l38 X38 W38 R38 F38
  refine o_aloadN X38 dp20_1_45 rfl rfl (q := 46) rfl ?_
  refine o_aloadN X38 dp20_1_46 rfl rfl (q := 47) rfl ?_
  have f39 := (Fq36.other W38 (Or.inr (slot_ne (Or.inr (w68 hw)) (Or.inr (w66 hw)) (by decide) (t := (.object "java/lang/String")) (t' := .int) (by decide) (by decide))))
  have f40 := (f37.wr W38)
  refine o_putF X38 f39 f40 ga (Safe.exa X38.alike f40 (by decide) (by decide)) (host := "") (Or.inl (w67 hw)) Via.refl (Or.inr ⟨(w68 hw), rfl, rfl⟩) (w10 hw) (ty := (.object "java/lang/String")) (by decide) rfl rfl dp20_1_47 (q := 50) rfl ?_
  intro T41 h41 l41 X41 W41 R41 F41
  have sz42 := Nat.le_trans (Keep.refl h0 [a]).1 (Nat.le_of_eq gb1.symm)
  have k43 := Keep.ext (Keep.refl h0 [a]) E1
  have sz44 := Nat.le_trans k43.1 g5
  have k45 := Keep.trans k43 K5 (allS (Or.inr sz42) all0)
  have k46 := Keep.ext k45 E6
  have sz47 := own_ge2 k46.1 sz44 g10
  have k48 := Keep.trans k46 K10 (allS (Or.inr sz42) (allS (Or.inr sz44) all0))
  have sz49 := own_ge2 k48.1 sz47 g13
  have k50 := Keep.trans k48 K13 (allS (Or.inr sz42) (allS (Or.inr sz47) all0))
  have k51 := Keep.ext k50 E15
  have sz52 := own_ge2 k51.1 sz49 g19
  have k53 := Keep.trans k51 K19 (allS (Or.inr sz42) (allS (Or.inr sz49) all0))
  have sz54 := own_ge2 k53.1 sz52 g23
  have k55 := Keep.trans k53 K23 (allS (Or.inr sz42) (allS (Or.inr sz52) all0))
  have sz56 := Nat.le_trans k55.1 gr25
  have sz57 := Nat.le_trans k55.1 gb25
  have k58 := Keep.trans k55 K25 all0
  have k59 := Keep.trans k58 K36 (allS (Or.inl (by simp)) all0)
  have k60 := Keep.wr k59 W38 (Or.inl (by simp))
  have k61 := Keep.wr k60 W41 (Or.inl (by simp))
  have f62 := ((Fm36.other W38 (Or.inr (slot_ne (Or.inl (w60 hw)) (Or.inr (w66 hw)) (by decide) (t := (.object "java/lang/String")) (t' := .int) (by decide) (by decide)))).other W41 (Or.inr (slot_ne (Or.inl (w60 hw)) (Or.inr (w68 hw)) (by decide) (t := (.object "java/lang/String")) (t' := (.object "java/lang/String")) (by decide) (by decide))))
  have f63 := (((U25.keep K36 (ninS (Ne.symm (Nat.ne_of_lt (Nat.lt_of_lt_of_le ((((((((E.ext E1).keep K5).ext E6).keep K10).keep K13).ext E15).keep K19).keep K23).lt gr25))) nin0) (ninS (Ne.symm (Nat.ne_of_lt (Nat.lt_of_lt_of_le ((((((((E.ext E1).keep K5).ext E6).keep K10).keep K13).ext E15).keep K19).keep K23).lt gb25))) nin0)).other W38 (Ne.symm (Nat.ne_of_lt (Nat.lt_of_lt_of_le ((((((((E.ext E1).keep K5).ext E6).keep K10).keep K13).ext E15).keep K19).keep K23).lt gr25))) (Ne.symm (Nat.ne_of_lt (Nat.lt_of_lt_of_le ((((((((E.ext E1).keep K5).ext E6).keep K10).keep K13).ext E15).keep K19).keep K23).lt gb25)))).other W41 (Ne.symm (Nat.ne_of_lt (Nat.lt_of_lt_of_le ((((((((E.ext E1).keep K5).ext E6).keep K10).keep K13).ext E15).keep K19).keep K23).lt gr25))) (Ne.symm (Nat.ne_of_lt (Nat.lt_of_lt_of_le ((((((((E.ext E1).keep K5).ext E6).keep K10).keep K13).ext E15).keep K19).keep K23).lt gb25))))
  have f64 := (F38.other W41 (Or.inr (slot_ne (Or.inr (w66 hw)) (Or.inr (w68 hw)) (by decide) (t := .int) (t' := (.object "java/lang/String")) (by decide) (by decide))))
  exact o_ret X41 dp20_1_50 (fun Sf hSf => ⟨rfl, k61, r25, b25, kb25, f62, f63, f64⟩) (by decide) (by decide)
theorem c_gm {l : Launch} {Z : State} {a0 : Array Value} (hw : W a0 Z) (a mr : Addr) (h0 : Heap) (Fm : Fld Z h0 a "java/lang/Throwable" "detailMessage" "Ljava/lang/String;" (.ref mr)) :
    Con l Z EL0 (⟨"java/lang/Throwable", "getMessage", "()Ljava/lang/String;"⟩ : MethodName) jdk_78_method_6_code 1 (some (.object "java/lang/String")) ({ frames := 0, cells := 0, slots := 0, locals := 0 } : Room) #[(.ref a)] h0 [] (fun v h' Sf => v = some (.ref mr) ∧ h' = h0) := by
  refine Con.intro (plainFor_of_name pn7) ?_
  intro p e s m below meth c T X hss
  refine Goes.cast (g' := mkF m 0 #[.val (.ref a)] []) (by first | (simp [entryFrame, mkF, argsToLocals, Value.category]; done) | rfl) ?_
  refine o_aloadN X d78_6_0 rfl rfl (q := 1) rfl ?_
  refine o_getF X Fm (host := "") (Or.inl (w64 hw)) Via.refl d78_6_1 (q := 4) rfl ?_
  intro T1 X1
  exact o_retR X1 d78_6_4 rfl rfl rfl (fun Sf hSf => ⟨rfl, rfl⟩) (by decide) (by decide)
theorem c_rep0 {l : Launch} {Z : State} {a0 : Array Value} (hw : W a0 Z) (a mr mb : Addr) (mm : List Int32) (h0 : Heap) {zc : Int32} (O2 : Sta Z Z.heap "java/lang/String" "COMPACT_STRINGS" "Z" (.int zc)) (P5 : ¬ zc = 0) (E : Exa Z h0 a "com/example/parkville/parkville/QueryException") (Fm : Fld Z h0 a "java/lang/Throwable" "detailMessage" "Ljava/lang/String;" (.ref mr)) (Fp : Fld Z h0 a "com/example/parkville/parkville/QueryException" "position" "I" (.int (0 : Int32))) {mk : ClassId} (L : LS Z h0 mr mb mk mm) (hmm : mm.length ≤ 34) :
    Con l Z EL0 (⟨"com/example/parkville/parkville/QueryException", "report", "()Ljava/lang/String;"⟩ : MethodName) prog_20_method_4_code 1 (some (.object "java/lang/String")) ({ frames := 6, cells := 11, slots := 404, locals := 91 } : Room) #[(.ref a)] h0 [] (fun v h' Sf => ∃ (r b : Addr) (kb : ClassId), v = some (.ref r) ∧ Keep h0 h' [] ∧ LS Z h' r b kb (repL qCS mm)) := by
  refine Con.intro (plainFor_of_name pn9) ?_
  intro p e s m below meth c T X hss
  refine Goes.cast (g' := mkF m 0 #[.val (.ref a)] []) (by first | (simp [entryFrame, mkF, argsToLocals, Value.category]; done) | rfl) ?_
  refine o_new X (w74 hw) (w75 hw) (w76 hw) dp20_4_0 (by decide) (by decide) (q := 3) rfl ?_
  intro T1 h1 b1 gb1 X1 E1 R1 S1 A1 D1 g0_b1
  have f2 : Fld Z h1 b1 "java/lang/AbstractStringBuilder" "value" "[B" .null := D1 (Or.inl (w89 hw)) (ty := (.array .byte)) (by decide)
  have f3 : Fld Z h1 b1 "java/lang/AbstractStringBuilder" "coder" "B" (.int (0 : Int32)) := D1 (Or.inl (w91 hw)) (ty := .byte) (by decide)
  have f4 : Fld Z h1 b1 "java/lang/AbstractStringBuilder" "count" "I" (.int (0 : Int32)) := D1 (Or.inl (w117 hw)) (ty := .int) (by decide)
  refine o_dup X1 dp20_4_3 rfl (q := 4) rfl ?_
  refine o_spec X1 [] (y' := ⟨"java/lang/StringBuilder", "<init>", "()V"⟩) (c_sb hw b1 _ O2 P5 A1 g0_b1 f2 f3 f4) all0 rfl (w77 hw) (w78 hw) (w79 hw) (w76 hw) (by decide) dp20_4_4 (rest := [(.ref b1)]) rfl rfl (lenOf pd22 rfl) rfl (by decide) (lb rfl) (by decide) (by decide) (q := 7) rfl ?_
  intro v5 vm5 T5 h5 l5 X5 R5 q5
  obtain ⟨rfl, K5, va5, kv5, g5, s5, B5⟩ := q5
  show Goes p e below _ T5 (mkF m 7 #[.val (.ref a)] [(.ref b1)])
  refine o_ldcS X5 (n := 44) (vs := [(.int (113 : Int32)), (.int (117 : Int32)), (.int (101 : Int32)), (.int (114 : Int32)), (.int (121 : Int32)), (.int (32 : Int32)), (.int (101 : Int32)), (.int (114 : Int32)), (.int (114 : Int32)), (.int (111 : Int32)), (.int (114 : Int32))]) (z := 11) (w92 hw) (wS0 hw) (List.mem_of_getElem? (i := 2) rfl) ⟨by decide, by decide⟩ (by decide) (by decide) dp20_4_7 (by decide) (by decide) (by decide) (by decide) (q := 9) rfl ?_
  intro vm6 T6 h6 a6 b6 k6 X6 E6 R6 A6 Fc6 Fv6 V6 ne6
  have lc7 : LS Z _ a6 b6 k6 [(113 : Int32), (117 : Int32), (101 : Int32), (114 : Int32), (121 : Int32), (32 : Int32), (101 : Int32), (114 : Int32), (114 : Int32), (111 : Int32), (114 : Int32)] := ⟨A6, Fc6, Fv6, (by rw [show (([(113 : Int32), (117 : Int32), (101 : Int32), (114 : Int32), (121 : Int32), (32 : Int32), (101 : Int32), (114 : Int32), (114 : Int32), (111 : Int32), (114 : Int32)] : List Int32).map (fun c => c.toInt8.toInt32)).map Value.int = [(.int (113 : Int32)), (.int (117 : Int32)), (.int (101 : Int32)), (.int (114 : Int32)), (.int (121 : Int32)), (.int (32 : Int32)), (.int (101 : Int32)), (.int (114 : Int32)), (.int (114 : Int32)), (.int (111 : Int32)), (.int (114 : Int32))] from by decide]; exact V6), by decide, by decide⟩
  have lq8 : LS Z _ a6 b6 k6 qER := lc7
  have f9 := (B5.ext E6)
  have f11 := (CHr.safe R6 (B5.vx.lt) s5)
  have f12 := ((A1.keep K5).ext E6)
  refine o_virt X6 [(.ref a6)] (y' := ⟨"java/lang/StringBuilder", "append", "(Ljava/lang/String;)Ljava/lang/StringBuilder;"⟩) f12 (c_sba hw b1 va5 a6 b6 16 ([] : List Int32) qER _ O2 P5 f9 g0_b1 (Nat.le_trans X1.size g5) (Nat.ne_of_lt (Nat.lt_of_lt_of_le A1.lt g5)) lq8 (Ne.symm (ne6 _ (CHr.safe R6 (B5.lt) (CHr.safe R5 (A1.lt) S1))).1) (Ne.symm (ne6 _ (CHr.safe R6 (B5.vx.lt) s5)).1) (Ne.symm (ne6 _ (CHr.safe R6 (B5.lt) (CHr.safe R5 (A1.lt) S1))).2) (Ne.symm (ne6 _ (CHr.safe R6 (B5.vx.lt) s5)).2) (by decide) (own_nc80 (Or.inl rfl) (by simp only [List.length_append, List.length_cons, List.length_nil, qER, qSP, qCS, qAT, msgP]; omega))) (allS ⟨(B5.vx.ext E6).lt, f11⟩ all0) (w93 hw) (w94 hw) (w96 hw) (w95 hw) (w97 hw) (w76 hw) (by decide) dp20_4_9 (rest := []) rfl rfl (lenOf pd23 rfl) rfl (by decide) (lb rfl) (by decide) (by decide) (q := 12) rfl ?_
  intro v10 vm10 T10 h10 l10 X10 R10 q10
  obtain ⟨rfl, K10, v210, k210, g10, s10, B10⟩ := q10
  show Goes p e below _ T10 (mkF m 12 #[.val (.ref a)] [(.ref b1)])
  obtain ⟨cp10, hcp10⟩ : ∃ z : Nat, nc 16 (List.length ([] : List Int32) + List.length qER) = z := ⟨_, rfl⟩
  rw [hcp10] at B10
  have hcb10 : cp10 ≤ 80 := hcp10 ▸ own_nc80 (Or.inl rfl) (by simp only [List.length_append, List.length_cons, List.length_nil, qER, qSP, qCS, qAT, msgP]; omega)
  have hcq10 : cp10 = 16 ∨ cp10 = 34 := hcp10 ▸ own_nc34 (Or.inl rfl) (by simp only [List.length_append, List.length_cons, List.length_nil, qER, qSP, qCS, qAT, msgP]; omega)
  have ge10 : Z.heap.size ≤ v210 := own_ge2 X6.size (Nat.le_trans X1.size g5) g10
  have nb10 : b1 ≠ v210 := own_ne2 (Nat.ne_of_lt (Nat.lt_of_lt_of_le A1.lt g5)) f9.lt g10
  refine o_aloadN X10 dp20_4_12 rfl rfl (q := 13) rfl ?_
  have f13 := ((((Fp.ext E1).keep K5 (ninS (Nat.ne_of_lt (Nat.lt_of_lt_of_le E.lt (Nat.le_of_eq gb1.symm))) nin0)).ext E6).keep K10 (ninS (Nat.ne_of_lt (Nat.lt_of_lt_of_le E.lt (Nat.le_of_eq gb1.symm))) (ninS (Nat.ne_of_lt (Nat.lt_of_lt_of_le (E.ext E1).lt g5)) nin0)))
  refine o_getF X10 f13 (host := "") (Or.inl (w65 hw)) Via.refl dp20_4_13 (q := 16) rfl ?_
  intro T14 X14
  refine o_ifY X14 dp20_4_16 (by decide) (by decide) (q := 24) (by decide) ?_
  refine o_ldcS X14 (n := 8) (vs := [(.int (58 : Int32)), (.int (32 : Int32))]) (z := 2) (w143 hw) (wS0 hw) (List.mem_of_getElem? (i := 1) rfl) ⟨by decide, by decide⟩ (by decide) (by decide) dp20_4_24 (by decide) (by decide) (by decide) (by decide) (q := 26) rfl ?_
  intro vm15 T15 h15 a15 b15 k15 X15 E15 R15 A15 Fc15 Fv15 V15 ne15
  have lc16 : LS Z _ a15 b15 k15 [(58 : Int32), (32 : Int32)] := ⟨A15, Fc15, Fv15, (by rw [show (([(58 : Int32), (32 : Int32)] : List Int32).map (fun c => c.toInt8.toInt32)).map Value.int = [(.int (58 : Int32)), (.int (32 : Int32))] from by decide]; exact V15), by decide, by decide⟩
  have lq17 : LS Z _ a15 b15 k15 qCS := lc16
  have f18 := (B10.ext E15)
  have f20 := (CHr.safe R15 (B10.vx.lt) s10)
  have f21 := ((f12.keep K10).ext E15)
  refine o_virt X15 [(.ref a15)] (y' := ⟨"java/lang/StringBuilder", "append", "(Ljava/lang/String;)Ljava/lang/StringBuilder;"⟩) f21 (c_sba hw b1 v210 a15 b15 cp10 (([] : List Int32) ++ qER) qCS _ O2 P5 f18 g0_b1 ge10 nb10 lq17 (Ne.symm (ne15 _ (CHr.safe R15 (B10.lt) (CHr.safe R10 (f12.lt) (CHr.safe R6 (B5.lt) (CHr.safe R5 (A1.lt) S1))))).1) (Ne.symm (ne15 _ (CHr.safe R15 (B10.vx.lt) s10)).1) (Ne.symm (ne15 _ (CHr.safe R15 (B10.lt) (CHr.safe R10 (f12.lt) (CHr.safe R6 (B5.lt) (CHr.safe R5 (A1.lt) S1))))).2) (Ne.symm (ne15 _ (CHr.safe R15 (B10.vx.lt) s10)).2) (by omega) (own_nc80 hcq10 (by simp only [List.length_append, List.length_cons, List.length_nil, qER, qSP, qCS, qAT, msgP]; omega))) (allS ⟨(B10.vx.ext E15).lt, f20⟩ all0) (w93 hw) (w94 hw) (w96 hw) (w95 hw) (w97 hw) (w76 hw) (by decide) dp20_4_26 (rest := []) rfl rfl (lenOf pd23 rfl) rfl (by decide) (lb rfl) (by decide) (by decide) (q := 29) rfl ?_
  intro v19 vm19 T19 h19 l19 X19 R19 q19
  obtain ⟨rfl, K19, v219, k219, g19, s19, B19⟩ := q19
  show Goes p e below _ T19 (mkF m 29 #[.val (.ref a)] [(.ref b1)])
  obtain ⟨cp19, hcp19⟩ : ∃ z : Nat, nc cp10 (List.length (([] : List Int32) ++ qER) + List.length qCS) = z := ⟨_, rfl⟩
  rw [hcp19] at B19
  have hcb19 : cp19 ≤ 80 := hcp19 ▸ own_nc80 hcq10 (by simp only [List.length_append, List.length_cons, List.length_nil, qER, qSP, qCS, qAT, msgP]; omega)
  have hcq19 : cp19 = 16 ∨ cp19 = 34 := hcp19 ▸ own_nc34 hcq10 (by simp only [List.length_append, List.length_cons, List.length_nil, qER, qSP, qCS, qAT, msgP]; omega)
  have ge19 : Z.heap.size ≤ v219 := own_ge2 X15.size ge10 g19
  have nb19 : b1 ≠ v219 := own_ne2 nb10 f18.lt g19
  refine o_aloadN X19 dp20_4_29 rfl rfl (q := 30) rfl ?_
  have f22 := ((((((Fm.ext E1).keep K5 (ninS (Nat.ne_of_lt (Nat.lt_of_lt_of_le E.lt (Nat.le_of_eq gb1.symm))) nin0)).ext E6).keep K10 (ninS (Nat.ne_of_lt (Nat.lt_of_lt_of_le E.lt (Nat.le_of_eq gb1.symm))) (ninS (Nat.ne_of_lt (Nat.lt_of_lt_of_le (E.ext E1).lt g5)) nin0))).ext E15).keep K19 (ninS (Nat.ne_of_lt (Nat.lt_of_lt_of_le E.lt (Nat.le_of_eq gb1.symm))) (ninS (own_ne2 (Nat.ne_of_lt (Nat.lt_of_lt_of_le (E.ext E1).lt g5)) (((E.ext E1).keep K5).ext E6).lt g10) nin0)))
  have f24 := ((((((E.ext E1).keep K5).ext E6).keep K10).ext E15).keep K19)
  refine o_virtUp X19 [] (owner := "java/lang/Throwable") (z' := (⟨"com/example/parkville/parkville/QueryException", "getMessage", "()Ljava/lang/String;"⟩ : MethodName)) (y' := ⟨"java/lang/Throwable", "getMessage", "()Ljava/lang/String;"⟩) f24 (c_gm hw a mr _ f22) all0 (w144 hw) (w145 hw) (w146 hw) (by decide) (w148 hw) (w147 hw) (w149 hw) (w24 hw) (by decide) dp20_4_30 (rest := [(.ref b1)]) rfl rfl (lenOf pd25 rfl) rfl (by decide) (lb rfl) (by decide) (by decide) (q := 33) rfl ?_
  intro v23 vm23 T23 h23 l23 X23 R23 q23
  obtain ⟨rfl, e23⟩ := q23
  have e23 := e23.symm
  subst e23
  show Goes p e below _ T23 (mkF m 33 #[.val (.ref a)] [(.ref mr), (.ref b1)])
  have f25 := ((((((L.ext E1).keep K5 (ninS (Nat.ne_of_lt (Nat.lt_of_lt_of_le L.lt (Nat.le_of_eq gb1.symm))) nin0) (ninS (Nat.ne_of_lt (Nat.lt_of_lt_of_le L.2.2.2.1.lt (Nat.le_of_eq gb1.symm))) nin0)).ext E6).keep K10 (ninS (Nat.ne_of_lt (Nat.lt_of_lt_of_le L.lt (Nat.le_of_eq gb1.symm))) (ninS (Nat.ne_of_lt (Nat.lt_of_lt_of_le (L.ext E1).lt g5)) nin0)) (ninS (Nat.ne_of_lt (Nat.lt_of_lt_of_le L.2.2.2.1.lt (Nat.le_of_eq gb1.symm))) (ninS (Nat.ne_of_lt (Nat.lt_of_lt_of_le (Nat.lt_of_lt_of_le L.2.2.2.1.lt E1.1) g5)) nin0))).ext E15).keep K19 (ninS (Nat.ne_of_lt (Nat.lt_of_lt_of_le L.lt (Nat.le_of_eq gb1.symm))) (ninS (own_ne2 (Nat.ne_of_lt (Nat.lt_of_lt_of_le (L.ext E1).lt g5)) (Nat.lt_of_lt_of_le (Nat.lt_of_lt_of_le (Nat.lt_of_lt_of_le L.lt E1.1) K5.1) E6.1) g10) nin0)) (ninS (Nat.ne_of_lt (Nat.lt_of_lt_of_le L.2.2.2.1.lt (Nat.le_of_eq gb1.symm))) (ninS (own_ne2 (Nat.ne_of_lt (Nat.lt_of_lt_of_le (Nat.lt_of_lt_of_le L.2.2.2.1.lt E1.1) g5)) (Nat.lt_of_lt_of_le (Nat.lt_of_lt_of_le (Nat.lt_of_lt_of_le L.2.2.2.1.lt E1.1) K5.1) E6.1) g10) nin0)))
  have f26 := B19
  have f28 := (CHr.safe R23 (B19.vx.lt) s19)
  have f29 := (f21.keep K19)
  refine o_virt X23 [(.ref mr)] (y' := ⟨"java/lang/StringBuilder", "append", "(Ljava/lang/String;)Ljava/lang/StringBuilder;"⟩) f29 (c_sba hw b1 v219 mr mb cp19 ((([] : List Int32) ++ qER) ++ qCS) mm _ O2 P5 f26 g0_b1 ge19 nb19 f25 (Nat.ne_of_lt (Nat.lt_of_lt_of_le L.lt (Nat.le_of_eq gb1.symm))) (own_ne2 (own_ne2 (Nat.ne_of_lt (Nat.lt_of_lt_of_le (L.ext E1).lt g5)) (Nat.lt_of_lt_of_le (Nat.lt_of_lt_of_le (Nat.lt_of_lt_of_le L.lt E1.1) K5.1) E6.1) g10) (Nat.lt_of_lt_of_le (Nat.lt_of_lt_of_le (Nat.lt_of_lt_of_le (Nat.lt_of_lt_of_le (Nat.lt_of_lt_of_le L.lt E1.1) K5.1) E6.1) K10.1) E15.1) g19) (Nat.ne_of_lt (Nat.lt_of_lt_of_le L.2.2.2.1.lt (Nat.le_of_eq gb1.symm))) (own_ne2 (own_ne2 (Nat.ne_of_lt (Nat.lt_of_lt_of_le (Nat.lt_of_lt_of_le L.2.2.2.1.lt E1.1) g5)) (Nat.lt_of_lt_of_le (Nat.lt_of_lt_of_le (Nat.lt_of_lt_of_le L.2.2.2.1.lt E1.1) K5.1) E6.1) g10) (Nat.lt_of_lt_of_le (Nat.lt_of_lt_of_le (Nat.lt_of_lt_of_le (Nat.lt_of_lt_of_le (Nat.lt_of_lt_of_le L.2.2.2.1.lt E1.1) K5.1) E6.1) K10.1) E15.1) g19) (by omega) (own_nc80 hcq19 (by simp only [List.length_append, List.length_cons, List.length_nil, qER, qSP, qCS, qAT, msgP]; omega))) (allS ⟨B19.vx.lt, f28⟩ all0) (w93 hw) (w94 hw) (w96 hw) (w95 hw) (w97 hw) (w76 hw) (by decide) dp20_4_33 (rest := []) rfl rfl (lenOf pd23 rfl) rfl (by decide) (lb rfl) (by decide) (by decide) (q := 36) rfl ?_
  intro v27 vm27 T27 h27 l27 X27 R27 q27
  obtain ⟨rfl, K27, v227, k227, g27, s27, B27⟩ := q27
  show Goes p e below _ T27 (mkF m 36 #[.val (.ref a)] [(.ref b1)])
  obtain ⟨cp27, hcp27⟩ : ∃ z : Nat, nc cp19 (List.length ((([] : List Int32) ++ qER) ++ qCS) + List.length mm) = z := ⟨_, rfl⟩
  rw [hcp27] at B27
  have hcb27 : cp27 ≤ 80 := hcp27 ▸ own_nc80 hcq19 (by simp only [List.length_append, List.length_cons, List.length_nil, qER, qSP, qCS, qAT, msgP]; omega)
  have ge27 : Z.heap.size ≤ v227 := own_ge2 X23.size ge19 g27
  have nb27 : b1 ≠ v227 := own_ne2 nb19 f26.lt g27
  have f31 := (f29.keep K27)
  refine o_virt X27 [] (y' := ⟨"java/lang/StringBuilder", "toString", "()Ljava/lang/String;"⟩) f31 (c_toS hw b1 v227 cp27 (((([] : List Int32) ++ qER) ++ qCS) ++ mm) _ O2 P5 B27 g0_b1 hcb27) all0 (w150 hw) (w151 hw) (w153 hw) (w152 hw) (w154 hw) (w76 hw) (by decide) dp20_4_36 (rest := []) rfl rfl (lenOf pd25 rfl) rfl (by decide) (lb rfl) (by decide) (by decide) (q := 39) rfl ?_
  intro v30 vm30 T30 h30 l30 X30 R30 q30
  obtain ⟨r30, b30, kb30, rfl, K30, gr30, gb30, U30⟩ := q30
  show Goes p e below _ T30 (mkF m 39 #[.val (.ref a)] [(.ref r30)])
  have U30 : LS Z _ r30 b30 kb30 (repL qCS mm) := U30
  have sz32 := Nat.le_trans (Keep.refl h0 []).1 (Nat.le_of_eq gb1.symm)
  have k33 := Keep.ext (Keep.refl h0 []) E1
  have sz34 := Nat.le_trans k33.1 g5
  have k35 := Keep.trans k33 K5 (allS (Or.inr sz32) all0)
  have k36 := Keep.ext k35 E6
  have sz37 := own_ge2 k36.1 sz34 g10
  have k38 := Keep.trans k36 K10 (allS (Or.inr sz32) (allS (Or.inr sz34) all0))
  have k39 := Keep.ext k38 E15
  have sz40 := own_ge2 k39.1 sz37 g19
  have k41 := Keep.trans k39 K19 (allS (Or.inr sz32) (allS (Or.inr sz37) all0))
  have sz42 := own_ge2 k41.1 sz40 g27
  have k43 := Keep.trans k41 K27 (allS (Or.inr sz32) (allS (Or.inr sz40) all0))
  have sz44 := Nat.le_trans k43.1 gr30
  have sz45 := Nat.le_trans k43.1 gb30
  have k46 := Keep.trans k43 K30 all0
  exact o_retR X30 dp20_4_39 rfl rfl rfl (fun Sf hSf => ⟨r30, b30, kb30, rfl, k46, U30⟩) (by decide) (by decide)
theorem c_repP {l : Launch} {Z : State} {a0 : Array Value} (hw : W a0 Z) (a mr mb : Addr) (pp : Nat) (mm : List Int32) (h0 : Heap) {zc : Int32} (O2 : Sta Z Z.heap "java/lang/String" "COMPACT_STRINGS" "Z" (.int zc)) (P5 : ¬ zc = 0) (E : Exa Z h0 a "com/example/parkville/parkville/QueryException") (Fm : Fld Z h0 a "java/lang/Throwable" "detailMessage" "Ljava/lang/String;" (.ref mr)) (Fp : Fld Z h0 a "com/example/parkville/parkville/QueryException" "position" "I" (.int (Int32.ofNat pp))) {mk : ClassId} (L : LS Z h0 mr mb mk mm) (hmm : mm.length ≤ 34) (hp : 0 < pp) (hp2 : pp < 2147483648) :
    Con l Z EL0 (⟨"com/example/parkville/parkville/QueryException", "report", "()Ljava/lang/String;"⟩ : MethodName) prog_20_method_4_code 1 (some (.object "java/lang/String")) ({ frames := 6, cells := 11, slots := 400, locals := 91 } : Room) #[(.ref a)] h0 [] (fun v h' Sf => ∃ (r b : Addr) (kb : ClassId), v = some (.ref r) ∧ Keep h0 h' [] ∧ LS Z h' r b kb (repL qSP mm)) := by
  refine Con.intro (plainFor_of_name pn9) ?_
  intro p e s m below meth c T X hss
  refine Goes.cast (g' := mkF m 0 #[.val (.ref a)] []) (by first | (simp [entryFrame, mkF, argsToLocals, Value.category]; done) | rfl) ?_
  refine o_new X (w74 hw) (w75 hw) (w76 hw) dp20_4_0 (by decide) (by decide) (q := 3) rfl ?_
  intro T1 h1 b1 gb1 X1 E1 R1 S1 A1 D1 g0_b1
  have f2 : Fld Z h1 b1 "java/lang/AbstractStringBuilder" "value" "[B" .null := D1 (Or.inl (w89 hw)) (ty := (.array .byte)) (by decide)
  have f3 : Fld Z h1 b1 "java/lang/AbstractStringBuilder" "coder" "B" (.int (0 : Int32)) := D1 (Or.inl (w91 hw)) (ty := .byte) (by decide)
  have f4 : Fld Z h1 b1 "java/lang/AbstractStringBuilder" "count" "I" (.int (0 : Int32)) := D1 (Or.inl (w117 hw)) (ty := .int) (by decide)
  refine o_dup X1 dp20_4_3 rfl (q := 4) rfl ?_
  refine o_spec X1 [] (y' := ⟨"java/lang/StringBuilder", "<init>", "()V"⟩) (c_sb hw b1 _ O2 P5 A1 g0_b1 f2 f3 f4) all0 rfl (w77 hw) (w78 hw) (w79 hw) (w76 hw) (by decide) dp20_4_4 (rest := [(.ref b1)]) rfl rfl (lenOf pd22 rfl) rfl (by decide) (lb rfl) (by decide) (by decide) (q := 7) rfl ?_
  intro v5 vm5 T5 h5 l5 X5 R5 q5
  obtain ⟨rfl, K5, va5, kv5, g5, s5, B5⟩ := q5
  show Goes p e below _ T5 (mkF m 7 #[.val (.ref a)] [(.ref b1)])
  refine o_ldcS X5 (n := 44) (vs := [(.int (113 : Int32)), (.int (117 : Int32)), (.int (101 : Int32)), (.int (114 : Int32)), (.int (121 : Int32)), (.int (32 : Int32)), (.int (101 : Int32)), (.int (114 : Int32)), (.int (114 : Int32)), (.int (111 : Int32)), (.int (114 : Int32))]) (z := 11) (w92 hw) (wS0 hw) (List.mem_of_getElem? (i := 2) rfl) ⟨by decide, by decide⟩ (by decide) (by decide) dp20_4_7 (by decide) (by decide) (by decide) (by decide) (q := 9) rfl ?_
  intro vm6 T6 h6 a6 b6 k6 X6 E6 R6 A6 Fc6 Fv6 V6 ne6
  have lc7 : LS Z _ a6 b6 k6 [(113 : Int32), (117 : Int32), (101 : Int32), (114 : Int32), (121 : Int32), (32 : Int32), (101 : Int32), (114 : Int32), (114 : Int32), (111 : Int32), (114 : Int32)] := ⟨A6, Fc6, Fv6, (by rw [show (([(113 : Int32), (117 : Int32), (101 : Int32), (114 : Int32), (121 : Int32), (32 : Int32), (101 : Int32), (114 : Int32), (114 : Int32), (111 : Int32), (114 : Int32)] : List Int32).map (fun c => c.toInt8.toInt32)).map Value.int = [(.int (113 : Int32)), (.int (117 : Int32)), (.int (101 : Int32)), (.int (114 : Int32)), (.int (121 : Int32)), (.int (32 : Int32)), (.int (101 : Int32)), (.int (114 : Int32)), (.int (114 : Int32)), (.int (111 : Int32)), (.int (114 : Int32))] from by decide]; exact V6), by decide, by decide⟩
  have lq8 : LS Z _ a6 b6 k6 qER := lc7
  have f9 := (B5.ext E6)
  have f11 := (CHr.safe R6 (B5.vx.lt) s5)
  have f12 := ((A1.keep K5).ext E6)
  refine o_virt X6 [(.ref a6)] (y' := ⟨"java/lang/StringBuilder", "append", "(Ljava/lang/String;)Ljava/lang/StringBuilder;"⟩) f12 (c_sba hw b1 va5 a6 b6 16 ([] : List Int32) qER _ O2 P5 f9 g0_b1 (Nat.le_trans X1.size g5) (Nat.ne_of_lt (Nat.lt_of_lt_of_le A1.lt g5)) lq8 (Ne.symm (ne6 _ (CHr.safe R6 (B5.lt) (CHr.safe R5 (A1.lt) S1))).1) (Ne.symm (ne6 _ (CHr.safe R6 (B5.vx.lt) s5)).1) (Ne.symm (ne6 _ (CHr.safe R6 (B5.lt) (CHr.safe R5 (A1.lt) S1))).2) (Ne.symm (ne6 _ (CHr.safe R6 (B5.vx.lt) s5)).2) (by decide) (own_nc80 (Or.inl rfl) (by simp only [List.length_append, List.length_cons, List.length_nil, qER, qSP, qCS, qAT, msgP]; omega))) (allS ⟨(B5.vx.ext E6).lt, f11⟩ all0) (w93 hw) (w94 hw) (w96 hw) (w95 hw) (w97 hw) (w76 hw) (by decide) dp20_4_9 (rest := []) rfl rfl (lenOf pd23 rfl) rfl (by decide) (lb rfl) (by decide) (by decide) (q := 12) rfl ?_
  intro v10 vm10 T10 h10 l10 X10 R10 q10
  obtain ⟨rfl, K10, v210, k210, g10, s10, B10⟩ := q10
  show Goes p e below _ T10 (mkF m 12 #[.val (.ref a)] [(.ref b1)])
  obtain ⟨cp10, hcp10⟩ : ∃ z : Nat, nc 16 (List.length ([] : List Int32) + List.length qER) = z := ⟨_, rfl⟩
  rw [hcp10] at B10
  have hcb10 : cp10 ≤ 80 := hcp10 ▸ own_nc80 (Or.inl rfl) (by simp only [List.length_append, List.length_cons, List.length_nil, qER, qSP, qCS, qAT, msgP]; omega)
  have hcq10 : cp10 = 16 ∨ cp10 = 34 := hcp10 ▸ own_nc34 (Or.inl rfl) (by simp only [List.length_append, List.length_cons, List.length_nil, qER, qSP, qCS, qAT, msgP]; omega)
  have ge10 : Z.heap.size ≤ v210 := own_ge2 X6.size (Nat.le_trans X1.size g5) g10
  have nb10 : b1 ≠ v210 := own_ne2 (Nat.ne_of_lt (Nat.lt_of_lt_of_le A1.lt g5)) f9.lt g10
  refine o_aloadN X10 dp20_4_12 rfl rfl (q := 13) rfl ?_
  have f13 := ((((Fp.ext E1).keep K5 (ninS (Nat.ne_of_lt (Nat.lt_of_lt_of_le E.lt (Nat.le_of_eq gb1.symm))) nin0)).ext E6).keep K10 (ninS (Nat.ne_of_lt (Nat.lt_of_lt_of_le E.lt (Nat.le_of_eq gb1.symm))) (ninS (Nat.ne_of_lt (Nat.lt_of_lt_of_le (E.ext E1).lt g5)) nin0)))
  refine o_getF X10 f13 (host := "") (Or.inl (w65 hw)) Via.refl dp20_4_13 (q := 16) rfl ?_
  intro T14 X14
  refine o_ifN X14 dp20_4_16 (tlt ((n_lt (a := 0) (by omega) (by omega)).mpr hp)).2.2.2 (q := 19) rfl ?_
  refine o_ldcS X14 (n := 4) (vs := [(.int (32 : Int32))]) (z := 1) (w284 hw) (wS0 hw) (List.mem_of_getElem? (i := 3) rfl) ⟨by decide, by decide⟩ (by decide) (by decide) dp20_4_19 (by decide) (by decide) (by decide) (by decide) (q := 21) rfl ?_
  intro vm15 T15 h15 a15 b15 k15 X15 E15 R15 A15 Fc15 Fv15 V15 ne15
  refine o_goto X15 dp20_4_21 (by decide) (q := 26) (by decide) ?_
  have lc16 : LS Z _ a15 b15 k15 [(32 : Int32)] := ⟨A15, Fc15, Fv15, (by rw [show (([(32 : Int32)] : List Int32).map (fun c => c.toInt8.toInt32)).map Value.int = [(.int (32 : Int32))] from by decide]; exact V15), by decide, by decide⟩
  have lq17 : LS Z _ a15 b15 k15 qSP := lc16
  have f18 := (B10.ext E15)
  have f20 := (CHr.safe R15 (B10.vx.lt) s10)
  have f21 := ((f12.keep K10).ext E15)
  refine o_virt X15 [(.ref a15)] (y' := ⟨"java/lang/StringBuilder", "append", "(Ljava/lang/String;)Ljava/lang/StringBuilder;"⟩) f21 (c_sba hw b1 v210 a15 b15 cp10 (([] : List Int32) ++ qER) qSP _ O2 P5 f18 g0_b1 ge10 nb10 lq17 (Ne.symm (ne15 _ (CHr.safe R15 (B10.lt) (CHr.safe R10 (f12.lt) (CHr.safe R6 (B5.lt) (CHr.safe R5 (A1.lt) S1))))).1) (Ne.symm (ne15 _ (CHr.safe R15 (B10.vx.lt) s10)).1) (Ne.symm (ne15 _ (CHr.safe R15 (B10.lt) (CHr.safe R10 (f12.lt) (CHr.safe R6 (B5.lt) (CHr.safe R5 (A1.lt) S1))))).2) (Ne.symm (ne15 _ (CHr.safe R15 (B10.vx.lt) s10)).2) (by omega) (own_nc80 hcq10 (by simp only [List.length_append, List.length_cons, List.length_nil, qER, qSP, qCS, qAT, msgP]; omega))) (allS ⟨(B10.vx.ext E15).lt, f20⟩ all0) (w93 hw) (w94 hw) (w96 hw) (w95 hw) (w97 hw) (w76 hw) (by decide) dp20_4_26 (rest := []) rfl rfl (lenOf pd23 rfl) rfl (by decide) (lb rfl) (by decide) (by decide) (q := 29) rfl ?_
  intro v19 vm19 T19 h19 l19 X19 R19 q19
  obtain ⟨rfl, K19, v219, k219, g19, s19, B19⟩ := q19
  show Goes p e below _ T19 (mkF m 29 #[.val (.ref a)] [(.ref b1)])
  obtain ⟨cp19, hcp19⟩ : ∃ z : Nat, nc cp10 (List.length (([] : List Int32) ++ qER) + List.length qSP) = z := ⟨_, rfl⟩
  rw [hcp19] at B19
  have hcb19 : cp19 ≤ 80 := hcp19 ▸ own_nc80 hcq10 (by simp only [List.length_append, List.length_cons, List.length_nil, qER, qSP, qCS, qAT, msgP]; omega)
  have hcq19 : cp19 = 16 ∨ cp19 = 34 := hcp19 ▸ own_nc34 hcq10 (by simp only [List.length_append, List.length_cons, List.length_nil, qER, qSP, qCS, qAT, msgP]; omega)
  have ge19 : Z.heap.size ≤ v219 := own_ge2 X15.size ge10 g19
  have nb19 : b1 ≠ v219 := own_ne2 nb10 f18.lt g19
  refine o_aloadN X19 dp20_4_29 rfl rfl (q := 30) rfl ?_
  have f22 := ((((((Fm.ext E1).keep K5 (ninS (Nat.ne_of_lt (Nat.lt_of_lt_of_le E.lt (Nat.le_of_eq gb1.symm))) nin0)).ext E6).keep K10 (ninS (Nat.ne_of_lt (Nat.lt_of_lt_of_le E.lt (Nat.le_of_eq gb1.symm))) (ninS (Nat.ne_of_lt (Nat.lt_of_lt_of_le (E.ext E1).lt g5)) nin0))).ext E15).keep K19 (ninS (Nat.ne_of_lt (Nat.lt_of_lt_of_le E.lt (Nat.le_of_eq gb1.symm))) (ninS (own_ne2 (Nat.ne_of_lt (Nat.lt_of_lt_of_le (E.ext E1).lt g5)) (((E.ext E1).keep K5).ext E6).lt g10) nin0)))
  have f24 := ((((((E.ext E1).keep K5).ext E6).keep K10).ext E15).keep K19)
  refine o_virtUp X19 [] (owner := "java/lang/Throwable") (z' := (⟨"com/example/parkville/parkville/QueryException", "getMessage", "()Ljava/lang/String;"⟩ : MethodName)) (y' := ⟨"java/lang/Throwable", "getMessage", "()Ljava/lang/String;"⟩) f24 (c_gm hw a mr _ f22) all0 (w144 hw) (w145 hw) (w146 hw) (by decide) (w148 hw) (w147 hw) (w149 hw) (w24 hw) (by decide) dp20_4_30 (rest := [(.ref b1)]) rfl rfl (lenOf pd25 rfl) rfl (by decide) (lb rfl) (by decide) (by decide) (q := 33) rfl ?_
  intro v23 vm23 T23 h23 l23 X23 R23 q23
  obtain ⟨rfl, e23⟩ := q23
  have e23 := e23.symm
  subst e23
  show Goes p e below _ T23 (mkF m 33 #[.val (.ref a)] [(.ref mr), (.ref b1)])
  have f25 := ((((((L.ext E1).keep K5 (ninS (Nat.ne_of_lt (Nat.lt_of_lt_of_le L.lt (Nat.le_of_eq gb1.symm))) nin0) (ninS (Nat.ne_of_lt (Nat.lt_of_lt_of_le L.2.2.2.1.lt (Nat.le_of_eq gb1.symm))) nin0)).ext E6).keep K10 (ninS (Nat.ne_of_lt (Nat.lt_of_lt_of_le L.lt (Nat.le_of_eq gb1.symm))) (ninS (Nat.ne_of_lt (Nat.lt_of_lt_of_le (L.ext E1).lt g5)) nin0)) (ninS (Nat.ne_of_lt (Nat.lt_of_lt_of_le L.2.2.2.1.lt (Nat.le_of_eq gb1.symm))) (ninS (Nat.ne_of_lt (Nat.lt_of_lt_of_le (Nat.lt_of_lt_of_le L.2.2.2.1.lt E1.1) g5)) nin0))).ext E15).keep K19 (ninS (Nat.ne_of_lt (Nat.lt_of_lt_of_le L.lt (Nat.le_of_eq gb1.symm))) (ninS (own_ne2 (Nat.ne_of_lt (Nat.lt_of_lt_of_le (L.ext E1).lt g5)) (Nat.lt_of_lt_of_le (Nat.lt_of_lt_of_le (Nat.lt_of_lt_of_le L.lt E1.1) K5.1) E6.1) g10) nin0)) (ninS (Nat.ne_of_lt (Nat.lt_of_lt_of_le L.2.2.2.1.lt (Nat.le_of_eq gb1.symm))) (ninS (own_ne2 (Nat.ne_of_lt (Nat.lt_of_lt_of_le (Nat.lt_of_lt_of_le L.2.2.2.1.lt E1.1) g5)) (Nat.lt_of_lt_of_le (Nat.lt_of_lt_of_le (Nat.lt_of_lt_of_le L.2.2.2.1.lt E1.1) K5.1) E6.1) g10) nin0)))
  have f26 := B19
  have f28 := (CHr.safe R23 (B19.vx.lt) s19)
  have f29 := (f21.keep K19)
  refine o_virt X23 [(.ref mr)] (y' := ⟨"java/lang/StringBuilder", "append", "(Ljava/lang/String;)Ljava/lang/StringBuilder;"⟩) f29 (c_sba hw b1 v219 mr mb cp19 ((([] : List Int32) ++ qER) ++ qSP) mm _ O2 P5 f26 g0_b1 ge19 nb19 f25 (Nat.ne_of_lt (Nat.lt_of_lt_of_le L.lt (Nat.le_of_eq gb1.symm))) (own_ne2 (own_ne2 (Nat.ne_of_lt (Nat.lt_of_lt_of_le (L.ext E1).lt g5)) (Nat.lt_of_lt_of_le (Nat.lt_of_lt_of_le (Nat.lt_of_lt_of_le L.lt E1.1) K5.1) E6.1) g10) (Nat.lt_of_lt_of_le (Nat.lt_of_lt_of_le (Nat.lt_of_lt_of_le (Nat.lt_of_lt_of_le (Nat.lt_of_lt_of_le L.lt E1.1) K5.1) E6.1) K10.1) E15.1) g19) (Nat.ne_of_lt (Nat.lt_of_lt_of_le L.2.2.2.1.lt (Nat.le_of_eq gb1.symm))) (own_ne2 (own_ne2 (Nat.ne_of_lt (Nat.lt_of_lt_of_le (Nat.lt_of_lt_of_le L.2.2.2.1.lt E1.1) g5)) (Nat.lt_of_lt_of_le (Nat.lt_of_lt_of_le (Nat.lt_of_lt_of_le L.2.2.2.1.lt E1.1) K5.1) E6.1) g10) (Nat.lt_of_lt_of_le (Nat.lt_of_lt_of_le (Nat.lt_of_lt_of_le (Nat.lt_of_lt_of_le (Nat.lt_of_lt_of_le L.2.2.2.1.lt E1.1) K5.1) E6.1) K10.1) E15.1) g19) (by omega) (own_nc80 hcq19 (by simp only [List.length_append, List.length_cons, List.length_nil, qER, qSP, qCS, qAT, msgP]; omega))) (allS ⟨B19.vx.lt, f28⟩ all0) (w93 hw) (w94 hw) (w96 hw) (w95 hw) (w97 hw) (w76 hw) (by decide) dp20_4_33 (rest := []) rfl rfl (lenOf pd23 rfl) rfl (by decide) (lb rfl) (by decide) (by decide) (q := 36) rfl ?_
  intro v27 vm27 T27 h27 l27 X27 R27 q27
  obtain ⟨rfl, K27, v227, k227, g27, s27, B27⟩ := q27
  show Goes p e below _ T27 (mkF m 36 #[.val (.ref a)] [(.ref b1)])
  obtain ⟨cp27, hcp27⟩ : ∃ z : Nat, nc cp19 (List.length ((([] : List Int32) ++ qER) ++ qSP) + List.length mm) = z := ⟨_, rfl⟩
  rw [hcp27] at B27
  have hcb27 : cp27 ≤ 80 := hcp27 ▸ own_nc80 hcq19 (by simp only [List.length_append, List.length_cons, List.length_nil, qER, qSP, qCS, qAT, msgP]; omega)
  have ge27 : Z.heap.size ≤ v227 := own_ge2 X23.size ge19 g27
  have nb27 : b1 ≠ v227 := own_ne2 nb19 f26.lt g27
  have f31 := (f29.keep K27)
  refine o_virt X27 [] (y' := ⟨"java/lang/StringBuilder", "toString", "()Ljava/lang/String;"⟩) f31 (c_toS hw b1 v227 cp27 (((([] : List Int32) ++ qER) ++ qSP) ++ mm) _ O2 P5 B27 g0_b1 hcb27) all0 (w150 hw) (w151 hw) (w153 hw) (w152 hw) (w154 hw) (w76 hw) (by decide) dp20_4_36 (rest := []) rfl rfl (lenOf pd25 rfl) rfl (by decide) (lb rfl) (by decide) (by decide) (q := 39) rfl ?_
  intro v30 vm30 T30 h30 l30 X30 R30 q30
  obtain ⟨r30, b30, kb30, rfl, K30, gr30, gb30, U30⟩ := q30
  show Goes p e below _ T30 (mkF m 39 #[.val (.ref a)] [(.ref r30)])
  have U30 : LS Z _ r30 b30 kb30 (repL qSP mm) := U30
  have sz32 := Nat.le_trans (Keep.refl h0 []).1 (Nat.le_of_eq gb1.symm)
  have k33 := Keep.ext (Keep.refl h0 []) E1
  have sz34 := Nat.le_trans k33.1 g5
  have k35 := Keep.trans k33 K5 (allS (Or.inr sz32) all0)
  have k36 := Keep.ext k35 E6
  have sz37 := own_ge2 k36.1 sz34 g10
  have k38 := Keep.trans k36 K10 (allS (Or.inr sz32) (allS (Or.inr sz34) all0))
  have k39 := Keep.ext k38 E15
  have sz40 := own_ge2 k39.1 sz37 g19
  have k41 := Keep.trans k39 K19 (allS (Or.inr sz32) (allS (Or.inr sz37) all0))
  have sz42 := own_ge2 k41.1 sz40 g27
  have k43 := Keep.trans k41 K27 (allS (Or.inr sz32) (allS (Or.inr sz40) all0))
  have sz44 := Nat.le_trans k43.1 gr30
  have sz45 := Nat.le_trans k43.1 gb30
  have k46 := Keep.trans k43 K30 all0
  exact o_retR X30 dp20_4_39 rfl rfl rfl (fun Sf hSf => ⟨r30, b30, kb30, rfl, k46, U30⟩) (by decide) (by decide)
theorem c_dig {l : Launch} {Z : State} {a0 : Array Value} (hw : W a0 Z) (pp : Nat) (h0 : Heap) (hp : 0 < pp) (hp2 : pp < 2147483648) :
    Con l Z EL0 (⟨"com/example/parkville/parkville/QueryExceptionReportPinLaw", "digits", "(I)I"⟩ : MethodName) method_7_code 1 (some .int) ({ frames := 0, cells := 0, slots := 0, locals := 0 } : Room) #[(.int (Int32.ofNat pp))] h0 [] (fun v h' Sf => ∃ d : Nat, v = some (.int (Int32.ofNat d)) ∧ h' = h0 ∧ (dg pp).length = d) := by
  refine Con.intro (plainFor_of_name pn10) ?_
  intro p e s m below meth c T X hss
  refine Goes.cast (g' := mkF m 0 #[.val (.int (Int32.ofNat pp))] []) (by first | (simp [entryFrame, mkF, argsToLocals, Value.category]; done) | rfl) ?_
  refine o_iloadN X dm7_0 rfl (q := 1) rfl ?_
  refine o_bipush X dm7_1 (w := 10) rfl (q := 3) rfl ?_
  by_cases hc3 : (Int32.ofNat pp) < (10 : Int32)
  · refine o_icmpN X dm7_3 (tlt hc3).2.1 (q := 6) rfl ?_
    refine o_iconst X dm7_6 (w := 1) rfl (q := 7) rfl ?_
    have q1 : pp < 10 := (n_lt (a := pp) (b := 10) (by omega) (by omega)).mp hc3
    exact o_retI X dm7_7 (fun Sf hSf => ⟨1, rfl, rfl, own_dgl1 (by omega) (by omega)⟩) (by decide) (by decide)
  · refine o_icmpY X dm7_3 (flt hc3).2.1 (by decide) (q := 8) (by decide) ?_
    refine o_iloadN X dm7_8 rfl (q := 9) rfl ?_
    refine o_bipush X dm7_9 (w := 100) rfl (q := 11) rfl ?_
    by_cases hc11 : (Int32.ofNat pp) < (100 : Int32)
    · refine o_icmpN X dm7_11 (tlt hc11).2.1 (q := 14) rfl ?_
      refine o_iconst X dm7_14 (w := 2) rfl (q := 15) rfl ?_
      have q2 : ¬ pp < 10 := fun q => hc3 ((n_lt (a := pp) (b := 10) (by omega) (by omega)).mpr q)
      have q3 : pp < 100 := (n_lt (a := pp) (b := 100) (by omega) (by omega)).mp hc11
      exact o_retI X dm7_15 (fun Sf hSf => ⟨2, rfl, rfl, own_dgl2 (by omega) (by omega)⟩) (by decide) (by decide)
    · refine o_icmpY X dm7_11 (flt hc11).2.1 (by decide) (q := 16) (by decide) ?_
      refine o_iloadN X dm7_16 rfl (q := 17) rfl ?_
      refine o_sipush X dm7_17 (w := 1000) rfl (q := 20) rfl ?_
      by_cases hc20 : (Int32.ofNat pp) < (1000 : Int32)
      · refine o_icmpN X dm7_20 (tlt hc20).2.1 (q := 23) rfl ?_
        refine o_iconst X dm7_23 (w := 3) rfl (q := 24) rfl ?_
        have q4 : ¬ pp < 10 := fun q => hc3 ((n_lt (a := pp) (b := 10) (by omega) (by omega)).mpr q)
        have q5 : ¬ pp < 100 := fun q => hc11 ((n_lt (a := pp) (b := 100) (by omega) (by omega)).mpr q)
        have q6 : pp < 1000 := (n_lt (a := pp) (b := 1000) (by omega) (by omega)).mp hc20
        exact o_retI X dm7_24 (fun Sf hSf => ⟨3, rfl, rfl, own_dgl3 (by omega) (by omega)⟩) (by decide) (by decide)
      · refine o_icmpY X dm7_20 (flt hc20).2.1 (by decide) (q := 25) (by decide) ?_
        refine o_iloadN X dm7_25 rfl (q := 26) rfl ?_
        refine o_sipush X dm7_26 (w := 10000) rfl (q := 29) rfl ?_
        by_cases hc29 : (Int32.ofNat pp) < (10000 : Int32)
        · refine o_icmpN X dm7_29 (tlt hc29).2.1 (q := 32) rfl ?_
          refine o_iconst X dm7_32 (w := 4) rfl (q := 33) rfl ?_
          have q7 : ¬ pp < 10 := fun q => hc3 ((n_lt (a := pp) (b := 10) (by omega) (by omega)).mpr q)
          have q8 : ¬ pp < 100 := fun q => hc11 ((n_lt (a := pp) (b := 100) (by omega) (by omega)).mpr q)
          have q9 : ¬ pp < 1000 := fun q => hc20 ((n_lt (a := pp) (b := 1000) (by omega) (by omega)).mpr q)
          have q10 : pp < 10000 := (n_lt (a := pp) (b := 10000) (by omega) (by omega)).mp hc29
          exact o_retI X dm7_33 (fun Sf hSf => ⟨4, rfl, rfl, own_dgl4 (by omega) (by omega)⟩) (by decide) (by decide)
        · refine o_icmpY X dm7_29 (flt hc29).2.1 (by decide) (q := 34) (by decide) ?_
          refine o_iloadN X dm7_34 rfl (q := 35) rfl ?_
          refine o_ldcI X (w293 hw) dm7_35 (q := 37) rfl ?_
          by_cases hc37 : (Int32.ofNat pp) < (100000 : Int32)
          · refine o_icmpN X dm7_37 (tlt hc37).2.1 (q := 40) rfl ?_
            refine o_iconst X dm7_40 (w := 5) rfl (q := 41) rfl ?_
            have q11 : ¬ pp < 10 := fun q => hc3 ((n_lt (a := pp) (b := 10) (by omega) (by omega)).mpr q)
            have q12 : ¬ pp < 100 := fun q => hc11 ((n_lt (a := pp) (b := 100) (by omega) (by omega)).mpr q)
            have q13 : ¬ pp < 1000 := fun q => hc20 ((n_lt (a := pp) (b := 1000) (by omega) (by omega)).mpr q)
            have q14 : ¬ pp < 10000 := fun q => hc29 ((n_lt (a := pp) (b := 10000) (by omega) (by omega)).mpr q)
            have q15 : pp < 100000 := (n_lt (a := pp) (b := 100000) (by omega) (by omega)).mp hc37
            exact o_retI X dm7_41 (fun Sf hSf => ⟨5, rfl, rfl, own_dgl5 (by omega) (by omega)⟩) (by decide) (by decide)
          · refine o_icmpY X dm7_37 (flt hc37).2.1 (by decide) (q := 42) (by decide) ?_
            refine o_iloadN X dm7_42 rfl (q := 43) rfl ?_
            refine o_ldcI X (w294 hw) dm7_43 (q := 45) rfl ?_
            by_cases hc45 : (Int32.ofNat pp) < (1000000 : Int32)
            · refine o_icmpN X dm7_45 (tlt hc45).2.1 (q := 48) rfl ?_
              refine o_bipush X dm7_48 (w := 6) rfl (q := 50) rfl ?_
              have q16 : ¬ pp < 10 := fun q => hc3 ((n_lt (a := pp) (b := 10) (by omega) (by omega)).mpr q)
              have q17 : ¬ pp < 100 := fun q => hc11 ((n_lt (a := pp) (b := 100) (by omega) (by omega)).mpr q)
              have q18 : ¬ pp < 1000 := fun q => hc20 ((n_lt (a := pp) (b := 1000) (by omega) (by omega)).mpr q)
              have q19 : ¬ pp < 10000 := fun q => hc29 ((n_lt (a := pp) (b := 10000) (by omega) (by omega)).mpr q)
              have q20 : ¬ pp < 100000 := fun q => hc37 ((n_lt (a := pp) (b := 100000) (by omega) (by omega)).mpr q)
              have q21 : pp < 1000000 := (n_lt (a := pp) (b := 1000000) (by omega) (by omega)).mp hc45
              exact o_retI X dm7_50 (fun Sf hSf => ⟨6, rfl, rfl, own_dgl6 (by omega) (by omega)⟩) (by decide) (by decide)
            · refine o_icmpY X dm7_45 (flt hc45).2.1 (by decide) (q := 51) (by decide) ?_
              refine o_iloadN X dm7_51 rfl (q := 52) rfl ?_
              refine o_ldcI X (w295 hw) dm7_52 (q := 54) rfl ?_
              by_cases hc54 : (Int32.ofNat pp) < (10000000 : Int32)
              · refine o_icmpN X dm7_54 (tlt hc54).2.1 (q := 57) rfl ?_
                refine o_bipush X dm7_57 (w := 7) rfl (q := 59) rfl ?_
                have q22 : ¬ pp < 10 := fun q => hc3 ((n_lt (a := pp) (b := 10) (by omega) (by omega)).mpr q)
                have q23 : ¬ pp < 100 := fun q => hc11 ((n_lt (a := pp) (b := 100) (by omega) (by omega)).mpr q)
                have q24 : ¬ pp < 1000 := fun q => hc20 ((n_lt (a := pp) (b := 1000) (by omega) (by omega)).mpr q)
                have q25 : ¬ pp < 10000 := fun q => hc29 ((n_lt (a := pp) (b := 10000) (by omega) (by omega)).mpr q)
                have q26 : ¬ pp < 100000 := fun q => hc37 ((n_lt (a := pp) (b := 100000) (by omega) (by omega)).mpr q)
                have q27 : ¬ pp < 1000000 := fun q => hc45 ((n_lt (a := pp) (b := 1000000) (by omega) (by omega)).mpr q)
                have q28 : pp < 10000000 := (n_lt (a := pp) (b := 10000000) (by omega) (by omega)).mp hc54
                exact o_retI X dm7_59 (fun Sf hSf => ⟨7, rfl, rfl, own_dgl7 (by omega) (by omega)⟩) (by decide) (by decide)
              · refine o_icmpY X dm7_54 (flt hc54).2.1 (by decide) (q := 60) (by decide) ?_
                refine o_iloadN X dm7_60 rfl (q := 61) rfl ?_
                refine o_ldcI X (w296 hw) dm7_61 (q := 63) rfl ?_
                by_cases hc63 : (Int32.ofNat pp) < (100000000 : Int32)
                · refine o_icmpN X dm7_63 (tlt hc63).2.1 (q := 66) rfl ?_
                  refine o_bipush X dm7_66 (w := 8) rfl (q := 68) rfl ?_
                  have q29 : ¬ pp < 10 := fun q => hc3 ((n_lt (a := pp) (b := 10) (by omega) (by omega)).mpr q)
                  have q30 : ¬ pp < 100 := fun q => hc11 ((n_lt (a := pp) (b := 100) (by omega) (by omega)).mpr q)
                  have q31 : ¬ pp < 1000 := fun q => hc20 ((n_lt (a := pp) (b := 1000) (by omega) (by omega)).mpr q)
                  have q32 : ¬ pp < 10000 := fun q => hc29 ((n_lt (a := pp) (b := 10000) (by omega) (by omega)).mpr q)
                  have q33 : ¬ pp < 100000 := fun q => hc37 ((n_lt (a := pp) (b := 100000) (by omega) (by omega)).mpr q)
                  have q34 : ¬ pp < 1000000 := fun q => hc45 ((n_lt (a := pp) (b := 1000000) (by omega) (by omega)).mpr q)
                  have q35 : ¬ pp < 10000000 := fun q => hc54 ((n_lt (a := pp) (b := 10000000) (by omega) (by omega)).mpr q)
                  have q36 : pp < 100000000 := (n_lt (a := pp) (b := 100000000) (by omega) (by omega)).mp hc63
                  exact o_retI X dm7_68 (fun Sf hSf => ⟨8, rfl, rfl, own_dgl8 (by omega) (by omega)⟩) (by decide) (by decide)
                · refine o_icmpY X dm7_63 (flt hc63).2.1 (by decide) (q := 69) (by decide) ?_
                  refine o_iloadN X dm7_69 rfl (q := 70) rfl ?_
                  refine o_ldcI X (w297 hw) dm7_70 (q := 72) rfl ?_
                  by_cases hc72 : (Int32.ofNat pp) < (1000000000 : Int32)
                  · refine o_icmpN X dm7_72 (tlt hc72).2.1 (q := 75) rfl ?_
                    refine o_bipush X dm7_75 (w := 9) rfl (q := 77) rfl ?_
                    have q37 : ¬ pp < 10 := fun q => hc3 ((n_lt (a := pp) (b := 10) (by omega) (by omega)).mpr q)
                    have q38 : ¬ pp < 100 := fun q => hc11 ((n_lt (a := pp) (b := 100) (by omega) (by omega)).mpr q)
                    have q39 : ¬ pp < 1000 := fun q => hc20 ((n_lt (a := pp) (b := 1000) (by omega) (by omega)).mpr q)
                    have q40 : ¬ pp < 10000 := fun q => hc29 ((n_lt (a := pp) (b := 10000) (by omega) (by omega)).mpr q)
                    have q41 : ¬ pp < 100000 := fun q => hc37 ((n_lt (a := pp) (b := 100000) (by omega) (by omega)).mpr q)
                    have q42 : ¬ pp < 1000000 := fun q => hc45 ((n_lt (a := pp) (b := 1000000) (by omega) (by omega)).mpr q)
                    have q43 : ¬ pp < 10000000 := fun q => hc54 ((n_lt (a := pp) (b := 10000000) (by omega) (by omega)).mpr q)
                    have q44 : ¬ pp < 100000000 := fun q => hc63 ((n_lt (a := pp) (b := 100000000) (by omega) (by omega)).mpr q)
                    have q45 : pp < 1000000000 := (n_lt (a := pp) (b := 1000000000) (by omega) (by omega)).mp hc72
                    exact o_retI X dm7_77 (fun Sf hSf => ⟨9, rfl, rfl, own_dgl9 (by omega) (by omega)⟩) (by decide) (by decide)
                  · refine o_icmpY X dm7_72 (flt hc72).2.1 (by decide) (q := 78) (by decide) ?_
                    refine o_bipush X dm7_78 (w := 10) rfl (q := 80) rfl ?_
                    have q46 : ¬ pp < 10 := fun q => hc3 ((n_lt (a := pp) (b := 10) (by omega) (by omega)).mpr q)
                    have q47 : ¬ pp < 100 := fun q => hc11 ((n_lt (a := pp) (b := 100) (by omega) (by omega)).mpr q)
                    have q48 : ¬ pp < 1000 := fun q => hc20 ((n_lt (a := pp) (b := 1000) (by omega) (by omega)).mpr q)
                    have q49 : ¬ pp < 10000 := fun q => hc29 ((n_lt (a := pp) (b := 10000) (by omega) (by omega)).mpr q)
                    have q50 : ¬ pp < 100000 := fun q => hc37 ((n_lt (a := pp) (b := 100000) (by omega) (by omega)).mpr q)
                    have q51 : ¬ pp < 1000000 := fun q => hc45 ((n_lt (a := pp) (b := 1000000) (by omega) (by omega)).mpr q)
                    have q52 : ¬ pp < 10000000 := fun q => hc54 ((n_lt (a := pp) (b := 10000000) (by omega) (by omega)).mpr q)
                    have q53 : ¬ pp < 100000000 := fun q => hc63 ((n_lt (a := pp) (b := 100000000) (by omega) (by omega)).mpr q)
                    have q54 : ¬ pp < 1000000000 := fun q => hc72 ((n_lt (a := pp) (b := 1000000000) (by omega) (by omega)).mpr q)
                    exact o_retI X dm7_80 (fun Sf hSf => ⟨10, rfl, rfl, own_dgl10 (by omega) (by omega)⟩) (by decide) (by decide)
theorem c_pow {l : Launch} {Z : State} {a0 : Array Value} (hw : W a0 Z) (j : Nat) (h0 : Heap) (hj : j < 10) :
    Con l Z EL0 (⟨"com/example/parkville/parkville/QueryExceptionReportPinLaw", "pow10", "(I)I"⟩ : MethodName) method_8_code 2 (some .int) ({ frames := 0, cells := 1, slots := 10, locals := 0 } : Room) #[(.int (Int32.ofNat j))] h0 [] (fun v h' Sf => v = some (.int (Int32.ofNat (10 ^ j))) ∧ Keep h0 h' []) := by
  refine Con.intro (plainFor_of_name pn10) ?_
  intro p e s m below meth c T X hss
  refine Goes.cast (g' := mkF m 0 #[.val (.int (Int32.ofNat j)), .unset] []) (by first | (simp [entryFrame, mkF, argsToLocals, Value.category]; done) | rfl) ?_
  refine o_bipush X dm8_0 (w := 10) rfl (q := 2) rfl ?_
  refine o_newarr X (aty := .int) (cap := 10) 10 (w292 hw) dm8_2 (by decide) (by decide) (by decide) (by decide) (by decide) (q := 4) rfl ?_
  intro T1 h1 b1 k1 gb1 X1 E1 R1 S1 V1 g0_b1
  have V1 : Arv Z h1 b1 k1 .int (10 : Int32) [(.int (0 : Int32)), (.int (0 : Int32)), (.int (0 : Int32)), (.int (0 : Int32)), (.int (0 : Int32)), (.int (0 : Int32)), (.int (0 : Int32)), (.int (0 : Int32)), (.int (0 : Int32)), (.int (0 : Int32))] (.int (0 : Int32)) := V1
  refine o_dup X1 dm8_4 rfl (q := 5) rfl ?_
  refine o_iconst X1 dm8_5 (w := 0) rfl (q := 6) rfl ?_
  refine o_iconst X1 dm8_6 (w := 1) rfl (q := 7) rfl ?_
  refine o_iastore X1 0 V1 g0_b1 (Safe.arv X1.alike V1 (by decide)) (by decide) rfl (lb rfl) (v := (.int (1 : Int32))) rfl dm8_7 (q := 8) rfl ?_
  intro T2 h2 l2 X2 W2 R2 V2
  have V2 : Arv Z h2 b1 k1 .int (10 : Int32) [(.int (1 : Int32)), (.int (0 : Int32)), (.int (0 : Int32)), (.int (0 : Int32)), (.int (0 : Int32)), (.int (0 : Int32)), (.int (0 : Int32)), (.int (0 : Int32)), (.int (0 : Int32)), (.int (0 : Int32))] (.int (0 : Int32)) := V2
  refine o_dup X2 dm8_8 rfl (q := 9) rfl ?_
  refine o_iconst X2 dm8_9 (w := 1) rfl (q := 10) rfl ?_
  refine o_bipush X2 dm8_10 (w := 10) rfl (q := 12) rfl ?_
  refine o_iastore X2 1 V2 g0_b1 (Safe.arv X2.alike V2 (by decide)) (by decide) rfl (lb rfl) (v := (.int (10 : Int32))) rfl dm8_12 (q := 13) rfl ?_
  intro T3 h3 l3 X3 W3 R3 V3
  have V3 : Arv Z h3 b1 k1 .int (10 : Int32) [(.int (1 : Int32)), (.int (10 : Int32)), (.int (0 : Int32)), (.int (0 : Int32)), (.int (0 : Int32)), (.int (0 : Int32)), (.int (0 : Int32)), (.int (0 : Int32)), (.int (0 : Int32)), (.int (0 : Int32))] (.int (0 : Int32)) := V3
  refine o_dup X3 dm8_13 rfl (q := 14) rfl ?_
  refine o_iconst X3 dm8_14 (w := 2) rfl (q := 15) rfl ?_
  refine o_bipush X3 dm8_15 (w := 100) rfl (q := 17) rfl ?_
  refine o_iastore X3 2 V3 g0_b1 (Safe.arv X3.alike V3 (by decide)) (by decide) rfl (lb rfl) (v := (.int (100 : Int32))) rfl dm8_17 (q := 18) rfl ?_
  intro T4 h4 l4 X4 W4 R4 V4
  have V4 : Arv Z h4 b1 k1 .int (10 : Int32) [(.int (1 : Int32)), (.int (10 : Int32)), (.int (100 : Int32)), (.int (0 : Int32)), (.int (0 : Int32)), (.int (0 : Int32)), (.int (0 : Int32)), (.int (0 : Int32)), (.int (0 : Int32)), (.int (0 : Int32))] (.int (0 : Int32)) := V4
  refine o_dup X4 dm8_18 rfl (q := 19) rfl ?_
  refine o_iconst X4 dm8_19 (w := 3) rfl (q := 20) rfl ?_
  refine o_sipush X4 dm8_20 (w := 1000) rfl (q := 23) rfl ?_
  refine o_iastore X4 3 V4 g0_b1 (Safe.arv X4.alike V4 (by decide)) (by decide) rfl (lb rfl) (v := (.int (1000 : Int32))) rfl dm8_23 (q := 24) rfl ?_
  intro T5 h5 l5 X5 W5 R5 V5
  have V5 : Arv Z h5 b1 k1 .int (10 : Int32) [(.int (1 : Int32)), (.int (10 : Int32)), (.int (100 : Int32)), (.int (1000 : Int32)), (.int (0 : Int32)), (.int (0 : Int32)), (.int (0 : Int32)), (.int (0 : Int32)), (.int (0 : Int32)), (.int (0 : Int32))] (.int (0 : Int32)) := V5
  refine o_dup X5 dm8_24 rfl (q := 25) rfl ?_
  refine o_iconst X5 dm8_25 (w := 4) rfl (q := 26) rfl ?_
  refine o_sipush X5 dm8_26 (w := 10000) rfl (q := 29) rfl ?_
  refine o_iastore X5 4 V5 g0_b1 (Safe.arv X5.alike V5 (by decide)) (by decide) rfl (lb rfl) (v := (.int (10000 : Int32))) rfl dm8_29 (q := 30) rfl ?_
  intro T6 h6 l6 X6 W6 R6 V6
  have V6 : Arv Z h6 b1 k1 .int (10 : Int32) [(.int (1 : Int32)), (.int (10 : Int32)), (.int (100 : Int32)), (.int (1000 : Int32)), (.int (10000 : Int32)), (.int (0 : Int32)), (.int (0 : Int32)), (.int (0 : Int32)), (.int (0 : Int32)), (.int (0 : Int32))] (.int (0 : Int32)) := V6
  refine o_dup X6 dm8_30 rfl (q := 31) rfl ?_
  refine o_iconst X6 dm8_31 (w := 5) rfl (q := 32) rfl ?_
  refine o_ldcI X6 (w293 hw) dm8_32 (q := 34) rfl ?_
  refine o_iastore X6 5 V6 g0_b1 (Safe.arv X6.alike V6 (by decide)) (by decide) rfl (lb rfl) (v := (.int (100000 : Int32))) rfl dm8_34 (q := 35) rfl ?_
  intro T7 h7 l7 X7 W7 R7 V7
  have V7 : Arv Z h7 b1 k1 .int (10 : Int32) [(.int (1 : Int32)), (.int (10 : Int32)), (.int (100 : Int32)), (.int (1000 : Int32)), (.int (10000 : Int32)), (.int (100000 : Int32)), (.int (0 : Int32)), (.int (0 : Int32)), (.int (0 : Int32)), (.int (0 : Int32))] (.int (0 : Int32)) := V7
  refine o_dup X7 dm8_35 rfl (q := 36) rfl ?_
  refine o_bipush X7 dm8_36 (w := 6) rfl (q := 38) rfl ?_
  refine o_ldcI X7 (w294 hw) dm8_38 (q := 40) rfl ?_
  refine o_iastore X7 6 V7 g0_b1 (Safe.arv X7.alike V7 (by decide)) (by decide) rfl (lb rfl) (v := (.int (1000000 : Int32))) rfl dm8_40 (q := 41) rfl ?_
  intro T8 h8 l8 X8 W8 R8 V8
  have V8 : Arv Z h8 b1 k1 .int (10 : Int32) [(.int (1 : Int32)), (.int (10 : Int32)), (.int (100 : Int32)), (.int (1000 : Int32)), (.int (10000 : Int32)), (.int (100000 : Int32)), (.int (1000000 : Int32)), (.int (0 : Int32)), (.int (0 : Int32)), (.int (0 : Int32))] (.int (0 : Int32)) := V8
  refine o_dup X8 dm8_41 rfl (q := 42) rfl ?_
  refine o_bipush X8 dm8_42 (w := 7) rfl (q := 44) rfl ?_
  refine o_ldcI X8 (w295 hw) dm8_44 (q := 46) rfl ?_
  refine o_iastore X8 7 V8 g0_b1 (Safe.arv X8.alike V8 (by decide)) (by decide) rfl (lb rfl) (v := (.int (10000000 : Int32))) rfl dm8_46 (q := 47) rfl ?_
  intro T9 h9 l9 X9 W9 R9 V9
  have V9 : Arv Z h9 b1 k1 .int (10 : Int32) [(.int (1 : Int32)), (.int (10 : Int32)), (.int (100 : Int32)), (.int (1000 : Int32)), (.int (10000 : Int32)), (.int (100000 : Int32)), (.int (1000000 : Int32)), (.int (10000000 : Int32)), (.int (0 : Int32)), (.int (0 : Int32))] (.int (0 : Int32)) := V9
  refine o_dup X9 dm8_47 rfl (q := 48) rfl ?_
  refine o_bipush X9 dm8_48 (w := 8) rfl (q := 50) rfl ?_
  refine o_ldcI X9 (w296 hw) dm8_50 (q := 52) rfl ?_
  refine o_iastore X9 8 V9 g0_b1 (Safe.arv X9.alike V9 (by decide)) (by decide) rfl (lb rfl) (v := (.int (100000000 : Int32))) rfl dm8_52 (q := 53) rfl ?_
  intro T10 h10 l10 X10 W10 R10 V10
  have V10 : Arv Z h10 b1 k1 .int (10 : Int32) [(.int (1 : Int32)), (.int (10 : Int32)), (.int (100 : Int32)), (.int (1000 : Int32)), (.int (10000 : Int32)), (.int (100000 : Int32)), (.int (1000000 : Int32)), (.int (10000000 : Int32)), (.int (100000000 : Int32)), (.int (0 : Int32))] (.int (0 : Int32)) := V10
  refine o_dup X10 dm8_53 rfl (q := 54) rfl ?_
  refine o_bipush X10 dm8_54 (w := 9) rfl (q := 56) rfl ?_
  refine o_ldcI X10 (w297 hw) dm8_56 (q := 58) rfl ?_
  refine o_iastore X10 9 V10 g0_b1 (Safe.arv X10.alike V10 (by decide)) (by decide) rfl (lb rfl) (v := (.int (1000000000 : Int32))) rfl dm8_58 (q := 59) rfl ?_
  intro T11 h11 l11 X11 W11 R11 V11
  have V11 : Arv Z h11 b1 k1 .int (10 : Int32) [(.int (1 : Int32)), (.int (10 : Int32)), (.int (100 : Int32)), (.int (1000 : Int32)), (.int (10000 : Int32)), (.int (100000 : Int32)), (.int (1000000 : Int32)), (.int (10000000 : Int32)), (.int (100000000 : Int32)), (.int (1000000000 : Int32))] (.int (0 : Int32)) := V11
  refine o_astoreN X11 dm8_59 rfl (L' := #[.val (.int (Int32.ofNat j)), .val (.ref b1)]) rfl (q := 60) rfl ?_
  refine o_aloadN X11 dm8_60 rfl rfl (q := 61) rfl ?_
  refine o_iloadN X11 dm8_61 rfl (q := 62) rfl ?_
  refine o_iaload X11 V11 (n_in (n := 10) hj (by omega)) (v := .int (Int32.ofNat (10 ^ j))) (own_p10 hj) dm8_62 (q := 63) rfl ?_
  have sz12 := Nat.le_trans (Keep.refl h0 []).1 (Nat.le_of_eq gb1.symm)
  have k13 := Keep.ext (Keep.refl h0 []) E1
  have k14 := Keep.wr k13 W2 (Or.inr sz12)
  have k15 := Keep.wr k14 W3 (Or.inr sz12)
  have k16 := Keep.wr k15 W4 (Or.inr sz12)
  have k17 := Keep.wr k16 W5 (Or.inr sz12)
  have k18 := Keep.wr k17 W6 (Or.inr sz12)
  have k19 := Keep.wr k18 W7 (Or.inr sz12)
  have k20 := Keep.wr k19 W8 (Or.inr sz12)
  have k21 := Keep.wr k20 W9 (Or.inr sz12)
  have k22 := Keep.wr k21 W10 (Or.inr sz12)
  have k23 := Keep.wr k22 W11 (Or.inr sz12)
  exact o_retI X11 dm8_63 (fun Sf hSf => ⟨rfl, k23⟩) (by decide) (by decide)
theorem c_rc {l : Launch} {Z : State} {a0 : Array Value} (hw : W a0 Z) (j : Nat) (c0 c1 c2 : Int32) (h0 : Heap) (k0 : ¬ c0 < 0 ∧ ¬ (255 : Int32) < c0) (k1 : ¬ c1 < 0 ∧ ¬ (255 : Int32) < c1) (k2 : ¬ c2 < 0 ∧ ¬ (255 : Int32) < c2) (hj : j ≤ 4000) :
    Con l Z EL0 (⟨"com/example/parkville/parkville/QueryExceptionReportPinLaw", "rc", "(ICCC)C"⟩ : MethodName) method_6_code 4 (some .char) ({ frames := 0, cells := 0, slots := 0, locals := 0 } : Room) #[(.int (Int32.ofNat j)), (.int c0), (.int c1), (.int c2)] h0 [] (fun v h' Sf => v = some (.int (rcV j c0 c1 c2)) ∧ h' = h0) := by
  refine Con.intro (plainFor_of_name pn10) ?_
  intro p e s m below meth c T X hss
  refine Goes.cast (g' := mkF m 0 #[.val (.int (Int32.ofNat j)), .val (.int c0), .val (.int c1), .val (.int c2)] []) (by first | (simp [entryFrame, mkF, argsToLocals, Value.category]; done) | rfl) ?_
  refine o_iloadN X dm6_0 rfl (q := 1) rfl ?_
  by_cases hc1 : (Int32.ofNat j) = (0 : Int32)
  · refine o_ifN X dm6_1 (teq hc1).2 (q := 4) rfl ?_
    refine o_iloadN X dm6_4 rfl (q := 5) rfl ?_
    exact o_retN X dm6_5 (by simp) (fun Sf hSf => ⟨by rw [own_narc (own_rg8 k0), rcV, if_pos ((n_eq (a := j) (b := 0) (by omega) (by omega)).mp hc1)], rfl⟩) (by decide) (by decide)
  · refine o_ifY X dm6_1 (feq hc1).2 (by decide) (q := 6) (by decide) ?_
    refine o_iloadN X dm6_6 rfl (q := 7) rfl ?_
    refine o_iconst X dm6_7 (w := 1) rfl (q := 8) rfl ?_
    by_cases hc8 : (Int32.ofNat j) = (1 : Int32)
    · refine o_icmpN X dm6_8 (teq hc8).2 (q := 11) rfl ?_
      refine o_iloadN X dm6_11 rfl (q := 12) rfl ?_
      exact o_retN X dm6_12 (by simp) (fun Sf hSf => ⟨by rw [own_narc (own_rg8 k1), rcV, if_neg (fun q => hc1 ((n_eq (a := j) (b := 0) (by omega) (by omega)).mpr q)), if_pos ((n_eq (a := j) (b := 1) (by omega) (by omega)).mp hc8)], rfl⟩) (by decide) (by decide)
    · refine o_icmpY X dm6_8 (feq hc8).2 (by decide) (q := 13) (by decide) ?_
      refine o_iloadN X dm6_13 rfl (q := 14) rfl ?_
      exact o_retN X dm6_14 (by simp) (fun Sf hSf => ⟨by rw [own_narc (own_rg8 k2), rcV, if_neg (fun q => hc1 ((n_eq (a := j) (b := 0) (by omega) (by omega)).mpr q)), if_neg (fun q => hc8 ((n_eq (a := j) (b := 1) (by omega) (by omega)).mpr q))], rfl⟩) (by decide) (by decide)
theorem c_expF {l : Launch} {Z : State} {a0 : Array Value} (hw : W a0 Z) (i pp : Nat) (dv : Int32) (c0 c1 c2 : Int32) (h0 : Heap) {zc : Int32} (O2 : Sta Z Z.heap "java/lang/String" "COMPACT_STRINGS" "Z" (.int zc)) (P5 : ¬ zc = 0) {fm : Value} (O4 : Sta Z Z.heap "jdk/internal/util/Preconditions" "SIOOBE_FORMATTER" "Ljava/util/function/BiFunction;" fm) (rfm : fm.isRef = true) (hi : i < 24) (hp : 0 < pp) (hp2 : pp < 2147483648) :
    ConL l Z EL0 (⟨"com/example/parkville/parkville/QueryExceptionReportPinLaw", "exp", "(IIICCC)C"⟩ : MethodName) method_5_code 7 (some .char) ({ frames := 4, cells := 2, slots := 100, locals := 53 } : Room) #[(.int (Int32.ofNat i)), (.int (Int32.ofNat pp)), (.int dv), (.int c0), (.int c1), (.int c2)] h0 (fun vm => True) (fun v h' Sf => ∃ (ca cb : Addr) (ck : ClassId), v = some (.int (q53.getD i 0)) ∧ Keep h0 h' [] ∧ LitV Z Sf "com/example/parkville/parkville/QueryExceptionReportPinLaw" 53 ca ∧ LS Z h' ca cb ck q53) := by
  refine ConL.intro (plainFor_of_name pn10) ?_
  intro p e s m below meth c T X hPl
  refine Goes.cast (g' := mkF m 0 #[.val (.int (Int32.ofNat i)), .val (.int (Int32.ofNat pp)), .val (.int dv), .val (.int c0), .val (.int c1), .val (.int c2), .unset] []) (by first | (simp [entryFrame, mkF, argsToLocals, Value.category]; done) | rfl) ?_
  refine o_iloadN X dm5_0 rfl (q := 1) rfl ?_
  refine o_ifN X dm5_1 (tlt ((n_lt (a := 0) (by omega) (by omega)).mpr hp)).2.2.2 (q := 4) rfl ?_
  refine o_iloadN X dm5_4 rfl (q := 5) rfl ?_
  refine o_bipush X dm5_5 (w := 24) rfl (q := 7) rfl ?_
  refine o_icmpN X dm5_7 (tlt ((n_lt (a := i) (b := 24) (by omega) (by omega)).mpr hi)).2.1 (q := 10) rfl ?_
  refine o_ldcL X (n := 96) (vs := [(.int (113 : Int32)), (.int (117 : Int32)), (.int (101 : Int32)), (.int (114 : Int32)), (.int (121 : Int32)), (.int (32 : Int32)), (.int (101 : Int32)), (.int (114 : Int32)), (.int (114 : Int32)), (.int (111 : Int32)), (.int (114 : Int32)), (.int (32 : Int32)), (.int (97 : Int32)), (.int (116 : Int32)), (.int (32 : Int32)), (.int (112 : Int32)), (.int (111 : Int32)), (.int (115 : Int32)), (.int (105 : Int32)), (.int (116 : Int32)), (.int (105 : Int32)), (.int (111 : Int32)), (.int (110 : Int32)), (.int (32 : Int32))]) (z := 24) (w288 hw) (wS0 hw) (List.mem_of_getElem? (i := 5) rfl) ⟨by decide, by decide⟩ (by decide) (by decide) dm5_10 (by decide) (by decide) (by decide) (by decide) (q := 12) rfl ?_
  intro vm1 T1 h1 a1 b1 k1 X1 E1 R1 A1 Fc1 Fv1 V1 Lv1
  have lc2 : LS Z _ a1 b1 k1 [(113 : Int32), (117 : Int32), (101 : Int32), (114 : Int32), (121 : Int32), (32 : Int32), (101 : Int32), (114 : Int32), (114 : Int32), (111 : Int32), (114 : Int32), (32 : Int32), (97 : Int32), (116 : Int32), (32 : Int32), (112 : Int32), (111 : Int32), (115 : Int32), (105 : Int32), (116 : Int32), (105 : Int32), (111 : Int32), (110 : Int32), (32 : Int32)] := ⟨A1, Fc1, Fv1, (by rw [show (([(113 : Int32), (117 : Int32), (101 : Int32), (114 : Int32), (121 : Int32), (32 : Int32), (101 : Int32), (114 : Int32), (114 : Int32), (111 : Int32), (114 : Int32), (32 : Int32), (97 : Int32), (116 : Int32), (32 : Int32), (112 : Int32), (111 : Int32), (115 : Int32), (105 : Int32), (116 : Int32), (105 : Int32), (111 : Int32), (110 : Int32), (32 : Int32)] : List Int32).map (fun c => c.toInt8.toInt32)).map Value.int = [(.int (113 : Int32)), (.int (117 : Int32)), (.int (101 : Int32)), (.int (114 : Int32)), (.int (121 : Int32)), (.int (32 : Int32)), (.int (101 : Int32)), (.int (114 : Int32)), (.int (114 : Int32)), (.int (111 : Int32)), (.int (114 : Int32)), (.int (32 : Int32)), (.int (97 : Int32)), (.int (116 : Int32)), (.int (32 : Int32)), (.int (112 : Int32)), (.int (111 : Int32)), (.int (115 : Int32)), (.int (105 : Int32)), (.int (116 : Int32)), (.int (105 : Int32)), (.int (111 : Int32)), (.int (110 : Int32)), (.int (32 : Int32))] from by decide]; exact V1), by decide, by decide⟩
  have lq3 : LS Z _ a1 b1 k1 q53 := lc2
  refine o_iloadN X1 dm5_12 rfl (q := 13) rfl ?_
  refine o_charAt X1 (i := i) lq3 O2 P5 O4 rfm (hwch hw) (w3 hw) (show i < q53.length from hi) rfl (w205 hw) (w206 hw) (w208 hw) (w207 hw) dm5_13 rfl (by decide) (lb rfl) (by decide) (by decide) (q := 16) rfl ?_
  intro T4 l4 X4
  have k5 := Keep.ext (Keep.refl h0 []) E1
  exact o_retNL X4 dm5_16 (by simp) (fun Sf hSf => ⟨a1, b1, k1, by rw [own_narq hi], k5, Lv1.stays hSf, lq3⟩) (by decide) (by decide)
theorem c_expA {l : Launch} {Z : State} {a0 : Array Value} (hw : W a0 Z) (i pp : Nat) (dv : Int32) (c0 c1 c2 : Int32) (ca cb : Addr) (h0 : Heap) {zc : Int32} (O2 : Sta Z Z.heap "java/lang/String" "COMPACT_STRINGS" "Z" (.int zc)) (P5 : ¬ zc = 0) {fm : Value} (O4 : Sta Z Z.heap "jdk/internal/util/Preconditions" "SIOOBE_FORMATTER" "Ljava/util/function/BiFunction;" fm) (rfm : fm.isRef = true) {ck : ClassId} (Lq : LS Z h0 ca cb ck q53) (hi : i < 24) (hp : 0 < pp) (hp2 : pp < 2147483648) :
    ConL l Z EL0 (⟨"com/example/parkville/parkville/QueryExceptionReportPinLaw", "exp", "(IIICCC)C"⟩ : MethodName) method_5_code 7 (some .char) ({ frames := 4, cells := 0, slots := 0, locals := 53 } : Room) #[(.int (Int32.ofNat i)), (.int (Int32.ofNat pp)), (.int dv), (.int c0), (.int c1), (.int c2)] h0 (fun vm => LitV Z vm "com/example/parkville/parkville/QueryExceptionReportPinLaw" 53 ca) (fun v h' Sf => v = some (.int (q53.getD i 0)) ∧ h' = h0) := by
  refine ConL.intro (plainFor_of_name pn10) ?_
  intro p e s m below meth c T X hPl
  refine Goes.cast (g' := mkF m 0 #[.val (.int (Int32.ofNat i)), .val (.int (Int32.ofNat pp)), .val (.int dv), .val (.int c0), .val (.int c1), .val (.int c2), .unset] []) (by first | (simp [entryFrame, mkF, argsToLocals, Value.category]; done) | rfl) ?_
  refine o_iloadN X dm5_0 rfl (q := 1) rfl ?_
  refine o_ifN X dm5_1 (tlt ((n_lt (a := 0) (by omega) (by omega)).mpr hp)).2.2.2 (q := 4) rfl ?_
  refine o_iloadN X dm5_4 rfl (q := 5) rfl ?_
  refine o_bipush X dm5_5 (w := 24) rfl (q := 7) rfl ?_
  refine o_icmpN X dm5_7 (tlt ((n_lt (a := i) (b := 24) (by omega) (by omega)).mpr hi)).2.1 (q := 10) rfl ?_
  refine o_ldcA X hPl (w288 hw) dm5_10 (q := 12) rfl ?_
  refine o_iloadN X dm5_12 rfl (q := 13) rfl ?_
  refine o_charAt X (i := i) Lq O2 P5 O4 rfm (hwch hw) (w3 hw) (show i < q53.length from hi) rfl (w205 hw) (w206 hw) (w208 hw) (w207 hw) dm5_13 rfl (by decide) (lb rfl) (by decide) (by decide) (q := 16) rfl ?_
  intro T1 l1 X1
  exact o_retNL X1 dm5_16 (by simp) (fun Sf hSf => ⟨by rw [own_narq hi], rfl⟩) (by decide) (by decide)
theorem c_expB0 {l : Launch} {Z : State} {a0 : Array Value} (hw : W a0 Z) (i pp dd : Nat) (c0 c1 c2 : Int32) (h0 : Heap) (k0 : ¬ c0 < 0 ∧ ¬ (255 : Int32) < c0) (k1 : ¬ c1 < 0 ∧ ¬ (255 : Int32) < c1) (k2 : ¬ c2 < 0 ∧ ¬ (255 : Int32) < c2) (hi24 : 24 ≤ i) (hi4 : i ≤ 4000) (hd1 : 1 ≤ dd) (hd10 : dd ≤ 10) (hp : 0 < pp) (hp2 : pp < 2147483648) (hi : i < 24 + dd) :
    Con l Z EL0 (⟨"com/example/parkville/parkville/QueryExceptionReportPinLaw", "exp", "(IIICCC)C"⟩ : MethodName) method_5_code 7 (some .char) ({ frames := 1, cells := 1, slots := 10, locals := 15 } : Room) #[(.int (Int32.ofNat i)), (.int (Int32.ofNat pp)), (.int (Int32.ofNat dd)), (.int c0), (.int c1), (.int c2)] h0 [] (fun v h' Sf => v = some (.int (exB pp dd c0 c1 c2 i)) ∧ Keep h0 h' []) := by
  refine Con.intro (plainFor_of_name pn10) ?_
  intro p e s m below meth c T X hss
  refine Goes.cast (g' := mkF m 0 #[.val (.int (Int32.ofNat i)), .val (.int (Int32.ofNat pp)), .val (.int (Int32.ofNat dd)), .val (.int c0), .val (.int c1), .val (.int c2), .unset] []) (by first | (simp [entryFrame, mkF, argsToLocals, Value.category]; done) | rfl) ?_
  refine o_iloadN X dm5_0 rfl (q := 1) rfl ?_
  refine o_ifN X dm5_1 (tlt ((n_lt (a := 0) (by omega) (by omega)).mpr hp)).2.2.2 (q := 4) rfl ?_
  refine o_iloadN X dm5_4 rfl (q := 5) rfl ?_
  refine o_bipush X dm5_5 (w := 24) rfl (q := 7) rfl ?_
  refine o_icmpY X dm5_7 (flt (fun q => absurd ((n_lt (a := i) (b := 24) (by omega) (by omega)).mp q) (by omega))).2.1 (by decide) (q := 17) (by decide) ?_
  refine o_iloadN X dm5_17 rfl (q := 18) rfl ?_
  refine o_bipush X dm5_18 (w := 24) rfl (q := 20) rfl ?_
  refine o_iloadN X dm5_20 rfl (q := 21) rfl ?_
  refine o_iadd X dm5_21 (w := (Int32.ofNat (24 + dd))) (n_add 24 _) (q := 22) rfl ?_
  refine o_icmpN X dm5_22 (tlt ((n_lt (by omega) (by omega)).mpr (by omega))).2.1 (q := 25) rfl ?_
  refine o_iloadN X dm5_25 rfl (q := 26) rfl ?_
  refine o_bipush X dm5_26 (w := 24) rfl (q := 28) rfl ?_
  refine o_isub X dm5_28 (w := (Int32.ofNat (i - 24))) (n_sub (b := 24) (by omega)) (q := 29) rfl ?_
  refine o_istore X dm5_29 rfl (L' := #[.val (.int (Int32.ofNat i)), .val (.int (Int32.ofNat pp)), .val (.int (Int32.ofNat dd)), .val (.int c0), .val (.int c1), .val (.int c2), .val (.int (Int32.ofNat (i - 24)))]) rfl (q := 31) rfl ?_
  refine o_bipush X dm5_31 (w := 48) rfl (q := 33) rfl ?_
  refine o_iloadN X dm5_33 rfl (q := 34) rfl ?_
  refine o_iloadN X dm5_34 rfl (q := 35) rfl ?_
  refine o_iconst X dm5_35 (w := 1) rfl (q := 36) rfl ?_
  refine o_isub X dm5_36 (w := (Int32.ofNat (dd - 1))) (n_sub (b := 1) (by omega)) (q := 37) rfl ?_
  refine o_iload X dm5_37 rfl (q := 39) rfl ?_
  refine o_isub X dm5_39 (w := (Int32.ofNat (dd - 1 - (i - 24)))) (n_sub (by omega)) (q := 40) rfl ?_
  refine o_stat X [(.int (Int32.ofNat (dd - 1 - (i - 24))))] (y' := ⟨"com/example/parkville/parkville/QueryExceptionReportPinLaw", "pow10", "(I)I"⟩) (c_pow hw (dd - 1 - (i - 24)) _ (by omega)) all0 (w289 hw) (w290 hw) (w200 hw) (w291 hw) (by decide) dm5_40 (rest := [(.int (Int32.ofNat pp)), (.int (48 : Int32))]) rfl rfl (lenOf pd7 rfl) rfl (by decide) (lb rfl) (by decide) (by decide) (q := 43) rfl ?_
  intro v1 vm1 T1 h1 l1 X1 R1 q1
  obtain ⟨rfl, K1⟩ := q1
  show Goes p e below _ T1 (mkF m 43 #[.val (.int (Int32.ofNat i)), .val (.int (Int32.ofNat pp)), .val (.int (Int32.ofNat dd)), .val (.int c0), .val (.int c1), .val (.int c2), .val (.int (Int32.ofNat (i - 24)))] [(.int (Int32.ofNat (10 ^ (dd - 1 - (i - 24))))), (.int (Int32.ofNat pp)), (.int (48 : Int32))])
  refine o_idiv X1 dm5_43 (own_nzn (own_p10lt (by omega)).1 (own_p10lt (by omega)).2) (w := (Int32.ofNat (pp / 10 ^ (dd - 1 - (i - 24))))) (own_divn hp2 (own_p10lt (by omega)).1 (own_p10lt (by omega)).2) (q := 44) rfl ?_
  refine o_bipush X1 dm5_44 (w := 10) rfl (q := 46) rfl ?_
  refine o_irem X1 dm5_46 (by decide) (w := (Int32.ofNat (pp / 10 ^ (dd - 1 - (i - 24)) % 10))) (own_r10 (Nat.lt_of_le_of_lt (Nat.div_le_self _ _) hp2)) (q := 47) rfl ?_
  refine o_iadd X1 dm5_47 (w := (Int32.ofNat (48 + pp / 10 ^ (dd - 1 - (i - 24)) % 10))) (n_add 48 _) (q := 48) rfl ?_
  refine o_i2c X1 dm5_48 (w := (Int32.ofNat (48 + pp / 10 ^ (dd - 1 - (i - 24)) % 10))) (own_i2cn (own_d58 _)) (q := 49) rfl ?_
  have k2 := Keep.trans (Keep.refl h0 []) K1 all0
  exact o_retN X1 dm5_49 (by simp) (fun Sf hSf => ⟨by rw [own_narn (own_d58 _), exB, if_pos hi], k2⟩) (by decide) (by decide)
theorem c_expB1 {l : Launch} {Z : State} {a0 : Array Value} (hw : W a0 Z) (i pp dd : Nat) (c0 c1 c2 : Int32) (h0 : Heap) (k0 : ¬ c0 < 0 ∧ ¬ (255 : Int32) < c0) (k1 : ¬ c1 < 0 ∧ ¬ (255 : Int32) < c1) (k2 : ¬ c2 < 0 ∧ ¬ (255 : Int32) < c2) (hi24 : 24 ≤ i) (hi4 : i ≤ 4000) (hd1 : 1 ≤ dd) (hd10 : dd ≤ 10) (hp : 0 < pp) (hp2 : pp < 2147483648) (hi : i = 24 + dd) :
    Con l Z EL0 (⟨"com/example/parkville/parkville/QueryExceptionReportPinLaw", "exp", "(IIICCC)C"⟩ : MethodName) method_5_code 7 (some .char) ({ frames := 1, cells := 1, slots := 10, locals := 15 } : Room) #[(.int (Int32.ofNat i)), (.int (Int32.ofNat pp)), (.int (Int32.ofNat dd)), (.int c0), (.int c1), (.int c2)] h0 [] (fun v h' Sf => v = some (.int (exB pp dd c0 c1 c2 i)) ∧ Keep h0 h' []) := by
  refine Con.intro (plainFor_of_name pn10) ?_
  intro p e s m below meth c T X hss
  refine Goes.cast (g' := mkF m 0 #[.val (.int (Int32.ofNat i)), .val (.int (Int32.ofNat pp)), .val (.int (Int32.ofNat dd)), .val (.int c0), .val (.int c1), .val (.int c2), .unset] []) (by first | (simp [entryFrame, mkF, argsToLocals, Value.category]; done) | rfl) ?_
  refine o_iloadN X dm5_0 rfl (q := 1) rfl ?_
  refine o_ifN X dm5_1 (tlt ((n_lt (a := 0) (by omega) (by omega)).mpr hp)).2.2.2 (q := 4) rfl ?_
  refine o_iloadN X dm5_4 rfl (q := 5) rfl ?_
  refine o_bipush X dm5_5 (w := 24) rfl (q := 7) rfl ?_
  refine o_icmpY X dm5_7 (flt (fun q => absurd ((n_lt (a := i) (b := 24) (by omega) (by omega)).mp q) (by omega))).2.1 (by decide) (q := 17) (by decide) ?_
  refine o_iloadN X dm5_17 rfl (q := 18) rfl ?_
  refine o_bipush X dm5_18 (w := 24) rfl (q := 20) rfl ?_
  refine o_iloadN X dm5_20 rfl (q := 21) rfl ?_
  refine o_iadd X dm5_21 (w := (Int32.ofNat (24 + dd))) (n_add 24 _) (q := 22) rfl ?_
  refine o_icmpY X dm5_22 (flt (fun q => absurd ((n_lt (by omega) (by omega)).mp q) (by omega))).2.1 (by decide) (q := 50) (by decide) ?_
  refine o_iloadN X dm5_50 rfl (q := 51) rfl ?_
  refine o_bipush X dm5_51 (w := 24) rfl (q := 53) rfl ?_
  refine o_iloadN X dm5_53 rfl (q := 54) rfl ?_
  refine o_iadd X dm5_54 (w := (Int32.ofNat (24 + dd))) (n_add 24 _) (q := 55) rfl ?_
  refine o_icmpN X dm5_55 (teq (congrArg Int32.ofNat hi)).2 (q := 58) rfl ?_
  refine o_bipush X dm5_58 (w := 58) rfl (q := 60) rfl ?_
  exact o_retN X dm5_60 (by simp) (fun Sf hSf => ⟨by rw [exB, if_neg (by omega), if_pos hi]; rfl, (Keep.refl h0 [])⟩) (by decide) (by decide)
theorem c_expB2 {l : Launch} {Z : State} {a0 : Array Value} (hw : W a0 Z) (i pp dd : Nat) (c0 c1 c2 : Int32) (h0 : Heap) (k0 : ¬ c0 < 0 ∧ ¬ (255 : Int32) < c0) (k1 : ¬ c1 < 0 ∧ ¬ (255 : Int32) < c1) (k2 : ¬ c2 < 0 ∧ ¬ (255 : Int32) < c2) (hi24 : 24 ≤ i) (hi4 : i ≤ 4000) (hd1 : 1 ≤ dd) (hd10 : dd ≤ 10) (hp : 0 < pp) (hp2 : pp < 2147483648) (hi : i = 25 + dd) :
    Con l Z EL0 (⟨"com/example/parkville/parkville/QueryExceptionReportPinLaw", "exp", "(IIICCC)C"⟩ : MethodName) method_5_code 7 (some .char) ({ frames := 1, cells := 1, slots := 10, locals := 15 } : Room) #[(.int (Int32.ofNat i)), (.int (Int32.ofNat pp)), (.int (Int32.ofNat dd)), (.int c0), (.int c1), (.int c2)] h0 [] (fun v h' Sf => v = some (.int (exB pp dd c0 c1 c2 i)) ∧ Keep h0 h' []) := by
  refine Con.intro (plainFor_of_name pn10) ?_
  intro p e s m below meth c T X hss
  refine Goes.cast (g' := mkF m 0 #[.val (.int (Int32.ofNat i)), .val (.int (Int32.ofNat pp)), .val (.int (Int32.ofNat dd)), .val (.int c0), .val (.int c1), .val (.int c2), .unset] []) (by first | (simp [entryFrame, mkF, argsToLocals, Value.category]; done) | rfl) ?_
  refine o_iloadN X dm5_0 rfl (q := 1) rfl ?_
  refine o_ifN X dm5_1 (tlt ((n_lt (a := 0) (by omega) (by omega)).mpr hp)).2.2.2 (q := 4) rfl ?_
  refine o_iloadN X dm5_4 rfl (q := 5) rfl ?_
  refine o_bipush X dm5_5 (w := 24) rfl (q := 7) rfl ?_
  refine o_icmpY X dm5_7 (flt (fun q => absurd ((n_lt (a := i) (b := 24) (by omega) (by omega)).mp q) (by omega))).2.1 (by decide) (q := 17) (by decide) ?_
  refine o_iloadN X dm5_17 rfl (q := 18) rfl ?_
  refine o_bipush X dm5_18 (w := 24) rfl (q := 20) rfl ?_
  refine o_iloadN X dm5_20 rfl (q := 21) rfl ?_
  refine o_iadd X dm5_21 (w := (Int32.ofNat (24 + dd))) (n_add 24 _) (q := 22) rfl ?_
  refine o_icmpY X dm5_22 (flt (fun q => absurd ((n_lt (by omega) (by omega)).mp q) (by omega))).2.1 (by decide) (q := 50) (by decide) ?_
  refine o_iloadN X dm5_50 rfl (q := 51) rfl ?_
  refine o_bipush X dm5_51 (w := 24) rfl (q := 53) rfl ?_
  refine o_iloadN X dm5_53 rfl (q := 54) rfl ?_
  refine o_iadd X dm5_54 (w := (Int32.ofNat (24 + dd))) (n_add 24 _) (q := 55) rfl ?_
  refine o_icmpY X dm5_55 (feq (fun q => absurd ((n_eq (by omega) (by omega)).mp q) (by omega))).2 (by decide) (q := 61) (by decide) ?_
  refine o_iloadN X dm5_61 rfl (q := 62) rfl ?_
  refine o_bipush X dm5_62 (w := 25) rfl (q := 64) rfl ?_
  refine o_iloadN X dm5_64 rfl (q := 65) rfl ?_
  refine o_iadd X dm5_65 (w := (Int32.ofNat (25 + dd))) (n_add 25 _) (q := 66) rfl ?_
  refine o_icmpN X dm5_66 (teq (congrArg Int32.ofNat hi)).2 (q := 69) rfl ?_
  refine o_bipush X dm5_69 (w := 32) rfl (q := 71) rfl ?_
  exact o_retN X dm5_71 (by simp) (fun Sf hSf => ⟨by rw [exB, if_neg (by omega), if_neg (by omega), if_pos hi]; rfl, (Keep.refl h0 [])⟩) (by decide) (by decide)
theorem c_expB3 {l : Launch} {Z : State} {a0 : Array Value} (hw : W a0 Z) (i pp dd : Nat) (c0 c1 c2 : Int32) (h0 : Heap) (k0 : ¬ c0 < 0 ∧ ¬ (255 : Int32) < c0) (k1 : ¬ c1 < 0 ∧ ¬ (255 : Int32) < c1) (k2 : ¬ c2 < 0 ∧ ¬ (255 : Int32) < c2) (hi24 : 24 ≤ i) (hi4 : i ≤ 4000) (hd1 : 1 ≤ dd) (hd10 : dd ≤ 10) (hp : 0 < pp) (hp2 : pp < 2147483648) (hi : 26 + dd ≤ i) :
    Con l Z EL0 (⟨"com/example/parkville/parkville/QueryExceptionReportPinLaw", "exp", "(IIICCC)C"⟩ : MethodName) method_5_code 7 (some .char) ({ frames := 1, cells := 1, slots := 10, locals := 15 } : Room) #[(.int (Int32.ofNat i)), (.int (Int32.ofNat pp)), (.int (Int32.ofNat dd)), (.int c0), (.int c1), (.int c2)] h0 [] (fun v h' Sf => v = some (.int (exB pp dd c0 c1 c2 i)) ∧ Keep h0 h' []) := by
  refine Con.intro (plainFor_of_name pn10) ?_
  intro p e s m below meth c T X hss
  refine Goes.cast (g' := mkF m 0 #[.val (.int (Int32.ofNat i)), .val (.int (Int32.ofNat pp)), .val (.int (Int32.ofNat dd)), .val (.int c0), .val (.int c1), .val (.int c2), .unset] []) (by first | (simp [entryFrame, mkF, argsToLocals, Value.category]; done) | rfl) ?_
  refine o_iloadN X dm5_0 rfl (q := 1) rfl ?_
  refine o_ifN X dm5_1 (tlt ((n_lt (a := 0) (by omega) (by omega)).mpr hp)).2.2.2 (q := 4) rfl ?_
  refine o_iloadN X dm5_4 rfl (q := 5) rfl ?_
  refine o_bipush X dm5_5 (w := 24) rfl (q := 7) rfl ?_
  refine o_icmpY X dm5_7 (flt (fun q => absurd ((n_lt (a := i) (b := 24) (by omega) (by omega)).mp q) (by omega))).2.1 (by decide) (q := 17) (by decide) ?_
  refine o_iloadN X dm5_17 rfl (q := 18) rfl ?_
  refine o_bipush X dm5_18 (w := 24) rfl (q := 20) rfl ?_
  refine o_iloadN X dm5_20 rfl (q := 21) rfl ?_
  refine o_iadd X dm5_21 (w := (Int32.ofNat (24 + dd))) (n_add 24 _) (q := 22) rfl ?_
  refine o_icmpY X dm5_22 (flt (fun q => absurd ((n_lt (by omega) (by omega)).mp q) (by omega))).2.1 (by decide) (q := 50) (by decide) ?_
  refine o_iloadN X dm5_50 rfl (q := 51) rfl ?_
  refine o_bipush X dm5_51 (w := 24) rfl (q := 53) rfl ?_
  refine o_iloadN X dm5_53 rfl (q := 54) rfl ?_
  refine o_iadd X dm5_54 (w := (Int32.ofNat (24 + dd))) (n_add 24 _) (q := 55) rfl ?_
  refine o_icmpY X dm5_55 (feq (fun q => absurd ((n_eq (by omega) (by omega)).mp q) (by omega))).2 (by decide) (q := 61) (by decide) ?_
  refine o_iloadN X dm5_61 rfl (q := 62) rfl ?_
  refine o_bipush X dm5_62 (w := 25) rfl (q := 64) rfl ?_
  refine o_iloadN X dm5_64 rfl (q := 65) rfl ?_
  refine o_iadd X dm5_65 (w := (Int32.ofNat (25 + dd))) (n_add 25 _) (q := 66) rfl ?_
  refine o_icmpY X dm5_66 (feq (fun q => absurd ((n_eq (by omega) (by omega)).mp q) (by omega))).2 (by decide) (q := 72) (by decide) ?_
  refine o_iloadN X dm5_72 rfl (q := 73) rfl ?_
  refine o_bipush X dm5_73 (w := 26) rfl (q := 75) rfl ?_
  refine o_isub X dm5_75 (w := (Int32.ofNat (i - 26))) (n_sub (b := 26) (by omega)) (q := 76) rfl ?_
  refine o_iloadN X dm5_76 rfl (q := 77) rfl ?_
  refine o_isub X dm5_77 (w := (Int32.ofNat (i - 26 - dd))) (n_sub (by omega)) (q := 78) rfl ?_
  refine o_iloadN X dm5_78 rfl (q := 79) rfl ?_
  refine o_iload X dm5_79 rfl (q := 81) rfl ?_
  refine o_iload X dm5_81 rfl (q := 83) rfl ?_
  refine o_stat X [(.int (Int32.ofNat (i - 26 - dd))), (.int c0), (.int c1), (.int c2)] (y' := ⟨"com/example/parkville/parkville/QueryExceptionReportPinLaw", "rc", "(ICCC)C"⟩) (c_rc hw (i - 26 - dd) c0 c1 c2 _ k0 k1 k2 (by omega)) all0 (w244 hw) (w245 hw) (w200 hw) (w246 hw) (by decide) dm5_83 (rest := []) rfl rfl (lenOf pd26 rfl) rfl (by decide) (lb rfl) (by decide) (by decide) (q := 86) rfl ?_
  intro v1 vm1 T1 h1 l1 X1 R1 q1
  obtain ⟨rfl, e1⟩ := q1
  have e1 := e1.symm
  subst e1
  show Goes p e below _ T1 (mkF m 86 #[.val (.int (Int32.ofNat i)), .val (.int (Int32.ofNat pp)), .val (.int (Int32.ofNat dd)), .val (.int c0), .val (.int c1), .val (.int c2), .unset] [(.int (rcV (i - 26 - dd) c0 c1 c2))])
  exact o_retN X1 dm5_86 (by simp) (fun Sf hSf => ⟨by rw [own_narc (own_rg8 (own_rcl k0 k1 k2)), exB, if_neg (by omega), if_neg (by omega), if_neg (by omega)], (Keep.refl h0 [])⟩) (by decide) (by decide)
theorem c_expB {l : Launch} {Z : State} {a0 : Array Value} (hw : W a0 Z) (i pp dd : Nat) (c0 c1 c2 : Int32) (h0 : Heap) (k0 : ¬ c0 < 0 ∧ ¬ (255 : Int32) < c0) (k1 : ¬ c1 < 0 ∧ ¬ (255 : Int32) < c1) (k2 : ¬ c2 < 0 ∧ ¬ (255 : Int32) < c2) (hi24 : 24 ≤ i) (hi4 : i ≤ 4000) (hd1 : 1 ≤ dd) (hd10 : dd ≤ 10) (hp : 0 < pp) (hp2 : pp < 2147483648) :
    Con l Z EL0 (⟨"com/example/parkville/parkville/QueryExceptionReportPinLaw", "exp", "(IIICCC)C"⟩ : MethodName) method_5_code 7 (some .char) ({ frames := 1, cells := 1, slots := 10, locals := 15 } : Room) #[(.int (Int32.ofNat i)), (.int (Int32.ofNat pp)), (.int (Int32.ofNat dd)), (.int c0), (.int c1), (.int c2)] h0 [] (fun v h' Sf => v = some (.int (exB pp dd c0 c1 c2 i)) ∧ Keep h0 h' []) := by
  by_cases q0 : i < 24 + dd
  · exact c_expB0 hw i pp dd c0 c1 c2 h0 k0 k1 k2 hi24 hi4 hd1 hd10 hp hp2 q0
  by_cases q1 : i = 24 + dd
  · exact c_expB1 hw i pp dd c0 c1 c2 h0 k0 k1 k2 hi24 hi4 hd1 hd10 hp hp2 q1
  by_cases q2 : i = 25 + dd
  · exact c_expB2 hw i pp dd c0 c1 c2 h0 k0 k1 k2 hi24 hi4 hd1 hd10 hp hp2 q2
  exact c_expB3 hw i pp dd c0 c1 c2 h0 k0 k1 k2 hi24 hi4 hd1 hd10 hp hp2 (by omega)
theorem c_expC0 {l : Launch} {Z : State} {a0 : Array Value} (hw : W a0 Z) (i : Nat) (dv : Int32) (c0 c1 c2 : Int32) (h0 : Heap) {zc : Int32} (O2 : Sta Z Z.heap "java/lang/String" "COMPACT_STRINGS" "Z" (.int zc)) (P5 : ¬ zc = 0) {fm : Value} (O4 : Sta Z Z.heap "jdk/internal/util/Preconditions" "SIOOBE_FORMATTER" "Ljava/util/function/BiFunction;" fm) (rfm : fm.isRef = true) (k0 : ¬ c0 < 0 ∧ ¬ (255 : Int32) < c0) (k1 : ¬ c1 < 0 ∧ ¬ (255 : Int32) < c1) (k2 : ¬ c2 < 0 ∧ ¬ (255 : Int32) < c2) (hi4 : i ≤ 4000) (hi : i < 13) :
    Con l Z EL0 (⟨"com/example/parkville/parkville/QueryExceptionReportPinLaw", "exp", "(IIICCC)C"⟩ : MethodName) method_5_code 7 (some .char) ({ frames := 4, cells := 2, slots := 56, locals := 53 } : Room) #[(.int (Int32.ofNat i)), (.int (0 : Int32)), (.int dv), (.int c0), (.int c1), (.int c2)] h0 [] (fun v h' Sf => v = some (.int (exC c0 c1 c2 i)) ∧ Keep h0 h' []) := by
  refine Con.intro (plainFor_of_name pn10) ?_
  intro p e s m below meth c T X hss
  refine Goes.cast (g' := mkF m 0 #[.val (.int (Int32.ofNat i)), .val (.int (0 : Int32)), .val (.int dv), .val (.int c0), .val (.int c1), .val (.int c2), .unset] []) (by first | (simp [entryFrame, mkF, argsToLocals, Value.category]; done) | rfl) ?_
  refine o_iloadN X dm5_0 rfl (q := 1) rfl ?_
  refine o_ifY X dm5_1 (by decide) (by decide) (q := 87) (by decide) ?_
  refine o_iloadN X dm5_87 rfl (q := 88) rfl ?_
  refine o_bipush X dm5_88 (w := 13) rfl (q := 90) rfl ?_
  refine o_icmpN X dm5_90 (tlt ((n_lt (a := i) (b := 13) (by omega) (by omega)).mpr hi)).2.1 (q := 93) rfl ?_
  refine o_ldcS X (n := 52) (vs := [(.int (113 : Int32)), (.int (117 : Int32)), (.int (101 : Int32)), (.int (114 : Int32)), (.int (121 : Int32)), (.int (32 : Int32)), (.int (101 : Int32)), (.int (114 : Int32)), (.int (114 : Int32)), (.int (111 : Int32)), (.int (114 : Int32)), (.int (58 : Int32)), (.int (32 : Int32))]) (z := 13) (w230 hw) (wS0 hw) (List.mem_of_getElem? (i := 6) rfl) ⟨by decide, by decide⟩ (by decide) (by decide) dm5_93 (by decide) (by decide) (by decide) (by decide) (q := 95) rfl ?_
  intro vm1 T1 h1 a1 b1 k1 X1 E1 R1 A1 Fc1 Fv1 V1 ne1
  refine o_iloadN X1 dm5_95 rfl (q := 96) rfl ?_
  have lc2 : LS Z _ a1 b1 k1 [(113 : Int32), (117 : Int32), (101 : Int32), (114 : Int32), (121 : Int32), (32 : Int32), (101 : Int32), (114 : Int32), (114 : Int32), (111 : Int32), (114 : Int32), (58 : Int32), (32 : Int32)] := ⟨A1, Fc1, Fv1, (by rw [show (([(113 : Int32), (117 : Int32), (101 : Int32), (114 : Int32), (121 : Int32), (32 : Int32), (101 : Int32), (114 : Int32), (114 : Int32), (111 : Int32), (114 : Int32), (58 : Int32), (32 : Int32)] : List Int32).map (fun c => c.toInt8.toInt32)).map Value.int = [(.int (113 : Int32)), (.int (117 : Int32)), (.int (101 : Int32)), (.int (114 : Int32)), (.int (121 : Int32)), (.int (32 : Int32)), (.int (101 : Int32)), (.int (114 : Int32)), (.int (114 : Int32)), (.int (111 : Int32)), (.int (114 : Int32)), (.int (58 : Int32)), (.int (32 : Int32))] from by decide]; exact V1), by decide, by decide⟩
  have lq3 : LS Z _ a1 b1 k1 q62 := lc2
  refine o_charAt X1 (i := i) lq3 O2 P5 O4 rfm (hwch hw) (w3 hw) (show i < q62.length from hi) rfl (w205 hw) (w206 hw) (w208 hw) (w207 hw) dm5_96 rfl (by decide) (lb rfl) (by decide) (by decide) (q := 99) rfl ?_
  intro T4 l4 X4
  have k5 := Keep.ext (Keep.refl h0 []) E1
  exact o_retN X4 dm5_99 (by simp) (fun Sf hSf => ⟨by rw [own_narr hi, exC, if_pos hi], k5⟩) (by decide) (by decide)
theorem c_expC1 {l : Launch} {Z : State} {a0 : Array Value} (hw : W a0 Z) (i : Nat) (dv : Int32) (c0 c1 c2 : Int32) (h0 : Heap) {zc : Int32} (O2 : Sta Z Z.heap "java/lang/String" "COMPACT_STRINGS" "Z" (.int zc)) (P5 : ¬ zc = 0) {fm : Value} (O4 : Sta Z Z.heap "jdk/internal/util/Preconditions" "SIOOBE_FORMATTER" "Ljava/util/function/BiFunction;" fm) (rfm : fm.isRef = true) (k0 : ¬ c0 < 0 ∧ ¬ (255 : Int32) < c0) (k1 : ¬ c1 < 0 ∧ ¬ (255 : Int32) < c1) (k2 : ¬ c2 < 0 ∧ ¬ (255 : Int32) < c2) (hi4 : i ≤ 4000) (hi : 13 ≤ i) :
    Con l Z EL0 (⟨"com/example/parkville/parkville/QueryExceptionReportPinLaw", "exp", "(IIICCC)C"⟩ : MethodName) method_5_code 7 (some .char) ({ frames := 4, cells := 2, slots := 56, locals := 53 } : Room) #[(.int (Int32.ofNat i)), (.int (0 : Int32)), (.int dv), (.int c0), (.int c1), (.int c2)] h0 [] (fun v h' Sf => v = some (.int (exC c0 c1 c2 i)) ∧ Keep h0 h' []) := by
  refine Con.intro (plainFor_of_name pn10) ?_
  intro p e s m below meth c T X hss
  refine Goes.cast (g' := mkF m 0 #[.val (.int (Int32.ofNat i)), .val (.int (0 : Int32)), .val (.int dv), .val (.int c0), .val (.int c1), .val (.int c2), .unset] []) (by first | (simp [entryFrame, mkF, argsToLocals, Value.category]; done) | rfl) ?_
  refine o_iloadN X dm5_0 rfl (q := 1) rfl ?_
  refine o_ifY X dm5_1 (by decide) (by decide) (q := 87) (by decide) ?_
  refine o_iloadN X dm5_87 rfl (q := 88) rfl ?_
  refine o_bipush X dm5_88 (w := 13) rfl (q := 90) rfl ?_
  refine o_icmpY X dm5_90 (flt (fun q => absurd ((n_lt (a := i) (b := 13) (by omega) (by omega)).mp q) (by omega))).2.1 (by decide) (q := 100) (by decide) ?_
  refine o_iloadN X dm5_100 rfl (q := 101) rfl ?_
  refine o_bipush X dm5_101 (w := 13) rfl (q := 103) rfl ?_
  refine o_isub X dm5_103 (w := (Int32.ofNat (i - 13))) (n_sub (b := 13) (by omega)) (q := 104) rfl ?_
  refine o_iloadN X dm5_104 rfl (q := 105) rfl ?_
  refine o_iload X dm5_105 rfl (q := 107) rfl ?_
  refine o_iload X dm5_107 rfl (q := 109) rfl ?_
  refine o_stat X [(.int (Int32.ofNat (i - 13))), (.int c0), (.int c1), (.int c2)] (y' := ⟨"com/example/parkville/parkville/QueryExceptionReportPinLaw", "rc", "(ICCC)C"⟩) (c_rc hw (i - 13) c0 c1 c2 _ k0 k1 k2 (by omega)) all0 (w244 hw) (w245 hw) (w200 hw) (w246 hw) (by decide) dm5_109 (rest := []) rfl rfl (lenOf pd26 rfl) rfl (by decide) (lb rfl) (by decide) (by decide) (q := 112) rfl ?_
  intro v1 vm1 T1 h1 l1 X1 R1 q1
  obtain ⟨rfl, e1⟩ := q1
  have e1 := e1.symm
  subst e1
  show Goes p e below _ T1 (mkF m 112 #[.val (.int (Int32.ofNat i)), .val (.int (0 : Int32)), .val (.int dv), .val (.int c0), .val (.int c1), .val (.int c2), .unset] [(.int (rcV (i - 13) c0 c1 c2))])
  exact o_retN X1 dm5_112 (by simp) (fun Sf hSf => ⟨by rw [own_narc (own_rg8 (own_rcl k0 k1 k2)), exC, if_neg (by omega)], (Keep.refl h0 [])⟩) (by decide) (by decide)
theorem c_expC {l : Launch} {Z : State} {a0 : Array Value} (hw : W a0 Z) (i : Nat) (dv : Int32) (c0 c1 c2 : Int32) (h0 : Heap) {zc : Int32} (O2 : Sta Z Z.heap "java/lang/String" "COMPACT_STRINGS" "Z" (.int zc)) (P5 : ¬ zc = 0) {fm : Value} (O4 : Sta Z Z.heap "jdk/internal/util/Preconditions" "SIOOBE_FORMATTER" "Ljava/util/function/BiFunction;" fm) (rfm : fm.isRef = true) (k0 : ¬ c0 < 0 ∧ ¬ (255 : Int32) < c0) (k1 : ¬ c1 < 0 ∧ ¬ (255 : Int32) < c1) (k2 : ¬ c2 < 0 ∧ ¬ (255 : Int32) < c2) (hi4 : i ≤ 4000) :
    Con l Z EL0 (⟨"com/example/parkville/parkville/QueryExceptionReportPinLaw", "exp", "(IIICCC)C"⟩ : MethodName) method_5_code 7 (some .char) ({ frames := 4, cells := 2, slots := 56, locals := 53 } : Room) #[(.int (Int32.ofNat i)), (.int (0 : Int32)), (.int dv), (.int c0), (.int c1), (.int c2)] h0 [] (fun v h' Sf => v = some (.int (exC c0 c1 c2 i)) ∧ Keep h0 h' []) := by
  by_cases q0 : i < 13
  · exact c_expC0 hw i dv c0 c1 c2 h0 O2 P5 O4 rfm k0 k1 k2 hi4 q0
  exact c_expC1 hw i dv c0 c1 c2 h0 O2 P5 O4 rfm k0 k1 k2 hi4 (by omega)
theorem c_atN {l : Launch} {Z : State} {a0 : Array Value} (hw : W a0 Z) (r : Addr) (i nn : Nat) (pv dv : Int32) (c0 c1 c2 : Int32) (h0 : Heap) (hin : nn ≤ i) (hi4 : i ≤ 4000) :
    Con l Z EL0 (⟨"com/example/parkville/parkville/QueryExceptionReportPinLaw", "at", "(Ljava/lang/String;IIIICCC)Z"⟩ : MethodName) method_4_code 8 (some .boolean) ({ frames := 0, cells := 0, slots := 0, locals := 0 } : Room) #[(.ref r), (.int (Int32.ofNat i)), (.int (Int32.ofNat nn)), (.int pv), (.int dv), (.int c0), (.int c1), (.int c2)] h0 [] (fun v h' Sf => v = some (.int (1 : Int32)) ∧ h' = h0) := by
  refine Con.intro (plainFor_of_name pn10) ?_
  intro p e s m below meth c T X hss
  refine Goes.cast (g' := mkF m 0 #[.val (.ref r), .val (.int (Int32.ofNat i)), .val (.int (Int32.ofNat nn)), .val (.int pv), .val (.int dv), .val (.int c0), .val (.int c1), .val (.int c2)] []) (by first | (simp [entryFrame, mkF, argsToLocals, Value.category]; done) | rfl) ?_
  refine o_iloadN X dm4_0 rfl (q := 1) rfl ?_
  refine o_iloadN X dm4_1 rfl (q := 2) rfl ?_
  refine o_icmpY X dm4_2 (flt (fun q => absurd ((n_lt (by omega) (by omega)).mp q) (by omega))).2.1 (by decide) (q := 26) (by decide) ?_
  refine o_iconst X dm4_26 (w := 1) rfl (q := 27) rfl ?_
  refine o_goto X dm4_27 (by decide) (q := 31) (by decide) ?_
  exact o_retN X dm4_31 (by simp) (fun Sf hSf => ⟨rfl, rfl⟩) (by decide) (by decide)
theorem c_atF {l : Launch} {Z : State} {a0 : Array Value} (hw : W a0 Z) (r rb : Addr) (rl : List Int32) (i nn pp : Nat) (dv : Int32) (c0 c1 c2 : Int32) (h0 : Heap) {zc : Int32} (O2 : Sta Z Z.heap "java/lang/String" "COMPACT_STRINGS" "Z" (.int zc)) (P5 : ¬ zc = 0) {fm : Value} (O4 : Sta Z Z.heap "jdk/internal/util/Preconditions" "SIOOBE_FORMATTER" "Ljava/util/function/BiFunction;" fm) (rfm : fm.isRef = true) {kr : ClassId} (L : LS Z h0 r rb kr rl) (hl : rl.length = nn) (hn4 : nn ≤ 4000) (hi : i < 24) (hin : i < nn) (he : rl.getD i 0 = q53.getD i 0) (hp : 0 < pp) (hp2 : pp < 2147483648) :
    ConL l Z EL0 (⟨"com/example/parkville/parkville/QueryExceptionReportPinLaw", "at", "(Ljava/lang/String;IIIICCC)Z"⟩ : MethodName) method_4_code 8 (some .boolean) ({ frames := 5, cells := 2, slots := 100, locals := 72 } : Room) #[(.ref r), (.int (Int32.ofNat i)), (.int (Int32.ofNat nn)), (.int (Int32.ofNat pp)), (.int dv), (.int c0), (.int c1), (.int c2)] h0 (fun vm => True) (fun v h' Sf => ∃ (ca cb : Addr) (ck : ClassId), v = some (.int (1 : Int32)) ∧ Keep h0 h' [] ∧ LitV Z Sf "com/example/parkville/parkville/QueryExceptionReportPinLaw" 53 ca ∧ LS Z h' ca cb ck q53) := by
  refine ConL.intro (plainFor_of_name pn10) ?_
  intro p e s m below meth c T X hPl
  refine Goes.cast (g' := mkF m 0 #[.val (.ref r), .val (.int (Int32.ofNat i)), .val (.int (Int32.ofNat nn)), .val (.int (Int32.ofNat pp)), .val (.int dv), .val (.int c0), .val (.int c1), .val (.int c2)] []) (by first | (simp [entryFrame, mkF, argsToLocals, Value.category]; done) | rfl) ?_
  refine o_iloadN X dm4_0 rfl (q := 1) rfl ?_
  refine o_iloadN X dm4_1 rfl (q := 2) rfl ?_
  refine o_icmpN X dm4_2 (tlt ((n_lt (by omega) (by omega)).mpr (by omega))).2.1 (q := 5) rfl ?_
  refine o_aloadN X dm4_5 rfl rfl (q := 6) rfl ?_
  refine o_iloadN X dm4_6 rfl (q := 7) rfl ?_
  refine o_charAt X (i := i) L O2 P5 O4 rfm (hwch hw) (w3 hw) (by omega) rfl (w205 hw) (w206 hw) (w208 hw) (w207 hw) dm4_7 rfl (by decide) (lb rfl) (by decide) (by decide) (q := 10) rfl ?_
  intro T1 l1 X1
  refine o_iloadN X1 dm4_10 rfl (q := 11) rfl ?_
  refine o_iloadN X1 dm4_11 rfl (q := 12) rfl ?_
  refine o_iload X1 dm4_12 rfl (q := 14) rfl ?_
  refine o_iload X1 dm4_14 rfl (q := 16) rfl ?_
  refine o_iload X1 dm4_16 rfl (q := 18) rfl ?_
  refine o_iload X1 dm4_18 rfl (q := 20) rfl ?_
  refine o_statL X1 [(.int (Int32.ofNat i)), (.int (Int32.ofNat pp)), (.int dv), (.int c0), (.int c1), (.int c2)] (y' := ⟨"com/example/parkville/parkville/QueryExceptionReportPinLaw", "exp", "(IIICCC)C"⟩) (c_expF hw i pp dv c0 c1 c2 _ O2 P5 O4 rfm hi hp hp2) (fun _ _ => trivial) (w227 hw) (w228 hw) (w200 hw) (w229 hw) (by decide) dm4_20 (rest := [(.int (rl.getD i 0))]) rfl rfl (lenOf pd27 rfl) rfl (by decide) (lb rfl) (by decide) (by decide) (q := 23) rfl ?_
  intro v2 vm2 T2 h2 l2 X2 R2 q2 M2
  obtain ⟨ca2, cb2, ck2, rfl, K2, Lv2, Lq2⟩ := q2
  show Goes p e below _ T2 (mkF m 23 #[.val (.ref r), .val (.int (Int32.ofNat i)), .val (.int (Int32.ofNat nn)), .val (.int (Int32.ofNat pp)), .val (.int dv), .val (.int c0), .val (.int c1), .val (.int c2)] [(.int (q53.getD i 0)), (.int (rl.getD i 0))])
  refine o_icmpN X2 dm4_23 (teq he).2 (q := 26) rfl ?_
  refine o_iconst X2 dm4_26 (w := 1) rfl (q := 27) rfl ?_
  refine o_goto X2 dm4_27 (by decide) (q := 31) (by decide) ?_
  exact o_retNL X2 dm4_31 (by simp) (fun Sf hSf => ⟨ca2, cb2, ck2, rfl, K2, Lv2.stays hSf, Lq2⟩) (by decide) (by decide)
theorem c_atA {l : Launch} {Z : State} {a0 : Array Value} (hw : W a0 Z) (r rb : Addr) (rl : List Int32) (i nn pp : Nat) (dv : Int32) (c0 c1 c2 : Int32) (ca cb : Addr) (h0 : Heap) {zc : Int32} (O2 : Sta Z Z.heap "java/lang/String" "COMPACT_STRINGS" "Z" (.int zc)) (P5 : ¬ zc = 0) {fm : Value} (O4 : Sta Z Z.heap "jdk/internal/util/Preconditions" "SIOOBE_FORMATTER" "Ljava/util/function/BiFunction;" fm) (rfm : fm.isRef = true) {kr : ClassId} (L : LS Z h0 r rb kr rl) (hl : rl.length = nn) (hn4 : nn ≤ 4000) {ck : ClassId} (Lq : LS Z h0 ca cb ck q53) (hi : i < 24) (hin : i < nn) (he : rl.getD i 0 = q53.getD i 0) (hp : 0 < pp) (hp2 : pp < 2147483648) :
    ConL l Z EL0 (⟨"com/example/parkville/parkville/QueryExceptionReportPinLaw", "at", "(Ljava/lang/String;IIIICCC)Z"⟩ : MethodName) method_4_code 8 (some .boolean) ({ frames := 5, cells := 0, slots := 0, locals := 72 } : Room) #[(.ref r), (.int (Int32.ofNat i)), (.int (Int32.ofNat nn)), (.int (Int32.ofNat pp)), (.int dv), (.int c0), (.int c1), (.int c2)] h0 (fun vm => LitV Z vm "com/example/parkville/parkville/QueryExceptionReportPinLaw" 53 ca) (fun v h' Sf => v = some (.int (1 : Int32)) ∧ h' = h0) := by
  refine ConL.intro (plainFor_of_name pn10) ?_
  intro p e s m below meth c T X hPl
  refine Goes.cast (g' := mkF m 0 #[.val (.ref r), .val (.int (Int32.ofNat i)), .val (.int (Int32.ofNat nn)), .val (.int (Int32.ofNat pp)), .val (.int dv), .val (.int c0), .val (.int c1), .val (.int c2)] []) (by first | (simp [entryFrame, mkF, argsToLocals, Value.category]; done) | rfl) ?_
  refine o_iloadN X dm4_0 rfl (q := 1) rfl ?_
  refine o_iloadN X dm4_1 rfl (q := 2) rfl ?_
  refine o_icmpN X dm4_2 (tlt ((n_lt (by omega) (by omega)).mpr (by omega))).2.1 (q := 5) rfl ?_
  refine o_aloadN X dm4_5 rfl rfl (q := 6) rfl ?_
  refine o_iloadN X dm4_6 rfl (q := 7) rfl ?_
  refine o_charAt X (i := i) L O2 P5 O4 rfm (hwch hw) (w3 hw) (by omega) rfl (w205 hw) (w206 hw) (w208 hw) (w207 hw) dm4_7 rfl (by decide) (lb rfl) (by decide) (by decide) (q := 10) rfl ?_
  intro T1 l1 X1
  refine o_iloadN X1 dm4_10 rfl (q := 11) rfl ?_
  refine o_iloadN X1 dm4_11 rfl (q := 12) rfl ?_
  refine o_iload X1 dm4_12 rfl (q := 14) rfl ?_
  refine o_iload X1 dm4_14 rfl (q := 16) rfl ?_
  refine o_iload X1 dm4_16 rfl (q := 18) rfl ?_
  refine o_iload X1 dm4_18 rfl (q := 20) rfl ?_
  refine o_statL X1 [(.int (Int32.ofNat i)), (.int (Int32.ofNat pp)), (.int dv), (.int c0), (.int c1), (.int c2)] (y' := ⟨"com/example/parkville/parkville/QueryExceptionReportPinLaw", "exp", "(IIICCC)C"⟩) (c_expA hw i pp dv c0 c1 c2 ca cb _ O2 P5 O4 rfm Lq hi hp hp2) (fun _ q => LitV.stays hPl q) (w227 hw) (w228 hw) (w200 hw) (w229 hw) (by decide) dm4_20 (rest := [(.int (rl.getD i 0))]) rfl rfl (lenOf pd27 rfl) rfl (by decide) (lb rfl) (by decide) (by decide) (q := 23) rfl ?_
  intro v2 vm2 T2 h2 l2 X2 R2 q2 M2
  obtain ⟨rfl, e2⟩ := q2
  have e2 := e2.symm
  subst e2
  show Goes p e below _ T2 (mkF m 23 #[.val (.ref r), .val (.int (Int32.ofNat i)), .val (.int (Int32.ofNat nn)), .val (.int (Int32.ofNat pp)), .val (.int dv), .val (.int c0), .val (.int c1), .val (.int c2)] [(.int (q53.getD i 0)), (.int (rl.getD i 0))])
  refine o_icmpN X2 dm4_23 (teq he).2 (q := 26) rfl ?_
  refine o_iconst X2 dm4_26 (w := 1) rfl (q := 27) rfl ?_
  refine o_goto X2 dm4_27 (by decide) (q := 31) (by decide) ?_
  exact o_retNL X2 dm4_31 (by simp) (fun Sf hSf => ⟨rfl, rfl⟩) (by decide) (by decide)
theorem c_atB1 {l : Launch} {Z : State} {a0 : Array Value} (hw : W a0 Z) (r rb : Addr) (rl : List Int32) (i nn pp dd : Nat) (c0 c1 c2 : Int32) (h0 : Heap) {zc : Int32} (O2 : Sta Z Z.heap "java/lang/String" "COMPACT_STRINGS" "Z" (.int zc)) (P5 : ¬ zc = 0) {fm : Value} (O4 : Sta Z Z.heap "jdk/internal/util/Preconditions" "SIOOBE_FORMATTER" "Ljava/util/function/BiFunction;" fm) (rfm : fm.isRef = true) {kr : ClassId} (L : LS Z h0 r rb kr rl) (hl : rl.length = nn) (hn4 : nn ≤ 4000) (k0 : ¬ c0 < 0 ∧ ¬ (255 : Int32) < c0) (k1 : ¬ c1 < 0 ∧ ¬ (255 : Int32) < c1) (k2 : ¬ c2 < 0 ∧ ¬ (255 : Int32) < c2) (hi24 : 24 ≤ i) (hi4 : i ≤ 4000) (hd1 : 1 ≤ dd) (hd10 : dd ≤ 10) (hp : 0 < pp) (hp2 : pp < 2147483648) (hin : i < nn) (he : rl.getD i 0 = (exB pp dd c0 c1 c2 i)) :
    Con l Z EL0 (⟨"com/example/parkville/parkville/QueryExceptionReportPinLaw", "at", "(Ljava/lang/String;IIIICCC)Z"⟩ : MethodName) method_4_code 8 (some .boolean) ({ frames := 4, cells := 1, slots := 10, locals := 53 } : Room) #[(.ref r), (.int (Int32.ofNat i)), (.int (Int32.ofNat nn)), (.int (Int32.ofNat pp)), (.int (Int32.ofNat dd)), (.int c0), (.int c1), (.int c2)] h0 [] (fun v h' Sf => v = some (.int (1 : Int32)) ∧ Keep h0 h' []) := by
  refine Con.intro (plainFor_of_name pn10) ?_
  intro p e s m below meth c T X hss
  refine Goes.cast (g' := mkF m 0 #[.val (.ref r), .val (.int (Int32.ofNat i)), .val (.int (Int32.ofNat nn)), .val (.int (Int32.ofNat pp)), .val (.int (Int32.ofNat dd)), .val (.int c0), .val (.int c1), .val (.int c2)] []) (by first | (simp [entryFrame, mkF, argsToLocals, Value.category]; done) | rfl) ?_
  refine o_iloadN X dm4_0 rfl (q := 1) rfl ?_
  refine o_iloadN X dm4_1 rfl (q := 2) rfl ?_
  refine o_icmpN X dm4_2 (tlt ((n_lt (by omega) (by omega)).mpr (by omega))).2.1 (q := 5) rfl ?_
  refine o_aloadN X dm4_5 rfl rfl (q := 6) rfl ?_
  refine o_iloadN X dm4_6 rfl (q := 7) rfl ?_
  refine o_charAt X (i := i) L O2 P5 O4 rfm (hwch hw) (w3 hw) (by omega) rfl (w205 hw) (w206 hw) (w208 hw) (w207 hw) dm4_7 rfl (by decide) (lb rfl) (by decide) (by decide) (q := 10) rfl ?_
  intro T1 l1 X1
  refine o_iloadN X1 dm4_10 rfl (q := 11) rfl ?_
  refine o_iloadN X1 dm4_11 rfl (q := 12) rfl ?_
  refine o_iload X1 dm4_12 rfl (q := 14) rfl ?_
  refine o_iload X1 dm4_14 rfl (q := 16) rfl ?_
  refine o_iload X1 dm4_16 rfl (q := 18) rfl ?_
  refine o_iload X1 dm4_18 rfl (q := 20) rfl ?_
  refine o_stat X1 [(.int (Int32.ofNat i)), (.int (Int32.ofNat pp)), (.int (Int32.ofNat dd)), (.int c0), (.int c1), (.int c2)] (y' := ⟨"com/example/parkville/parkville/QueryExceptionReportPinLaw", "exp", "(IIICCC)C"⟩) (c_expB hw i pp dd c0 c1 c2 _ k0 k1 k2 hi24 hi4 hd1 hd10 hp hp2) all0 (w227 hw) (w228 hw) (w200 hw) (w229 hw) (by decide) dm4_20 (rest := [(.int (rl.getD i 0))]) rfl rfl (lenOf pd27 rfl) rfl (by decide) (lb rfl) (by decide) (by decide) (q := 23) rfl ?_
  intro v2 vm2 T2 h2 l2 X2 R2 q2
  obtain ⟨rfl, K2⟩ := q2
  show Goes p e below _ T2 (mkF m 23 #[.val (.ref r), .val (.int (Int32.ofNat i)), .val (.int (Int32.ofNat nn)), .val (.int (Int32.ofNat pp)), .val (.int (Int32.ofNat dd)), .val (.int c0), .val (.int c1), .val (.int c2)] [(.int (exB pp dd c0 c1 c2 i)), (.int (rl.getD i 0))])
  refine o_icmpN X2 dm4_23 (teq he).2 (q := 26) rfl ?_
  refine o_iconst X2 dm4_26 (w := 1) rfl (q := 27) rfl ?_
  refine o_goto X2 dm4_27 (by decide) (q := 31) (by decide) ?_
  exact o_retN X2 dm4_31 (by simp) (fun Sf hSf => ⟨rfl, K2⟩) (by decide) (by decide)
theorem c_atB2 {l : Launch} {Z : State} {a0 : Array Value} (hw : W a0 Z) (r rb : Addr) (rl : List Int32) (i nn pp dd : Nat) (c0 c1 c2 : Int32) (h0 : Heap) (hin : nn ≤ i) (hi4 : i ≤ 4000) :
    Con l Z EL0 (⟨"com/example/parkville/parkville/QueryExceptionReportPinLaw", "at", "(Ljava/lang/String;IIIICCC)Z"⟩ : MethodName) method_4_code 8 (some .boolean) ({ frames := 4, cells := 1, slots := 10, locals := 53 } : Room) #[(.ref r), (.int (Int32.ofNat i)), (.int (Int32.ofNat nn)), (.int (Int32.ofNat pp)), (.int (Int32.ofNat dd)), (.int c0), (.int c1), (.int c2)] h0 [] (fun v h' Sf => v = some (.int (1 : Int32)) ∧ Keep h0 h' []) := by
  refine Con.intro (plainFor_of_name pn10) ?_
  intro p e s m below meth c T X hss
  refine Goes.cast (g' := mkF m 0 #[.val (.ref r), .val (.int (Int32.ofNat i)), .val (.int (Int32.ofNat nn)), .val (.int (Int32.ofNat pp)), .val (.int (Int32.ofNat dd)), .val (.int c0), .val (.int c1), .val (.int c2)] []) (by first | (simp [entryFrame, mkF, argsToLocals, Value.category]; done) | rfl) ?_
  refine o_iloadN X dm4_0 rfl (q := 1) rfl ?_
  refine o_iloadN X dm4_1 rfl (q := 2) rfl ?_
  refine o_icmpY X dm4_2 (flt (fun q => absurd ((n_lt (by omega) (by omega)).mp q) (by omega))).2.1 (by decide) (q := 26) (by decide) ?_
  refine o_iconst X dm4_26 (w := 1) rfl (q := 27) rfl ?_
  refine o_goto X dm4_27 (by decide) (q := 31) (by decide) ?_
  exact o_retN X dm4_31 (by simp) (fun Sf hSf => ⟨rfl, Keep.refl _ _⟩) (by decide) (by decide)
theorem c_atB {l : Launch} {Z : State} {a0 : Array Value} (hw : W a0 Z) (r rb : Addr) (rl : List Int32) (i nn pp dd : Nat) (c0 c1 c2 : Int32) (h0 : Heap) {zc : Int32} (O2 : Sta Z Z.heap "java/lang/String" "COMPACT_STRINGS" "Z" (.int zc)) (P5 : ¬ zc = 0) {fm : Value} (O4 : Sta Z Z.heap "jdk/internal/util/Preconditions" "SIOOBE_FORMATTER" "Ljava/util/function/BiFunction;" fm) (rfm : fm.isRef = true) {kr : ClassId} (L : LS Z h0 r rb kr rl) (hl : rl.length = nn) (hn4 : nn ≤ 4000) (k0 : ¬ c0 < 0 ∧ ¬ (255 : Int32) < c0) (k1 : ¬ c1 < 0 ∧ ¬ (255 : Int32) < c1) (k2 : ¬ c2 < 0 ∧ ¬ (255 : Int32) < c2) (hi24 : 24 ≤ i) (hi4 : i ≤ 4000) (hd1 : 1 ≤ dd) (hd10 : dd ≤ 10) (hp : 0 < pp) (hp2 : pp < 2147483648) (he : i < nn → rl.getD i 0 = (exB pp dd c0 c1 c2 i)) :
    Con l Z EL0 (⟨"com/example/parkville/parkville/QueryExceptionReportPinLaw", "at", "(Ljava/lang/String;IIIICCC)Z"⟩ : MethodName) method_4_code 8 (some .boolean) ({ frames := 4, cells := 1, slots := 10, locals := 53 } : Room) #[(.ref r), (.int (Int32.ofNat i)), (.int (Int32.ofNat nn)), (.int (Int32.ofNat pp)), (.int (Int32.ofNat dd)), (.int c0), (.int c1), (.int c2)] h0 [] (fun v h' Sf => v = some (.int (1 : Int32)) ∧ Keep h0 h' []) := by
  by_cases q : i < nn
  · exact c_atB1 hw r rb rl i nn pp dd c0 c1 c2 h0 O2 P5 O4 rfm L hl hn4 k0 k1 k2 hi24 hi4 hd1 hd10 hp hp2 q (he q)
  exact c_atB2 hw r rb rl i nn pp dd c0 c1 c2 h0 (by omega) hi4
theorem c_atC1 {l : Launch} {Z : State} {a0 : Array Value} (hw : W a0 Z) (r rb : Addr) (rl : List Int32) (i nn : Nat) (dv : Int32) (c0 c1 c2 : Int32) (h0 : Heap) {zc : Int32} (O2 : Sta Z Z.heap "java/lang/String" "COMPACT_STRINGS" "Z" (.int zc)) (P5 : ¬ zc = 0) {fm : Value} (O4 : Sta Z Z.heap "jdk/internal/util/Preconditions" "SIOOBE_FORMATTER" "Ljava/util/function/BiFunction;" fm) (rfm : fm.isRef = true) {kr : ClassId} (L : LS Z h0 r rb kr rl) (hl : rl.length = nn) (hn4 : nn ≤ 4000) (k0 : ¬ c0 < 0 ∧ ¬ (255 : Int32) < c0) (k1 : ¬ c1 < 0 ∧ ¬ (255 : Int32) < c1) (k2 : ¬ c2 < 0 ∧ ¬ (255 : Int32) < c2) (hi4 : i ≤ 4000) (hin : i < nn) (he : rl.getD i 0 = (exC c0 c1 c2 i)) :
    Con l Z EL0 (⟨"com/example/parkville/parkville/QueryExceptionReportPinLaw", "at", "(Ljava/lang/String;IIIICCC)Z"⟩ : MethodName) method_4_code 8 (some .boolean) ({ frames := 5, cells := 2, slots := 56, locals := 72 } : Room) #[(.ref r), (.int (Int32.ofNat i)), (.int (Int32.ofNat nn)), (.int (0 : Int32)), (.int dv), (.int c0), (.int c1), (.int c2)] h0 [] (fun v h' Sf => v = some (.int (1 : Int32)) ∧ Keep h0 h' []) := by
  refine Con.intro (plainFor_of_name pn10) ?_
  intro p e s m below meth c T X hss
  refine Goes.cast (g' := mkF m 0 #[.val (.ref r), .val (.int (Int32.ofNat i)), .val (.int (Int32.ofNat nn)), .val (.int (0 : Int32)), .val (.int dv), .val (.int c0), .val (.int c1), .val (.int c2)] []) (by first | (simp [entryFrame, mkF, argsToLocals, Value.category]; done) | rfl) ?_
  refine o_iloadN X dm4_0 rfl (q := 1) rfl ?_
  refine o_iloadN X dm4_1 rfl (q := 2) rfl ?_
  refine o_icmpN X dm4_2 (tlt ((n_lt (by omega) (by omega)).mpr (by omega))).2.1 (q := 5) rfl ?_
  refine o_aloadN X dm4_5 rfl rfl (q := 6) rfl ?_
  refine o_iloadN X dm4_6 rfl (q := 7) rfl ?_
  refine o_charAt X (i := i) L O2 P5 O4 rfm (hwch hw) (w3 hw) (by omega) rfl (w205 hw) (w206 hw) (w208 hw) (w207 hw) dm4_7 rfl (by decide) (lb rfl) (by decide) (by decide) (q := 10) rfl ?_
  intro T1 l1 X1
  refine o_iloadN X1 dm4_10 rfl (q := 11) rfl ?_
  refine o_iloadN X1 dm4_11 rfl (q := 12) rfl ?_
  refine o_iload X1 dm4_12 rfl (q := 14) rfl ?_
  refine o_iload X1 dm4_14 rfl (q := 16) rfl ?_
  refine o_iload X1 dm4_16 rfl (q := 18) rfl ?_
  refine o_iload X1 dm4_18 rfl (q := 20) rfl ?_
  refine o_stat X1 [(.int (Int32.ofNat i)), (.int (0 : Int32)), (.int dv), (.int c0), (.int c1), (.int c2)] (y' := ⟨"com/example/parkville/parkville/QueryExceptionReportPinLaw", "exp", "(IIICCC)C"⟩) (c_expC hw i dv c0 c1 c2 _ O2 P5 O4 rfm k0 k1 k2 hi4) all0 (w227 hw) (w228 hw) (w200 hw) (w229 hw) (by decide) dm4_20 (rest := [(.int (rl.getD i 0))]) rfl rfl (lenOf pd27 rfl) rfl (by decide) (lb rfl) (by decide) (by decide) (q := 23) rfl ?_
  intro v2 vm2 T2 h2 l2 X2 R2 q2
  obtain ⟨rfl, K2⟩ := q2
  show Goes p e below _ T2 (mkF m 23 #[.val (.ref r), .val (.int (Int32.ofNat i)), .val (.int (Int32.ofNat nn)), .val (.int (0 : Int32)), .val (.int dv), .val (.int c0), .val (.int c1), .val (.int c2)] [(.int (exC c0 c1 c2 i)), (.int (rl.getD i 0))])
  refine o_icmpN X2 dm4_23 (teq he).2 (q := 26) rfl ?_
  refine o_iconst X2 dm4_26 (w := 1) rfl (q := 27) rfl ?_
  refine o_goto X2 dm4_27 (by decide) (q := 31) (by decide) ?_
  exact o_retN X2 dm4_31 (by simp) (fun Sf hSf => ⟨rfl, K2⟩) (by decide) (by decide)
theorem c_atC2 {l : Launch} {Z : State} {a0 : Array Value} (hw : W a0 Z) (r rb : Addr) (rl : List Int32) (i nn : Nat) (dv : Int32) (c0 c1 c2 : Int32) (h0 : Heap) (hin : nn ≤ i) (hi4 : i ≤ 4000) :
    Con l Z EL0 (⟨"com/example/parkville/parkville/QueryExceptionReportPinLaw", "at", "(Ljava/lang/String;IIIICCC)Z"⟩ : MethodName) method_4_code 8 (some .boolean) ({ frames := 5, cells := 2, slots := 56, locals := 72 } : Room) #[(.ref r), (.int (Int32.ofNat i)), (.int (Int32.ofNat nn)), (.int (0 : Int32)), (.int dv), (.int c0), (.int c1), (.int c2)] h0 [] (fun v h' Sf => v = some (.int (1 : Int32)) ∧ Keep h0 h' []) := by
  refine Con.intro (plainFor_of_name pn10) ?_
  intro p e s m below meth c T X hss
  refine Goes.cast (g' := mkF m 0 #[.val (.ref r), .val (.int (Int32.ofNat i)), .val (.int (Int32.ofNat nn)), .val (.int (0 : Int32)), .val (.int dv), .val (.int c0), .val (.int c1), .val (.int c2)] []) (by first | (simp [entryFrame, mkF, argsToLocals, Value.category]; done) | rfl) ?_
  refine o_iloadN X dm4_0 rfl (q := 1) rfl ?_
  refine o_iloadN X dm4_1 rfl (q := 2) rfl ?_
  refine o_icmpY X dm4_2 (flt (fun q => absurd ((n_lt (by omega) (by omega)).mp q) (by omega))).2.1 (by decide) (q := 26) (by decide) ?_
  refine o_iconst X dm4_26 (w := 1) rfl (q := 27) rfl ?_
  refine o_goto X dm4_27 (by decide) (q := 31) (by decide) ?_
  exact o_retN X dm4_31 (by simp) (fun Sf hSf => ⟨rfl, Keep.refl _ _⟩) (by decide) (by decide)
theorem c_atC {l : Launch} {Z : State} {a0 : Array Value} (hw : W a0 Z) (r rb : Addr) (rl : List Int32) (i nn : Nat) (dv : Int32) (c0 c1 c2 : Int32) (h0 : Heap) {zc : Int32} (O2 : Sta Z Z.heap "java/lang/String" "COMPACT_STRINGS" "Z" (.int zc)) (P5 : ¬ zc = 0) {fm : Value} (O4 : Sta Z Z.heap "jdk/internal/util/Preconditions" "SIOOBE_FORMATTER" "Ljava/util/function/BiFunction;" fm) (rfm : fm.isRef = true) {kr : ClassId} (L : LS Z h0 r rb kr rl) (hl : rl.length = nn) (hn4 : nn ≤ 4000) (k0 : ¬ c0 < 0 ∧ ¬ (255 : Int32) < c0) (k1 : ¬ c1 < 0 ∧ ¬ (255 : Int32) < c1) (k2 : ¬ c2 < 0 ∧ ¬ (255 : Int32) < c2) (hi4 : i ≤ 4000) (he : i < nn → rl.getD i 0 = (exC c0 c1 c2 i)) :
    Con l Z EL0 (⟨"com/example/parkville/parkville/QueryExceptionReportPinLaw", "at", "(Ljava/lang/String;IIIICCC)Z"⟩ : MethodName) method_4_code 8 (some .boolean) ({ frames := 5, cells := 2, slots := 56, locals := 72 } : Room) #[(.ref r), (.int (Int32.ofNat i)), (.int (Int32.ofNat nn)), (.int (0 : Int32)), (.int dv), (.int c0), (.int c1), (.int c2)] h0 [] (fun v h' Sf => v = some (.int (1 : Int32)) ∧ Keep h0 h' []) := by
  by_cases q : i < nn
  · exact c_atC1 hw r rb rl i nn dv c0 c1 c2 h0 O2 P5 O4 rfm L hl hn4 k0 k1 k2 hi4 q (he q)
  exact c_atC2 hw r rb rl i nn dv c0 c1 c2 h0 (by omega) hi4
theorem c_chA {l : Launch} {Z : State} {a0 : Array Value} (hw : W a0 Z) (r rb : Addr) (rl : List Int32) (b nn pp : Nat) (dv : Int32) (c0 c1 c2 : Int32) (h0 : Heap) {zc : Int32} (O2 : Sta Z Z.heap "java/lang/String" "COMPACT_STRINGS" "Z" (.int zc)) (P5 : ¬ zc = 0) {fm : Value} (O4 : Sta Z Z.heap "jdk/internal/util/Preconditions" "SIOOBE_FORMATTER" "Ljava/util/function/BiFunction;" fm) (rfm : fm.isRef = true) {kr : ClassId} (L : LS Z h0 r rb kr rl) (hl : rl.length = nn) (hn4 : nn ≤ 4000) (hb : b + 7 < 24) (h24 : 24 ≤ nn) (he : ∀ i, i < 24 → rl.getD i 0 = q53.getD i 0) (hp : 0 < pp) (hp2 : pp < 2147483648) :
    Con l Z EL0 (⟨"com/example/parkville/parkville/QueryExceptionReportPinLaw", "chk8", "(Ljava/lang/String;IIIICCC)Z"⟩ : MethodName) method_3_code 8 (some .boolean) ({ frames := 6, cells := 2, slots := 100, locals := 91 } : Room) #[(.ref r), (.int (Int32.ofNat b)), (.int (Int32.ofNat nn)), (.int (Int32.ofNat pp)), (.int dv), (.int c0), (.int c1), (.int c2)] h0 [] (fun v h' Sf => v = some (.int (1 : Int32)) ∧ Keep h0 h' []) := by
  refine Con.intro (plainFor_of_name pn10) ?_
  intro p e s m below meth c T X hss
  refine Goes.cast (g' := mkF m 0 #[.val (.ref r), .val (.int (Int32.ofNat b)), .val (.int (Int32.ofNat nn)), .val (.int (Int32.ofNat pp)), .val (.int dv), .val (.int c0), .val (.int c1), .val (.int c2)] []) (by first | (simp [entryFrame, mkF, argsToLocals, Value.category]; done) | rfl) ?_
  refine o_aloadN X dm3_0 rfl rfl (q := 1) rfl ?_
  refine o_iloadN X dm3_1 rfl (q := 2) rfl ?_
  refine o_iloadN X dm3_2 rfl (q := 3) rfl ?_
  refine o_iloadN X dm3_3 rfl (q := 4) rfl ?_
  refine o_iload X dm3_4 rfl (q := 6) rfl ?_
  refine o_iload X dm3_6 rfl (q := 8) rfl ?_
  refine o_iload X dm3_8 rfl (q := 10) rfl ?_
  refine o_iload X dm3_10 rfl (q := 12) rfl ?_
  refine o_statL X [(.ref r), (.int (Int32.ofNat b)), (.int (Int32.ofNat nn)), (.int (Int32.ofNat pp)), (.int dv), (.int c0), (.int c1), (.int c2)] (y' := ⟨"com/example/parkville/parkville/QueryExceptionReportPinLaw", "at", "(Ljava/lang/String;IIIICCC)Z"⟩) (c_atF hw r rb rl b nn pp dv c0 c1 c2 _ O2 P5 O4 rfm L hl hn4 (by omega) (by omega) (he _ (by omega)) hp hp2) (fun _ _ => trivial) (w202 hw) (w203 hw) (w200 hw) (w204 hw) (by decide) dm3_12 (rest := []) rfl rfl (lenOf pd28 rfl) rfl (by decide) (lb rfl) (by decide) (by decide) (q := 15) rfl ?_
  intro v1 vm1 T1 h1 l1 X1 R1 q1 M1
  obtain ⟨ca1, cb1, ck1, rfl, K1, Lv1, Lq1⟩ := q1
  show Goes p e below _ T1 (mkF m 15 #[.val (.ref r), .val (.int (Int32.ofNat b)), .val (.int (Int32.ofNat nn)), .val (.int (Int32.ofNat pp)), .val (.int dv), .val (.int c0), .val (.int c1), .val (.int c2)] [(.int (1 : Int32))])
  refine o_ifN X1 dm3_15 (by decide) (q := 18) rfl ?_
  refine o_aloadN X1 dm3_18 rfl rfl (q := 19) rfl ?_
  refine o_iloadN X1 dm3_19 rfl (q := 20) rfl ?_
  refine o_iconst X1 dm3_20 (w := 1) rfl (q := 21) rfl ?_
  refine o_iadd X1 dm3_21 (w := (Int32.ofNat (b + 1))) (n_add _ _) (q := 22) rfl ?_
  refine o_iloadN X1 dm3_22 rfl (q := 23) rfl ?_
  refine o_iloadN X1 dm3_23 rfl (q := 24) rfl ?_
  refine o_iload X1 dm3_24 rfl (q := 26) rfl ?_
  refine o_iload X1 dm3_26 rfl (q := 28) rfl ?_
  refine o_iload X1 dm3_28 rfl (q := 30) rfl ?_
  refine o_iload X1 dm3_30 rfl (q := 32) rfl ?_
  have f2 := (L.keep K1 nin0 nin0)
  refine o_statL X1 [(.ref r), (.int (Int32.ofNat (b + 1))), (.int (Int32.ofNat nn)), (.int (Int32.ofNat pp)), (.int dv), (.int c0), (.int c1), (.int c2)] (y' := ⟨"com/example/parkville/parkville/QueryExceptionReportPinLaw", "at", "(Ljava/lang/String;IIIICCC)Z"⟩) (c_atA hw r rb rl (b + 1) nn pp dv c0 c1 c2 ca1 cb1 _ O2 P5 O4 rfm f2 hl hn4 Lq1 (by omega) (by omega) (he _ (by omega)) hp hp2) (fun _ q => LitV.stays Lv1 q) (w202 hw) (w203 hw) (w200 hw) (w204 hw) (by decide) dm3_32 (rest := []) rfl rfl (lenOf pd28 rfl) rfl (by decide) (lb rfl) (by decide) (by decide) (q := 35) rfl ?_
  intro v3 vm3 T3 h3 l3 X3 R3 q3 M3
  obtain ⟨rfl, e3⟩ := q3
  have e3 := e3.symm
  subst e3
  show Goes p e below _ T3 (mkF m 35 #[.val (.ref r), .val (.int (Int32.ofNat b)), .val (.int (Int32.ofNat nn)), .val (.int (Int32.ofNat pp)), .val (.int dv), .val (.int c0), .val (.int c1), .val (.int c2)] [(.int (1 : Int32))])
  have Lw3 := M3 _ _ _ Lv1
  refine o_ifN X3 dm3_35 (by decide) (q := 38) rfl ?_
  refine o_aloadN X3 dm3_38 rfl rfl (q := 39) rfl ?_
  refine o_iloadN X3 dm3_39 rfl (q := 40) rfl ?_
  refine o_iconst X3 dm3_40 (w := 2) rfl (q := 41) rfl ?_
  refine o_iadd X3 dm3_41 (w := (Int32.ofNat (b + 2))) (n_add _ _) (q := 42) rfl ?_
  refine o_iloadN X3 dm3_42 rfl (q := 43) rfl ?_
  refine o_iloadN X3 dm3_43 rfl (q := 44) rfl ?_
  refine o_iload X3 dm3_44 rfl (q := 46) rfl ?_
  refine o_iload X3 dm3_46 rfl (q := 48) rfl ?_
  refine o_iload X3 dm3_48 rfl (q := 50) rfl ?_
  refine o_iload X3 dm3_50 rfl (q := 52) rfl ?_
  have f4 := f2
  have f5 := Lq1
  refine o_statL X3 [(.ref r), (.int (Int32.ofNat (b + 2))), (.int (Int32.ofNat nn)), (.int (Int32.ofNat pp)), (.int dv), (.int c0), (.int c1), (.int c2)] (y' := ⟨"com/example/parkville/parkville/QueryExceptionReportPinLaw", "at", "(Ljava/lang/String;IIIICCC)Z"⟩) (c_atA hw r rb rl (b + 2) nn pp dv c0 c1 c2 ca1 cb1 _ O2 P5 O4 rfm f4 hl hn4 f5 (by omega) (by omega) (he _ (by omega)) hp hp2) (fun _ q => LitV.stays Lw3 q) (w202 hw) (w203 hw) (w200 hw) (w204 hw) (by decide) dm3_52 (rest := []) rfl rfl (lenOf pd28 rfl) rfl (by decide) (lb rfl) (by decide) (by decide) (q := 55) rfl ?_
  intro v6 vm6 T6 h6 l6 X6 R6 q6 M6
  obtain ⟨rfl, e6⟩ := q6
  have e6 := e6.symm
  subst e6
  show Goes p e below _ T6 (mkF m 55 #[.val (.ref r), .val (.int (Int32.ofNat b)), .val (.int (Int32.ofNat nn)), .val (.int (Int32.ofNat pp)), .val (.int dv), .val (.int c0), .val (.int c1), .val (.int c2)] [(.int (1 : Int32))])
  have Lw6 := M6 _ _ _ Lw3
  refine o_ifN X6 dm3_55 (by decide) (q := 58) rfl ?_
  refine o_aloadN X6 dm3_58 rfl rfl (q := 59) rfl ?_
  refine o_iloadN X6 dm3_59 rfl (q := 60) rfl ?_
  refine o_iconst X6 dm3_60 (w := 3) rfl (q := 61) rfl ?_
  refine o_iadd X6 dm3_61 (w := (Int32.ofNat (b + 3))) (n_add _ _) (q := 62) rfl ?_
  refine o_iloadN X6 dm3_62 rfl (q := 63) rfl ?_
  refine o_iloadN X6 dm3_63 rfl (q := 64) rfl ?_
  refine o_iload X6 dm3_64 rfl (q := 66) rfl ?_
  refine o_iload X6 dm3_66 rfl (q := 68) rfl ?_
  refine o_iload X6 dm3_68 rfl (q := 70) rfl ?_
  refine o_iload X6 dm3_70 rfl (q := 72) rfl ?_
  have f7 := f4
  have f8 := f5
  refine o_statL X6 [(.ref r), (.int (Int32.ofNat (b + 3))), (.int (Int32.ofNat nn)), (.int (Int32.ofNat pp)), (.int dv), (.int c0), (.int c1), (.int c2)] (y' := ⟨"com/example/parkville/parkville/QueryExceptionReportPinLaw", "at", "(Ljava/lang/String;IIIICCC)Z"⟩) (c_atA hw r rb rl (b + 3) nn pp dv c0 c1 c2 ca1 cb1 _ O2 P5 O4 rfm f7 hl hn4 f8 (by omega) (by omega) (he _ (by omega)) hp hp2) (fun _ q => LitV.stays Lw6 q) (w202 hw) (w203 hw) (w200 hw) (w204 hw) (by decide) dm3_72 (rest := []) rfl rfl (lenOf pd28 rfl) rfl (by decide) (lb rfl) (by decide) (by decide) (q := 75) rfl ?_
  intro v9 vm9 T9 h9 l9 X9 R9 q9 M9
  obtain ⟨rfl, e9⟩ := q9
  have e9 := e9.symm
  subst e9
  show Goes p e below _ T9 (mkF m 75 #[.val (.ref r), .val (.int (Int32.ofNat b)), .val (.int (Int32.ofNat nn)), .val (.int (Int32.ofNat pp)), .val (.int dv), .val (.int c0), .val (.int c1), .val (.int c2)] [(.int (1 : Int32))])
  have Lw9 := M9 _ _ _ Lw6
  refine o_ifN X9 dm3_75 (by decide) (q := 78) rfl ?_
  refine o_aloadN X9 dm3_78 rfl rfl (q := 79) rfl ?_
  refine o_iloadN X9 dm3_79 rfl (q := 80) rfl ?_
  refine o_iconst X9 dm3_80 (w := 4) rfl (q := 81) rfl ?_
  refine o_iadd X9 dm3_81 (w := (Int32.ofNat (b + 4))) (n_add _ _) (q := 82) rfl ?_
  refine o_iloadN X9 dm3_82 rfl (q := 83) rfl ?_
  refine o_iloadN X9 dm3_83 rfl (q := 84) rfl ?_
  refine o_iload X9 dm3_84 rfl (q := 86) rfl ?_
  refine o_iload X9 dm3_86 rfl (q := 88) rfl ?_
  refine o_iload X9 dm3_88 rfl (q := 90) rfl ?_
  refine o_iload X9 dm3_90 rfl (q := 92) rfl ?_
  have f10 := f7
  have f11 := f8
  refine o_statL X9 [(.ref r), (.int (Int32.ofNat (b + 4))), (.int (Int32.ofNat nn)), (.int (Int32.ofNat pp)), (.int dv), (.int c0), (.int c1), (.int c2)] (y' := ⟨"com/example/parkville/parkville/QueryExceptionReportPinLaw", "at", "(Ljava/lang/String;IIIICCC)Z"⟩) (c_atA hw r rb rl (b + 4) nn pp dv c0 c1 c2 ca1 cb1 _ O2 P5 O4 rfm f10 hl hn4 f11 (by omega) (by omega) (he _ (by omega)) hp hp2) (fun _ q => LitV.stays Lw9 q) (w202 hw) (w203 hw) (w200 hw) (w204 hw) (by decide) dm3_92 (rest := []) rfl rfl (lenOf pd28 rfl) rfl (by decide) (lb rfl) (by decide) (by decide) (q := 95) rfl ?_
  intro v12 vm12 T12 h12 l12 X12 R12 q12 M12
  obtain ⟨rfl, e12⟩ := q12
  have e12 := e12.symm
  subst e12
  show Goes p e below _ T12 (mkF m 95 #[.val (.ref r), .val (.int (Int32.ofNat b)), .val (.int (Int32.ofNat nn)), .val (.int (Int32.ofNat pp)), .val (.int dv), .val (.int c0), .val (.int c1), .val (.int c2)] [(.int (1 : Int32))])
  have Lw12 := M12 _ _ _ Lw9
  refine o_ifN X12 dm3_95 (by decide) (q := 98) rfl ?_
  refine o_aloadN X12 dm3_98 rfl rfl (q := 99) rfl ?_
  refine o_iloadN X12 dm3_99 rfl (q := 100) rfl ?_
  refine o_iconst X12 dm3_100 (w := 5) rfl (q := 101) rfl ?_
  refine o_iadd X12 dm3_101 (w := (Int32.ofNat (b + 5))) (n_add _ _) (q := 102) rfl ?_
  refine o_iloadN X12 dm3_102 rfl (q := 103) rfl ?_
  refine o_iloadN X12 dm3_103 rfl (q := 104) rfl ?_
  refine o_iload X12 dm3_104 rfl (q := 106) rfl ?_
  refine o_iload X12 dm3_106 rfl (q := 108) rfl ?_
  refine o_iload X12 dm3_108 rfl (q := 110) rfl ?_
  refine o_iload X12 dm3_110 rfl (q := 112) rfl ?_
  have f13 := f10
  have f14 := f11
  refine o_statL X12 [(.ref r), (.int (Int32.ofNat (b + 5))), (.int (Int32.ofNat nn)), (.int (Int32.ofNat pp)), (.int dv), (.int c0), (.int c1), (.int c2)] (y' := ⟨"com/example/parkville/parkville/QueryExceptionReportPinLaw", "at", "(Ljava/lang/String;IIIICCC)Z"⟩) (c_atA hw r rb rl (b + 5) nn pp dv c0 c1 c2 ca1 cb1 _ O2 P5 O4 rfm f13 hl hn4 f14 (by omega) (by omega) (he _ (by omega)) hp hp2) (fun _ q => LitV.stays Lw12 q) (w202 hw) (w203 hw) (w200 hw) (w204 hw) (by decide) dm3_112 (rest := []) rfl rfl (lenOf pd28 rfl) rfl (by decide) (lb rfl) (by decide) (by decide) (q := 115) rfl ?_
  intro v15 vm15 T15 h15 l15 X15 R15 q15 M15
  obtain ⟨rfl, e15⟩ := q15
  have e15 := e15.symm
  subst e15
  show Goes p e below _ T15 (mkF m 115 #[.val (.ref r), .val (.int (Int32.ofNat b)), .val (.int (Int32.ofNat nn)), .val (.int (Int32.ofNat pp)), .val (.int dv), .val (.int c0), .val (.int c1), .val (.int c2)] [(.int (1 : Int32))])
  have Lw15 := M15 _ _ _ Lw12
  refine o_ifN X15 dm3_115 (by decide) (q := 118) rfl ?_
  refine o_aloadN X15 dm3_118 rfl rfl (q := 119) rfl ?_
  refine o_iloadN X15 dm3_119 rfl (q := 120) rfl ?_
  refine o_bipush X15 dm3_120 (w := 6) rfl (q := 122) rfl ?_
  refine o_iadd X15 dm3_122 (w := (Int32.ofNat (b + 6))) (n_add _ _) (q := 123) rfl ?_
  refine o_iloadN X15 dm3_123 rfl (q := 124) rfl ?_
  refine o_iloadN X15 dm3_124 rfl (q := 125) rfl ?_
  refine o_iload X15 dm3_125 rfl (q := 127) rfl ?_
  refine o_iload X15 dm3_127 rfl (q := 129) rfl ?_
  refine o_iload X15 dm3_129 rfl (q := 131) rfl ?_
  refine o_iload X15 dm3_131 rfl (q := 133) rfl ?_
  have f16 := f13
  have f17 := f14
  refine o_statL X15 [(.ref r), (.int (Int32.ofNat (b + 6))), (.int (Int32.ofNat nn)), (.int (Int32.ofNat pp)), (.int dv), (.int c0), (.int c1), (.int c2)] (y' := ⟨"com/example/parkville/parkville/QueryExceptionReportPinLaw", "at", "(Ljava/lang/String;IIIICCC)Z"⟩) (c_atA hw r rb rl (b + 6) nn pp dv c0 c1 c2 ca1 cb1 _ O2 P5 O4 rfm f16 hl hn4 f17 (by omega) (by omega) (he _ (by omega)) hp hp2) (fun _ q => LitV.stays Lw15 q) (w202 hw) (w203 hw) (w200 hw) (w204 hw) (by decide) dm3_133 (rest := []) rfl rfl (lenOf pd28 rfl) rfl (by decide) (lb rfl) (by decide) (by decide) (q := 136) rfl ?_
  intro v18 vm18 T18 h18 l18 X18 R18 q18 M18
  obtain ⟨rfl, e18⟩ := q18
  have e18 := e18.symm
  subst e18
  show Goes p e below _ T18 (mkF m 136 #[.val (.ref r), .val (.int (Int32.ofNat b)), .val (.int (Int32.ofNat nn)), .val (.int (Int32.ofNat pp)), .val (.int dv), .val (.int c0), .val (.int c1), .val (.int c2)] [(.int (1 : Int32))])
  have Lw18 := M18 _ _ _ Lw15
  refine o_ifN X18 dm3_136 (by decide) (q := 139) rfl ?_
  refine o_aloadN X18 dm3_139 rfl rfl (q := 140) rfl ?_
  refine o_iloadN X18 dm3_140 rfl (q := 141) rfl ?_
  refine o_bipush X18 dm3_141 (w := 7) rfl (q := 143) rfl ?_
  refine o_iadd X18 dm3_143 (w := (Int32.ofNat (b + 7))) (n_add _ _) (q := 144) rfl ?_
  refine o_iloadN X18 dm3_144 rfl (q := 145) rfl ?_
  refine o_iloadN X18 dm3_145 rfl (q := 146) rfl ?_
  refine o_iload X18 dm3_146 rfl (q := 148) rfl ?_
  refine o_iload X18 dm3_148 rfl (q := 150) rfl ?_
  refine o_iload X18 dm3_150 rfl (q := 152) rfl ?_
  refine o_iload X18 dm3_152 rfl (q := 154) rfl ?_
  have f19 := f16
  have f20 := f17
  refine o_statL X18 [(.ref r), (.int (Int32.ofNat (b + 7))), (.int (Int32.ofNat nn)), (.int (Int32.ofNat pp)), (.int dv), (.int c0), (.int c1), (.int c2)] (y' := ⟨"com/example/parkville/parkville/QueryExceptionReportPinLaw", "at", "(Ljava/lang/String;IIIICCC)Z"⟩) (c_atA hw r rb rl (b + 7) nn pp dv c0 c1 c2 ca1 cb1 _ O2 P5 O4 rfm f19 hl hn4 f20 (by omega) (by omega) (he _ (by omega)) hp hp2) (fun _ q => LitV.stays Lw18 q) (w202 hw) (w203 hw) (w200 hw) (w204 hw) (by decide) dm3_154 (rest := []) rfl rfl (lenOf pd28 rfl) rfl (by decide) (lb rfl) (by decide) (by decide) (q := 157) rfl ?_
  intro v21 vm21 T21 h21 l21 X21 R21 q21 M21
  obtain ⟨rfl, e21⟩ := q21
  have e21 := e21.symm
  subst e21
  show Goes p e below _ T21 (mkF m 157 #[.val (.ref r), .val (.int (Int32.ofNat b)), .val (.int (Int32.ofNat nn)), .val (.int (Int32.ofNat pp)), .val (.int dv), .val (.int c0), .val (.int c1), .val (.int c2)] [(.int (1 : Int32))])
  have Lw21 := M21 _ _ _ Lw18
  refine o_ifN X21 dm3_157 (by decide) (q := 160) rfl ?_
  refine o_iconst X21 dm3_160 (w := 1) rfl (q := 161) rfl ?_
  refine o_goto X21 dm3_161 (by decide) (q := 165) (by decide) ?_
  have k22 := Keep.trans (Keep.refl h0 []) K1 all0
  exact o_retN X21 dm3_165 (by simp) (fun Sf hSf => ⟨rfl, k22⟩) (by decide) (by decide)
theorem c_chB {l : Launch} {Z : State} {a0 : Array Value} (hw : W a0 Z) (r rb : Addr) (rl : List Int32) (b nn pp dd : Nat) (c0 c1 c2 : Int32) (h0 : Heap) {zc : Int32} (O2 : Sta Z Z.heap "java/lang/String" "COMPACT_STRINGS" "Z" (.int zc)) (P5 : ¬ zc = 0) {fm : Value} (O4 : Sta Z Z.heap "jdk/internal/util/Preconditions" "SIOOBE_FORMATTER" "Ljava/util/function/BiFunction;" fm) (rfm : fm.isRef = true) {kr : ClassId} (L : LS Z h0 r rb kr rl) (hl : rl.length = nn) (hn4 : nn ≤ 4000) (k0 : ¬ c0 < 0 ∧ ¬ (255 : Int32) < c0) (k1 : ¬ c1 < 0 ∧ ¬ (255 : Int32) < c1) (k2 : ¬ c2 < 0 ∧ ¬ (255 : Int32) < c2) (hb : 24 ≤ b) (hb2 : b ≤ 1000) (hd1 : 1 ≤ dd) (hd10 : dd ≤ 10) (he : ∀ i, 24 ≤ i → i < nn → rl.getD i 0 = (exB pp dd c0 c1 c2 i)) (hp : 0 < pp) (hp2 : pp < 2147483648) :
    Con l Z EL0 (⟨"com/example/parkville/parkville/QueryExceptionReportPinLaw", "chk8", "(Ljava/lang/String;IIIICCC)Z"⟩ : MethodName) method_3_code 8 (some .boolean) ({ frames := 5, cells := 8, slots := 80, locals := 72 } : Room) #[(.ref r), (.int (Int32.ofNat b)), (.int (Int32.ofNat nn)), (.int (Int32.ofNat pp)), (.int (Int32.ofNat dd)), (.int c0), (.int c1), (.int c2)] h0 [] (fun v h' Sf => v = some (.int (1 : Int32)) ∧ Keep h0 h' []) := by
  refine Con.intro (plainFor_of_name pn10) ?_
  intro p e s m below meth c T X hss
  refine Goes.cast (g' := mkF m 0 #[.val (.ref r), .val (.int (Int32.ofNat b)), .val (.int (Int32.ofNat nn)), .val (.int (Int32.ofNat pp)), .val (.int (Int32.ofNat dd)), .val (.int c0), .val (.int c1), .val (.int c2)] []) (by first | (simp [entryFrame, mkF, argsToLocals, Value.category]; done) | rfl) ?_
  refine o_aloadN X dm3_0 rfl rfl (q := 1) rfl ?_
  refine o_iloadN X dm3_1 rfl (q := 2) rfl ?_
  refine o_iloadN X dm3_2 rfl (q := 3) rfl ?_
  refine o_iloadN X dm3_3 rfl (q := 4) rfl ?_
  refine o_iload X dm3_4 rfl (q := 6) rfl ?_
  refine o_iload X dm3_6 rfl (q := 8) rfl ?_
  refine o_iload X dm3_8 rfl (q := 10) rfl ?_
  refine o_iload X dm3_10 rfl (q := 12) rfl ?_
  refine o_stat X [(.ref r), (.int (Int32.ofNat b)), (.int (Int32.ofNat nn)), (.int (Int32.ofNat pp)), (.int (Int32.ofNat dd)), (.int c0), (.int c1), (.int c2)] (y' := ⟨"com/example/parkville/parkville/QueryExceptionReportPinLaw", "at", "(Ljava/lang/String;IIIICCC)Z"⟩) (c_atB hw r rb rl b nn pp dd c0 c1 c2 _ O2 P5 O4 rfm L hl hn4 k0 k1 k2 (by omega) (by omega) hd1 hd10 hp hp2 (fun q => he _ (by omega) q)) all0 (w202 hw) (w203 hw) (w200 hw) (w204 hw) (by decide) dm3_12 (rest := []) rfl rfl (lenOf pd28 rfl) rfl (by decide) (lb rfl) (by decide) (by decide) (q := 15) rfl ?_
  intro v1 vm1 T1 h1 l1 X1 R1 q1
  obtain ⟨rfl, K1⟩ := q1
  show Goes p e below _ T1 (mkF m 15 #[.val (.ref r), .val (.int (Int32.ofNat b)), .val (.int (Int32.ofNat nn)), .val (.int (Int32.ofNat pp)), .val (.int (Int32.ofNat dd)), .val (.int c0), .val (.int c1), .val (.int c2)] [(.int (1 : Int32))])
  refine o_ifN X1 dm3_15 (by decide) (q := 18) rfl ?_
  refine o_aloadN X1 dm3_18 rfl rfl (q := 19) rfl ?_
  refine o_iloadN X1 dm3_19 rfl (q := 20) rfl ?_
  refine o_iconst X1 dm3_20 (w := 1) rfl (q := 21) rfl ?_
  refine o_iadd X1 dm3_21 (w := (Int32.ofNat (b + 1))) (n_add _ _) (q := 22) rfl ?_
  refine o_iloadN X1 dm3_22 rfl (q := 23) rfl ?_
  refine o_iloadN X1 dm3_23 rfl (q := 24) rfl ?_
  refine o_iload X1 dm3_24 rfl (q := 26) rfl ?_
  refine o_iload X1 dm3_26 rfl (q := 28) rfl ?_
  refine o_iload X1 dm3_28 rfl (q := 30) rfl ?_
  refine o_iload X1 dm3_30 rfl (q := 32) rfl ?_
  have f2 := (L.keep K1 nin0 nin0)
  refine o_stat X1 [(.ref r), (.int (Int32.ofNat (b + 1))), (.int (Int32.ofNat nn)), (.int (Int32.ofNat pp)), (.int (Int32.ofNat dd)), (.int c0), (.int c1), (.int c2)] (y' := ⟨"com/example/parkville/parkville/QueryExceptionReportPinLaw", "at", "(Ljava/lang/String;IIIICCC)Z"⟩) (c_atB hw r rb rl (b + 1) nn pp dd c0 c1 c2 _ O2 P5 O4 rfm f2 hl hn4 k0 k1 k2 (by omega) (by omega) hd1 hd10 hp hp2 (fun q => he _ (by omega) q)) all0 (w202 hw) (w203 hw) (w200 hw) (w204 hw) (by decide) dm3_32 (rest := []) rfl rfl (lenOf pd28 rfl) rfl (by decide) (lb rfl) (by decide) (by decide) (q := 35) rfl ?_
  intro v3 vm3 T3 h3 l3 X3 R3 q3
  obtain ⟨rfl, K3⟩ := q3
  show Goes p e below _ T3 (mkF m 35 #[.val (.ref r), .val (.int (Int32.ofNat b)), .val (.int (Int32.ofNat nn)), .val (.int (Int32.ofNat pp)), .val (.int (Int32.ofNat dd)), .val (.int c0), .val (.int c1), .val (.int c2)] [(.int (1 : Int32))])
  refine o_ifN X3 dm3_35 (by decide) (q := 38) rfl ?_
  refine o_aloadN X3 dm3_38 rfl rfl (q := 39) rfl ?_
  refine o_iloadN X3 dm3_39 rfl (q := 40) rfl ?_
  refine o_iconst X3 dm3_40 (w := 2) rfl (q := 41) rfl ?_
  refine o_iadd X3 dm3_41 (w := (Int32.ofNat (b + 2))) (n_add _ _) (q := 42) rfl ?_
  refine o_iloadN X3 dm3_42 rfl (q := 43) rfl ?_
  refine o_iloadN X3 dm3_43 rfl (q := 44) rfl ?_
  refine o_iload X3 dm3_44 rfl (q := 46) rfl ?_
  refine o_iload X3 dm3_46 rfl (q := 48) rfl ?_
  refine o_iload X3 dm3_48 rfl (q := 50) rfl ?_
  refine o_iload X3 dm3_50 rfl (q := 52) rfl ?_
  have f4 := (f2.keep K3 nin0 nin0)
  refine o_stat X3 [(.ref r), (.int (Int32.ofNat (b + 2))), (.int (Int32.ofNat nn)), (.int (Int32.ofNat pp)), (.int (Int32.ofNat dd)), (.int c0), (.int c1), (.int c2)] (y' := ⟨"com/example/parkville/parkville/QueryExceptionReportPinLaw", "at", "(Ljava/lang/String;IIIICCC)Z"⟩) (c_atB hw r rb rl (b + 2) nn pp dd c0 c1 c2 _ O2 P5 O4 rfm f4 hl hn4 k0 k1 k2 (by omega) (by omega) hd1 hd10 hp hp2 (fun q => he _ (by omega) q)) all0 (w202 hw) (w203 hw) (w200 hw) (w204 hw) (by decide) dm3_52 (rest := []) rfl rfl (lenOf pd28 rfl) rfl (by decide) (lb rfl) (by decide) (by decide) (q := 55) rfl ?_
  intro v5 vm5 T5 h5 l5 X5 R5 q5
  obtain ⟨rfl, K5⟩ := q5
  show Goes p e below _ T5 (mkF m 55 #[.val (.ref r), .val (.int (Int32.ofNat b)), .val (.int (Int32.ofNat nn)), .val (.int (Int32.ofNat pp)), .val (.int (Int32.ofNat dd)), .val (.int c0), .val (.int c1), .val (.int c2)] [(.int (1 : Int32))])
  refine o_ifN X5 dm3_55 (by decide) (q := 58) rfl ?_
  refine o_aloadN X5 dm3_58 rfl rfl (q := 59) rfl ?_
  refine o_iloadN X5 dm3_59 rfl (q := 60) rfl ?_
  refine o_iconst X5 dm3_60 (w := 3) rfl (q := 61) rfl ?_
  refine o_iadd X5 dm3_61 (w := (Int32.ofNat (b + 3))) (n_add _ _) (q := 62) rfl ?_
  refine o_iloadN X5 dm3_62 rfl (q := 63) rfl ?_
  refine o_iloadN X5 dm3_63 rfl (q := 64) rfl ?_
  refine o_iload X5 dm3_64 rfl (q := 66) rfl ?_
  refine o_iload X5 dm3_66 rfl (q := 68) rfl ?_
  refine o_iload X5 dm3_68 rfl (q := 70) rfl ?_
  refine o_iload X5 dm3_70 rfl (q := 72) rfl ?_
  have f6 := (f4.keep K5 nin0 nin0)
  refine o_stat X5 [(.ref r), (.int (Int32.ofNat (b + 3))), (.int (Int32.ofNat nn)), (.int (Int32.ofNat pp)), (.int (Int32.ofNat dd)), (.int c0), (.int c1), (.int c2)] (y' := ⟨"com/example/parkville/parkville/QueryExceptionReportPinLaw", "at", "(Ljava/lang/String;IIIICCC)Z"⟩) (c_atB hw r rb rl (b + 3) nn pp dd c0 c1 c2 _ O2 P5 O4 rfm f6 hl hn4 k0 k1 k2 (by omega) (by omega) hd1 hd10 hp hp2 (fun q => he _ (by omega) q)) all0 (w202 hw) (w203 hw) (w200 hw) (w204 hw) (by decide) dm3_72 (rest := []) rfl rfl (lenOf pd28 rfl) rfl (by decide) (lb rfl) (by decide) (by decide) (q := 75) rfl ?_
  intro v7 vm7 T7 h7 l7 X7 R7 q7
  obtain ⟨rfl, K7⟩ := q7
  show Goes p e below _ T7 (mkF m 75 #[.val (.ref r), .val (.int (Int32.ofNat b)), .val (.int (Int32.ofNat nn)), .val (.int (Int32.ofNat pp)), .val (.int (Int32.ofNat dd)), .val (.int c0), .val (.int c1), .val (.int c2)] [(.int (1 : Int32))])
  refine o_ifN X7 dm3_75 (by decide) (q := 78) rfl ?_
  refine o_aloadN X7 dm3_78 rfl rfl (q := 79) rfl ?_
  refine o_iloadN X7 dm3_79 rfl (q := 80) rfl ?_
  refine o_iconst X7 dm3_80 (w := 4) rfl (q := 81) rfl ?_
  refine o_iadd X7 dm3_81 (w := (Int32.ofNat (b + 4))) (n_add _ _) (q := 82) rfl ?_
  refine o_iloadN X7 dm3_82 rfl (q := 83) rfl ?_
  refine o_iloadN X7 dm3_83 rfl (q := 84) rfl ?_
  refine o_iload X7 dm3_84 rfl (q := 86) rfl ?_
  refine o_iload X7 dm3_86 rfl (q := 88) rfl ?_
  refine o_iload X7 dm3_88 rfl (q := 90) rfl ?_
  refine o_iload X7 dm3_90 rfl (q := 92) rfl ?_
  have f8 := (f6.keep K7 nin0 nin0)
  refine o_stat X7 [(.ref r), (.int (Int32.ofNat (b + 4))), (.int (Int32.ofNat nn)), (.int (Int32.ofNat pp)), (.int (Int32.ofNat dd)), (.int c0), (.int c1), (.int c2)] (y' := ⟨"com/example/parkville/parkville/QueryExceptionReportPinLaw", "at", "(Ljava/lang/String;IIIICCC)Z"⟩) (c_atB hw r rb rl (b + 4) nn pp dd c0 c1 c2 _ O2 P5 O4 rfm f8 hl hn4 k0 k1 k2 (by omega) (by omega) hd1 hd10 hp hp2 (fun q => he _ (by omega) q)) all0 (w202 hw) (w203 hw) (w200 hw) (w204 hw) (by decide) dm3_92 (rest := []) rfl rfl (lenOf pd28 rfl) rfl (by decide) (lb rfl) (by decide) (by decide) (q := 95) rfl ?_
  intro v9 vm9 T9 h9 l9 X9 R9 q9
  obtain ⟨rfl, K9⟩ := q9
  show Goes p e below _ T9 (mkF m 95 #[.val (.ref r), .val (.int (Int32.ofNat b)), .val (.int (Int32.ofNat nn)), .val (.int (Int32.ofNat pp)), .val (.int (Int32.ofNat dd)), .val (.int c0), .val (.int c1), .val (.int c2)] [(.int (1 : Int32))])
  refine o_ifN X9 dm3_95 (by decide) (q := 98) rfl ?_
  refine o_aloadN X9 dm3_98 rfl rfl (q := 99) rfl ?_
  refine o_iloadN X9 dm3_99 rfl (q := 100) rfl ?_
  refine o_iconst X9 dm3_100 (w := 5) rfl (q := 101) rfl ?_
  refine o_iadd X9 dm3_101 (w := (Int32.ofNat (b + 5))) (n_add _ _) (q := 102) rfl ?_
  refine o_iloadN X9 dm3_102 rfl (q := 103) rfl ?_
  refine o_iloadN X9 dm3_103 rfl (q := 104) rfl ?_
  refine o_iload X9 dm3_104 rfl (q := 106) rfl ?_
  refine o_iload X9 dm3_106 rfl (q := 108) rfl ?_
  refine o_iload X9 dm3_108 rfl (q := 110) rfl ?_
  refine o_iload X9 dm3_110 rfl (q := 112) rfl ?_
  have f10 := (f8.keep K9 nin0 nin0)
  refine o_stat X9 [(.ref r), (.int (Int32.ofNat (b + 5))), (.int (Int32.ofNat nn)), (.int (Int32.ofNat pp)), (.int (Int32.ofNat dd)), (.int c0), (.int c1), (.int c2)] (y' := ⟨"com/example/parkville/parkville/QueryExceptionReportPinLaw", "at", "(Ljava/lang/String;IIIICCC)Z"⟩) (c_atB hw r rb rl (b + 5) nn pp dd c0 c1 c2 _ O2 P5 O4 rfm f10 hl hn4 k0 k1 k2 (by omega) (by omega) hd1 hd10 hp hp2 (fun q => he _ (by omega) q)) all0 (w202 hw) (w203 hw) (w200 hw) (w204 hw) (by decide) dm3_112 (rest := []) rfl rfl (lenOf pd28 rfl) rfl (by decide) (lb rfl) (by decide) (by decide) (q := 115) rfl ?_
  intro v11 vm11 T11 h11 l11 X11 R11 q11
  obtain ⟨rfl, K11⟩ := q11
  show Goes p e below _ T11 (mkF m 115 #[.val (.ref r), .val (.int (Int32.ofNat b)), .val (.int (Int32.ofNat nn)), .val (.int (Int32.ofNat pp)), .val (.int (Int32.ofNat dd)), .val (.int c0), .val (.int c1), .val (.int c2)] [(.int (1 : Int32))])
  refine o_ifN X11 dm3_115 (by decide) (q := 118) rfl ?_
  refine o_aloadN X11 dm3_118 rfl rfl (q := 119) rfl ?_
  refine o_iloadN X11 dm3_119 rfl (q := 120) rfl ?_
  refine o_bipush X11 dm3_120 (w := 6) rfl (q := 122) rfl ?_
  refine o_iadd X11 dm3_122 (w := (Int32.ofNat (b + 6))) (n_add _ _) (q := 123) rfl ?_
  refine o_iloadN X11 dm3_123 rfl (q := 124) rfl ?_
  refine o_iloadN X11 dm3_124 rfl (q := 125) rfl ?_
  refine o_iload X11 dm3_125 rfl (q := 127) rfl ?_
  refine o_iload X11 dm3_127 rfl (q := 129) rfl ?_
  refine o_iload X11 dm3_129 rfl (q := 131) rfl ?_
  refine o_iload X11 dm3_131 rfl (q := 133) rfl ?_
  have f12 := (f10.keep K11 nin0 nin0)
  refine o_stat X11 [(.ref r), (.int (Int32.ofNat (b + 6))), (.int (Int32.ofNat nn)), (.int (Int32.ofNat pp)), (.int (Int32.ofNat dd)), (.int c0), (.int c1), (.int c2)] (y' := ⟨"com/example/parkville/parkville/QueryExceptionReportPinLaw", "at", "(Ljava/lang/String;IIIICCC)Z"⟩) (c_atB hw r rb rl (b + 6) nn pp dd c0 c1 c2 _ O2 P5 O4 rfm f12 hl hn4 k0 k1 k2 (by omega) (by omega) hd1 hd10 hp hp2 (fun q => he _ (by omega) q)) all0 (w202 hw) (w203 hw) (w200 hw) (w204 hw) (by decide) dm3_133 (rest := []) rfl rfl (lenOf pd28 rfl) rfl (by decide) (lb rfl) (by decide) (by decide) (q := 136) rfl ?_
  intro v13 vm13 T13 h13 l13 X13 R13 q13
  obtain ⟨rfl, K13⟩ := q13
  show Goes p e below _ T13 (mkF m 136 #[.val (.ref r), .val (.int (Int32.ofNat b)), .val (.int (Int32.ofNat nn)), .val (.int (Int32.ofNat pp)), .val (.int (Int32.ofNat dd)), .val (.int c0), .val (.int c1), .val (.int c2)] [(.int (1 : Int32))])
  refine o_ifN X13 dm3_136 (by decide) (q := 139) rfl ?_
  refine o_aloadN X13 dm3_139 rfl rfl (q := 140) rfl ?_
  refine o_iloadN X13 dm3_140 rfl (q := 141) rfl ?_
  refine o_bipush X13 dm3_141 (w := 7) rfl (q := 143) rfl ?_
  refine o_iadd X13 dm3_143 (w := (Int32.ofNat (b + 7))) (n_add _ _) (q := 144) rfl ?_
  refine o_iloadN X13 dm3_144 rfl (q := 145) rfl ?_
  refine o_iloadN X13 dm3_145 rfl (q := 146) rfl ?_
  refine o_iload X13 dm3_146 rfl (q := 148) rfl ?_
  refine o_iload X13 dm3_148 rfl (q := 150) rfl ?_
  refine o_iload X13 dm3_150 rfl (q := 152) rfl ?_
  refine o_iload X13 dm3_152 rfl (q := 154) rfl ?_
  have f14 := (f12.keep K13 nin0 nin0)
  refine o_stat X13 [(.ref r), (.int (Int32.ofNat (b + 7))), (.int (Int32.ofNat nn)), (.int (Int32.ofNat pp)), (.int (Int32.ofNat dd)), (.int c0), (.int c1), (.int c2)] (y' := ⟨"com/example/parkville/parkville/QueryExceptionReportPinLaw", "at", "(Ljava/lang/String;IIIICCC)Z"⟩) (c_atB hw r rb rl (b + 7) nn pp dd c0 c1 c2 _ O2 P5 O4 rfm f14 hl hn4 k0 k1 k2 (by omega) (by omega) hd1 hd10 hp hp2 (fun q => he _ (by omega) q)) all0 (w202 hw) (w203 hw) (w200 hw) (w204 hw) (by decide) dm3_154 (rest := []) rfl rfl (lenOf pd28 rfl) rfl (by decide) (lb rfl) (by decide) (by decide) (q := 157) rfl ?_
  intro v15 vm15 T15 h15 l15 X15 R15 q15
  obtain ⟨rfl, K15⟩ := q15
  show Goes p e below _ T15 (mkF m 157 #[.val (.ref r), .val (.int (Int32.ofNat b)), .val (.int (Int32.ofNat nn)), .val (.int (Int32.ofNat pp)), .val (.int (Int32.ofNat dd)), .val (.int c0), .val (.int c1), .val (.int c2)] [(.int (1 : Int32))])
  refine o_ifN X15 dm3_157 (by decide) (q := 160) rfl ?_
  refine o_iconst X15 dm3_160 (w := 1) rfl (q := 161) rfl ?_
  refine o_goto X15 dm3_161 (by decide) (q := 165) (by decide) ?_
  have k16 := Keep.trans (Keep.refl h0 []) K1 all0
  have k17 := Keep.trans k16 K3 all0
  have k18 := Keep.trans k17 K5 all0
  have k19 := Keep.trans k18 K7 all0
  have k20 := Keep.trans k19 K9 all0
  have k21 := Keep.trans k20 K11 all0
  have k22 := Keep.trans k21 K13 all0
  have k23 := Keep.trans k22 K15 all0
  exact o_retN X15 dm3_165 (by simp) (fun Sf hSf => ⟨rfl, k23⟩) (by decide) (by decide)
theorem c_chC {l : Launch} {Z : State} {a0 : Array Value} (hw : W a0 Z) (r rb : Addr) (rl : List Int32) (b nn : Nat) (dv : Int32) (c0 c1 c2 : Int32) (h0 : Heap) {zc : Int32} (O2 : Sta Z Z.heap "java/lang/String" "COMPACT_STRINGS" "Z" (.int zc)) (P5 : ¬ zc = 0) {fm : Value} (O4 : Sta Z Z.heap "jdk/internal/util/Preconditions" "SIOOBE_FORMATTER" "Ljava/util/function/BiFunction;" fm) (rfm : fm.isRef = true) {kr : ClassId} (L : LS Z h0 r rb kr rl) (hl : rl.length = nn) (hn4 : nn ≤ 4000) (k0 : ¬ c0 < 0 ∧ ¬ (255 : Int32) < c0) (k1 : ¬ c1 < 0 ∧ ¬ (255 : Int32) < c1) (k2 : ¬ c2 < 0 ∧ ¬ (255 : Int32) < c2) (hb2 : b ≤ 1000) (he : ∀ i, i < nn → rl.getD i 0 = (exC c0 c1 c2 i)) :
    Con l Z EL0 (⟨"com/example/parkville/parkville/QueryExceptionReportPinLaw", "chk8", "(Ljava/lang/String;IIIICCC)Z"⟩ : MethodName) method_3_code 8 (some .boolean) ({ frames := 6, cells := 16, slots := 448, locals := 91 } : Room) #[(.ref r), (.int (Int32.ofNat b)), (.int (Int32.ofNat nn)), (.int (0 : Int32)), (.int dv), (.int c0), (.int c1), (.int c2)] h0 [] (fun v h' Sf => v = some (.int (1 : Int32)) ∧ Keep h0 h' []) := by
  refine Con.intro (plainFor_of_name pn10) ?_
  intro p e s m below meth c T X hss
  refine Goes.cast (g' := mkF m 0 #[.val (.ref r), .val (.int (Int32.ofNat b)), .val (.int (Int32.ofNat nn)), .val (.int (0 : Int32)), .val (.int dv), .val (.int c0), .val (.int c1), .val (.int c2)] []) (by first | (simp [entryFrame, mkF, argsToLocals, Value.category]; done) | rfl) ?_
  refine o_aloadN X dm3_0 rfl rfl (q := 1) rfl ?_
  refine o_iloadN X dm3_1 rfl (q := 2) rfl ?_
  refine o_iloadN X dm3_2 rfl (q := 3) rfl ?_
  refine o_iloadN X dm3_3 rfl (q := 4) rfl ?_
  refine o_iload X dm3_4 rfl (q := 6) rfl ?_
  refine o_iload X dm3_6 rfl (q := 8) rfl ?_
  refine o_iload X dm3_8 rfl (q := 10) rfl ?_
  refine o_iload X dm3_10 rfl (q := 12) rfl ?_
  refine o_stat X [(.ref r), (.int (Int32.ofNat b)), (.int (Int32.ofNat nn)), (.int (0 : Int32)), (.int dv), (.int c0), (.int c1), (.int c2)] (y' := ⟨"com/example/parkville/parkville/QueryExceptionReportPinLaw", "at", "(Ljava/lang/String;IIIICCC)Z"⟩) (c_atC hw r rb rl b nn dv c0 c1 c2 _ O2 P5 O4 rfm L hl hn4 k0 k1 k2 (by omega) (fun q => he _ q)) all0 (w202 hw) (w203 hw) (w200 hw) (w204 hw) (by decide) dm3_12 (rest := []) rfl rfl (lenOf pd28 rfl) rfl (by decide) (lb rfl) (by decide) (by decide) (q := 15) rfl ?_
  intro v1 vm1 T1 h1 l1 X1 R1 q1
  obtain ⟨rfl, K1⟩ := q1
  show Goes p e below _ T1 (mkF m 15 #[.val (.ref r), .val (.int (Int32.ofNat b)), .val (.int (Int32.ofNat nn)), .val (.int (0 : Int32)), .val (.int dv), .val (.int c0), .val (.int c1), .val (.int c2)] [(.int (1 : Int32))])
  refine o_ifN X1 dm3_15 (by decide) (q := 18) rfl ?_
  refine o_aloadN X1 dm3_18 rfl rfl (q := 19) rfl ?_
  refine o_iloadN X1 dm3_19 rfl (q := 20) rfl ?_
  refine o_iconst X1 dm3_20 (w := 1) rfl (q := 21) rfl ?_
  refine o_iadd X1 dm3_21 (w := (Int32.ofNat (b + 1))) (n_add _ _) (q := 22) rfl ?_
  refine o_iloadN X1 dm3_22 rfl (q := 23) rfl ?_
  refine o_iloadN X1 dm3_23 rfl (q := 24) rfl ?_
  refine o_iload X1 dm3_24 rfl (q := 26) rfl ?_
  refine o_iload X1 dm3_26 rfl (q := 28) rfl ?_
  refine o_iload X1 dm3_28 rfl (q := 30) rfl ?_
  refine o_iload X1 dm3_30 rfl (q := 32) rfl ?_
  have f2 := (L.keep K1 nin0 nin0)
  refine o_stat X1 [(.ref r), (.int (Int32.ofNat (b + 1))), (.int (Int32.ofNat nn)), (.int (0 : Int32)), (.int dv), (.int c0), (.int c1), (.int c2)] (y' := ⟨"com/example/parkville/parkville/QueryExceptionReportPinLaw", "at", "(Ljava/lang/String;IIIICCC)Z"⟩) (c_atC hw r rb rl (b + 1) nn dv c0 c1 c2 _ O2 P5 O4 rfm f2 hl hn4 k0 k1 k2 (by omega) (fun q => he _ q)) all0 (w202 hw) (w203 hw) (w200 hw) (w204 hw) (by decide) dm3_32 (rest := []) rfl rfl (lenOf pd28 rfl) rfl (by decide) (lb rfl) (by decide) (by decide) (q := 35) rfl ?_
  intro v3 vm3 T3 h3 l3 X3 R3 q3
  obtain ⟨rfl, K3⟩ := q3
  show Goes p e below _ T3 (mkF m 35 #[.val (.ref r), .val (.int (Int32.ofNat b)), .val (.int (Int32.ofNat nn)), .val (.int (0 : Int32)), .val (.int dv), .val (.int c0), .val (.int c1), .val (.int c2)] [(.int (1 : Int32))])
  refine o_ifN X3 dm3_35 (by decide) (q := 38) rfl ?_
  refine o_aloadN X3 dm3_38 rfl rfl (q := 39) rfl ?_
  refine o_iloadN X3 dm3_39 rfl (q := 40) rfl ?_
  refine o_iconst X3 dm3_40 (w := 2) rfl (q := 41) rfl ?_
  refine o_iadd X3 dm3_41 (w := (Int32.ofNat (b + 2))) (n_add _ _) (q := 42) rfl ?_
  refine o_iloadN X3 dm3_42 rfl (q := 43) rfl ?_
  refine o_iloadN X3 dm3_43 rfl (q := 44) rfl ?_
  refine o_iload X3 dm3_44 rfl (q := 46) rfl ?_
  refine o_iload X3 dm3_46 rfl (q := 48) rfl ?_
  refine o_iload X3 dm3_48 rfl (q := 50) rfl ?_
  refine o_iload X3 dm3_50 rfl (q := 52) rfl ?_
  have f4 := (f2.keep K3 nin0 nin0)
  refine o_stat X3 [(.ref r), (.int (Int32.ofNat (b + 2))), (.int (Int32.ofNat nn)), (.int (0 : Int32)), (.int dv), (.int c0), (.int c1), (.int c2)] (y' := ⟨"com/example/parkville/parkville/QueryExceptionReportPinLaw", "at", "(Ljava/lang/String;IIIICCC)Z"⟩) (c_atC hw r rb rl (b + 2) nn dv c0 c1 c2 _ O2 P5 O4 rfm f4 hl hn4 k0 k1 k2 (by omega) (fun q => he _ q)) all0 (w202 hw) (w203 hw) (w200 hw) (w204 hw) (by decide) dm3_52 (rest := []) rfl rfl (lenOf pd28 rfl) rfl (by decide) (lb rfl) (by decide) (by decide) (q := 55) rfl ?_
  intro v5 vm5 T5 h5 l5 X5 R5 q5
  obtain ⟨rfl, K5⟩ := q5
  show Goes p e below _ T5 (mkF m 55 #[.val (.ref r), .val (.int (Int32.ofNat b)), .val (.int (Int32.ofNat nn)), .val (.int (0 : Int32)), .val (.int dv), .val (.int c0), .val (.int c1), .val (.int c2)] [(.int (1 : Int32))])
  refine o_ifN X5 dm3_55 (by decide) (q := 58) rfl ?_
  refine o_aloadN X5 dm3_58 rfl rfl (q := 59) rfl ?_
  refine o_iloadN X5 dm3_59 rfl (q := 60) rfl ?_
  refine o_iconst X5 dm3_60 (w := 3) rfl (q := 61) rfl ?_
  refine o_iadd X5 dm3_61 (w := (Int32.ofNat (b + 3))) (n_add _ _) (q := 62) rfl ?_
  refine o_iloadN X5 dm3_62 rfl (q := 63) rfl ?_
  refine o_iloadN X5 dm3_63 rfl (q := 64) rfl ?_
  refine o_iload X5 dm3_64 rfl (q := 66) rfl ?_
  refine o_iload X5 dm3_66 rfl (q := 68) rfl ?_
  refine o_iload X5 dm3_68 rfl (q := 70) rfl ?_
  refine o_iload X5 dm3_70 rfl (q := 72) rfl ?_
  have f6 := (f4.keep K5 nin0 nin0)
  refine o_stat X5 [(.ref r), (.int (Int32.ofNat (b + 3))), (.int (Int32.ofNat nn)), (.int (0 : Int32)), (.int dv), (.int c0), (.int c1), (.int c2)] (y' := ⟨"com/example/parkville/parkville/QueryExceptionReportPinLaw", "at", "(Ljava/lang/String;IIIICCC)Z"⟩) (c_atC hw r rb rl (b + 3) nn dv c0 c1 c2 _ O2 P5 O4 rfm f6 hl hn4 k0 k1 k2 (by omega) (fun q => he _ q)) all0 (w202 hw) (w203 hw) (w200 hw) (w204 hw) (by decide) dm3_72 (rest := []) rfl rfl (lenOf pd28 rfl) rfl (by decide) (lb rfl) (by decide) (by decide) (q := 75) rfl ?_
  intro v7 vm7 T7 h7 l7 X7 R7 q7
  obtain ⟨rfl, K7⟩ := q7
  show Goes p e below _ T7 (mkF m 75 #[.val (.ref r), .val (.int (Int32.ofNat b)), .val (.int (Int32.ofNat nn)), .val (.int (0 : Int32)), .val (.int dv), .val (.int c0), .val (.int c1), .val (.int c2)] [(.int (1 : Int32))])
  refine o_ifN X7 dm3_75 (by decide) (q := 78) rfl ?_
  refine o_aloadN X7 dm3_78 rfl rfl (q := 79) rfl ?_
  refine o_iloadN X7 dm3_79 rfl (q := 80) rfl ?_
  refine o_iconst X7 dm3_80 (w := 4) rfl (q := 81) rfl ?_
  refine o_iadd X7 dm3_81 (w := (Int32.ofNat (b + 4))) (n_add _ _) (q := 82) rfl ?_
  refine o_iloadN X7 dm3_82 rfl (q := 83) rfl ?_
  refine o_iloadN X7 dm3_83 rfl (q := 84) rfl ?_
  refine o_iload X7 dm3_84 rfl (q := 86) rfl ?_
  refine o_iload X7 dm3_86 rfl (q := 88) rfl ?_
  refine o_iload X7 dm3_88 rfl (q := 90) rfl ?_
  refine o_iload X7 dm3_90 rfl (q := 92) rfl ?_
  have f8 := (f6.keep K7 nin0 nin0)
  refine o_stat X7 [(.ref r), (.int (Int32.ofNat (b + 4))), (.int (Int32.ofNat nn)), (.int (0 : Int32)), (.int dv), (.int c0), (.int c1), (.int c2)] (y' := ⟨"com/example/parkville/parkville/QueryExceptionReportPinLaw", "at", "(Ljava/lang/String;IIIICCC)Z"⟩) (c_atC hw r rb rl (b + 4) nn dv c0 c1 c2 _ O2 P5 O4 rfm f8 hl hn4 k0 k1 k2 (by omega) (fun q => he _ q)) all0 (w202 hw) (w203 hw) (w200 hw) (w204 hw) (by decide) dm3_92 (rest := []) rfl rfl (lenOf pd28 rfl) rfl (by decide) (lb rfl) (by decide) (by decide) (q := 95) rfl ?_
  intro v9 vm9 T9 h9 l9 X9 R9 q9
  obtain ⟨rfl, K9⟩ := q9
  show Goes p e below _ T9 (mkF m 95 #[.val (.ref r), .val (.int (Int32.ofNat b)), .val (.int (Int32.ofNat nn)), .val (.int (0 : Int32)), .val (.int dv), .val (.int c0), .val (.int c1), .val (.int c2)] [(.int (1 : Int32))])
  refine o_ifN X9 dm3_95 (by decide) (q := 98) rfl ?_
  refine o_aloadN X9 dm3_98 rfl rfl (q := 99) rfl ?_
  refine o_iloadN X9 dm3_99 rfl (q := 100) rfl ?_
  refine o_iconst X9 dm3_100 (w := 5) rfl (q := 101) rfl ?_
  refine o_iadd X9 dm3_101 (w := (Int32.ofNat (b + 5))) (n_add _ _) (q := 102) rfl ?_
  refine o_iloadN X9 dm3_102 rfl (q := 103) rfl ?_
  refine o_iloadN X9 dm3_103 rfl (q := 104) rfl ?_
  refine o_iload X9 dm3_104 rfl (q := 106) rfl ?_
  refine o_iload X9 dm3_106 rfl (q := 108) rfl ?_
  refine o_iload X9 dm3_108 rfl (q := 110) rfl ?_
  refine o_iload X9 dm3_110 rfl (q := 112) rfl ?_
  have f10 := (f8.keep K9 nin0 nin0)
  refine o_stat X9 [(.ref r), (.int (Int32.ofNat (b + 5))), (.int (Int32.ofNat nn)), (.int (0 : Int32)), (.int dv), (.int c0), (.int c1), (.int c2)] (y' := ⟨"com/example/parkville/parkville/QueryExceptionReportPinLaw", "at", "(Ljava/lang/String;IIIICCC)Z"⟩) (c_atC hw r rb rl (b + 5) nn dv c0 c1 c2 _ O2 P5 O4 rfm f10 hl hn4 k0 k1 k2 (by omega) (fun q => he _ q)) all0 (w202 hw) (w203 hw) (w200 hw) (w204 hw) (by decide) dm3_112 (rest := []) rfl rfl (lenOf pd28 rfl) rfl (by decide) (lb rfl) (by decide) (by decide) (q := 115) rfl ?_
  intro v11 vm11 T11 h11 l11 X11 R11 q11
  obtain ⟨rfl, K11⟩ := q11
  show Goes p e below _ T11 (mkF m 115 #[.val (.ref r), .val (.int (Int32.ofNat b)), .val (.int (Int32.ofNat nn)), .val (.int (0 : Int32)), .val (.int dv), .val (.int c0), .val (.int c1), .val (.int c2)] [(.int (1 : Int32))])
  refine o_ifN X11 dm3_115 (by decide) (q := 118) rfl ?_
  refine o_aloadN X11 dm3_118 rfl rfl (q := 119) rfl ?_
  refine o_iloadN X11 dm3_119 rfl (q := 120) rfl ?_
  refine o_bipush X11 dm3_120 (w := 6) rfl (q := 122) rfl ?_
  refine o_iadd X11 dm3_122 (w := (Int32.ofNat (b + 6))) (n_add _ _) (q := 123) rfl ?_
  refine o_iloadN X11 dm3_123 rfl (q := 124) rfl ?_
  refine o_iloadN X11 dm3_124 rfl (q := 125) rfl ?_
  refine o_iload X11 dm3_125 rfl (q := 127) rfl ?_
  refine o_iload X11 dm3_127 rfl (q := 129) rfl ?_
  refine o_iload X11 dm3_129 rfl (q := 131) rfl ?_
  refine o_iload X11 dm3_131 rfl (q := 133) rfl ?_
  have f12 := (f10.keep K11 nin0 nin0)
  refine o_stat X11 [(.ref r), (.int (Int32.ofNat (b + 6))), (.int (Int32.ofNat nn)), (.int (0 : Int32)), (.int dv), (.int c0), (.int c1), (.int c2)] (y' := ⟨"com/example/parkville/parkville/QueryExceptionReportPinLaw", "at", "(Ljava/lang/String;IIIICCC)Z"⟩) (c_atC hw r rb rl (b + 6) nn dv c0 c1 c2 _ O2 P5 O4 rfm f12 hl hn4 k0 k1 k2 (by omega) (fun q => he _ q)) all0 (w202 hw) (w203 hw) (w200 hw) (w204 hw) (by decide) dm3_133 (rest := []) rfl rfl (lenOf pd28 rfl) rfl (by decide) (lb rfl) (by decide) (by decide) (q := 136) rfl ?_
  intro v13 vm13 T13 h13 l13 X13 R13 q13
  obtain ⟨rfl, K13⟩ := q13
  show Goes p e below _ T13 (mkF m 136 #[.val (.ref r), .val (.int (Int32.ofNat b)), .val (.int (Int32.ofNat nn)), .val (.int (0 : Int32)), .val (.int dv), .val (.int c0), .val (.int c1), .val (.int c2)] [(.int (1 : Int32))])
  refine o_ifN X13 dm3_136 (by decide) (q := 139) rfl ?_
  refine o_aloadN X13 dm3_139 rfl rfl (q := 140) rfl ?_
  refine o_iloadN X13 dm3_140 rfl (q := 141) rfl ?_
  refine o_bipush X13 dm3_141 (w := 7) rfl (q := 143) rfl ?_
  refine o_iadd X13 dm3_143 (w := (Int32.ofNat (b + 7))) (n_add _ _) (q := 144) rfl ?_
  refine o_iloadN X13 dm3_144 rfl (q := 145) rfl ?_
  refine o_iloadN X13 dm3_145 rfl (q := 146) rfl ?_
  refine o_iload X13 dm3_146 rfl (q := 148) rfl ?_
  refine o_iload X13 dm3_148 rfl (q := 150) rfl ?_
  refine o_iload X13 dm3_150 rfl (q := 152) rfl ?_
  refine o_iload X13 dm3_152 rfl (q := 154) rfl ?_
  have f14 := (f12.keep K13 nin0 nin0)
  refine o_stat X13 [(.ref r), (.int (Int32.ofNat (b + 7))), (.int (Int32.ofNat nn)), (.int (0 : Int32)), (.int dv), (.int c0), (.int c1), (.int c2)] (y' := ⟨"com/example/parkville/parkville/QueryExceptionReportPinLaw", "at", "(Ljava/lang/String;IIIICCC)Z"⟩) (c_atC hw r rb rl (b + 7) nn dv c0 c1 c2 _ O2 P5 O4 rfm f14 hl hn4 k0 k1 k2 (by omega) (fun q => he _ q)) all0 (w202 hw) (w203 hw) (w200 hw) (w204 hw) (by decide) dm3_154 (rest := []) rfl rfl (lenOf pd28 rfl) rfl (by decide) (lb rfl) (by decide) (by decide) (q := 157) rfl ?_
  intro v15 vm15 T15 h15 l15 X15 R15 q15
  obtain ⟨rfl, K15⟩ := q15
  show Goes p e below _ T15 (mkF m 157 #[.val (.ref r), .val (.int (Int32.ofNat b)), .val (.int (Int32.ofNat nn)), .val (.int (0 : Int32)), .val (.int dv), .val (.int c0), .val (.int c1), .val (.int c2)] [(.int (1 : Int32))])
  refine o_ifN X15 dm3_157 (by decide) (q := 160) rfl ?_
  refine o_iconst X15 dm3_160 (w := 1) rfl (q := 161) rfl ?_
  refine o_goto X15 dm3_161 (by decide) (q := 165) (by decide) ?_
  have k16 := Keep.trans (Keep.refl h0 []) K1 all0
  have k17 := Keep.trans k16 K3 all0
  have k18 := Keep.trans k17 K5 all0
  have k19 := Keep.trans k18 K7 all0
  have k20 := Keep.trans k19 K9 all0
  have k21 := Keep.trans k20 K11 all0
  have k22 := Keep.trans k21 K13 all0
  have k23 := Keep.trans k22 K15 all0
  exact o_retN X15 dm3_165 (by simp) (fun Sf hSf => ⟨rfl, k23⟩) (by decide) (by decide)
theorem c_chN {l : Launch} {Z : State} {a0 : Array Value} (hw : W a0 Z) (r : Addr) (b nn : Nat) (pv dv : Int32) (c0 c1 c2 : Int32) (h0 : Heap) (hb : nn ≤ b) (hb2 : b ≤ 1000) :
    Con l Z EL0 (⟨"com/example/parkville/parkville/QueryExceptionReportPinLaw", "chk8", "(Ljava/lang/String;IIIICCC)Z"⟩ : MethodName) method_3_code 8 (some .boolean) ({ frames := 1, cells := 0, slots := 0, locals := 19 } : Room) #[(.ref r), (.int (Int32.ofNat b)), (.int (Int32.ofNat nn)), (.int pv), (.int dv), (.int c0), (.int c1), (.int c2)] h0 [] (fun v h' Sf => v = some (.int (1 : Int32)) ∧ h' = h0) := by
  refine Con.intro (plainFor_of_name pn10) ?_
  intro p e s m below meth c T X hss
  refine Goes.cast (g' := mkF m 0 #[.val (.ref r), .val (.int (Int32.ofNat b)), .val (.int (Int32.ofNat nn)), .val (.int pv), .val (.int dv), .val (.int c0), .val (.int c1), .val (.int c2)] []) (by first | (simp [entryFrame, mkF, argsToLocals, Value.category]; done) | rfl) ?_
  refine o_aloadN X dm3_0 rfl rfl (q := 1) rfl ?_
  refine o_iloadN X dm3_1 rfl (q := 2) rfl ?_
  refine o_iloadN X dm3_2 rfl (q := 3) rfl ?_
  refine o_iloadN X dm3_3 rfl (q := 4) rfl ?_
  refine o_iload X dm3_4 rfl (q := 6) rfl ?_
  refine o_iload X dm3_6 rfl (q := 8) rfl ?_
  refine o_iload X dm3_8 rfl (q := 10) rfl ?_
  refine o_iload X dm3_10 rfl (q := 12) rfl ?_
  refine o_stat X [(.ref r), (.int (Int32.ofNat b)), (.int (Int32.ofNat nn)), (.int pv), (.int dv), (.int c0), (.int c1), (.int c2)] (y' := ⟨"com/example/parkville/parkville/QueryExceptionReportPinLaw", "at", "(Ljava/lang/String;IIIICCC)Z"⟩) (c_atN hw r b nn pv dv c0 c1 c2 _ (by omega) (by omega)) all0 (w202 hw) (w203 hw) (w200 hw) (w204 hw) (by decide) dm3_12 (rest := []) rfl rfl (lenOf pd28 rfl) rfl (by decide) (lb rfl) (by decide) (by decide) (q := 15) rfl ?_
  intro v1 vm1 T1 h1 l1 X1 R1 q1
  obtain ⟨rfl, e1⟩ := q1
  have e1 := e1.symm
  subst e1
  show Goes p e below _ T1 (mkF m 15 #[.val (.ref r), .val (.int (Int32.ofNat b)), .val (.int (Int32.ofNat nn)), .val (.int pv), .val (.int dv), .val (.int c0), .val (.int c1), .val (.int c2)] [(.int (1 : Int32))])
  refine o_ifN X1 dm3_15 (by decide) (q := 18) rfl ?_
  refine o_aloadN X1 dm3_18 rfl rfl (q := 19) rfl ?_
  refine o_iloadN X1 dm3_19 rfl (q := 20) rfl ?_
  refine o_iconst X1 dm3_20 (w := 1) rfl (q := 21) rfl ?_
  refine o_iadd X1 dm3_21 (w := (Int32.ofNat (b + 1))) (n_add _ _) (q := 22) rfl ?_
  refine o_iloadN X1 dm3_22 rfl (q := 23) rfl ?_
  refine o_iloadN X1 dm3_23 rfl (q := 24) rfl ?_
  refine o_iload X1 dm3_24 rfl (q := 26) rfl ?_
  refine o_iload X1 dm3_26 rfl (q := 28) rfl ?_
  refine o_iload X1 dm3_28 rfl (q := 30) rfl ?_
  refine o_iload X1 dm3_30 rfl (q := 32) rfl ?_
  refine o_stat X1 [(.ref r), (.int (Int32.ofNat (b + 1))), (.int (Int32.ofNat nn)), (.int pv), (.int dv), (.int c0), (.int c1), (.int c2)] (y' := ⟨"com/example/parkville/parkville/QueryExceptionReportPinLaw", "at", "(Ljava/lang/String;IIIICCC)Z"⟩) (c_atN hw r (b + 1) nn pv dv c0 c1 c2 _ (by omega) (by omega)) all0 (w202 hw) (w203 hw) (w200 hw) (w204 hw) (by decide) dm3_32 (rest := []) rfl rfl (lenOf pd28 rfl) rfl (by decide) (lb rfl) (by decide) (by decide) (q := 35) rfl ?_
  intro v2 vm2 T2 h2 l2 X2 R2 q2
  obtain ⟨rfl, e2⟩ := q2
  have e2 := e2.symm
  subst e2
  show Goes p e below _ T2 (mkF m 35 #[.val (.ref r), .val (.int (Int32.ofNat b)), .val (.int (Int32.ofNat nn)), .val (.int pv), .val (.int dv), .val (.int c0), .val (.int c1), .val (.int c2)] [(.int (1 : Int32))])
  refine o_ifN X2 dm3_35 (by decide) (q := 38) rfl ?_
  refine o_aloadN X2 dm3_38 rfl rfl (q := 39) rfl ?_
  refine o_iloadN X2 dm3_39 rfl (q := 40) rfl ?_
  refine o_iconst X2 dm3_40 (w := 2) rfl (q := 41) rfl ?_
  refine o_iadd X2 dm3_41 (w := (Int32.ofNat (b + 2))) (n_add _ _) (q := 42) rfl ?_
  refine o_iloadN X2 dm3_42 rfl (q := 43) rfl ?_
  refine o_iloadN X2 dm3_43 rfl (q := 44) rfl ?_
  refine o_iload X2 dm3_44 rfl (q := 46) rfl ?_
  refine o_iload X2 dm3_46 rfl (q := 48) rfl ?_
  refine o_iload X2 dm3_48 rfl (q := 50) rfl ?_
  refine o_iload X2 dm3_50 rfl (q := 52) rfl ?_
  refine o_stat X2 [(.ref r), (.int (Int32.ofNat (b + 2))), (.int (Int32.ofNat nn)), (.int pv), (.int dv), (.int c0), (.int c1), (.int c2)] (y' := ⟨"com/example/parkville/parkville/QueryExceptionReportPinLaw", "at", "(Ljava/lang/String;IIIICCC)Z"⟩) (c_atN hw r (b + 2) nn pv dv c0 c1 c2 _ (by omega) (by omega)) all0 (w202 hw) (w203 hw) (w200 hw) (w204 hw) (by decide) dm3_52 (rest := []) rfl rfl (lenOf pd28 rfl) rfl (by decide) (lb rfl) (by decide) (by decide) (q := 55) rfl ?_
  intro v3 vm3 T3 h3 l3 X3 R3 q3
  obtain ⟨rfl, e3⟩ := q3
  have e3 := e3.symm
  subst e3
  show Goes p e below _ T3 (mkF m 55 #[.val (.ref r), .val (.int (Int32.ofNat b)), .val (.int (Int32.ofNat nn)), .val (.int pv), .val (.int dv), .val (.int c0), .val (.int c1), .val (.int c2)] [(.int (1 : Int32))])
  refine o_ifN X3 dm3_55 (by decide) (q := 58) rfl ?_
  refine o_aloadN X3 dm3_58 rfl rfl (q := 59) rfl ?_
  refine o_iloadN X3 dm3_59 rfl (q := 60) rfl ?_
  refine o_iconst X3 dm3_60 (w := 3) rfl (q := 61) rfl ?_
  refine o_iadd X3 dm3_61 (w := (Int32.ofNat (b + 3))) (n_add _ _) (q := 62) rfl ?_
  refine o_iloadN X3 dm3_62 rfl (q := 63) rfl ?_
  refine o_iloadN X3 dm3_63 rfl (q := 64) rfl ?_
  refine o_iload X3 dm3_64 rfl (q := 66) rfl ?_
  refine o_iload X3 dm3_66 rfl (q := 68) rfl ?_
  refine o_iload X3 dm3_68 rfl (q := 70) rfl ?_
  refine o_iload X3 dm3_70 rfl (q := 72) rfl ?_
  refine o_stat X3 [(.ref r), (.int (Int32.ofNat (b + 3))), (.int (Int32.ofNat nn)), (.int pv), (.int dv), (.int c0), (.int c1), (.int c2)] (y' := ⟨"com/example/parkville/parkville/QueryExceptionReportPinLaw", "at", "(Ljava/lang/String;IIIICCC)Z"⟩) (c_atN hw r (b + 3) nn pv dv c0 c1 c2 _ (by omega) (by omega)) all0 (w202 hw) (w203 hw) (w200 hw) (w204 hw) (by decide) dm3_72 (rest := []) rfl rfl (lenOf pd28 rfl) rfl (by decide) (lb rfl) (by decide) (by decide) (q := 75) rfl ?_
  intro v4 vm4 T4 h4 l4 X4 R4 q4
  obtain ⟨rfl, e4⟩ := q4
  have e4 := e4.symm
  subst e4
  show Goes p e below _ T4 (mkF m 75 #[.val (.ref r), .val (.int (Int32.ofNat b)), .val (.int (Int32.ofNat nn)), .val (.int pv), .val (.int dv), .val (.int c0), .val (.int c1), .val (.int c2)] [(.int (1 : Int32))])
  refine o_ifN X4 dm3_75 (by decide) (q := 78) rfl ?_
  refine o_aloadN X4 dm3_78 rfl rfl (q := 79) rfl ?_
  refine o_iloadN X4 dm3_79 rfl (q := 80) rfl ?_
  refine o_iconst X4 dm3_80 (w := 4) rfl (q := 81) rfl ?_
  refine o_iadd X4 dm3_81 (w := (Int32.ofNat (b + 4))) (n_add _ _) (q := 82) rfl ?_
  refine o_iloadN X4 dm3_82 rfl (q := 83) rfl ?_
  refine o_iloadN X4 dm3_83 rfl (q := 84) rfl ?_
  refine o_iload X4 dm3_84 rfl (q := 86) rfl ?_
  refine o_iload X4 dm3_86 rfl (q := 88) rfl ?_
  refine o_iload X4 dm3_88 rfl (q := 90) rfl ?_
  refine o_iload X4 dm3_90 rfl (q := 92) rfl ?_
  refine o_stat X4 [(.ref r), (.int (Int32.ofNat (b + 4))), (.int (Int32.ofNat nn)), (.int pv), (.int dv), (.int c0), (.int c1), (.int c2)] (y' := ⟨"com/example/parkville/parkville/QueryExceptionReportPinLaw", "at", "(Ljava/lang/String;IIIICCC)Z"⟩) (c_atN hw r (b + 4) nn pv dv c0 c1 c2 _ (by omega) (by omega)) all0 (w202 hw) (w203 hw) (w200 hw) (w204 hw) (by decide) dm3_92 (rest := []) rfl rfl (lenOf pd28 rfl) rfl (by decide) (lb rfl) (by decide) (by decide) (q := 95) rfl ?_
  intro v5 vm5 T5 h5 l5 X5 R5 q5
  obtain ⟨rfl, e5⟩ := q5
  have e5 := e5.symm
  subst e5
  show Goes p e below _ T5 (mkF m 95 #[.val (.ref r), .val (.int (Int32.ofNat b)), .val (.int (Int32.ofNat nn)), .val (.int pv), .val (.int dv), .val (.int c0), .val (.int c1), .val (.int c2)] [(.int (1 : Int32))])
  refine o_ifN X5 dm3_95 (by decide) (q := 98) rfl ?_
  refine o_aloadN X5 dm3_98 rfl rfl (q := 99) rfl ?_
  refine o_iloadN X5 dm3_99 rfl (q := 100) rfl ?_
  refine o_iconst X5 dm3_100 (w := 5) rfl (q := 101) rfl ?_
  refine o_iadd X5 dm3_101 (w := (Int32.ofNat (b + 5))) (n_add _ _) (q := 102) rfl ?_
  refine o_iloadN X5 dm3_102 rfl (q := 103) rfl ?_
  refine o_iloadN X5 dm3_103 rfl (q := 104) rfl ?_
  refine o_iload X5 dm3_104 rfl (q := 106) rfl ?_
  refine o_iload X5 dm3_106 rfl (q := 108) rfl ?_
  refine o_iload X5 dm3_108 rfl (q := 110) rfl ?_
  refine o_iload X5 dm3_110 rfl (q := 112) rfl ?_
  refine o_stat X5 [(.ref r), (.int (Int32.ofNat (b + 5))), (.int (Int32.ofNat nn)), (.int pv), (.int dv), (.int c0), (.int c1), (.int c2)] (y' := ⟨"com/example/parkville/parkville/QueryExceptionReportPinLaw", "at", "(Ljava/lang/String;IIIICCC)Z"⟩) (c_atN hw r (b + 5) nn pv dv c0 c1 c2 _ (by omega) (by omega)) all0 (w202 hw) (w203 hw) (w200 hw) (w204 hw) (by decide) dm3_112 (rest := []) rfl rfl (lenOf pd28 rfl) rfl (by decide) (lb rfl) (by decide) (by decide) (q := 115) rfl ?_
  intro v6 vm6 T6 h6 l6 X6 R6 q6
  obtain ⟨rfl, e6⟩ := q6
  have e6 := e6.symm
  subst e6
  show Goes p e below _ T6 (mkF m 115 #[.val (.ref r), .val (.int (Int32.ofNat b)), .val (.int (Int32.ofNat nn)), .val (.int pv), .val (.int dv), .val (.int c0), .val (.int c1), .val (.int c2)] [(.int (1 : Int32))])
  refine o_ifN X6 dm3_115 (by decide) (q := 118) rfl ?_
  refine o_aloadN X6 dm3_118 rfl rfl (q := 119) rfl ?_
  refine o_iloadN X6 dm3_119 rfl (q := 120) rfl ?_
  refine o_bipush X6 dm3_120 (w := 6) rfl (q := 122) rfl ?_
  refine o_iadd X6 dm3_122 (w := (Int32.ofNat (b + 6))) (n_add _ _) (q := 123) rfl ?_
  refine o_iloadN X6 dm3_123 rfl (q := 124) rfl ?_
  refine o_iloadN X6 dm3_124 rfl (q := 125) rfl ?_
  refine o_iload X6 dm3_125 rfl (q := 127) rfl ?_
  refine o_iload X6 dm3_127 rfl (q := 129) rfl ?_
  refine o_iload X6 dm3_129 rfl (q := 131) rfl ?_
  refine o_iload X6 dm3_131 rfl (q := 133) rfl ?_
  refine o_stat X6 [(.ref r), (.int (Int32.ofNat (b + 6))), (.int (Int32.ofNat nn)), (.int pv), (.int dv), (.int c0), (.int c1), (.int c2)] (y' := ⟨"com/example/parkville/parkville/QueryExceptionReportPinLaw", "at", "(Ljava/lang/String;IIIICCC)Z"⟩) (c_atN hw r (b + 6) nn pv dv c0 c1 c2 _ (by omega) (by omega)) all0 (w202 hw) (w203 hw) (w200 hw) (w204 hw) (by decide) dm3_133 (rest := []) rfl rfl (lenOf pd28 rfl) rfl (by decide) (lb rfl) (by decide) (by decide) (q := 136) rfl ?_
  intro v7 vm7 T7 h7 l7 X7 R7 q7
  obtain ⟨rfl, e7⟩ := q7
  have e7 := e7.symm
  subst e7
  show Goes p e below _ T7 (mkF m 136 #[.val (.ref r), .val (.int (Int32.ofNat b)), .val (.int (Int32.ofNat nn)), .val (.int pv), .val (.int dv), .val (.int c0), .val (.int c1), .val (.int c2)] [(.int (1 : Int32))])
  refine o_ifN X7 dm3_136 (by decide) (q := 139) rfl ?_
  refine o_aloadN X7 dm3_139 rfl rfl (q := 140) rfl ?_
  refine o_iloadN X7 dm3_140 rfl (q := 141) rfl ?_
  refine o_bipush X7 dm3_141 (w := 7) rfl (q := 143) rfl ?_
  refine o_iadd X7 dm3_143 (w := (Int32.ofNat (b + 7))) (n_add _ _) (q := 144) rfl ?_
  refine o_iloadN X7 dm3_144 rfl (q := 145) rfl ?_
  refine o_iloadN X7 dm3_145 rfl (q := 146) rfl ?_
  refine o_iload X7 dm3_146 rfl (q := 148) rfl ?_
  refine o_iload X7 dm3_148 rfl (q := 150) rfl ?_
  refine o_iload X7 dm3_150 rfl (q := 152) rfl ?_
  refine o_iload X7 dm3_152 rfl (q := 154) rfl ?_
  refine o_stat X7 [(.ref r), (.int (Int32.ofNat (b + 7))), (.int (Int32.ofNat nn)), (.int pv), (.int dv), (.int c0), (.int c1), (.int c2)] (y' := ⟨"com/example/parkville/parkville/QueryExceptionReportPinLaw", "at", "(Ljava/lang/String;IIIICCC)Z"⟩) (c_atN hw r (b + 7) nn pv dv c0 c1 c2 _ (by omega) (by omega)) all0 (w202 hw) (w203 hw) (w200 hw) (w204 hw) (by decide) dm3_154 (rest := []) rfl rfl (lenOf pd28 rfl) rfl (by decide) (lb rfl) (by decide) (by decide) (q := 157) rfl ?_
  intro v8 vm8 T8 h8 l8 X8 R8 q8
  obtain ⟨rfl, e8⟩ := q8
  have e8 := e8.symm
  subst e8
  show Goes p e below _ T8 (mkF m 157 #[.val (.ref r), .val (.int (Int32.ofNat b)), .val (.int (Int32.ofNat nn)), .val (.int pv), .val (.int dv), .val (.int c0), .val (.int c1), .val (.int c2)] [(.int (1 : Int32))])
  refine o_ifN X8 dm3_157 (by decide) (q := 160) rfl ?_
  refine o_iconst X8 dm3_160 (w := 1) rfl (q := 161) rfl ?_
  refine o_goto X8 dm3_161 (by decide) (q := 165) (by decide) ?_
  exact o_retN X8 dm3_165 (by simp) (fun Sf hSf => ⟨rfl, rfl⟩) (by decide) (by decide)
theorem c_law {l : Launch} {Z : State} {a0 : Array Value} (hw : W a0 Z) (p0 p1 p2 p3 p4 : Int32) {zc : Int32} (O2 : Sta Z Z.heap "java/lang/String" "COMPACT_STRINGS" "Z" (.int zc)) (P5 : ¬ zc = 0) {fm : Value} (O4 : Sta Z Z.heap "jdk/internal/util/Preconditions" "SIOOBE_FORMATTER" "Ljava/util/function/BiFunction;" fm) (rfm : fm.isRef = true) {do_ dt_ : Addr} {kdo kdt : ClassId} (SDo : Sta Z Z.heap "java/lang/Integer" "DigitOnes" "[B" (.ref do_)) (VDo : Arv Z Z.heap do_ kdo .byte (100 : Int32) TO (.int (0 : Int32))) (SDt : Sta Z Z.heap "java/lang/Integer" "DigitTens" "[B" (.ref dt_)) (VDt : Arv Z Z.heap dt_ kdt .byte (100 : Int32) TT (.int (0 : Int32))) {ua sa : Addr} (SUn : Sta Z Z.heap "java/lang/Throwable" "UNASSIGNED_STACK" "[Ljava/lang/StackTraceElement;" (.ref ua)) (SSe : Sta Z Z.heap "java/lang/Throwable" "SUPPRESSED_SENTINEL" "Ljava/util/List;" (.ref sa)) (hEx : ExW "com/example/parkville/parkville/QueryException" a0 Z) (hlt : l.stackTraces = true) :
    ConK l Z EL0 x code maxLocals ret room_1 #[(.int p0), (.int p1), (.int p2), (.int p3), (.int p4)] Z.heap [] (fun v h' Sf => v = some (.int 1)) := by
  refine ConK.intro (plainFor_of_name pn10) ?_
  intro p e s m below meth c T X hss hK
  refine Goes.cast (g' := mkF m 0 #[.val (.int p0), .val (.int p1), .val (.int p2), .val (.int p3), .val (.int p4), .unset, .unset, .unset, .unset, .unset, .unset, .unset, .unset, .unset, .unset] []) (by first | (simp [entryFrame, mkF, argsToLocals, Value.category, maxLocals]; done) | rfl) ?_
  have fin0 : ∀ (c0 c1 c2 : Int32) (k0 : ¬ c0 < 0 ∧ ¬ (255 : Int32) < c0) (k1 : ¬ c1 < 0 ∧ ¬ (255 : Int32) < c1) (k2 : ¬ c2 < 0 ∧ ¬ (255 : Int32) < c2) (st tb : Addr) (kt : ClassId) (xs : List Int32) (n : Nat) {vm : Vm} {T : State} {h : Heap} {locs : List Loc}, LS Z h st tb kt xs → xs.length = n → n ≤ 3 → (∀ j, j < xs.length → xs.getD j 0 = rcV j c0 c1 c2) → On l Z EL0 p e room_1 s m #[(.int p0), (.int p1), (.int p2), (.int p3), (.int p4)] below meth c x code maxLocals ret vm T h locs 3 64 → Goes p e below (FinQ Z EL0 s (fun v h' Sf => v = some (.int 1)) (room_1).cells (room_1).slots) T (mkF m 134 #[.val (.int p0), .val (.int p1), .val (.int p2), .val (.int p3), .val (.int p4), .val (.int (0 : Int32)), .val (.int (Int32.ofNat n)), .val (.int c0), .val (.int c1), .val (.int c2), .val (.ref st), .unset, .unset, .unset, .unset] []) := by
    intro c0 c1 c2 k0 k1 k2 st tb kt xs n vm T h locs L hxn hx3 hx X
    refine o_newU X (w9 hw) (w10 hw) (w11 hw) at_134 (by decide) (by decide) (q := 137) rfl ?_
    intro T1 h1 b1 gb1 X1 E1 R1 S1 A1 D1 g0_b1 U1
    have f2 : Fld Z h1 b1 "java/lang/Throwable" "cause" "Ljava/lang/Throwable;" .null := D1 (Or.inl (w30 hw)) (ty := (.object "java/lang/Throwable")) (by decide)
    have f3 : Fld Z h1 b1 "java/lang/Throwable" "stackTrace" "[Ljava/lang/StackTraceElement;" .null := D1 (Or.inl (w33 hw)) (ty := (.array (.object "java/lang/StackTraceElement"))) (by decide)
    have f4 : Fld Z h1 b1 "java/lang/Throwable" "suppressedExceptions" "Ljava/util/List;" .null := D1 (Or.inl (w36 hw)) (ty := (.object "java/util/List")) (by decide)
    have f5 : Fld Z h1 b1 "java/lang/Throwable" "detailMessage" "Ljava/lang/String;" .null := D1 (Or.inl (w60 hw)) (ty := (.object "java/lang/String")) (by decide)
    have f6 : Fld Z h1 b1 "java/lang/Throwable" "backtrace" "Ljava/lang/Object;" .null := D1 (Or.inl (w61 hw)) (ty := (.object "java/lang/Object")) (by decide)
    have f7 : Fld Z h1 b1 "java/lang/Throwable" "depth" "I" (.int (0 : Int32)) := D1 (Or.inl (w62 hw)) (ty := .int) (by decide)
    have f8 : Fld Z h1 b1 "com/example/parkville/parkville/QueryException" "position" "I" (.int (0 : Int32)) := D1 (Or.inr (w66 hw)) (ty := .int) (by decide)
    have f9 : Fld Z h1 b1 "com/example/parkville/parkville/QueryException" "reason" "Ljava/lang/String;" .null := D1 (Or.inr (w68 hw)) (ty := (.object "java/lang/String")) (by decide)
    refine o_dup X1 at_137 rfl (q := 138) rfl ?_
    refine o_iload X1 at_138 rfl (q := 140) rfl ?_
    refine o_aload X1 at_140 rfl rfl (q := 142) rfl ?_
    have f10 := (L.ext E1)
    refine o_specK X1 [(.int (0 : Int32)), (.ref st)] (y' := ⟨"com/example/parkville/parkville/QueryException", "<init>", "(ILjava/lang/String;)V"⟩) (c_qe0 hw b1 st tb xs _ SUn SSe hEx hlt A1 g0_b1 U1 f2 f3 f4 f6 f5 f8 f9 f10 (Nat.ne_of_lt (Nat.lt_of_lt_of_le L.lt (Nat.le_of_eq gb1.symm))) (Nat.ne_of_lt (Nat.lt_of_lt_of_le L.2.2.2.1.lt (Nat.le_of_eq gb1.symm))) (by omega)) (allS ⟨A1.lt, (Safe.exa X1.alike A1 (by decide) (by decide))⟩ all0) ⟨hK.1, hK.2.1⟩ rfl (w12 hw) (w13 hw) (w14 hw) (w11 hw) (by decide) at_142 (rest := [(.ref b1)]) rfl rfl (lenOf pd13 rfl) rfl (by decide) (lb rfl) (by decide) (by decide) (q := 145) rfl ?_
    intro v11 vm11 T11 h11 l11 X11 R11 q11
    obtain ⟨rfl, K11, Fm11, Fo11⟩ := q11
    show Goes p e below _ T11 (mkF m 145 #[.val (.int p0), .val (.int p1), .val (.int p2), .val (.int p3), .val (.int p4), .val (.int (0 : Int32)), .val (.int (Int32.ofNat n)), .val (.int c0), .val (.int c1), .val (.int c2), .val (.ref st), .unset, .unset, .unset, .unset] [(.ref b1)])
    refine o_astore X11 at_145 rfl (L' := #[.val (.int p0), .val (.int p1), .val (.int p2), .val (.int p3), .val (.int p4), .val (.int (0 : Int32)), .val (.int (Int32.ofNat n)), .val (.int c0), .val (.int c1), .val (.int c2), .val (.ref st), .val (.ref b1), .unset, .unset, .unset]) rfl (q := 147) rfl ?_
    refine o_aload X11 at_147 rfl rfl (q := 149) rfl ?_
    have f12 := (A1.keep K11)
    have f13 := (f10.keep K11 (ninS (Nat.ne_of_lt (Nat.lt_of_lt_of_le L.lt (Nat.le_of_eq gb1.symm))) nin0) (ninS (Nat.ne_of_lt (Nat.lt_of_lt_of_le L.2.2.2.1.lt (Nat.le_of_eq gb1.symm))) nin0))
    refine o_virt X11 [] (y' := ⟨"com/example/parkville/parkville/QueryException", "report", "()Ljava/lang/String;"⟩) f12 (c_rep0 hw b1 st tb xs _ O2 P5 f12 Fm11 Fo11 f13 (by omega)) all0 (w69 hw) (w70 hw) (w72 hw) (w71 hw) (w73 hw) (w11 hw) (by decide) at_149 (rest := []) rfl rfl (lenOf pd25 rfl) rfl (by decide) (lb rfl) (by decide) (by decide) (q := 152) rfl ?_
    intro v14 vm14 T14 h14 l14 X14 R14 q14
    obtain ⟨r14, b14, kb14, rfl, K14, L14⟩ := q14
    show Goes p e below _ T14 (mkF m 152 #[.val (.int p0), .val (.int p1), .val (.int p2), .val (.int p3), .val (.int p4), .val (.int (0 : Int32)), .val (.int (Int32.ofNat n)), .val (.int c0), .val (.int c1), .val (.int c2), .val (.ref st), .val (.ref b1), .unset, .unset, .unset] [(.ref r14)])
    refine o_astore X14 at_152 rfl (L' := #[.val (.int p0), .val (.int p1), .val (.int p2), .val (.int p3), .val (.int p4), .val (.int (0 : Int32)), .val (.int (Int32.ofNat n)), .val (.int c0), .val (.int c1), .val (.int c2), .val (.ref st), .val (.ref b1), .val (.ref r14), .unset, .unset]) rfl (q := 154) rfl ?_
    refine o_iload X14 at_154 rfl (q := 156) rfl ?_
    refine o_ifY X14 at_156 (by decide) (by decide) (q := 167) (by decide) ?_
    refine o_iconst X14 at_167 (w := 0) rfl (q := 168) rfl ?_
    refine o_istore X14 at_168 rfl (L' := #[.val (.int p0), .val (.int p1), .val (.int p2), .val (.int p3), .val (.int p4), .val (.int (0 : Int32)), .val (.int (Int32.ofNat n)), .val (.int c0), .val (.int c1), .val (.int c2), .val (.ref st), .val (.ref b1), .val (.ref r14), .val (.int (0 : Int32)), .unset]) rfl (q := 170) rfl ?_
    refine o_iload X14 at_170 rfl (q := 172) rfl ?_
    refine o_ifY X14 at_172 (by decide) (by decide) (q := 186) (by decide) ?_
    refine o_bipush X14 at_186 (w := 13) rfl (q := 188) rfl ?_
    refine o_iload X14 at_188 rfl (q := 190) rfl ?_
    refine o_iadd X14 at_190 (w := (Int32.ofNat (13 + n))) (n_add 13 _) (q := 191) rfl ?_
    refine o_istore X14 at_191 rfl (L' := #[.val (.int p0), .val (.int p1), .val (.int p2), .val (.int p3), .val (.int p4), .val (.int (0 : Int32)), .val (.int (Int32.ofNat n)), .val (.int c0), .val (.int c1), .val (.int c2), .val (.ref st), .val (.ref b1), .val (.ref r14), .val (.int (0 : Int32)), .val (.int (Int32.ofNat (13 + n)))]) rfl (q := 193) rfl ?_
    refine o_aload X14 at_193 rfl rfl (q := 195) rfl ?_
    refine o_strlen X14 L14 O2 P5 (hwln hw) (w3 hw) (w197 hw) (w104 hw) (w106 hw) (w105 hw) at_195 rfl (by decide) (lb rfl) (by decide) (by decide) (q := 198) rfl ?_
    intro T15 l15 X15
    refine o_iload X15 at_198 rfl (q := 200) rfl ?_
    refine o_icmpY X15 at_200 (teq (congrArg Int32.ofNat (by rw [own_rep0l, hxn]))).1 (by decide) (q := 205) (by decide) ?_
    refine o_aload X15 at_205 rfl rfl (q := 207) rfl ?_
    refine o_iconst X15 at_207 (w := 0) rfl (q := 208) rfl ?_
    refine o_iload X15 at_208 rfl (q := 210) rfl ?_
    refine o_iload X15 at_210 rfl (q := 212) rfl ?_
    refine o_iload X15 at_212 rfl (q := 214) rfl ?_
    refine o_iload X15 at_214 rfl (q := 216) rfl ?_
    refine o_iload X15 at_216 rfl (q := 218) rfl ?_
    refine o_iload X15 at_218 rfl (q := 220) rfl ?_
    refine o_stat X15 [(.ref r14), (.int (0 : Int32)), (.int (Int32.ofNat (13 + n))), (.int (0 : Int32)), (.int (0 : Int32)), (.int c0), (.int c1), (.int c2)] (y' := ⟨"com/example/parkville/parkville/QueryExceptionReportPinLaw", "chk8", "(Ljava/lang/String;IIIICCC)Z"⟩) (c_chC hw r14 b14 (repL qCS xs) 0 (13 + n) (0 : Int32) c0 c1 c2 _ O2 P5 O4 rfm L14 (by rw [own_rep0l, hxn]) (by omega) k0 k1 k2 (by omega) (fun i q => own_eC hx i (by rw [hxn]; exact q))) all0 (w198 hw) (w199 hw) (w200 hw) (w201 hw) (by decide) at_220 (rest := []) rfl rfl (lenOf pd28 rfl) rfl (by decide) (lb rfl) (by decide) (by decide) (q := 223) rfl ?_
    intro v16 vm16 T16 h16 l16 X16 R16 q16
    obtain ⟨rfl, K16⟩ := q16
    show Goes p e below _ T16 (mkF m 223 #[.val (.int p0), .val (.int p1), .val (.int p2), .val (.int p3), .val (.int p4), .val (.int (0 : Int32)), .val (.int (Int32.ofNat n)), .val (.int c0), .val (.int c1), .val (.int c2), .val (.ref st), .val (.ref b1), .val (.ref r14), .val (.int (0 : Int32)), .val (.int (Int32.ofNat (13 + n)))] [(.int (1 : Int32))])
    refine o_ifN X16 at_223 (by decide) (q := 226) rfl ?_
    refine o_aload X16 at_226 rfl rfl (q := 228) rfl ?_
    refine o_bipush X16 at_228 (w := 8) rfl (q := 230) rfl ?_
    refine o_iload X16 at_230 rfl (q := 232) rfl ?_
    refine o_iload X16 at_232 rfl (q := 234) rfl ?_
    refine o_iload X16 at_234 rfl (q := 236) rfl ?_
    refine o_iload X16 at_236 rfl (q := 238) rfl ?_
    refine o_iload X16 at_238 rfl (q := 240) rfl ?_
    refine o_iload X16 at_240 rfl (q := 242) rfl ?_
    have f17 := (L14.keep K16 nin0 nin0)
    refine o_stat X16 [(.ref r14), (.int (8 : Int32)), (.int (Int32.ofNat (13 + n))), (.int (0 : Int32)), (.int (0 : Int32)), (.int c0), (.int c1), (.int c2)] (y' := ⟨"com/example/parkville/parkville/QueryExceptionReportPinLaw", "chk8", "(Ljava/lang/String;IIIICCC)Z"⟩) (c_chC hw r14 b14 (repL qCS xs) 8 (13 + n) (0 : Int32) c0 c1 c2 _ O2 P5 O4 rfm f17 (by rw [own_rep0l, hxn]) (by omega) k0 k1 k2 (by omega) (fun i q => own_eC hx i (by rw [hxn]; exact q))) all0 (w198 hw) (w199 hw) (w200 hw) (w201 hw) (by decide) at_242 (rest := []) rfl rfl (lenOf pd28 rfl) rfl (by decide) (lb rfl) (by decide) (by decide) (q := 245) rfl ?_
    intro v18 vm18 T18 h18 l18 X18 R18 q18
    obtain ⟨rfl, K18⟩ := q18
    show Goes p e below _ T18 (mkF m 245 #[.val (.int p0), .val (.int p1), .val (.int p2), .val (.int p3), .val (.int p4), .val (.int (0 : Int32)), .val (.int (Int32.ofNat n)), .val (.int c0), .val (.int c1), .val (.int c2), .val (.ref st), .val (.ref b1), .val (.ref r14), .val (.int (0 : Int32)), .val (.int (Int32.ofNat (13 + n)))] [(.int (1 : Int32))])
    refine o_ifN X18 at_245 (by decide) (q := 248) rfl ?_
    refine o_aload X18 at_248 rfl rfl (q := 250) rfl ?_
    refine o_bipush X18 at_250 (w := 16) rfl (q := 252) rfl ?_
    refine o_iload X18 at_252 rfl (q := 254) rfl ?_
    refine o_iload X18 at_254 rfl (q := 256) rfl ?_
    refine o_iload X18 at_256 rfl (q := 258) rfl ?_
    refine o_iload X18 at_258 rfl (q := 260) rfl ?_
    refine o_iload X18 at_260 rfl (q := 262) rfl ?_
    refine o_iload X18 at_262 rfl (q := 264) rfl ?_
    have f19 := (f17.keep K18 nin0 nin0)
    refine o_stat X18 [(.ref r14), (.int (16 : Int32)), (.int (Int32.ofNat (13 + n))), (.int (0 : Int32)), (.int (0 : Int32)), (.int c0), (.int c1), (.int c2)] (y' := ⟨"com/example/parkville/parkville/QueryExceptionReportPinLaw", "chk8", "(Ljava/lang/String;IIIICCC)Z"⟩) (c_chN hw r14 16 (13 + n) (0 : Int32) (0 : Int32) c0 c1 c2 _ (by omega) (by omega)) all0 (w198 hw) (w199 hw) (w200 hw) (w201 hw) (by decide) at_264 (rest := []) rfl rfl (lenOf pd28 rfl) rfl (by decide) (lb rfl) (by decide) (by decide) (q := 267) rfl ?_
    intro v20 vm20 T20 h20 l20 X20 R20 q20
    obtain ⟨rfl, e20⟩ := q20
    have e20 := e20.symm
    subst e20
    show Goes p e below _ T20 (mkF m 267 #[.val (.int p0), .val (.int p1), .val (.int p2), .val (.int p3), .val (.int p4), .val (.int (0 : Int32)), .val (.int (Int32.ofNat n)), .val (.int c0), .val (.int c1), .val (.int c2), .val (.ref st), .val (.ref b1), .val (.ref r14), .val (.int (0 : Int32)), .val (.int (Int32.ofNat (13 + n)))] [(.int (1 : Int32))])
    refine o_ifN X20 at_267 (by decide) (q := 270) rfl ?_
    refine o_aload X20 at_270 rfl rfl (q := 272) rfl ?_
    refine o_bipush X20 at_272 (w := 24) rfl (q := 274) rfl ?_
    refine o_iload X20 at_274 rfl (q := 276) rfl ?_
    refine o_iload X20 at_276 rfl (q := 278) rfl ?_
    refine o_iload X20 at_278 rfl (q := 280) rfl ?_
    refine o_iload X20 at_280 rfl (q := 282) rfl ?_
    refine o_iload X20 at_282 rfl (q := 284) rfl ?_
    refine o_iload X20 at_284 rfl (q := 286) rfl ?_
    have f21 := f19
    refine o_stat X20 [(.ref r14), (.int (24 : Int32)), (.int (Int32.ofNat (13 + n))), (.int (0 : Int32)), (.int (0 : Int32)), (.int c0), (.int c1), (.int c2)] (y' := ⟨"com/example/parkville/parkville/QueryExceptionReportPinLaw", "chk8", "(Ljava/lang/String;IIIICCC)Z"⟩) (c_chN hw r14 24 (13 + n) (0 : Int32) (0 : Int32) c0 c1 c2 _ (by omega) (by omega)) all0 (w198 hw) (w199 hw) (w200 hw) (w201 hw) (by decide) at_286 (rest := []) rfl rfl (lenOf pd28 rfl) rfl (by decide) (lb rfl) (by decide) (by decide) (q := 289) rfl ?_
    intro v22 vm22 T22 h22 l22 X22 R22 q22
    obtain ⟨rfl, e22⟩ := q22
    have e22 := e22.symm
    subst e22
    show Goes p e below _ T22 (mkF m 289 #[.val (.int p0), .val (.int p1), .val (.int p2), .val (.int p3), .val (.int p4), .val (.int (0 : Int32)), .val (.int (Int32.ofNat n)), .val (.int c0), .val (.int c1), .val (.int c2), .val (.ref st), .val (.ref b1), .val (.ref r14), .val (.int (0 : Int32)), .val (.int (Int32.ofNat (13 + n)))] [(.int (1 : Int32))])
    refine o_ifN X22 at_289 (by decide) (q := 292) rfl ?_
    refine o_aload X22 at_292 rfl rfl (q := 294) rfl ?_
    refine o_bipush X22 at_294 (w := 32) rfl (q := 296) rfl ?_
    refine o_iload X22 at_296 rfl (q := 298) rfl ?_
    refine o_iload X22 at_298 rfl (q := 300) rfl ?_
    refine o_iload X22 at_300 rfl (q := 302) rfl ?_
    refine o_iload X22 at_302 rfl (q := 304) rfl ?_
    refine o_iload X22 at_304 rfl (q := 306) rfl ?_
    refine o_iload X22 at_306 rfl (q := 308) rfl ?_
    have f23 := f21
    refine o_stat X22 [(.ref r14), (.int (32 : Int32)), (.int (Int32.ofNat (13 + n))), (.int (0 : Int32)), (.int (0 : Int32)), (.int c0), (.int c1), (.int c2)] (y' := ⟨"com/example/parkville/parkville/QueryExceptionReportPinLaw", "chk8", "(Ljava/lang/String;IIIICCC)Z"⟩) (c_chN hw r14 32 (13 + n) (0 : Int32) (0 : Int32) c0 c1 c2 _ (by omega) (by omega)) all0 (w198 hw) (w199 hw) (w200 hw) (w201 hw) (by decide) at_308 (rest := []) rfl rfl (lenOf pd28 rfl) rfl (by decide) (lb rfl) (by decide) (by decide) (q := 311) rfl ?_
    intro v24 vm24 T24 h24 l24 X24 R24 q24
    obtain ⟨rfl, e24⟩ := q24
    have e24 := e24.symm
    subst e24
    show Goes p e below _ T24 (mkF m 311 #[.val (.int p0), .val (.int p1), .val (.int p2), .val (.int p3), .val (.int p4), .val (.int (0 : Int32)), .val (.int (Int32.ofNat n)), .val (.int c0), .val (.int c1), .val (.int c2), .val (.ref st), .val (.ref b1), .val (.ref r14), .val (.int (0 : Int32)), .val (.int (Int32.ofNat (13 + n)))] [(.int (1 : Int32))])
    refine o_ifN X24 at_311 (by decide) (q := 314) rfl ?_
    refine o_iconst X24 at_314 (w := 1) rfl (q := 315) rfl ?_
    refine o_goto X24 at_315 (by decide) (q := 319) (by decide) ?_
    exact o_retN X24 at_319 (by simp) (fun Sf hSf => rfl) (by decide) (by decide)
  have finP : ∀ (pp : Nat) (hp : 0 < pp) (hp2 : pp < 2147483648) (c0 c1 c2 : Int32) (k0 : ¬ c0 < 0 ∧ ¬ (255 : Int32) < c0) (k1 : ¬ c1 < 0 ∧ ¬ (255 : Int32) < c1) (k2 : ¬ c2 < 0 ∧ ¬ (255 : Int32) < c2) (st tb : Addr) (kt : ClassId) (xs : List Int32) (n : Nat) {vm : Vm} {T : State} {h : Heap} {locs : List Loc}, LS Z h st tb kt xs → xs.length = n → n ≤ 3 → (∀ j, j < xs.length → xs.getD j 0 = rcV j c0 c1 c2) → On l Z EL0 p e room_1 s m #[(.int p0), (.int p1), (.int p2), (.int p3), (.int p4)] below meth c x code maxLocals ret vm T h locs 3 64 → Goes p e below (FinQ Z EL0 s (fun v h' Sf => v = some (.int 1)) (room_1).cells (room_1).slots) T (mkF m 134 #[.val (.int p0), .val (.int p1), .val (.int p2), .val (.int p3), .val (.int p4), .val (.int (Int32.ofNat pp)), .val (.int (Int32.ofNat n)), .val (.int c0), .val (.int c1), .val (.int c2), .val (.ref st), .unset, .unset, .unset, .unset] []) := by
    intro pp hp hp2 c0 c1 c2 k0 k1 k2 st tb kt xs n vm T h locs L hxn hx3 hx X
    refine o_newU X (w9 hw) (w10 hw) (w11 hw) at_134 (by decide) (by decide) (q := 137) rfl ?_
    intro T25 h25 b25 gb25 X25 E25 R25 S25 A25 D25 g0_b25 U25
    have f26 : Fld Z h25 b25 "java/lang/Throwable" "cause" "Ljava/lang/Throwable;" .null := D25 (Or.inl (w30 hw)) (ty := (.object "java/lang/Throwable")) (by decide)
    have f27 : Fld Z h25 b25 "java/lang/Throwable" "stackTrace" "[Ljava/lang/StackTraceElement;" .null := D25 (Or.inl (w33 hw)) (ty := (.array (.object "java/lang/StackTraceElement"))) (by decide)
    have f28 : Fld Z h25 b25 "java/lang/Throwable" "suppressedExceptions" "Ljava/util/List;" .null := D25 (Or.inl (w36 hw)) (ty := (.object "java/util/List")) (by decide)
    have f29 : Fld Z h25 b25 "java/lang/Throwable" "detailMessage" "Ljava/lang/String;" .null := D25 (Or.inl (w60 hw)) (ty := (.object "java/lang/String")) (by decide)
    have f30 : Fld Z h25 b25 "java/lang/Throwable" "backtrace" "Ljava/lang/Object;" .null := D25 (Or.inl (w61 hw)) (ty := (.object "java/lang/Object")) (by decide)
    have f31 : Fld Z h25 b25 "java/lang/Throwable" "depth" "I" (.int (0 : Int32)) := D25 (Or.inl (w62 hw)) (ty := .int) (by decide)
    have f32 : Fld Z h25 b25 "com/example/parkville/parkville/QueryException" "position" "I" (.int (0 : Int32)) := D25 (Or.inr (w66 hw)) (ty := .int) (by decide)
    have f33 : Fld Z h25 b25 "com/example/parkville/parkville/QueryException" "reason" "Ljava/lang/String;" .null := D25 (Or.inr (w68 hw)) (ty := (.object "java/lang/String")) (by decide)
    refine o_dup X25 at_137 rfl (q := 138) rfl ?_
    refine o_iload X25 at_138 rfl (q := 140) rfl ?_
    refine o_aload X25 at_140 rfl rfl (q := 142) rfl ?_
    have f34 := (L.ext E25)
    refine o_specK X25 [(.int (Int32.ofNat pp)), (.ref st)] (y' := ⟨"com/example/parkville/parkville/QueryException", "<init>", "(ILjava/lang/String;)V"⟩) (c_qeP hw b25 st tb pp xs _ O2 P5 SDo VDo SDt VDt SUn SSe hEx hlt A25 g0_b25 U25 f26 f27 f28 f30 f29 f32 f33 f34 (Nat.ne_of_lt (Nat.lt_of_lt_of_le L.lt (Nat.le_of_eq gb25.symm))) (Nat.ne_of_lt (Nat.lt_of_lt_of_le L.2.2.2.1.lt (Nat.le_of_eq gb25.symm))) (by omega) hp hp2) (allS ⟨A25.lt, (Safe.exa X25.alike A25 (by decide) (by decide))⟩ all0) ⟨hK.1, hK.2.1⟩ rfl (w12 hw) (w13 hw) (w14 hw) (w11 hw) (by decide) at_142 (rest := [(.ref b25)]) rfl rfl (lenOf pd13 rfl) rfl (by decide) (lb rfl) (by decide) (by decide) (q := 145) rfl ?_
    intro v35 vm35 T35 h35 l35 X35 R35 q35
    obtain ⟨rfl, K35, mr35, mb35, mk35, Fm35, Lm35, Fo35⟩ := q35
    show Goes p e below _ T35 (mkF m 145 #[.val (.int p0), .val (.int p1), .val (.int p2), .val (.int p3), .val (.int p4), .val (.int (Int32.ofNat pp)), .val (.int (Int32.ofNat n)), .val (.int c0), .val (.int c1), .val (.int c2), .val (.ref st), .unset, .unset, .unset, .unset] [(.ref b25)])
    refine o_astore X35 at_145 rfl (L' := #[.val (.int p0), .val (.int p1), .val (.int p2), .val (.int p3), .val (.int p4), .val (.int (Int32.ofNat pp)), .val (.int (Int32.ofNat n)), .val (.int c0), .val (.int c1), .val (.int c2), .val (.ref st), .val (.ref b25), .unset, .unset, .unset]) rfl (q := 147) rfl ?_
    refine o_aload X35 at_147 rfl rfl (q := 149) rfl ?_
    have f36 := (A25.keep K35)
    have hdl := own_dlen hp2
    refine o_virt X35 [] (y' := ⟨"com/example/parkville/parkville/QueryException", "report", "()Ljava/lang/String;"⟩) f36 (c_repP hw b25 mr35 mb35 pp (msgP pp xs) _ O2 P5 f36 Fm35 Fo35 Lm35 (by rw [own_msgl]; omega) hp hp2) all0 (w69 hw) (w70 hw) (w72 hw) (w71 hw) (w73 hw) (w11 hw) (by decide) at_149 (rest := []) rfl rfl (lenOf pd25 rfl) rfl (by decide) (lb rfl) (by decide) (by decide) (q := 152) rfl ?_
    intro v37 vm37 T37 h37 l37 X37 R37 q37
    obtain ⟨r37, b37, kb37, rfl, K37, L37⟩ := q37
    show Goes p e below _ T37 (mkF m 152 #[.val (.int p0), .val (.int p1), .val (.int p2), .val (.int p3), .val (.int p4), .val (.int (Int32.ofNat pp)), .val (.int (Int32.ofNat n)), .val (.int c0), .val (.int c1), .val (.int c2), .val (.ref st), .val (.ref b25), .unset, .unset, .unset] [(.ref r37)])
    refine o_astore X37 at_152 rfl (L' := #[.val (.int p0), .val (.int p1), .val (.int p2), .val (.int p3), .val (.int p4), .val (.int (Int32.ofNat pp)), .val (.int (Int32.ofNat n)), .val (.int c0), .val (.int c1), .val (.int c2), .val (.ref st), .val (.ref b25), .val (.ref r37), .unset, .unset]) rfl (q := 154) rfl ?_
    refine o_iload X37 at_154 rfl (q := 156) rfl ?_
    refine o_ifN X37 at_156 (tlt ((n_lt (a := 0) (by omega) (by omega)).mpr hp)).2.2.2 (q := 159) rfl ?_
    refine o_iload X37 at_159 rfl (q := 161) rfl ?_
    refine o_stat X37 [(.int (Int32.ofNat pp))] (y' := ⟨"com/example/parkville/parkville/QueryExceptionReportPinLaw", "digits", "(I)I"⟩) (c_dig hw pp _ hp hp2) all0 (w285 hw) (w286 hw) (w200 hw) (w287 hw) (by decide) at_161 (rest := []) rfl rfl (lenOf pd7 rfl) rfl (by decide) (lb rfl) (by decide) (by decide) (q := 164) rfl ?_
    intro v38 vm38 T38 h38 l38 X38 R38 q38
    obtain ⟨_, rfl, e38, rfl⟩ := q38
    have e38 := e38.symm
    subst e38
    show Goes p e below _ T38 (mkF m 164 #[.val (.int p0), .val (.int p1), .val (.int p2), .val (.int p3), .val (.int p4), .val (.int (Int32.ofNat pp)), .val (.int (Int32.ofNat n)), .val (.int c0), .val (.int c1), .val (.int c2), .val (.ref st), .val (.ref b25), .val (.ref r37), .unset, .unset] [(.int (Int32.ofNat (dg pp).length))])
    refine o_goto X38 at_164 (by decide) (q := 168) (by decide) ?_
    refine o_istore X38 at_168 rfl (L' := #[.val (.int p0), .val (.int p1), .val (.int p2), .val (.int p3), .val (.int p4), .val (.int (Int32.ofNat pp)), .val (.int (Int32.ofNat n)), .val (.int c0), .val (.int c1), .val (.int c2), .val (.ref st), .val (.ref b25), .val (.ref r37), .val (.int (Int32.ofNat (dg pp).length)), .unset]) rfl (q := 170) rfl ?_
    refine o_iload X38 at_170 rfl (q := 172) rfl ?_
    refine o_ifN X38 at_172 (tlt ((n_lt (a := 0) (by omega) (by omega)).mpr hp)).2.2.2 (q := 175) rfl ?_
    refine o_bipush X38 at_175 (w := 26) rfl (q := 177) rfl ?_
    refine o_iload X38 at_177 rfl (q := 179) rfl ?_
    refine o_iadd X38 at_179 (w := (Int32.ofNat (26 + (dg pp).length))) (n_add 26 _) (q := 180) rfl ?_
    refine o_iload X38 at_180 rfl (q := 182) rfl ?_
    refine o_iadd X38 at_182 (w := (Int32.ofNat ((26 + (dg pp).length) + n))) (n_add _ _) (q := 183) rfl ?_
    refine o_goto X38 at_183 (by decide) (q := 191) (by decide) ?_
    refine o_istore X38 at_191 rfl (L' := #[.val (.int p0), .val (.int p1), .val (.int p2), .val (.int p3), .val (.int p4), .val (.int (Int32.ofNat pp)), .val (.int (Int32.ofNat n)), .val (.int c0), .val (.int c1), .val (.int c2), .val (.ref st), .val (.ref b25), .val (.ref r37), .val (.int (Int32.ofNat (dg pp).length)), .val (.int (Int32.ofNat ((26 + (dg pp).length) + n)))]) rfl (q := 193) rfl ?_
    refine o_aload X38 at_193 rfl rfl (q := 195) rfl ?_
    have f39 := L37
    refine o_strlen X38 f39 O2 P5 (hwln hw) (w3 hw) (w197 hw) (w104 hw) (w106 hw) (w105 hw) at_195 rfl (by decide) (lb rfl) (by decide) (by decide) (q := 198) rfl ?_
    intro T40 l40 X40
    refine o_iload X40 at_198 rfl (q := 200) rfl ?_
    refine o_icmpY X40 at_200 (teq (congrArg Int32.ofNat (by rw [own_repPl, hxn]))).1 (by decide) (q := 205) (by decide) ?_
    refine o_aload X40 at_205 rfl rfl (q := 207) rfl ?_
    refine o_iconst X40 at_207 (w := 0) rfl (q := 208) rfl ?_
    refine o_iload X40 at_208 rfl (q := 210) rfl ?_
    refine o_iload X40 at_210 rfl (q := 212) rfl ?_
    refine o_iload X40 at_212 rfl (q := 214) rfl ?_
    refine o_iload X40 at_214 rfl (q := 216) rfl ?_
    refine o_iload X40 at_216 rfl (q := 218) rfl ?_
    refine o_iload X40 at_218 rfl (q := 220) rfl ?_
    refine o_stat X40 [(.ref r37), (.int (0 : Int32)), (.int (Int32.ofNat ((26 + (dg pp).length) + n))), (.int (Int32.ofNat pp)), (.int (Int32.ofNat (dg pp).length)), (.int c0), (.int c1), (.int c2)] (y' := ⟨"com/example/parkville/parkville/QueryExceptionReportPinLaw", "chk8", "(Ljava/lang/String;IIIICCC)Z"⟩) (c_chA hw r37 b37 (repL qSP (msgP pp xs)) 0 (26 + (dg pp).length + n) pp (Int32.ofNat (dg pp).length) c0 c1 c2 _ O2 P5 O4 rfm f39 (by rw [own_repPl, hxn]) (by omega) (by omega) (by omega) (own_eA pp xs) hp hp2) all0 (w198 hw) (w199 hw) (w200 hw) (w201 hw) (by decide) at_220 (rest := []) rfl rfl (lenOf pd28 rfl) rfl (by decide) (lb rfl) (by decide) (by decide) (q := 223) rfl ?_
    intro v41 vm41 T41 h41 l41 X41 R41 q41
    obtain ⟨rfl, K41⟩ := q41
    show Goes p e below _ T41 (mkF m 223 #[.val (.int p0), .val (.int p1), .val (.int p2), .val (.int p3), .val (.int p4), .val (.int (Int32.ofNat pp)), .val (.int (Int32.ofNat n)), .val (.int c0), .val (.int c1), .val (.int c2), .val (.ref st), .val (.ref b25), .val (.ref r37), .val (.int (Int32.ofNat (dg pp).length)), .val (.int (Int32.ofNat ((26 + (dg pp).length) + n)))] [(.int (1 : Int32))])
    refine o_ifN X41 at_223 (by decide) (q := 226) rfl ?_
    refine o_aload X41 at_226 rfl rfl (q := 228) rfl ?_
    refine o_bipush X41 at_228 (w := 8) rfl (q := 230) rfl ?_
    refine o_iload X41 at_230 rfl (q := 232) rfl ?_
    refine o_iload X41 at_232 rfl (q := 234) rfl ?_
    refine o_iload X41 at_234 rfl (q := 236) rfl ?_
    refine o_iload X41 at_236 rfl (q := 238) rfl ?_
    refine o_iload X41 at_238 rfl (q := 240) rfl ?_
    refine o_iload X41 at_240 rfl (q := 242) rfl ?_
    have f42 := (f39.keep K41 nin0 nin0)
    refine o_stat X41 [(.ref r37), (.int (8 : Int32)), (.int (Int32.ofNat ((26 + (dg pp).length) + n))), (.int (Int32.ofNat pp)), (.int (Int32.ofNat (dg pp).length)), (.int c0), (.int c1), (.int c2)] (y' := ⟨"com/example/parkville/parkville/QueryExceptionReportPinLaw", "chk8", "(Ljava/lang/String;IIIICCC)Z"⟩) (c_chA hw r37 b37 (repL qSP (msgP pp xs)) 8 (26 + (dg pp).length + n) pp (Int32.ofNat (dg pp).length) c0 c1 c2 _ O2 P5 O4 rfm f42 (by rw [own_repPl, hxn]) (by omega) (by omega) (by omega) (own_eA pp xs) hp hp2) all0 (w198 hw) (w199 hw) (w200 hw) (w201 hw) (by decide) at_242 (rest := []) rfl rfl (lenOf pd28 rfl) rfl (by decide) (lb rfl) (by decide) (by decide) (q := 245) rfl ?_
    intro v43 vm43 T43 h43 l43 X43 R43 q43
    obtain ⟨rfl, K43⟩ := q43
    show Goes p e below _ T43 (mkF m 245 #[.val (.int p0), .val (.int p1), .val (.int p2), .val (.int p3), .val (.int p4), .val (.int (Int32.ofNat pp)), .val (.int (Int32.ofNat n)), .val (.int c0), .val (.int c1), .val (.int c2), .val (.ref st), .val (.ref b25), .val (.ref r37), .val (.int (Int32.ofNat (dg pp).length)), .val (.int (Int32.ofNat ((26 + (dg pp).length) + n)))] [(.int (1 : Int32))])
    refine o_ifN X43 at_245 (by decide) (q := 248) rfl ?_
    refine o_aload X43 at_248 rfl rfl (q := 250) rfl ?_
    refine o_bipush X43 at_250 (w := 16) rfl (q := 252) rfl ?_
    refine o_iload X43 at_252 rfl (q := 254) rfl ?_
    refine o_iload X43 at_254 rfl (q := 256) rfl ?_
    refine o_iload X43 at_256 rfl (q := 258) rfl ?_
    refine o_iload X43 at_258 rfl (q := 260) rfl ?_
    refine o_iload X43 at_260 rfl (q := 262) rfl ?_
    refine o_iload X43 at_262 rfl (q := 264) rfl ?_
    have f44 := (f42.keep K43 nin0 nin0)
    refine o_stat X43 [(.ref r37), (.int (16 : Int32)), (.int (Int32.ofNat ((26 + (dg pp).length) + n))), (.int (Int32.ofNat pp)), (.int (Int32.ofNat (dg pp).length)), (.int c0), (.int c1), (.int c2)] (y' := ⟨"com/example/parkville/parkville/QueryExceptionReportPinLaw", "chk8", "(Ljava/lang/String;IIIICCC)Z"⟩) (c_chA hw r37 b37 (repL qSP (msgP pp xs)) 16 (26 + (dg pp).length + n) pp (Int32.ofNat (dg pp).length) c0 c1 c2 _ O2 P5 O4 rfm f44 (by rw [own_repPl, hxn]) (by omega) (by omega) (by omega) (own_eA pp xs) hp hp2) all0 (w198 hw) (w199 hw) (w200 hw) (w201 hw) (by decide) at_264 (rest := []) rfl rfl (lenOf pd28 rfl) rfl (by decide) (lb rfl) (by decide) (by decide) (q := 267) rfl ?_
    intro v45 vm45 T45 h45 l45 X45 R45 q45
    obtain ⟨rfl, K45⟩ := q45
    show Goes p e below _ T45 (mkF m 267 #[.val (.int p0), .val (.int p1), .val (.int p2), .val (.int p3), .val (.int p4), .val (.int (Int32.ofNat pp)), .val (.int (Int32.ofNat n)), .val (.int c0), .val (.int c1), .val (.int c2), .val (.ref st), .val (.ref b25), .val (.ref r37), .val (.int (Int32.ofNat (dg pp).length)), .val (.int (Int32.ofNat ((26 + (dg pp).length) + n)))] [(.int (1 : Int32))])
    refine o_ifN X45 at_267 (by decide) (q := 270) rfl ?_
    refine o_aload X45 at_270 rfl rfl (q := 272) rfl ?_
    refine o_bipush X45 at_272 (w := 24) rfl (q := 274) rfl ?_
    refine o_iload X45 at_274 rfl (q := 276) rfl ?_
    refine o_iload X45 at_276 rfl (q := 278) rfl ?_
    refine o_iload X45 at_278 rfl (q := 280) rfl ?_
    refine o_iload X45 at_280 rfl (q := 282) rfl ?_
    refine o_iload X45 at_282 rfl (q := 284) rfl ?_
    refine o_iload X45 at_284 rfl (q := 286) rfl ?_
    have f46 := (f44.keep K45 nin0 nin0)
    refine o_stat X45 [(.ref r37), (.int (24 : Int32)), (.int (Int32.ofNat ((26 + (dg pp).length) + n))), (.int (Int32.ofNat pp)), (.int (Int32.ofNat (dg pp).length)), (.int c0), (.int c1), (.int c2)] (y' := ⟨"com/example/parkville/parkville/QueryExceptionReportPinLaw", "chk8", "(Ljava/lang/String;IIIICCC)Z"⟩) (c_chB hw r37 b37 (repL qSP (msgP pp xs)) 24 (26 + (dg pp).length + n) pp (dg pp).length c0 c1 c2 _ O2 P5 O4 rfm f46 (by rw [own_repPl, hxn]) (by omega) k0 k1 k2 (by omega) (by omega) hdl.1 hdl.2 (fun i q1 q2 => own_eB pp hx i q1 (by rw [hxn]; exact q2)) hp hp2) all0 (w198 hw) (w199 hw) (w200 hw) (w201 hw) (by decide) at_286 (rest := []) rfl rfl (lenOf pd28 rfl) rfl (by decide) (lb rfl) (by decide) (by decide) (q := 289) rfl ?_
    intro v47 vm47 T47 h47 l47 X47 R47 q47
    obtain ⟨rfl, K47⟩ := q47
    show Goes p e below _ T47 (mkF m 289 #[.val (.int p0), .val (.int p1), .val (.int p2), .val (.int p3), .val (.int p4), .val (.int (Int32.ofNat pp)), .val (.int (Int32.ofNat n)), .val (.int c0), .val (.int c1), .val (.int c2), .val (.ref st), .val (.ref b25), .val (.ref r37), .val (.int (Int32.ofNat (dg pp).length)), .val (.int (Int32.ofNat ((26 + (dg pp).length) + n)))] [(.int (1 : Int32))])
    refine o_ifN X47 at_289 (by decide) (q := 292) rfl ?_
    refine o_aload X47 at_292 rfl rfl (q := 294) rfl ?_
    refine o_bipush X47 at_294 (w := 32) rfl (q := 296) rfl ?_
    refine o_iload X47 at_296 rfl (q := 298) rfl ?_
    refine o_iload X47 at_298 rfl (q := 300) rfl ?_
    refine o_iload X47 at_300 rfl (q := 302) rfl ?_
    refine o_iload X47 at_302 rfl (q := 304) rfl ?_
    refine o_iload X47 at_304 rfl (q := 306) rfl ?_
    refine o_iload X47 at_306 rfl (q := 308) rfl ?_
    have f48 := (f46.keep K47 nin0 nin0)
    refine o_stat X47 [(.ref r37), (.int (32 : Int32)), (.int (Int32.ofNat ((26 + (dg pp).length) + n))), (.int (Int32.ofNat pp)), (.int (Int32.ofNat (dg pp).length)), (.int c0), (.int c1), (.int c2)] (y' := ⟨"com/example/parkville/parkville/QueryExceptionReportPinLaw", "chk8", "(Ljava/lang/String;IIIICCC)Z"⟩) (c_chB hw r37 b37 (repL qSP (msgP pp xs)) 32 (26 + (dg pp).length + n) pp (dg pp).length c0 c1 c2 _ O2 P5 O4 rfm f48 (by rw [own_repPl, hxn]) (by omega) k0 k1 k2 (by omega) (by omega) hdl.1 hdl.2 (fun i q1 q2 => own_eB pp hx i q1 (by rw [hxn]; exact q2)) hp hp2) all0 (w198 hw) (w199 hw) (w200 hw) (w201 hw) (by decide) at_308 (rest := []) rfl rfl (lenOf pd28 rfl) rfl (by decide) (lb rfl) (by decide) (by decide) (q := 311) rfl ?_
    intro v49 vm49 T49 h49 l49 X49 R49 q49
    obtain ⟨rfl, K49⟩ := q49
    show Goes p e below _ T49 (mkF m 311 #[.val (.int p0), .val (.int p1), .val (.int p2), .val (.int p3), .val (.int p4), .val (.int (Int32.ofNat pp)), .val (.int (Int32.ofNat n)), .val (.int c0), .val (.int c1), .val (.int c2), .val (.ref st), .val (.ref b25), .val (.ref r37), .val (.int (Int32.ofNat (dg pp).length)), .val (.int (Int32.ofNat ((26 + (dg pp).length) + n)))] [(.int (1 : Int32))])
    refine o_ifN X49 at_311 (by decide) (q := 314) rfl ?_
    refine o_iconst X49 at_314 (w := 1) rfl (q := 315) rfl ?_
    refine o_goto X49 at_315 (by decide) (q := 319) (by decide) ?_
    exact o_retN X49 at_319 (by simp) (fun Sf hSf => rfl) (by decide) (by decide)
  refine o_iloadN X at_0 rfl (q := 1) rfl ?_
  refine o_iconst X at_1 (w := 3) rfl (q := 2) rfl ?_
  refine o_iand X at_2 (w := (p1 &&& (3 : Int32))) rfl (q := 3) rfl ?_
  by_cases hc3 : (p1 &&& (3 : Int32)) = (0 : Int32)
  · refine o_ifN X at_3 (teq hc3).2 (q := 6) rfl ?_
    refine o_iconst X at_6 (w := 0) rfl (q := 7) rfl ?_
    refine o_goto X at_7 (by decide) (q := 14) (by decide) ?_
    refine o_istore X at_14 rfl (L' := #[.val (.int p0), .val (.int p1), .val (.int p2), .val (.int p3), .val (.int p4), .val (.int (0 : Int32)), .unset, .unset, .unset, .unset, .unset, .unset, .unset, .unset, .unset]) rfl (q := 16) rfl ?_
    refine o_iloadN X at_16 rfl (q := 17) rfl ?_
    refine o_iconst X at_17 (w := 2) rfl (q := 18) rfl ?_
    refine o_iushr X at_18 (w := ((p1.toUInt32 >>> ((2 : Int32) &&& 31).toUInt32).toInt32)) rfl (q := 19) rfl ?_
    refine o_iconst X at_19 (w := 3) rfl (q := 20) rfl ?_
    refine o_iand X at_20 (w := (((p1.toUInt32 >>> ((2 : Int32) &&& 31).toUInt32).toInt32) &&& (3 : Int32))) rfl (q := 21) rfl ?_
    rcases own_len4 ((p1.toUInt32 >>> ((2 : Int32) &&& 31).toUInt32).toInt32) with el | el | el | el
    · refine o_istore X at_21 el (L' := #[.val (.int p0), .val (.int p1), .val (.int p2), .val (.int p3), .val (.int p4), .val (.int (0 : Int32)), .val (.int (0 : Int32)), .unset, .unset, .unset, .unset, .unset, .unset, .unset, .unset]) rfl (q := 23) rfl ?_
      refine o_iloadN X at_23 rfl (q := 24) rfl ?_
      refine o_sipush X at_24 (w := 255) rfl (q := 27) rfl ?_
      refine o_iand X at_27 (w := (p2 &&& (255 : Int32))) rfl (q := 28) rfl ?_
      refine o_i2c X at_28 (w := ((p2 &&& (255 : Int32)).toUInt32.toUInt16.toUInt32.toInt32)) rfl (q := 29) rfl ?_
      obtain ⟨c0, h_c0⟩ : ∃ z : Int32, ((p2 &&& (255 : Int32)).toUInt32.toUInt16.toUInt32.toInt32) = z := ⟨_, rfl⟩
      refine o_istore X at_29 h_c0 (L' := #[.val (.int p0), .val (.int p1), .val (.int p2), .val (.int p3), .val (.int p4), .val (.int (0 : Int32)), .val (.int (0 : Int32)), .val (.int c0), .unset, .unset, .unset, .unset, .unset, .unset, .unset]) rfl (q := 31) rfl ?_
      have k0 := own_c255 h_c0
      refine o_iloadN X at_31 rfl (q := 32) rfl ?_
      refine o_sipush X at_32 (w := 255) rfl (q := 35) rfl ?_
      refine o_iand X at_35 (w := (p3 &&& (255 : Int32))) rfl (q := 36) rfl ?_
      refine o_i2c X at_36 (w := ((p3 &&& (255 : Int32)).toUInt32.toUInt16.toUInt32.toInt32)) rfl (q := 37) rfl ?_
      obtain ⟨c1, h_c1⟩ : ∃ z : Int32, ((p3 &&& (255 : Int32)).toUInt32.toUInt16.toUInt32.toInt32) = z := ⟨_, rfl⟩
      refine o_istore X at_37 h_c1 (L' := #[.val (.int p0), .val (.int p1), .val (.int p2), .val (.int p3), .val (.int p4), .val (.int (0 : Int32)), .val (.int (0 : Int32)), .val (.int c0), .val (.int c1), .unset, .unset, .unset, .unset, .unset, .unset]) rfl (q := 39) rfl ?_
      have k1 := own_c255 h_c1
      refine o_iload X at_39 rfl (q := 41) rfl ?_
      refine o_sipush X at_41 (w := 255) rfl (q := 44) rfl ?_
      refine o_iand X at_44 (w := (p4 &&& (255 : Int32))) rfl (q := 45) rfl ?_
      refine o_i2c X at_45 (w := ((p4 &&& (255 : Int32)).toUInt32.toUInt16.toUInt32.toInt32)) rfl (q := 46) rfl ?_
      obtain ⟨c2, h_c2⟩ : ∃ z : Int32, ((p4 &&& (255 : Int32)).toUInt32.toUInt16.toUInt32.toInt32) = z := ⟨_, rfl⟩
      refine o_istore X at_46 h_c2 (L' := #[.val (.int p0), .val (.int p1), .val (.int p2), .val (.int p3), .val (.int p4), .val (.int (0 : Int32)), .val (.int (0 : Int32)), .val (.int c0), .val (.int c1), .val (.int c2), .unset, .unset, .unset, .unset, .unset]) rfl (q := 48) rfl ?_
      have k2 := own_c255 h_c2
      refine o_iload X at_48 rfl (q := 50) rfl ?_
      refine o_ifN X at_50 (by decide) (q := 53) rfl ?_
      refine o_ldcS X (n := 0) (vs := []) (z := 0) (w1 hw) (wS0 hw) (List.mem_of_getElem? (i := 4) rfl) ⟨by decide, by decide⟩ (by decide) (by decide) at_53 (by decide) (by decide) (by decide) (by decide) (q := 55) rfl ?_
      intro vm50 T50 h50 a50 b50 k50 X50 E50 R50 A50 Fc50 Fv50 V50 ne50
      refine o_astore X50 at_55 rfl (L' := #[.val (.int p0), .val (.int p1), .val (.int p2), .val (.int p3), .val (.int p4), .val (.int (0 : Int32)), .val (.int (0 : Int32)), .val (.int c0), .val (.int c1), .val (.int c2), .val (.ref a50), .unset, .unset, .unset, .unset]) rfl (q := 57) rfl ?_
      refine o_goto X50 at_57 (by decide) (q := 134) (by decide) ?_
      have lc51 : LS Z _ a50 b50 k50 [] := ⟨A50, Fc50, Fv50, (by rw [show (([] : List Int32).map (fun c => c.toInt8.toInt32)).map Value.int = [] from by decide]; exact V50), by decide, by decide⟩
      exact fin0 c0 c1 c2 k0 k1 k2 a50 b50 k50 [] 0 lc51 rfl (by decide) own_x0 (On.more X50 (lb rfl) (lb rfl))
    · refine o_istore X at_21 el (L' := #[.val (.int p0), .val (.int p1), .val (.int p2), .val (.int p3), .val (.int p4), .val (.int (0 : Int32)), .val (.int (1 : Int32)), .unset, .unset, .unset, .unset, .unset, .unset, .unset, .unset]) rfl (q := 23) rfl ?_
      refine o_iloadN X at_23 rfl (q := 24) rfl ?_
      refine o_sipush X at_24 (w := 255) rfl (q := 27) rfl ?_
      refine o_iand X at_27 (w := (p2 &&& (255 : Int32))) rfl (q := 28) rfl ?_
      refine o_i2c X at_28 (w := ((p2 &&& (255 : Int32)).toUInt32.toUInt16.toUInt32.toInt32)) rfl (q := 29) rfl ?_
      obtain ⟨c0, h_c0⟩ : ∃ z : Int32, ((p2 &&& (255 : Int32)).toUInt32.toUInt16.toUInt32.toInt32) = z := ⟨_, rfl⟩
      refine o_istore X at_29 h_c0 (L' := #[.val (.int p0), .val (.int p1), .val (.int p2), .val (.int p3), .val (.int p4), .val (.int (0 : Int32)), .val (.int (1 : Int32)), .val (.int c0), .unset, .unset, .unset, .unset, .unset, .unset, .unset]) rfl (q := 31) rfl ?_
      have k0 := own_c255 h_c0
      refine o_iloadN X at_31 rfl (q := 32) rfl ?_
      refine o_sipush X at_32 (w := 255) rfl (q := 35) rfl ?_
      refine o_iand X at_35 (w := (p3 &&& (255 : Int32))) rfl (q := 36) rfl ?_
      refine o_i2c X at_36 (w := ((p3 &&& (255 : Int32)).toUInt32.toUInt16.toUInt32.toInt32)) rfl (q := 37) rfl ?_
      obtain ⟨c1, h_c1⟩ : ∃ z : Int32, ((p3 &&& (255 : Int32)).toUInt32.toUInt16.toUInt32.toInt32) = z := ⟨_, rfl⟩
      refine o_istore X at_37 h_c1 (L' := #[.val (.int p0), .val (.int p1), .val (.int p2), .val (.int p3), .val (.int p4), .val (.int (0 : Int32)), .val (.int (1 : Int32)), .val (.int c0), .val (.int c1), .unset, .unset, .unset, .unset, .unset, .unset]) rfl (q := 39) rfl ?_
      have k1 := own_c255 h_c1
      refine o_iload X at_39 rfl (q := 41) rfl ?_
      refine o_sipush X at_41 (w := 255) rfl (q := 44) rfl ?_
      refine o_iand X at_44 (w := (p4 &&& (255 : Int32))) rfl (q := 45) rfl ?_
      refine o_i2c X at_45 (w := ((p4 &&& (255 : Int32)).toUInt32.toUInt16.toUInt32.toInt32)) rfl (q := 46) rfl ?_
      obtain ⟨c2, h_c2⟩ : ∃ z : Int32, ((p4 &&& (255 : Int32)).toUInt32.toUInt16.toUInt32.toInt32) = z := ⟨_, rfl⟩
      refine o_istore X at_46 h_c2 (L' := #[.val (.int p0), .val (.int p1), .val (.int p2), .val (.int p3), .val (.int p4), .val (.int (0 : Int32)), .val (.int (1 : Int32)), .val (.int c0), .val (.int c1), .val (.int c2), .unset, .unset, .unset, .unset, .unset]) rfl (q := 48) rfl ?_
      have k2 := own_c255 h_c2
      refine o_iload X at_48 rfl (q := 50) rfl ?_
      refine o_ifY X at_50 (by decide) (by decide) (q := 60) (by decide) ?_
      refine o_iload X at_60 rfl (q := 62) rfl ?_
      refine o_iconst X at_62 (w := 1) rfl (q := 63) rfl ?_
      refine o_icmpN X at_63 (by decide) (q := 66) rfl ?_
      refine o_iload X at_66 rfl (q := 68) rfl ?_
      refine o_stat X [(.int c0)] (y' := ⟨"java/lang/String", "valueOf", "(C)Ljava/lang/String;"⟩) (c_valueOf hw c0 _ O2 P5 k0) all0 (w231 hw) (w232 hw) (w2 hw) (w233 hw) (by decide) at_68 (rest := []) rfl rfl (lenOf pd29 rfl) rfl (by decide) (lb rfl) (by decide) (by decide) (q := 71) rfl ?_
      intro v52 vm52 T52 h52 l52 X52 R52 q52
      obtain ⟨r52, b52, kb52, rfl, K52, L52⟩ := q52
      show Goes p e below _ T52 (mkF m 71 #[.val (.int p0), .val (.int p1), .val (.int p2), .val (.int p3), .val (.int p4), .val (.int (0 : Int32)), .val (.int (1 : Int32)), .val (.int c0), .val (.int c1), .val (.int c2), .unset, .unset, .unset, .unset, .unset] [(.ref r52)])
      refine o_astore X52 at_71 rfl (L' := #[.val (.int p0), .val (.int p1), .val (.int p2), .val (.int p3), .val (.int p4), .val (.int (0 : Int32)), .val (.int (1 : Int32)), .val (.int c0), .val (.int c1), .val (.int c2), .val (.ref r52), .unset, .unset, .unset, .unset]) rfl (q := 73) rfl ?_
      refine o_goto X52 at_73 (by decide) (q := 134) (by decide) ?_
      exact fin0 c0 c1 c2 k0 k1 k2 r52 b52 kb52 [c0] 1 L52 rfl (by decide) own_x1 (On.more X52 (lb rfl) (lb rfl))
    · refine o_istore X at_21 el (L' := #[.val (.int p0), .val (.int p1), .val (.int p2), .val (.int p3), .val (.int p4), .val (.int (0 : Int32)), .val (.int (2 : Int32)), .unset, .unset, .unset, .unset, .unset, .unset, .unset, .unset]) rfl (q := 23) rfl ?_
      refine o_iloadN X at_23 rfl (q := 24) rfl ?_
      refine o_sipush X at_24 (w := 255) rfl (q := 27) rfl ?_
      refine o_iand X at_27 (w := (p2 &&& (255 : Int32))) rfl (q := 28) rfl ?_
      refine o_i2c X at_28 (w := ((p2 &&& (255 : Int32)).toUInt32.toUInt16.toUInt32.toInt32)) rfl (q := 29) rfl ?_
      obtain ⟨c0, h_c0⟩ : ∃ z : Int32, ((p2 &&& (255 : Int32)).toUInt32.toUInt16.toUInt32.toInt32) = z := ⟨_, rfl⟩
      refine o_istore X at_29 h_c0 (L' := #[.val (.int p0), .val (.int p1), .val (.int p2), .val (.int p3), .val (.int p4), .val (.int (0 : Int32)), .val (.int (2 : Int32)), .val (.int c0), .unset, .unset, .unset, .unset, .unset, .unset, .unset]) rfl (q := 31) rfl ?_
      have k0 := own_c255 h_c0
      refine o_iloadN X at_31 rfl (q := 32) rfl ?_
      refine o_sipush X at_32 (w := 255) rfl (q := 35) rfl ?_
      refine o_iand X at_35 (w := (p3 &&& (255 : Int32))) rfl (q := 36) rfl ?_
      refine o_i2c X at_36 (w := ((p3 &&& (255 : Int32)).toUInt32.toUInt16.toUInt32.toInt32)) rfl (q := 37) rfl ?_
      obtain ⟨c1, h_c1⟩ : ∃ z : Int32, ((p3 &&& (255 : Int32)).toUInt32.toUInt16.toUInt32.toInt32) = z := ⟨_, rfl⟩
      refine o_istore X at_37 h_c1 (L' := #[.val (.int p0), .val (.int p1), .val (.int p2), .val (.int p3), .val (.int p4), .val (.int (0 : Int32)), .val (.int (2 : Int32)), .val (.int c0), .val (.int c1), .unset, .unset, .unset, .unset, .unset, .unset]) rfl (q := 39) rfl ?_
      have k1 := own_c255 h_c1
      refine o_iload X at_39 rfl (q := 41) rfl ?_
      refine o_sipush X at_41 (w := 255) rfl (q := 44) rfl ?_
      refine o_iand X at_44 (w := (p4 &&& (255 : Int32))) rfl (q := 45) rfl ?_
      refine o_i2c X at_45 (w := ((p4 &&& (255 : Int32)).toUInt32.toUInt16.toUInt32.toInt32)) rfl (q := 46) rfl ?_
      obtain ⟨c2, h_c2⟩ : ∃ z : Int32, ((p4 &&& (255 : Int32)).toUInt32.toUInt16.toUInt32.toInt32) = z := ⟨_, rfl⟩
      refine o_istore X at_46 h_c2 (L' := #[.val (.int p0), .val (.int p1), .val (.int p2), .val (.int p3), .val (.int p4), .val (.int (0 : Int32)), .val (.int (2 : Int32)), .val (.int c0), .val (.int c1), .val (.int c2), .unset, .unset, .unset, .unset, .unset]) rfl (q := 48) rfl ?_
      have k2 := own_c255 h_c2
      refine o_iload X at_48 rfl (q := 50) rfl ?_
      refine o_ifY X at_50 (by decide) (by decide) (q := 60) (by decide) ?_
      refine o_iload X at_60 rfl (q := 62) rfl ?_
      refine o_iconst X at_62 (w := 1) rfl (q := 63) rfl ?_
      refine o_icmpY X at_63 (by decide) (by decide) (q := 76) (by decide) ?_
      refine o_iload X at_76 rfl (q := 78) rfl ?_
      refine o_iconst X at_78 (w := 2) rfl (q := 79) rfl ?_
      refine o_icmpN X at_79 (by decide) (q := 82) rfl ?_
      refine o_new X (w298 hw) (w3 hw) (w2 hw) at_82 (by decide) (by decide) (q := 85) rfl ?_
      intro T53 h53 b53 gb53 X53 E53 R53 S53 A53 D53 g0_b53
      have f54 : Fld Z h53 b53 "java/lang/String" "value" "[B" .null := D53 (Or.inr (w5 hw)) (ty := (.array .byte)) (by decide)
      have f55 : Fld Z h53 b53 "java/lang/String" "coder" "B" (.int (0 : Int32)) := D53 (Or.inr (w6 hw)) (ty := .byte) (by decide)
      refine o_dup X53 at_85 rfl (q := 86) rfl ?_
      refine o_iconst X53 at_86 (w := 2) rfl (q := 87) rfl ?_
      refine o_newarr X53 (aty := .char) (cap := 2) 2 (w299 hw) at_87 (by decide) (by decide) (by decide) (by decide) (by decide) (q := 89) rfl ?_
      intro T56 h56 b56 k56 gb56 X56 E56 R56 S56 V56 g0_b56
      have V56 : Arv Z h56 b56 k56 .char (2 : Int32) [(.int (0 : Int32)), (.int (0 : Int32))] (.int (0 : Int32)) := V56
      refine o_dup X56 at_89 rfl (q := 90) rfl ?_
      refine o_iconst X56 at_90 (w := 0) rfl (q := 91) rfl ?_
      refine o_iload X56 at_91 rfl (q := 93) rfl ?_
      refine o_castore X56 0 V56 g0_b56 (Safe.arv X56.alike V56 (by decide)) (by decide) rfl (lb rfl) (v := (.int c0)) (by rw [own_narc (own_rg8 k0)]) at_93 (q := 94) rfl ?_
      intro T57 h57 l57 X57 W57 R57 V57
      have V57 : Arv Z h57 b56 k56 .char (2 : Int32) [(.int c0), (.int (0 : Int32))] (.int (0 : Int32)) := V57
      refine o_dup X57 at_94 rfl (q := 95) rfl ?_
      refine o_iconst X57 at_95 (w := 1) rfl (q := 96) rfl ?_
      refine o_iload X57 at_96 rfl (q := 98) rfl ?_
      refine o_castore X57 1 V57 g0_b56 (Safe.arv X57.alike V57 (by decide)) (by decide) rfl (lb rfl) (v := (.int c1)) (by rw [own_narc (own_rg8 k1)]) at_98 (q := 99) rfl ?_
      intro T58 h58 l58 X58 W58 R58 V58
      have V58 : Arv Z h58 b56 k56 .char (2 : Int32) [(.int c0), (.int c1)] (.int (0 : Int32)) := V58
      have f59 := (((A53.ext E56).wr W57).wr W58)
      have f60 := (((f54.ext E56).other W57 (Or.inl (Nat.ne_of_lt (Nat.lt_of_lt_of_le A53.lt (Nat.le_of_eq gb56.symm))))).other W58 (Or.inl (Nat.ne_of_lt (Nat.lt_of_lt_of_le A53.lt (Nat.le_of_eq gb56.symm)))))
      have f61 := (((f55.ext E56).other W57 (Or.inl (Nat.ne_of_lt (Nat.lt_of_lt_of_le A53.lt (Nat.le_of_eq gb56.symm))))).other W58 (Or.inl (Nat.ne_of_lt (Nat.lt_of_lt_of_le A53.lt (Nat.le_of_eq gb56.symm)))))
      have f62 := (CHr.safe R58 (((A53.ext E56).wr W57).lt) (CHr.safe R57 ((A53.ext E56).lt) (CHr.safe R56 (A53.lt) S53)))
      refine o_newStr X58 (cs := [c0, c1]) (n := 2) f59 f60 f61 V58 g0_b53 f62 O2 P5 (hwns hw) (w3 hw) rfl rfl (by decide) (by decide) (own_l2 k0 k1) (w300 hw) (w301 hw) (w302 hw) at_99 rfl (by decide) (lb rfl) (by decide) (by decide) (q := 102) rfl ?_
      intro T63 h63 l63 b63 kb63 X63 K63 R63 gb63 L63
      refine o_astore X63 at_102 rfl (L' := #[.val (.int p0), .val (.int p1), .val (.int p2), .val (.int p3), .val (.int p4), .val (.int (0 : Int32)), .val (.int (2 : Int32)), .val (.int c0), .val (.int c1), .val (.int c2), .val (.ref b53), .unset, .unset, .unset, .unset]) rfl (q := 104) rfl ?_
      refine o_goto X63 at_104 (by decide) (q := 134) (by decide) ?_
      exact fin0 c0 c1 c2 k0 k1 k2 b53 b63 kb63 [c0, c1] 2 L63 rfl (by decide) own_x2 (On.more X63 (lb rfl) (lb rfl))
    · refine o_istore X at_21 el (L' := #[.val (.int p0), .val (.int p1), .val (.int p2), .val (.int p3), .val (.int p4), .val (.int (0 : Int32)), .val (.int (3 : Int32)), .unset, .unset, .unset, .unset, .unset, .unset, .unset, .unset]) rfl (q := 23) rfl ?_
      refine o_iloadN X at_23 rfl (q := 24) rfl ?_
      refine o_sipush X at_24 (w := 255) rfl (q := 27) rfl ?_
      refine o_iand X at_27 (w := (p2 &&& (255 : Int32))) rfl (q := 28) rfl ?_
      refine o_i2c X at_28 (w := ((p2 &&& (255 : Int32)).toUInt32.toUInt16.toUInt32.toInt32)) rfl (q := 29) rfl ?_
      obtain ⟨c0, h_c0⟩ : ∃ z : Int32, ((p2 &&& (255 : Int32)).toUInt32.toUInt16.toUInt32.toInt32) = z := ⟨_, rfl⟩
      refine o_istore X at_29 h_c0 (L' := #[.val (.int p0), .val (.int p1), .val (.int p2), .val (.int p3), .val (.int p4), .val (.int (0 : Int32)), .val (.int (3 : Int32)), .val (.int c0), .unset, .unset, .unset, .unset, .unset, .unset, .unset]) rfl (q := 31) rfl ?_
      have k0 := own_c255 h_c0
      refine o_iloadN X at_31 rfl (q := 32) rfl ?_
      refine o_sipush X at_32 (w := 255) rfl (q := 35) rfl ?_
      refine o_iand X at_35 (w := (p3 &&& (255 : Int32))) rfl (q := 36) rfl ?_
      refine o_i2c X at_36 (w := ((p3 &&& (255 : Int32)).toUInt32.toUInt16.toUInt32.toInt32)) rfl (q := 37) rfl ?_
      obtain ⟨c1, h_c1⟩ : ∃ z : Int32, ((p3 &&& (255 : Int32)).toUInt32.toUInt16.toUInt32.toInt32) = z := ⟨_, rfl⟩
      refine o_istore X at_37 h_c1 (L' := #[.val (.int p0), .val (.int p1), .val (.int p2), .val (.int p3), .val (.int p4), .val (.int (0 : Int32)), .val (.int (3 : Int32)), .val (.int c0), .val (.int c1), .unset, .unset, .unset, .unset, .unset, .unset]) rfl (q := 39) rfl ?_
      have k1 := own_c255 h_c1
      refine o_iload X at_39 rfl (q := 41) rfl ?_
      refine o_sipush X at_41 (w := 255) rfl (q := 44) rfl ?_
      refine o_iand X at_44 (w := (p4 &&& (255 : Int32))) rfl (q := 45) rfl ?_
      refine o_i2c X at_45 (w := ((p4 &&& (255 : Int32)).toUInt32.toUInt16.toUInt32.toInt32)) rfl (q := 46) rfl ?_
      obtain ⟨c2, h_c2⟩ : ∃ z : Int32, ((p4 &&& (255 : Int32)).toUInt32.toUInt16.toUInt32.toInt32) = z := ⟨_, rfl⟩
      refine o_istore X at_46 h_c2 (L' := #[.val (.int p0), .val (.int p1), .val (.int p2), .val (.int p3), .val (.int p4), .val (.int (0 : Int32)), .val (.int (3 : Int32)), .val (.int c0), .val (.int c1), .val (.int c2), .unset, .unset, .unset, .unset, .unset]) rfl (q := 48) rfl ?_
      have k2 := own_c255 h_c2
      refine o_iload X at_48 rfl (q := 50) rfl ?_
      refine o_ifY X at_50 (by decide) (by decide) (q := 60) (by decide) ?_
      refine o_iload X at_60 rfl (q := 62) rfl ?_
      refine o_iconst X at_62 (w := 1) rfl (q := 63) rfl ?_
      refine o_icmpY X at_63 (by decide) (by decide) (q := 76) (by decide) ?_
      refine o_iload X at_76 rfl (q := 78) rfl ?_
      refine o_iconst X at_78 (w := 2) rfl (q := 79) rfl ?_
      refine o_icmpY X at_79 (by decide) (by decide) (q := 107) (by decide) ?_
      refine o_new X (w298 hw) (w3 hw) (w2 hw) at_107 (by decide) (by decide) (q := 110) rfl ?_
      intro T64 h64 b64 gb64 X64 E64 R64 S64 A64 D64 g0_b64
      have f65 : Fld Z h64 b64 "java/lang/String" "value" "[B" .null := D64 (Or.inr (w5 hw)) (ty := (.array .byte)) (by decide)
      have f66 : Fld Z h64 b64 "java/lang/String" "coder" "B" (.int (0 : Int32)) := D64 (Or.inr (w6 hw)) (ty := .byte) (by decide)
      refine o_dup X64 at_110 rfl (q := 111) rfl ?_
      refine o_iconst X64 at_111 (w := 3) rfl (q := 112) rfl ?_
      refine o_newarr X64 (aty := .char) (cap := 3) 3 (w299 hw) at_112 (by decide) (by decide) (by decide) (by decide) (by decide) (q := 114) rfl ?_
      intro T67 h67 b67 k67 gb67 X67 E67 R67 S67 V67 g0_b67
      have V67 : Arv Z h67 b67 k67 .char (3 : Int32) [(.int (0 : Int32)), (.int (0 : Int32)), (.int (0 : Int32))] (.int (0 : Int32)) := V67
      refine o_dup X67 at_114 rfl (q := 115) rfl ?_
      refine o_iconst X67 at_115 (w := 0) rfl (q := 116) rfl ?_
      refine o_iload X67 at_116 rfl (q := 118) rfl ?_
      refine o_castore X67 0 V67 g0_b67 (Safe.arv X67.alike V67 (by decide)) (by decide) rfl (lb rfl) (v := (.int c0)) (by rw [own_narc (own_rg8 k0)]) at_118 (q := 119) rfl ?_
      intro T68 h68 l68 X68 W68 R68 V68
      have V68 : Arv Z h68 b67 k67 .char (3 : Int32) [(.int c0), (.int (0 : Int32)), (.int (0 : Int32))] (.int (0 : Int32)) := V68
      refine o_dup X68 at_119 rfl (q := 120) rfl ?_
      refine o_iconst X68 at_120 (w := 1) rfl (q := 121) rfl ?_
      refine o_iload X68 at_121 rfl (q := 123) rfl ?_
      refine o_castore X68 1 V68 g0_b67 (Safe.arv X68.alike V68 (by decide)) (by decide) rfl (lb rfl) (v := (.int c1)) (by rw [own_narc (own_rg8 k1)]) at_123 (q := 124) rfl ?_
      intro T69 h69 l69 X69 W69 R69 V69
      have V69 : Arv Z h69 b67 k67 .char (3 : Int32) [(.int c0), (.int c1), (.int (0 : Int32))] (.int (0 : Int32)) := V69
      refine o_dup X69 at_124 rfl (q := 125) rfl ?_
      refine o_iconst X69 at_125 (w := 2) rfl (q := 126) rfl ?_
      refine o_iload X69 at_126 rfl (q := 128) rfl ?_
      refine o_castore X69 2 V69 g0_b67 (Safe.arv X69.alike V69 (by decide)) (by decide) rfl (lb rfl) (v := (.int c2)) (by rw [own_narc (own_rg8 k2)]) at_128 (q := 129) rfl ?_
      intro T70 h70 l70 X70 W70 R70 V70
      have V70 : Arv Z h70 b67 k67 .char (3 : Int32) [(.int c0), (.int c1), (.int c2)] (.int (0 : Int32)) := V70
      have f71 := ((((A64.ext E67).wr W68).wr W69).wr W70)
      have f72 := ((((f65.ext E67).other W68 (Or.inl (Nat.ne_of_lt (Nat.lt_of_lt_of_le A64.lt (Nat.le_of_eq gb67.symm))))).other W69 (Or.inl (Nat.ne_of_lt (Nat.lt_of_lt_of_le A64.lt (Nat.le_of_eq gb67.symm))))).other W70 (Or.inl (Nat.ne_of_lt (Nat.lt_of_lt_of_le A64.lt (Nat.le_of_eq gb67.symm)))))
      have f73 := ((((f66.ext E67).other W68 (Or.inl (Nat.ne_of_lt (Nat.lt_of_lt_of_le A64.lt (Nat.le_of_eq gb67.symm))))).other W69 (Or.inl (Nat.ne_of_lt (Nat.lt_of_lt_of_le A64.lt (Nat.le_of_eq gb67.symm))))).other W70 (Or.inl (Nat.ne_of_lt (Nat.lt_of_lt_of_le A64.lt (Nat.le_of_eq gb67.symm)))))
      have f74 := (CHr.safe R70 ((((A64.ext E67).wr W68).wr W69).lt) (CHr.safe R69 (((A64.ext E67).wr W68).lt) (CHr.safe R68 ((A64.ext E67).lt) (CHr.safe R67 (A64.lt) S64))))
      refine o_newStr X70 (cs := [c0, c1, c2]) (n := 3) f71 f72 f73 V70 g0_b64 f74 O2 P5 (hwns hw) (w3 hw) rfl rfl (by decide) (by decide) (own_l3 k0 k1 k2) (w300 hw) (w301 hw) (w302 hw) at_129 rfl (by decide) (lb rfl) (by decide) (by decide) (q := 132) rfl ?_
      intro T75 h75 l75 b75 kb75 X75 K75 R75 gb75 L75
      refine o_astore X75 at_132 rfl (L' := #[.val (.int p0), .val (.int p1), .val (.int p2), .val (.int p3), .val (.int p4), .val (.int (0 : Int32)), .val (.int (3 : Int32)), .val (.int c0), .val (.int c1), .val (.int c2), .val (.ref b64), .unset, .unset, .unset, .unset]) rfl (q := 134) rfl ?_
      exact fin0 c0 c1 c2 k0 k1 k2 b64 b75 kb75 [c0, c1, c2] 3 L75 rfl (by decide) own_x3 (On.more X75 (lb rfl) (lb rfl))
  · refine o_ifY X at_3 (feq hc3).2 (by decide) (q := 10) (by decide) ?_
    refine o_iloadN X at_10 rfl (q := 11) rfl ?_
    refine o_ldcI X (w0 hw) at_11 (q := 13) rfl ?_
    refine o_iand X at_13 (w := (p0 &&& (2147483647 : Int32))) rfl (q := 14) rfl ?_
    rcases own_and31 p0 with ep | ⟨pp, hp, hp2, ep⟩
    · refine o_istore X at_14 ep (L' := #[.val (.int p0), .val (.int p1), .val (.int p2), .val (.int p3), .val (.int p4), .val (.int (0 : Int32)), .unset, .unset, .unset, .unset, .unset, .unset, .unset, .unset, .unset]) rfl (q := 16) rfl ?_
      refine o_iloadN X at_16 rfl (q := 17) rfl ?_
      refine o_iconst X at_17 (w := 2) rfl (q := 18) rfl ?_
      refine o_iushr X at_18 (w := ((p1.toUInt32 >>> ((2 : Int32) &&& 31).toUInt32).toInt32)) rfl (q := 19) rfl ?_
      refine o_iconst X at_19 (w := 3) rfl (q := 20) rfl ?_
      refine o_iand X at_20 (w := (((p1.toUInt32 >>> ((2 : Int32) &&& 31).toUInt32).toInt32) &&& (3 : Int32))) rfl (q := 21) rfl ?_
      rcases own_len4 ((p1.toUInt32 >>> ((2 : Int32) &&& 31).toUInt32).toInt32) with el | el | el | el
      · refine o_istore X at_21 el (L' := #[.val (.int p0), .val (.int p1), .val (.int p2), .val (.int p3), .val (.int p4), .val (.int (0 : Int32)), .val (.int (0 : Int32)), .unset, .unset, .unset, .unset, .unset, .unset, .unset, .unset]) rfl (q := 23) rfl ?_
        refine o_iloadN X at_23 rfl (q := 24) rfl ?_
        refine o_sipush X at_24 (w := 255) rfl (q := 27) rfl ?_
        refine o_iand X at_27 (w := (p2 &&& (255 : Int32))) rfl (q := 28) rfl ?_
        refine o_i2c X at_28 (w := ((p2 &&& (255 : Int32)).toUInt32.toUInt16.toUInt32.toInt32)) rfl (q := 29) rfl ?_
        obtain ⟨c0, h_c0⟩ : ∃ z : Int32, ((p2 &&& (255 : Int32)).toUInt32.toUInt16.toUInt32.toInt32) = z := ⟨_, rfl⟩
        refine o_istore X at_29 h_c0 (L' := #[.val (.int p0), .val (.int p1), .val (.int p2), .val (.int p3), .val (.int p4), .val (.int (0 : Int32)), .val (.int (0 : Int32)), .val (.int c0), .unset, .unset, .unset, .unset, .unset, .unset, .unset]) rfl (q := 31) rfl ?_
        have k0 := own_c255 h_c0
        refine o_iloadN X at_31 rfl (q := 32) rfl ?_
        refine o_sipush X at_32 (w := 255) rfl (q := 35) rfl ?_
        refine o_iand X at_35 (w := (p3 &&& (255 : Int32))) rfl (q := 36) rfl ?_
        refine o_i2c X at_36 (w := ((p3 &&& (255 : Int32)).toUInt32.toUInt16.toUInt32.toInt32)) rfl (q := 37) rfl ?_
        obtain ⟨c1, h_c1⟩ : ∃ z : Int32, ((p3 &&& (255 : Int32)).toUInt32.toUInt16.toUInt32.toInt32) = z := ⟨_, rfl⟩
        refine o_istore X at_37 h_c1 (L' := #[.val (.int p0), .val (.int p1), .val (.int p2), .val (.int p3), .val (.int p4), .val (.int (0 : Int32)), .val (.int (0 : Int32)), .val (.int c0), .val (.int c1), .unset, .unset, .unset, .unset, .unset, .unset]) rfl (q := 39) rfl ?_
        have k1 := own_c255 h_c1
        refine o_iload X at_39 rfl (q := 41) rfl ?_
        refine o_sipush X at_41 (w := 255) rfl (q := 44) rfl ?_
        refine o_iand X at_44 (w := (p4 &&& (255 : Int32))) rfl (q := 45) rfl ?_
        refine o_i2c X at_45 (w := ((p4 &&& (255 : Int32)).toUInt32.toUInt16.toUInt32.toInt32)) rfl (q := 46) rfl ?_
        obtain ⟨c2, h_c2⟩ : ∃ z : Int32, ((p4 &&& (255 : Int32)).toUInt32.toUInt16.toUInt32.toInt32) = z := ⟨_, rfl⟩
        refine o_istore X at_46 h_c2 (L' := #[.val (.int p0), .val (.int p1), .val (.int p2), .val (.int p3), .val (.int p4), .val (.int (0 : Int32)), .val (.int (0 : Int32)), .val (.int c0), .val (.int c1), .val (.int c2), .unset, .unset, .unset, .unset, .unset]) rfl (q := 48) rfl ?_
        have k2 := own_c255 h_c2
        refine o_iload X at_48 rfl (q := 50) rfl ?_
        refine o_ifN X at_50 (by decide) (q := 53) rfl ?_
        refine o_ldcS X (n := 0) (vs := []) (z := 0) (w1 hw) (wS0 hw) (List.mem_of_getElem? (i := 4) rfl) ⟨by decide, by decide⟩ (by decide) (by decide) at_53 (by decide) (by decide) (by decide) (by decide) (q := 55) rfl ?_
        intro vm76 T76 h76 a76 b76 k76 X76 E76 R76 A76 Fc76 Fv76 V76 ne76
        refine o_astore X76 at_55 rfl (L' := #[.val (.int p0), .val (.int p1), .val (.int p2), .val (.int p3), .val (.int p4), .val (.int (0 : Int32)), .val (.int (0 : Int32)), .val (.int c0), .val (.int c1), .val (.int c2), .val (.ref a76), .unset, .unset, .unset, .unset]) rfl (q := 57) rfl ?_
        refine o_goto X76 at_57 (by decide) (q := 134) (by decide) ?_
        have lc77 : LS Z _ a76 b76 k76 [] := ⟨A76, Fc76, Fv76, (by rw [show (([] : List Int32).map (fun c => c.toInt8.toInt32)).map Value.int = [] from by decide]; exact V76), by decide, by decide⟩
        exact fin0 c0 c1 c2 k0 k1 k2 a76 b76 k76 [] 0 lc77 rfl (by decide) own_x0 (On.more X76 (lb rfl) (lb rfl))
      · refine o_istore X at_21 el (L' := #[.val (.int p0), .val (.int p1), .val (.int p2), .val (.int p3), .val (.int p4), .val (.int (0 : Int32)), .val (.int (1 : Int32)), .unset, .unset, .unset, .unset, .unset, .unset, .unset, .unset]) rfl (q := 23) rfl ?_
        refine o_iloadN X at_23 rfl (q := 24) rfl ?_
        refine o_sipush X at_24 (w := 255) rfl (q := 27) rfl ?_
        refine o_iand X at_27 (w := (p2 &&& (255 : Int32))) rfl (q := 28) rfl ?_
        refine o_i2c X at_28 (w := ((p2 &&& (255 : Int32)).toUInt32.toUInt16.toUInt32.toInt32)) rfl (q := 29) rfl ?_
        obtain ⟨c0, h_c0⟩ : ∃ z : Int32, ((p2 &&& (255 : Int32)).toUInt32.toUInt16.toUInt32.toInt32) = z := ⟨_, rfl⟩
        refine o_istore X at_29 h_c0 (L' := #[.val (.int p0), .val (.int p1), .val (.int p2), .val (.int p3), .val (.int p4), .val (.int (0 : Int32)), .val (.int (1 : Int32)), .val (.int c0), .unset, .unset, .unset, .unset, .unset, .unset, .unset]) rfl (q := 31) rfl ?_
        have k0 := own_c255 h_c0
        refine o_iloadN X at_31 rfl (q := 32) rfl ?_
        refine o_sipush X at_32 (w := 255) rfl (q := 35) rfl ?_
        refine o_iand X at_35 (w := (p3 &&& (255 : Int32))) rfl (q := 36) rfl ?_
        refine o_i2c X at_36 (w := ((p3 &&& (255 : Int32)).toUInt32.toUInt16.toUInt32.toInt32)) rfl (q := 37) rfl ?_
        obtain ⟨c1, h_c1⟩ : ∃ z : Int32, ((p3 &&& (255 : Int32)).toUInt32.toUInt16.toUInt32.toInt32) = z := ⟨_, rfl⟩
        refine o_istore X at_37 h_c1 (L' := #[.val (.int p0), .val (.int p1), .val (.int p2), .val (.int p3), .val (.int p4), .val (.int (0 : Int32)), .val (.int (1 : Int32)), .val (.int c0), .val (.int c1), .unset, .unset, .unset, .unset, .unset, .unset]) rfl (q := 39) rfl ?_
        have k1 := own_c255 h_c1
        refine o_iload X at_39 rfl (q := 41) rfl ?_
        refine o_sipush X at_41 (w := 255) rfl (q := 44) rfl ?_
        refine o_iand X at_44 (w := (p4 &&& (255 : Int32))) rfl (q := 45) rfl ?_
        refine o_i2c X at_45 (w := ((p4 &&& (255 : Int32)).toUInt32.toUInt16.toUInt32.toInt32)) rfl (q := 46) rfl ?_
        obtain ⟨c2, h_c2⟩ : ∃ z : Int32, ((p4 &&& (255 : Int32)).toUInt32.toUInt16.toUInt32.toInt32) = z := ⟨_, rfl⟩
        refine o_istore X at_46 h_c2 (L' := #[.val (.int p0), .val (.int p1), .val (.int p2), .val (.int p3), .val (.int p4), .val (.int (0 : Int32)), .val (.int (1 : Int32)), .val (.int c0), .val (.int c1), .val (.int c2), .unset, .unset, .unset, .unset, .unset]) rfl (q := 48) rfl ?_
        have k2 := own_c255 h_c2
        refine o_iload X at_48 rfl (q := 50) rfl ?_
        refine o_ifY X at_50 (by decide) (by decide) (q := 60) (by decide) ?_
        refine o_iload X at_60 rfl (q := 62) rfl ?_
        refine o_iconst X at_62 (w := 1) rfl (q := 63) rfl ?_
        refine o_icmpN X at_63 (by decide) (q := 66) rfl ?_
        refine o_iload X at_66 rfl (q := 68) rfl ?_
        refine o_stat X [(.int c0)] (y' := ⟨"java/lang/String", "valueOf", "(C)Ljava/lang/String;"⟩) (c_valueOf hw c0 _ O2 P5 k0) all0 (w231 hw) (w232 hw) (w2 hw) (w233 hw) (by decide) at_68 (rest := []) rfl rfl (lenOf pd29 rfl) rfl (by decide) (lb rfl) (by decide) (by decide) (q := 71) rfl ?_
        intro v78 vm78 T78 h78 l78 X78 R78 q78
        obtain ⟨r78, b78, kb78, rfl, K78, L78⟩ := q78
        show Goes p e below _ T78 (mkF m 71 #[.val (.int p0), .val (.int p1), .val (.int p2), .val (.int p3), .val (.int p4), .val (.int (0 : Int32)), .val (.int (1 : Int32)), .val (.int c0), .val (.int c1), .val (.int c2), .unset, .unset, .unset, .unset, .unset] [(.ref r78)])
        refine o_astore X78 at_71 rfl (L' := #[.val (.int p0), .val (.int p1), .val (.int p2), .val (.int p3), .val (.int p4), .val (.int (0 : Int32)), .val (.int (1 : Int32)), .val (.int c0), .val (.int c1), .val (.int c2), .val (.ref r78), .unset, .unset, .unset, .unset]) rfl (q := 73) rfl ?_
        refine o_goto X78 at_73 (by decide) (q := 134) (by decide) ?_
        exact fin0 c0 c1 c2 k0 k1 k2 r78 b78 kb78 [c0] 1 L78 rfl (by decide) own_x1 (On.more X78 (lb rfl) (lb rfl))
      · refine o_istore X at_21 el (L' := #[.val (.int p0), .val (.int p1), .val (.int p2), .val (.int p3), .val (.int p4), .val (.int (0 : Int32)), .val (.int (2 : Int32)), .unset, .unset, .unset, .unset, .unset, .unset, .unset, .unset]) rfl (q := 23) rfl ?_
        refine o_iloadN X at_23 rfl (q := 24) rfl ?_
        refine o_sipush X at_24 (w := 255) rfl (q := 27) rfl ?_
        refine o_iand X at_27 (w := (p2 &&& (255 : Int32))) rfl (q := 28) rfl ?_
        refine o_i2c X at_28 (w := ((p2 &&& (255 : Int32)).toUInt32.toUInt16.toUInt32.toInt32)) rfl (q := 29) rfl ?_
        obtain ⟨c0, h_c0⟩ : ∃ z : Int32, ((p2 &&& (255 : Int32)).toUInt32.toUInt16.toUInt32.toInt32) = z := ⟨_, rfl⟩
        refine o_istore X at_29 h_c0 (L' := #[.val (.int p0), .val (.int p1), .val (.int p2), .val (.int p3), .val (.int p4), .val (.int (0 : Int32)), .val (.int (2 : Int32)), .val (.int c0), .unset, .unset, .unset, .unset, .unset, .unset, .unset]) rfl (q := 31) rfl ?_
        have k0 := own_c255 h_c0
        refine o_iloadN X at_31 rfl (q := 32) rfl ?_
        refine o_sipush X at_32 (w := 255) rfl (q := 35) rfl ?_
        refine o_iand X at_35 (w := (p3 &&& (255 : Int32))) rfl (q := 36) rfl ?_
        refine o_i2c X at_36 (w := ((p3 &&& (255 : Int32)).toUInt32.toUInt16.toUInt32.toInt32)) rfl (q := 37) rfl ?_
        obtain ⟨c1, h_c1⟩ : ∃ z : Int32, ((p3 &&& (255 : Int32)).toUInt32.toUInt16.toUInt32.toInt32) = z := ⟨_, rfl⟩
        refine o_istore X at_37 h_c1 (L' := #[.val (.int p0), .val (.int p1), .val (.int p2), .val (.int p3), .val (.int p4), .val (.int (0 : Int32)), .val (.int (2 : Int32)), .val (.int c0), .val (.int c1), .unset, .unset, .unset, .unset, .unset, .unset]) rfl (q := 39) rfl ?_
        have k1 := own_c255 h_c1
        refine o_iload X at_39 rfl (q := 41) rfl ?_
        refine o_sipush X at_41 (w := 255) rfl (q := 44) rfl ?_
        refine o_iand X at_44 (w := (p4 &&& (255 : Int32))) rfl (q := 45) rfl ?_
        refine o_i2c X at_45 (w := ((p4 &&& (255 : Int32)).toUInt32.toUInt16.toUInt32.toInt32)) rfl (q := 46) rfl ?_
        obtain ⟨c2, h_c2⟩ : ∃ z : Int32, ((p4 &&& (255 : Int32)).toUInt32.toUInt16.toUInt32.toInt32) = z := ⟨_, rfl⟩
        refine o_istore X at_46 h_c2 (L' := #[.val (.int p0), .val (.int p1), .val (.int p2), .val (.int p3), .val (.int p4), .val (.int (0 : Int32)), .val (.int (2 : Int32)), .val (.int c0), .val (.int c1), .val (.int c2), .unset, .unset, .unset, .unset, .unset]) rfl (q := 48) rfl ?_
        have k2 := own_c255 h_c2
        refine o_iload X at_48 rfl (q := 50) rfl ?_
        refine o_ifY X at_50 (by decide) (by decide) (q := 60) (by decide) ?_
        refine o_iload X at_60 rfl (q := 62) rfl ?_
        refine o_iconst X at_62 (w := 1) rfl (q := 63) rfl ?_
        refine o_icmpY X at_63 (by decide) (by decide) (q := 76) (by decide) ?_
        refine o_iload X at_76 rfl (q := 78) rfl ?_
        refine o_iconst X at_78 (w := 2) rfl (q := 79) rfl ?_
        refine o_icmpN X at_79 (by decide) (q := 82) rfl ?_
        refine o_new X (w298 hw) (w3 hw) (w2 hw) at_82 (by decide) (by decide) (q := 85) rfl ?_
        intro T79 h79 b79 gb79 X79 E79 R79 S79 A79 D79 g0_b79
        have f80 : Fld Z h79 b79 "java/lang/String" "value" "[B" .null := D79 (Or.inr (w5 hw)) (ty := (.array .byte)) (by decide)
        have f81 : Fld Z h79 b79 "java/lang/String" "coder" "B" (.int (0 : Int32)) := D79 (Or.inr (w6 hw)) (ty := .byte) (by decide)
        refine o_dup X79 at_85 rfl (q := 86) rfl ?_
        refine o_iconst X79 at_86 (w := 2) rfl (q := 87) rfl ?_
        refine o_newarr X79 (aty := .char) (cap := 2) 2 (w299 hw) at_87 (by decide) (by decide) (by decide) (by decide) (by decide) (q := 89) rfl ?_
        intro T82 h82 b82 k82 gb82 X82 E82 R82 S82 V82 g0_b82
        have V82 : Arv Z h82 b82 k82 .char (2 : Int32) [(.int (0 : Int32)), (.int (0 : Int32))] (.int (0 : Int32)) := V82
        refine o_dup X82 at_89 rfl (q := 90) rfl ?_
        refine o_iconst X82 at_90 (w := 0) rfl (q := 91) rfl ?_
        refine o_iload X82 at_91 rfl (q := 93) rfl ?_
        refine o_castore X82 0 V82 g0_b82 (Safe.arv X82.alike V82 (by decide)) (by decide) rfl (lb rfl) (v := (.int c0)) (by rw [own_narc (own_rg8 k0)]) at_93 (q := 94) rfl ?_
        intro T83 h83 l83 X83 W83 R83 V83
        have V83 : Arv Z h83 b82 k82 .char (2 : Int32) [(.int c0), (.int (0 : Int32))] (.int (0 : Int32)) := V83
        refine o_dup X83 at_94 rfl (q := 95) rfl ?_
        refine o_iconst X83 at_95 (w := 1) rfl (q := 96) rfl ?_
        refine o_iload X83 at_96 rfl (q := 98) rfl ?_
        refine o_castore X83 1 V83 g0_b82 (Safe.arv X83.alike V83 (by decide)) (by decide) rfl (lb rfl) (v := (.int c1)) (by rw [own_narc (own_rg8 k1)]) at_98 (q := 99) rfl ?_
        intro T84 h84 l84 X84 W84 R84 V84
        have V84 : Arv Z h84 b82 k82 .char (2 : Int32) [(.int c0), (.int c1)] (.int (0 : Int32)) := V84
        have f85 := (((A79.ext E82).wr W83).wr W84)
        have f86 := (((f80.ext E82).other W83 (Or.inl (Nat.ne_of_lt (Nat.lt_of_lt_of_le A79.lt (Nat.le_of_eq gb82.symm))))).other W84 (Or.inl (Nat.ne_of_lt (Nat.lt_of_lt_of_le A79.lt (Nat.le_of_eq gb82.symm)))))
        have f87 := (((f81.ext E82).other W83 (Or.inl (Nat.ne_of_lt (Nat.lt_of_lt_of_le A79.lt (Nat.le_of_eq gb82.symm))))).other W84 (Or.inl (Nat.ne_of_lt (Nat.lt_of_lt_of_le A79.lt (Nat.le_of_eq gb82.symm)))))
        have f88 := (CHr.safe R84 (((A79.ext E82).wr W83).lt) (CHr.safe R83 ((A79.ext E82).lt) (CHr.safe R82 (A79.lt) S79)))
        refine o_newStr X84 (cs := [c0, c1]) (n := 2) f85 f86 f87 V84 g0_b79 f88 O2 P5 (hwns hw) (w3 hw) rfl rfl (by decide) (by decide) (own_l2 k0 k1) (w300 hw) (w301 hw) (w302 hw) at_99 rfl (by decide) (lb rfl) (by decide) (by decide) (q := 102) rfl ?_
        intro T89 h89 l89 b89 kb89 X89 K89 R89 gb89 L89
        refine o_astore X89 at_102 rfl (L' := #[.val (.int p0), .val (.int p1), .val (.int p2), .val (.int p3), .val (.int p4), .val (.int (0 : Int32)), .val (.int (2 : Int32)), .val (.int c0), .val (.int c1), .val (.int c2), .val (.ref b79), .unset, .unset, .unset, .unset]) rfl (q := 104) rfl ?_
        refine o_goto X89 at_104 (by decide) (q := 134) (by decide) ?_
        exact fin0 c0 c1 c2 k0 k1 k2 b79 b89 kb89 [c0, c1] 2 L89 rfl (by decide) own_x2 (On.more X89 (lb rfl) (lb rfl))
      · refine o_istore X at_21 el (L' := #[.val (.int p0), .val (.int p1), .val (.int p2), .val (.int p3), .val (.int p4), .val (.int (0 : Int32)), .val (.int (3 : Int32)), .unset, .unset, .unset, .unset, .unset, .unset, .unset, .unset]) rfl (q := 23) rfl ?_
        refine o_iloadN X at_23 rfl (q := 24) rfl ?_
        refine o_sipush X at_24 (w := 255) rfl (q := 27) rfl ?_
        refine o_iand X at_27 (w := (p2 &&& (255 : Int32))) rfl (q := 28) rfl ?_
        refine o_i2c X at_28 (w := ((p2 &&& (255 : Int32)).toUInt32.toUInt16.toUInt32.toInt32)) rfl (q := 29) rfl ?_
        obtain ⟨c0, h_c0⟩ : ∃ z : Int32, ((p2 &&& (255 : Int32)).toUInt32.toUInt16.toUInt32.toInt32) = z := ⟨_, rfl⟩
        refine o_istore X at_29 h_c0 (L' := #[.val (.int p0), .val (.int p1), .val (.int p2), .val (.int p3), .val (.int p4), .val (.int (0 : Int32)), .val (.int (3 : Int32)), .val (.int c0), .unset, .unset, .unset, .unset, .unset, .unset, .unset]) rfl (q := 31) rfl ?_
        have k0 := own_c255 h_c0
        refine o_iloadN X at_31 rfl (q := 32) rfl ?_
        refine o_sipush X at_32 (w := 255) rfl (q := 35) rfl ?_
        refine o_iand X at_35 (w := (p3 &&& (255 : Int32))) rfl (q := 36) rfl ?_
        refine o_i2c X at_36 (w := ((p3 &&& (255 : Int32)).toUInt32.toUInt16.toUInt32.toInt32)) rfl (q := 37) rfl ?_
        obtain ⟨c1, h_c1⟩ : ∃ z : Int32, ((p3 &&& (255 : Int32)).toUInt32.toUInt16.toUInt32.toInt32) = z := ⟨_, rfl⟩
        refine o_istore X at_37 h_c1 (L' := #[.val (.int p0), .val (.int p1), .val (.int p2), .val (.int p3), .val (.int p4), .val (.int (0 : Int32)), .val (.int (3 : Int32)), .val (.int c0), .val (.int c1), .unset, .unset, .unset, .unset, .unset, .unset]) rfl (q := 39) rfl ?_
        have k1 := own_c255 h_c1
        refine o_iload X at_39 rfl (q := 41) rfl ?_
        refine o_sipush X at_41 (w := 255) rfl (q := 44) rfl ?_
        refine o_iand X at_44 (w := (p4 &&& (255 : Int32))) rfl (q := 45) rfl ?_
        refine o_i2c X at_45 (w := ((p4 &&& (255 : Int32)).toUInt32.toUInt16.toUInt32.toInt32)) rfl (q := 46) rfl ?_
        obtain ⟨c2, h_c2⟩ : ∃ z : Int32, ((p4 &&& (255 : Int32)).toUInt32.toUInt16.toUInt32.toInt32) = z := ⟨_, rfl⟩
        refine o_istore X at_46 h_c2 (L' := #[.val (.int p0), .val (.int p1), .val (.int p2), .val (.int p3), .val (.int p4), .val (.int (0 : Int32)), .val (.int (3 : Int32)), .val (.int c0), .val (.int c1), .val (.int c2), .unset, .unset, .unset, .unset, .unset]) rfl (q := 48) rfl ?_
        have k2 := own_c255 h_c2
        refine o_iload X at_48 rfl (q := 50) rfl ?_
        refine o_ifY X at_50 (by decide) (by decide) (q := 60) (by decide) ?_
        refine o_iload X at_60 rfl (q := 62) rfl ?_
        refine o_iconst X at_62 (w := 1) rfl (q := 63) rfl ?_
        refine o_icmpY X at_63 (by decide) (by decide) (q := 76) (by decide) ?_
        refine o_iload X at_76 rfl (q := 78) rfl ?_
        refine o_iconst X at_78 (w := 2) rfl (q := 79) rfl ?_
        refine o_icmpY X at_79 (by decide) (by decide) (q := 107) (by decide) ?_
        refine o_new X (w298 hw) (w3 hw) (w2 hw) at_107 (by decide) (by decide) (q := 110) rfl ?_
        intro T90 h90 b90 gb90 X90 E90 R90 S90 A90 D90 g0_b90
        have f91 : Fld Z h90 b90 "java/lang/String" "value" "[B" .null := D90 (Or.inr (w5 hw)) (ty := (.array .byte)) (by decide)
        have f92 : Fld Z h90 b90 "java/lang/String" "coder" "B" (.int (0 : Int32)) := D90 (Or.inr (w6 hw)) (ty := .byte) (by decide)
        refine o_dup X90 at_110 rfl (q := 111) rfl ?_
        refine o_iconst X90 at_111 (w := 3) rfl (q := 112) rfl ?_
        refine o_newarr X90 (aty := .char) (cap := 3) 3 (w299 hw) at_112 (by decide) (by decide) (by decide) (by decide) (by decide) (q := 114) rfl ?_
        intro T93 h93 b93 k93 gb93 X93 E93 R93 S93 V93 g0_b93
        have V93 : Arv Z h93 b93 k93 .char (3 : Int32) [(.int (0 : Int32)), (.int (0 : Int32)), (.int (0 : Int32))] (.int (0 : Int32)) := V93
        refine o_dup X93 at_114 rfl (q := 115) rfl ?_
        refine o_iconst X93 at_115 (w := 0) rfl (q := 116) rfl ?_
        refine o_iload X93 at_116 rfl (q := 118) rfl ?_
        refine o_castore X93 0 V93 g0_b93 (Safe.arv X93.alike V93 (by decide)) (by decide) rfl (lb rfl) (v := (.int c0)) (by rw [own_narc (own_rg8 k0)]) at_118 (q := 119) rfl ?_
        intro T94 h94 l94 X94 W94 R94 V94
        have V94 : Arv Z h94 b93 k93 .char (3 : Int32) [(.int c0), (.int (0 : Int32)), (.int (0 : Int32))] (.int (0 : Int32)) := V94
        refine o_dup X94 at_119 rfl (q := 120) rfl ?_
        refine o_iconst X94 at_120 (w := 1) rfl (q := 121) rfl ?_
        refine o_iload X94 at_121 rfl (q := 123) rfl ?_
        refine o_castore X94 1 V94 g0_b93 (Safe.arv X94.alike V94 (by decide)) (by decide) rfl (lb rfl) (v := (.int c1)) (by rw [own_narc (own_rg8 k1)]) at_123 (q := 124) rfl ?_
        intro T95 h95 l95 X95 W95 R95 V95
        have V95 : Arv Z h95 b93 k93 .char (3 : Int32) [(.int c0), (.int c1), (.int (0 : Int32))] (.int (0 : Int32)) := V95
        refine o_dup X95 at_124 rfl (q := 125) rfl ?_
        refine o_iconst X95 at_125 (w := 2) rfl (q := 126) rfl ?_
        refine o_iload X95 at_126 rfl (q := 128) rfl ?_
        refine o_castore X95 2 V95 g0_b93 (Safe.arv X95.alike V95 (by decide)) (by decide) rfl (lb rfl) (v := (.int c2)) (by rw [own_narc (own_rg8 k2)]) at_128 (q := 129) rfl ?_
        intro T96 h96 l96 X96 W96 R96 V96
        have V96 : Arv Z h96 b93 k93 .char (3 : Int32) [(.int c0), (.int c1), (.int c2)] (.int (0 : Int32)) := V96
        have f97 := ((((A90.ext E93).wr W94).wr W95).wr W96)
        have f98 := ((((f91.ext E93).other W94 (Or.inl (Nat.ne_of_lt (Nat.lt_of_lt_of_le A90.lt (Nat.le_of_eq gb93.symm))))).other W95 (Or.inl (Nat.ne_of_lt (Nat.lt_of_lt_of_le A90.lt (Nat.le_of_eq gb93.symm))))).other W96 (Or.inl (Nat.ne_of_lt (Nat.lt_of_lt_of_le A90.lt (Nat.le_of_eq gb93.symm)))))
        have f99 := ((((f92.ext E93).other W94 (Or.inl (Nat.ne_of_lt (Nat.lt_of_lt_of_le A90.lt (Nat.le_of_eq gb93.symm))))).other W95 (Or.inl (Nat.ne_of_lt (Nat.lt_of_lt_of_le A90.lt (Nat.le_of_eq gb93.symm))))).other W96 (Or.inl (Nat.ne_of_lt (Nat.lt_of_lt_of_le A90.lt (Nat.le_of_eq gb93.symm)))))
        have f100 := (CHr.safe R96 ((((A90.ext E93).wr W94).wr W95).lt) (CHr.safe R95 (((A90.ext E93).wr W94).lt) (CHr.safe R94 ((A90.ext E93).lt) (CHr.safe R93 (A90.lt) S90))))
        refine o_newStr X96 (cs := [c0, c1, c2]) (n := 3) f97 f98 f99 V96 g0_b90 f100 O2 P5 (hwns hw) (w3 hw) rfl rfl (by decide) (by decide) (own_l3 k0 k1 k2) (w300 hw) (w301 hw) (w302 hw) at_129 rfl (by decide) (lb rfl) (by decide) (by decide) (q := 132) rfl ?_
        intro T101 h101 l101 b101 kb101 X101 K101 R101 gb101 L101
        refine o_astore X101 at_132 rfl (L' := #[.val (.int p0), .val (.int p1), .val (.int p2), .val (.int p3), .val (.int p4), .val (.int (0 : Int32)), .val (.int (3 : Int32)), .val (.int c0), .val (.int c1), .val (.int c2), .val (.ref b90), .unset, .unset, .unset, .unset]) rfl (q := 134) rfl ?_
        exact fin0 c0 c1 c2 k0 k1 k2 b90 b101 kb101 [c0, c1, c2] 3 L101 rfl (by decide) own_x3 (On.more X101 (lb rfl) (lb rfl))
    · refine o_istore X at_14 ep (L' := #[.val (.int p0), .val (.int p1), .val (.int p2), .val (.int p3), .val (.int p4), .val (.int (Int32.ofNat pp)), .unset, .unset, .unset, .unset, .unset, .unset, .unset, .unset, .unset]) rfl (q := 16) rfl ?_
      refine o_iloadN X at_16 rfl (q := 17) rfl ?_
      refine o_iconst X at_17 (w := 2) rfl (q := 18) rfl ?_
      refine o_iushr X at_18 (w := ((p1.toUInt32 >>> ((2 : Int32) &&& 31).toUInt32).toInt32)) rfl (q := 19) rfl ?_
      refine o_iconst X at_19 (w := 3) rfl (q := 20) rfl ?_
      refine o_iand X at_20 (w := (((p1.toUInt32 >>> ((2 : Int32) &&& 31).toUInt32).toInt32) &&& (3 : Int32))) rfl (q := 21) rfl ?_
      rcases own_len4 ((p1.toUInt32 >>> ((2 : Int32) &&& 31).toUInt32).toInt32) with el | el | el | el
      · refine o_istore X at_21 el (L' := #[.val (.int p0), .val (.int p1), .val (.int p2), .val (.int p3), .val (.int p4), .val (.int (Int32.ofNat pp)), .val (.int (0 : Int32)), .unset, .unset, .unset, .unset, .unset, .unset, .unset, .unset]) rfl (q := 23) rfl ?_
        refine o_iloadN X at_23 rfl (q := 24) rfl ?_
        refine o_sipush X at_24 (w := 255) rfl (q := 27) rfl ?_
        refine o_iand X at_27 (w := (p2 &&& (255 : Int32))) rfl (q := 28) rfl ?_
        refine o_i2c X at_28 (w := ((p2 &&& (255 : Int32)).toUInt32.toUInt16.toUInt32.toInt32)) rfl (q := 29) rfl ?_
        obtain ⟨c0, h_c0⟩ : ∃ z : Int32, ((p2 &&& (255 : Int32)).toUInt32.toUInt16.toUInt32.toInt32) = z := ⟨_, rfl⟩
        refine o_istore X at_29 h_c0 (L' := #[.val (.int p0), .val (.int p1), .val (.int p2), .val (.int p3), .val (.int p4), .val (.int (Int32.ofNat pp)), .val (.int (0 : Int32)), .val (.int c0), .unset, .unset, .unset, .unset, .unset, .unset, .unset]) rfl (q := 31) rfl ?_
        have k0 := own_c255 h_c0
        refine o_iloadN X at_31 rfl (q := 32) rfl ?_
        refine o_sipush X at_32 (w := 255) rfl (q := 35) rfl ?_
        refine o_iand X at_35 (w := (p3 &&& (255 : Int32))) rfl (q := 36) rfl ?_
        refine o_i2c X at_36 (w := ((p3 &&& (255 : Int32)).toUInt32.toUInt16.toUInt32.toInt32)) rfl (q := 37) rfl ?_
        obtain ⟨c1, h_c1⟩ : ∃ z : Int32, ((p3 &&& (255 : Int32)).toUInt32.toUInt16.toUInt32.toInt32) = z := ⟨_, rfl⟩
        refine o_istore X at_37 h_c1 (L' := #[.val (.int p0), .val (.int p1), .val (.int p2), .val (.int p3), .val (.int p4), .val (.int (Int32.ofNat pp)), .val (.int (0 : Int32)), .val (.int c0), .val (.int c1), .unset, .unset, .unset, .unset, .unset, .unset]) rfl (q := 39) rfl ?_
        have k1 := own_c255 h_c1
        refine o_iload X at_39 rfl (q := 41) rfl ?_
        refine o_sipush X at_41 (w := 255) rfl (q := 44) rfl ?_
        refine o_iand X at_44 (w := (p4 &&& (255 : Int32))) rfl (q := 45) rfl ?_
        refine o_i2c X at_45 (w := ((p4 &&& (255 : Int32)).toUInt32.toUInt16.toUInt32.toInt32)) rfl (q := 46) rfl ?_
        obtain ⟨c2, h_c2⟩ : ∃ z : Int32, ((p4 &&& (255 : Int32)).toUInt32.toUInt16.toUInt32.toInt32) = z := ⟨_, rfl⟩
        refine o_istore X at_46 h_c2 (L' := #[.val (.int p0), .val (.int p1), .val (.int p2), .val (.int p3), .val (.int p4), .val (.int (Int32.ofNat pp)), .val (.int (0 : Int32)), .val (.int c0), .val (.int c1), .val (.int c2), .unset, .unset, .unset, .unset, .unset]) rfl (q := 48) rfl ?_
        have k2 := own_c255 h_c2
        refine o_iload X at_48 rfl (q := 50) rfl ?_
        refine o_ifN X at_50 (by decide) (q := 53) rfl ?_
        refine o_ldcS X (n := 0) (vs := []) (z := 0) (w1 hw) (wS0 hw) (List.mem_of_getElem? (i := 4) rfl) ⟨by decide, by decide⟩ (by decide) (by decide) at_53 (by decide) (by decide) (by decide) (by decide) (q := 55) rfl ?_
        intro vm102 T102 h102 a102 b102 k102 X102 E102 R102 A102 Fc102 Fv102 V102 ne102
        refine o_astore X102 at_55 rfl (L' := #[.val (.int p0), .val (.int p1), .val (.int p2), .val (.int p3), .val (.int p4), .val (.int (Int32.ofNat pp)), .val (.int (0 : Int32)), .val (.int c0), .val (.int c1), .val (.int c2), .val (.ref a102), .unset, .unset, .unset, .unset]) rfl (q := 57) rfl ?_
        refine o_goto X102 at_57 (by decide) (q := 134) (by decide) ?_
        have lc103 : LS Z _ a102 b102 k102 [] := ⟨A102, Fc102, Fv102, (by rw [show (([] : List Int32).map (fun c => c.toInt8.toInt32)).map Value.int = [] from by decide]; exact V102), by decide, by decide⟩
        exact finP pp hp hp2 c0 c1 c2 k0 k1 k2 a102 b102 k102 [] 0 lc103 rfl (by decide) own_x0 (On.more X102 (lb rfl) (lb rfl))
      · refine o_istore X at_21 el (L' := #[.val (.int p0), .val (.int p1), .val (.int p2), .val (.int p3), .val (.int p4), .val (.int (Int32.ofNat pp)), .val (.int (1 : Int32)), .unset, .unset, .unset, .unset, .unset, .unset, .unset, .unset]) rfl (q := 23) rfl ?_
        refine o_iloadN X at_23 rfl (q := 24) rfl ?_
        refine o_sipush X at_24 (w := 255) rfl (q := 27) rfl ?_
        refine o_iand X at_27 (w := (p2 &&& (255 : Int32))) rfl (q := 28) rfl ?_
        refine o_i2c X at_28 (w := ((p2 &&& (255 : Int32)).toUInt32.toUInt16.toUInt32.toInt32)) rfl (q := 29) rfl ?_
        obtain ⟨c0, h_c0⟩ : ∃ z : Int32, ((p2 &&& (255 : Int32)).toUInt32.toUInt16.toUInt32.toInt32) = z := ⟨_, rfl⟩
        refine o_istore X at_29 h_c0 (L' := #[.val (.int p0), .val (.int p1), .val (.int p2), .val (.int p3), .val (.int p4), .val (.int (Int32.ofNat pp)), .val (.int (1 : Int32)), .val (.int c0), .unset, .unset, .unset, .unset, .unset, .unset, .unset]) rfl (q := 31) rfl ?_
        have k0 := own_c255 h_c0
        refine o_iloadN X at_31 rfl (q := 32) rfl ?_
        refine o_sipush X at_32 (w := 255) rfl (q := 35) rfl ?_
        refine o_iand X at_35 (w := (p3 &&& (255 : Int32))) rfl (q := 36) rfl ?_
        refine o_i2c X at_36 (w := ((p3 &&& (255 : Int32)).toUInt32.toUInt16.toUInt32.toInt32)) rfl (q := 37) rfl ?_
        obtain ⟨c1, h_c1⟩ : ∃ z : Int32, ((p3 &&& (255 : Int32)).toUInt32.toUInt16.toUInt32.toInt32) = z := ⟨_, rfl⟩
        refine o_istore X at_37 h_c1 (L' := #[.val (.int p0), .val (.int p1), .val (.int p2), .val (.int p3), .val (.int p4), .val (.int (Int32.ofNat pp)), .val (.int (1 : Int32)), .val (.int c0), .val (.int c1), .unset, .unset, .unset, .unset, .unset, .unset]) rfl (q := 39) rfl ?_
        have k1 := own_c255 h_c1
        refine o_iload X at_39 rfl (q := 41) rfl ?_
        refine o_sipush X at_41 (w := 255) rfl (q := 44) rfl ?_
        refine o_iand X at_44 (w := (p4 &&& (255 : Int32))) rfl (q := 45) rfl ?_
        refine o_i2c X at_45 (w := ((p4 &&& (255 : Int32)).toUInt32.toUInt16.toUInt32.toInt32)) rfl (q := 46) rfl ?_
        obtain ⟨c2, h_c2⟩ : ∃ z : Int32, ((p4 &&& (255 : Int32)).toUInt32.toUInt16.toUInt32.toInt32) = z := ⟨_, rfl⟩
        refine o_istore X at_46 h_c2 (L' := #[.val (.int p0), .val (.int p1), .val (.int p2), .val (.int p3), .val (.int p4), .val (.int (Int32.ofNat pp)), .val (.int (1 : Int32)), .val (.int c0), .val (.int c1), .val (.int c2), .unset, .unset, .unset, .unset, .unset]) rfl (q := 48) rfl ?_
        have k2 := own_c255 h_c2
        refine o_iload X at_48 rfl (q := 50) rfl ?_
        refine o_ifY X at_50 (by decide) (by decide) (q := 60) (by decide) ?_
        refine o_iload X at_60 rfl (q := 62) rfl ?_
        refine o_iconst X at_62 (w := 1) rfl (q := 63) rfl ?_
        refine o_icmpN X at_63 (by decide) (q := 66) rfl ?_
        refine o_iload X at_66 rfl (q := 68) rfl ?_
        refine o_stat X [(.int c0)] (y' := ⟨"java/lang/String", "valueOf", "(C)Ljava/lang/String;"⟩) (c_valueOf hw c0 _ O2 P5 k0) all0 (w231 hw) (w232 hw) (w2 hw) (w233 hw) (by decide) at_68 (rest := []) rfl rfl (lenOf pd29 rfl) rfl (by decide) (lb rfl) (by decide) (by decide) (q := 71) rfl ?_
        intro v104 vm104 T104 h104 l104 X104 R104 q104
        obtain ⟨r104, b104, kb104, rfl, K104, L104⟩ := q104
        show Goes p e below _ T104 (mkF m 71 #[.val (.int p0), .val (.int p1), .val (.int p2), .val (.int p3), .val (.int p4), .val (.int (Int32.ofNat pp)), .val (.int (1 : Int32)), .val (.int c0), .val (.int c1), .val (.int c2), .unset, .unset, .unset, .unset, .unset] [(.ref r104)])
        refine o_astore X104 at_71 rfl (L' := #[.val (.int p0), .val (.int p1), .val (.int p2), .val (.int p3), .val (.int p4), .val (.int (Int32.ofNat pp)), .val (.int (1 : Int32)), .val (.int c0), .val (.int c1), .val (.int c2), .val (.ref r104), .unset, .unset, .unset, .unset]) rfl (q := 73) rfl ?_
        refine o_goto X104 at_73 (by decide) (q := 134) (by decide) ?_
        exact finP pp hp hp2 c0 c1 c2 k0 k1 k2 r104 b104 kb104 [c0] 1 L104 rfl (by decide) own_x1 (On.more X104 (lb rfl) (lb rfl))
      · refine o_istore X at_21 el (L' := #[.val (.int p0), .val (.int p1), .val (.int p2), .val (.int p3), .val (.int p4), .val (.int (Int32.ofNat pp)), .val (.int (2 : Int32)), .unset, .unset, .unset, .unset, .unset, .unset, .unset, .unset]) rfl (q := 23) rfl ?_
        refine o_iloadN X at_23 rfl (q := 24) rfl ?_
        refine o_sipush X at_24 (w := 255) rfl (q := 27) rfl ?_
        refine o_iand X at_27 (w := (p2 &&& (255 : Int32))) rfl (q := 28) rfl ?_
        refine o_i2c X at_28 (w := ((p2 &&& (255 : Int32)).toUInt32.toUInt16.toUInt32.toInt32)) rfl (q := 29) rfl ?_
        obtain ⟨c0, h_c0⟩ : ∃ z : Int32, ((p2 &&& (255 : Int32)).toUInt32.toUInt16.toUInt32.toInt32) = z := ⟨_, rfl⟩
        refine o_istore X at_29 h_c0 (L' := #[.val (.int p0), .val (.int p1), .val (.int p2), .val (.int p3), .val (.int p4), .val (.int (Int32.ofNat pp)), .val (.int (2 : Int32)), .val (.int c0), .unset, .unset, .unset, .unset, .unset, .unset, .unset]) rfl (q := 31) rfl ?_
        have k0 := own_c255 h_c0
        refine o_iloadN X at_31 rfl (q := 32) rfl ?_
        refine o_sipush X at_32 (w := 255) rfl (q := 35) rfl ?_
        refine o_iand X at_35 (w := (p3 &&& (255 : Int32))) rfl (q := 36) rfl ?_
        refine o_i2c X at_36 (w := ((p3 &&& (255 : Int32)).toUInt32.toUInt16.toUInt32.toInt32)) rfl (q := 37) rfl ?_
        obtain ⟨c1, h_c1⟩ : ∃ z : Int32, ((p3 &&& (255 : Int32)).toUInt32.toUInt16.toUInt32.toInt32) = z := ⟨_, rfl⟩
        refine o_istore X at_37 h_c1 (L' := #[.val (.int p0), .val (.int p1), .val (.int p2), .val (.int p3), .val (.int p4), .val (.int (Int32.ofNat pp)), .val (.int (2 : Int32)), .val (.int c0), .val (.int c1), .unset, .unset, .unset, .unset, .unset, .unset]) rfl (q := 39) rfl ?_
        have k1 := own_c255 h_c1
        refine o_iload X at_39 rfl (q := 41) rfl ?_
        refine o_sipush X at_41 (w := 255) rfl (q := 44) rfl ?_
        refine o_iand X at_44 (w := (p4 &&& (255 : Int32))) rfl (q := 45) rfl ?_
        refine o_i2c X at_45 (w := ((p4 &&& (255 : Int32)).toUInt32.toUInt16.toUInt32.toInt32)) rfl (q := 46) rfl ?_
        obtain ⟨c2, h_c2⟩ : ∃ z : Int32, ((p4 &&& (255 : Int32)).toUInt32.toUInt16.toUInt32.toInt32) = z := ⟨_, rfl⟩
        refine o_istore X at_46 h_c2 (L' := #[.val (.int p0), .val (.int p1), .val (.int p2), .val (.int p3), .val (.int p4), .val (.int (Int32.ofNat pp)), .val (.int (2 : Int32)), .val (.int c0), .val (.int c1), .val (.int c2), .unset, .unset, .unset, .unset, .unset]) rfl (q := 48) rfl ?_
        have k2 := own_c255 h_c2
        refine o_iload X at_48 rfl (q := 50) rfl ?_
        refine o_ifY X at_50 (by decide) (by decide) (q := 60) (by decide) ?_
        refine o_iload X at_60 rfl (q := 62) rfl ?_
        refine o_iconst X at_62 (w := 1) rfl (q := 63) rfl ?_
        refine o_icmpY X at_63 (by decide) (by decide) (q := 76) (by decide) ?_
        refine o_iload X at_76 rfl (q := 78) rfl ?_
        refine o_iconst X at_78 (w := 2) rfl (q := 79) rfl ?_
        refine o_icmpN X at_79 (by decide) (q := 82) rfl ?_
        refine o_new X (w298 hw) (w3 hw) (w2 hw) at_82 (by decide) (by decide) (q := 85) rfl ?_
        intro T105 h105 b105 gb105 X105 E105 R105 S105 A105 D105 g0_b105
        have f106 : Fld Z h105 b105 "java/lang/String" "value" "[B" .null := D105 (Or.inr (w5 hw)) (ty := (.array .byte)) (by decide)
        have f107 : Fld Z h105 b105 "java/lang/String" "coder" "B" (.int (0 : Int32)) := D105 (Or.inr (w6 hw)) (ty := .byte) (by decide)
        refine o_dup X105 at_85 rfl (q := 86) rfl ?_
        refine o_iconst X105 at_86 (w := 2) rfl (q := 87) rfl ?_
        refine o_newarr X105 (aty := .char) (cap := 2) 2 (w299 hw) at_87 (by decide) (by decide) (by decide) (by decide) (by decide) (q := 89) rfl ?_
        intro T108 h108 b108 k108 gb108 X108 E108 R108 S108 V108 g0_b108
        have V108 : Arv Z h108 b108 k108 .char (2 : Int32) [(.int (0 : Int32)), (.int (0 : Int32))] (.int (0 : Int32)) := V108
        refine o_dup X108 at_89 rfl (q := 90) rfl ?_
        refine o_iconst X108 at_90 (w := 0) rfl (q := 91) rfl ?_
        refine o_iload X108 at_91 rfl (q := 93) rfl ?_
        refine o_castore X108 0 V108 g0_b108 (Safe.arv X108.alike V108 (by decide)) (by decide) rfl (lb rfl) (v := (.int c0)) (by rw [own_narc (own_rg8 k0)]) at_93 (q := 94) rfl ?_
        intro T109 h109 l109 X109 W109 R109 V109
        have V109 : Arv Z h109 b108 k108 .char (2 : Int32) [(.int c0), (.int (0 : Int32))] (.int (0 : Int32)) := V109
        refine o_dup X109 at_94 rfl (q := 95) rfl ?_
        refine o_iconst X109 at_95 (w := 1) rfl (q := 96) rfl ?_
        refine o_iload X109 at_96 rfl (q := 98) rfl ?_
        refine o_castore X109 1 V109 g0_b108 (Safe.arv X109.alike V109 (by decide)) (by decide) rfl (lb rfl) (v := (.int c1)) (by rw [own_narc (own_rg8 k1)]) at_98 (q := 99) rfl ?_
        intro T110 h110 l110 X110 W110 R110 V110
        have V110 : Arv Z h110 b108 k108 .char (2 : Int32) [(.int c0), (.int c1)] (.int (0 : Int32)) := V110
        have f111 := (((A105.ext E108).wr W109).wr W110)
        have f112 := (((f106.ext E108).other W109 (Or.inl (Nat.ne_of_lt (Nat.lt_of_lt_of_le A105.lt (Nat.le_of_eq gb108.symm))))).other W110 (Or.inl (Nat.ne_of_lt (Nat.lt_of_lt_of_le A105.lt (Nat.le_of_eq gb108.symm)))))
        have f113 := (((f107.ext E108).other W109 (Or.inl (Nat.ne_of_lt (Nat.lt_of_lt_of_le A105.lt (Nat.le_of_eq gb108.symm))))).other W110 (Or.inl (Nat.ne_of_lt (Nat.lt_of_lt_of_le A105.lt (Nat.le_of_eq gb108.symm)))))
        have f114 := (CHr.safe R110 (((A105.ext E108).wr W109).lt) (CHr.safe R109 ((A105.ext E108).lt) (CHr.safe R108 (A105.lt) S105)))
        refine o_newStr X110 (cs := [c0, c1]) (n := 2) f111 f112 f113 V110 g0_b105 f114 O2 P5 (hwns hw) (w3 hw) rfl rfl (by decide) (by decide) (own_l2 k0 k1) (w300 hw) (w301 hw) (w302 hw) at_99 rfl (by decide) (lb rfl) (by decide) (by decide) (q := 102) rfl ?_
        intro T115 h115 l115 b115 kb115 X115 K115 R115 gb115 L115
        refine o_astore X115 at_102 rfl (L' := #[.val (.int p0), .val (.int p1), .val (.int p2), .val (.int p3), .val (.int p4), .val (.int (Int32.ofNat pp)), .val (.int (2 : Int32)), .val (.int c0), .val (.int c1), .val (.int c2), .val (.ref b105), .unset, .unset, .unset, .unset]) rfl (q := 104) rfl ?_
        refine o_goto X115 at_104 (by decide) (q := 134) (by decide) ?_
        exact finP pp hp hp2 c0 c1 c2 k0 k1 k2 b105 b115 kb115 [c0, c1] 2 L115 rfl (by decide) own_x2 (On.more X115 (lb rfl) (lb rfl))
      · refine o_istore X at_21 el (L' := #[.val (.int p0), .val (.int p1), .val (.int p2), .val (.int p3), .val (.int p4), .val (.int (Int32.ofNat pp)), .val (.int (3 : Int32)), .unset, .unset, .unset, .unset, .unset, .unset, .unset, .unset]) rfl (q := 23) rfl ?_
        refine o_iloadN X at_23 rfl (q := 24) rfl ?_
        refine o_sipush X at_24 (w := 255) rfl (q := 27) rfl ?_
        refine o_iand X at_27 (w := (p2 &&& (255 : Int32))) rfl (q := 28) rfl ?_
        refine o_i2c X at_28 (w := ((p2 &&& (255 : Int32)).toUInt32.toUInt16.toUInt32.toInt32)) rfl (q := 29) rfl ?_
        obtain ⟨c0, h_c0⟩ : ∃ z : Int32, ((p2 &&& (255 : Int32)).toUInt32.toUInt16.toUInt32.toInt32) = z := ⟨_, rfl⟩
        refine o_istore X at_29 h_c0 (L' := #[.val (.int p0), .val (.int p1), .val (.int p2), .val (.int p3), .val (.int p4), .val (.int (Int32.ofNat pp)), .val (.int (3 : Int32)), .val (.int c0), .unset, .unset, .unset, .unset, .unset, .unset, .unset]) rfl (q := 31) rfl ?_
        have k0 := own_c255 h_c0
        refine o_iloadN X at_31 rfl (q := 32) rfl ?_
        refine o_sipush X at_32 (w := 255) rfl (q := 35) rfl ?_
        refine o_iand X at_35 (w := (p3 &&& (255 : Int32))) rfl (q := 36) rfl ?_
        refine o_i2c X at_36 (w := ((p3 &&& (255 : Int32)).toUInt32.toUInt16.toUInt32.toInt32)) rfl (q := 37) rfl ?_
        obtain ⟨c1, h_c1⟩ : ∃ z : Int32, ((p3 &&& (255 : Int32)).toUInt32.toUInt16.toUInt32.toInt32) = z := ⟨_, rfl⟩
        refine o_istore X at_37 h_c1 (L' := #[.val (.int p0), .val (.int p1), .val (.int p2), .val (.int p3), .val (.int p4), .val (.int (Int32.ofNat pp)), .val (.int (3 : Int32)), .val (.int c0), .val (.int c1), .unset, .unset, .unset, .unset, .unset, .unset]) rfl (q := 39) rfl ?_
        have k1 := own_c255 h_c1
        refine o_iload X at_39 rfl (q := 41) rfl ?_
        refine o_sipush X at_41 (w := 255) rfl (q := 44) rfl ?_
        refine o_iand X at_44 (w := (p4 &&& (255 : Int32))) rfl (q := 45) rfl ?_
        refine o_i2c X at_45 (w := ((p4 &&& (255 : Int32)).toUInt32.toUInt16.toUInt32.toInt32)) rfl (q := 46) rfl ?_
        obtain ⟨c2, h_c2⟩ : ∃ z : Int32, ((p4 &&& (255 : Int32)).toUInt32.toUInt16.toUInt32.toInt32) = z := ⟨_, rfl⟩
        refine o_istore X at_46 h_c2 (L' := #[.val (.int p0), .val (.int p1), .val (.int p2), .val (.int p3), .val (.int p4), .val (.int (Int32.ofNat pp)), .val (.int (3 : Int32)), .val (.int c0), .val (.int c1), .val (.int c2), .unset, .unset, .unset, .unset, .unset]) rfl (q := 48) rfl ?_
        have k2 := own_c255 h_c2
        refine o_iload X at_48 rfl (q := 50) rfl ?_
        refine o_ifY X at_50 (by decide) (by decide) (q := 60) (by decide) ?_
        refine o_iload X at_60 rfl (q := 62) rfl ?_
        refine o_iconst X at_62 (w := 1) rfl (q := 63) rfl ?_
        refine o_icmpY X at_63 (by decide) (by decide) (q := 76) (by decide) ?_
        refine o_iload X at_76 rfl (q := 78) rfl ?_
        refine o_iconst X at_78 (w := 2) rfl (q := 79) rfl ?_
        refine o_icmpY X at_79 (by decide) (by decide) (q := 107) (by decide) ?_
        refine o_new X (w298 hw) (w3 hw) (w2 hw) at_107 (by decide) (by decide) (q := 110) rfl ?_
        intro T116 h116 b116 gb116 X116 E116 R116 S116 A116 D116 g0_b116
        have f117 : Fld Z h116 b116 "java/lang/String" "value" "[B" .null := D116 (Or.inr (w5 hw)) (ty := (.array .byte)) (by decide)
        have f118 : Fld Z h116 b116 "java/lang/String" "coder" "B" (.int (0 : Int32)) := D116 (Or.inr (w6 hw)) (ty := .byte) (by decide)
        refine o_dup X116 at_110 rfl (q := 111) rfl ?_
        refine o_iconst X116 at_111 (w := 3) rfl (q := 112) rfl ?_
        refine o_newarr X116 (aty := .char) (cap := 3) 3 (w299 hw) at_112 (by decide) (by decide) (by decide) (by decide) (by decide) (q := 114) rfl ?_
        intro T119 h119 b119 k119 gb119 X119 E119 R119 S119 V119 g0_b119
        have V119 : Arv Z h119 b119 k119 .char (3 : Int32) [(.int (0 : Int32)), (.int (0 : Int32)), (.int (0 : Int32))] (.int (0 : Int32)) := V119
        refine o_dup X119 at_114 rfl (q := 115) rfl ?_
        refine o_iconst X119 at_115 (w := 0) rfl (q := 116) rfl ?_
        refine o_iload X119 at_116 rfl (q := 118) rfl ?_
        refine o_castore X119 0 V119 g0_b119 (Safe.arv X119.alike V119 (by decide)) (by decide) rfl (lb rfl) (v := (.int c0)) (by rw [own_narc (own_rg8 k0)]) at_118 (q := 119) rfl ?_
        intro T120 h120 l120 X120 W120 R120 V120
        have V120 : Arv Z h120 b119 k119 .char (3 : Int32) [(.int c0), (.int (0 : Int32)), (.int (0 : Int32))] (.int (0 : Int32)) := V120
        refine o_dup X120 at_119 rfl (q := 120) rfl ?_
        refine o_iconst X120 at_120 (w := 1) rfl (q := 121) rfl ?_
        refine o_iload X120 at_121 rfl (q := 123) rfl ?_
        refine o_castore X120 1 V120 g0_b119 (Safe.arv X120.alike V120 (by decide)) (by decide) rfl (lb rfl) (v := (.int c1)) (by rw [own_narc (own_rg8 k1)]) at_123 (q := 124) rfl ?_
        intro T121 h121 l121 X121 W121 R121 V121
        have V121 : Arv Z h121 b119 k119 .char (3 : Int32) [(.int c0), (.int c1), (.int (0 : Int32))] (.int (0 : Int32)) := V121
        refine o_dup X121 at_124 rfl (q := 125) rfl ?_
        refine o_iconst X121 at_125 (w := 2) rfl (q := 126) rfl ?_
        refine o_iload X121 at_126 rfl (q := 128) rfl ?_
        refine o_castore X121 2 V121 g0_b119 (Safe.arv X121.alike V121 (by decide)) (by decide) rfl (lb rfl) (v := (.int c2)) (by rw [own_narc (own_rg8 k2)]) at_128 (q := 129) rfl ?_
        intro T122 h122 l122 X122 W122 R122 V122
        have V122 : Arv Z h122 b119 k119 .char (3 : Int32) [(.int c0), (.int c1), (.int c2)] (.int (0 : Int32)) := V122
        have f123 := ((((A116.ext E119).wr W120).wr W121).wr W122)
        have f124 := ((((f117.ext E119).other W120 (Or.inl (Nat.ne_of_lt (Nat.lt_of_lt_of_le A116.lt (Nat.le_of_eq gb119.symm))))).other W121 (Or.inl (Nat.ne_of_lt (Nat.lt_of_lt_of_le A116.lt (Nat.le_of_eq gb119.symm))))).other W122 (Or.inl (Nat.ne_of_lt (Nat.lt_of_lt_of_le A116.lt (Nat.le_of_eq gb119.symm)))))
        have f125 := ((((f118.ext E119).other W120 (Or.inl (Nat.ne_of_lt (Nat.lt_of_lt_of_le A116.lt (Nat.le_of_eq gb119.symm))))).other W121 (Or.inl (Nat.ne_of_lt (Nat.lt_of_lt_of_le A116.lt (Nat.le_of_eq gb119.symm))))).other W122 (Or.inl (Nat.ne_of_lt (Nat.lt_of_lt_of_le A116.lt (Nat.le_of_eq gb119.symm)))))
        have f126 := (CHr.safe R122 ((((A116.ext E119).wr W120).wr W121).lt) (CHr.safe R121 (((A116.ext E119).wr W120).lt) (CHr.safe R120 ((A116.ext E119).lt) (CHr.safe R119 (A116.lt) S116))))
        refine o_newStr X122 (cs := [c0, c1, c2]) (n := 3) f123 f124 f125 V122 g0_b116 f126 O2 P5 (hwns hw) (w3 hw) rfl rfl (by decide) (by decide) (own_l3 k0 k1 k2) (w300 hw) (w301 hw) (w302 hw) at_129 rfl (by decide) (lb rfl) (by decide) (by decide) (q := 132) rfl ?_
        intro T127 h127 l127 b127 kb127 X127 K127 R127 gb127 L127
        refine o_astore X127 at_132 rfl (L' := #[.val (.int p0), .val (.int p1), .val (.int p2), .val (.int p3), .val (.int p4), .val (.int (Int32.ofNat pp)), .val (.int (3 : Int32)), .val (.int c0), .val (.int c1), .val (.int c2), .val (.ref b116), .unset, .unset, .unset, .unset]) rfl (q := 134) rfl ?_
        exact finP pp hp hp2 c0 c1 c2 k0 k1 k2 b116 b127 kb127 [c0, c1, c2] 3 L127 rfl (by decide) own_x3 (On.more X127 (lb rfl) (lb rfl))
theorem comes_1 {Post : Tables → Env → Array Value → State → Outcome → State → Prop} (hpost : ∀ tb e args s v u, (limb_1_1.after args s (.returned v) u = true ∧ limb_1_2.after args s (.returned v) u = true ∧ True) → ReturnedEndW s (.returned v) u (Jvm.fieldLocs frame_1_writes args s ++ Jvm.arrayLocs frame_1_arrays args s ++ Jvm.staticLocs frame_1_statics s) 72 13376 → Post tb e args s (.returned v) u) :
    ArmFor flags0 classFile x code maxLocals ret World_1 tables_1 room_1 Calls_1 rest_1 Pre_1 Post := by
  intro l hfl _ _ p e ha hc hk s m args below hf hA hF happ hP
  obtain ⟨hcalls, hrest, hpre⟩ := hP
  obtain ⟨-, -, -, hnamed, -, -, -, hat⟩ := (Spec.applies_iff hf).mp happ
  obtain ⟨hg, hn⟩ := and_e (Cond.before_iff.mp (show (Jvm.Cond.and given_1 narrow_1).before args s = true from hpre))
  obtain ⟨hcount, hg0⟩ := and_e hg
  obtain ⟨ga0, hg1⟩ := and_e hg0
  obtain ⟨ga1, hg2⟩ := and_e hg1
  obtain ⟨ga2, hg3⟩ := and_e hg2
  obtain ⟨ga3, hg4⟩ := and_e hg3
  obtain ⟨w0, w1, w2, w3, w4, rfl⟩ : ∃ w0 w1 w2 w3 w4 : Value, args = #[w0, w1, w2, w3, w4] := by
    have hs : args.size = 5 := by simpa [Cond.value, given_1] using hcount
    obtain ⟨L⟩ := args
    match L, hs with
    | [w0, w1, w2, w3, w4], _ => exact ⟨w0, w1, w2, w3, w4, rfl⟩
  have hw : W _ s := fun d (hd : d ∈ tables_1) => atoms_spec (ws := Jvm.Cond.code x code maxLocals ret :: tables_1) hat d (List.mem_cons_of_mem _ hd)
  obtain ⟨hsets, hown0⟩ := atoms_of _ (rest_1_c_eq ▸ (show rest_1_c.before _ s = true from hrest))
  obtain ⟨i0, ei0⟩ := is_v ga0
  obtain rfl : w0 = (.int i0) := Option.some.inj ei0
  obtain ⟨i1, ei1⟩ := is_v ga1
  obtain rfl : w1 = (.int i1) := Option.some.inj ei1
  obtain ⟨i2, ei2⟩ := is_v ga2
  obtain rfl : w2 = (.int i2) := Option.some.inj ei2
  obtain ⟨i3, ei3⟩ := is_v ga3
  obtain rfl : w3 = (.int i3) := Option.some.inj ei3
  obtain ⟨i4, ei4⟩ := is_v hg4
  obtain rfl : w4 = (.int i4) := Option.some.inj ei4
  obtain ⟨zc, ezc⟩ := is_v (Cond.before_iff.mp (hsets _ (List.mem_of_getElem? (i := 21) rfl)))
  have O2 : Sta s s.heap "java/lang/String" "COMPACT_STRINGS" "Z" (.int zc) := Sta.start ezc (Or.inl (hsets _ (List.mem_of_getElem? (i := 20) rfl)))
  have P5 : ¬ (zc = (0 : Int32)) := gotF (Cond.eq_ints ezc (Term.int_eval (0))) (not_v (Cond.before_iff.mp (hsets _ (List.mem_of_getElem? (i := 22) rfl))))
  obtain ⟨fm, efm, rfm⟩ := isR_v (Cond.before_iff.mp (hsets _ (List.mem_of_getElem? (i := 28) rfl)))
  have O4 : Sta s s.heap "jdk/internal/util/Preconditions" "SIOOBE_FORMATTER" "Ljava/util/function/BiFunction;" fm := Sta.start efm (Or.inl (hsets _ (List.mem_of_getElem? (i := 27) rfl)))
  obtain ⟨do_, kdo, evDo, VDo⟩ := own_digits (vs := TO) (w4 hw) (hsets _ (List.mem_of_getElem? (i := 32) rfl)) (hsets _ (List.mem_of_getElem? (i := 33) rfl)) (hsets _ (List.mem_of_getElem? (i := 34) rfl)) (fun i => rfl) own_rTO own_vTO own_fTO
  have SDo : Sta s s.heap "java/lang/Integer" "DigitOnes" "[B" (.ref do_) := Sta.start evDo (Or.inl (hsets _ (List.mem_of_getElem? (i := 31) rfl)))
  obtain ⟨dt_, kdt, evDt, VDt⟩ := own_digits (vs := TT) (w4 hw) (hsets _ (List.mem_of_getElem? (i := 37) rfl)) (hsets _ (List.mem_of_getElem? (i := 38) rfl)) (hsets _ (List.mem_of_getElem? (i := 39) rfl)) (fun i => rfl) own_rTT own_vTT own_fTT
  have SDt : Sta s s.heap "java/lang/Integer" "DigitTens" "[B" (.ref dt_) := Sta.start evDt (Or.inl (hsets _ (List.mem_of_getElem? (i := 36) rfl)))
  obtain ⟨ua, evU⟩ := own_lenref (hsets _ (List.mem_of_getElem? (i := 9) rfl))
  have SUn : Sta s s.heap "java/lang/Throwable" "UNASSIGNED_STACK" "[Ljava/lang/StackTraceElement;" (.ref ua) := Sta.start evU (Or.inl (hsets _ (List.mem_of_getElem? (i := 6) rfl)))
  obtain ⟨sa, -, -, -, evS, -⟩ := Cond.exactly_spec (show (Jvm.Cond.exactly (Jvm.Term.static "java/lang/Throwable" "SUPPRESSED_SENTINEL" "Ljava/util/List;") "java/util/Collections$EmptyList").holds _ s none s [] = true from (hsets _ (List.mem_of_getElem? (i := 13) rfl)))
  have SSe : Sta s s.heap "java/lang/Throwable" "SUPPRESSED_SENTINEL" "Ljava/util/List;" (.ref sa) := Sta.start evS (Or.inl (hsets _ (List.mem_of_getElem? (i := 11) rfl)))
  have hEx : ExW "com/example/parkville/parkville/QueryException" _ s := fun d hd hne => hw d ((by decide +kernel : ∀ d ∈ Jvm.Free.Exc.excAtoms "com/example/parkville/parkville/QueryException", d ≠ .lays tN tN "suppressedExceptions" listD → d ∈ tables_1) d hd hne)
  have hlt : l.stackTraces = true := by unfold Launch.stackTraces; rw [hfl]; decide +kernel
  have hEW : EW s _ EL0 := (EW.cons (w247 hw) (by decide) (EW.cons (w143 hw) (by decide) (EW.cons (w92 hw) (by decide) (EW.cons (w284 hw) (by decide) (EW.cons (w1 hw) (by decide) (EW.cons (w288 hw) (by decide) (EW.cons (w230 hw) (by decide) EW.nil)))))))
  have hhe : ∀ p ∈ EL0, Jvm.Lit.constHeld s p.1 p.2 := fun p hp => hcalls.2.2.1 p hp
  have hcw : Jvm.Lit.compactW.before _ s = true := (hsets _ (List.mem_of_getElem? (i := 22) rfl))
  have hCH : CHv s EL0 s.vm s.heap := CHv.start hEW hhe hcw (w4 hw) (w3 hw)
  obtain ⟨n, o, h1, h2, h3, v, L, rfl, ⟨hQ, hN, -⟩, -, hq⟩ := c_law (l := l) hw i0 i1 i2 i3 i4 O2 P5 O4 rfm SDo VDo SDt VDt SUn SSe hEx hlt ⟨_, hEW⟩ ⟨Nat.le_refl _, fun _ _ q => q⟩ tables_1 p e ha hc hk s m _ below hf ((Spec.applies_iff_loose hf).mp happ).1 ⟨rfl, State.Warmed39.refl s, rfl, hCH, all0⟩ ⟨own_mk hcalls.2.1, own_fk hf hcalls.1⟩
  subst hQ
  refine ⟨n, _, h1, h2, h3, hpost _ _ _ _ _ _ ⟨Cond.after_iff.mpr rfl, Cond.after_iff.mpr (eq_i res_at (Term.int_eval (1)) rfl), trivial⟩ ⟨hq.1, hq.2.1, hq.2.2.1, (hq.2.2.2.sift fun y hy => Or.inr (hN y hy)).mono (by decide) (by decide)⟩⟩
theorem main_1_1 : Claimed_1_1 := comes_1 fun _ _ _ _ _ _ h hF => ⟨h.1, hF⟩
theorem main_1_2 : Claimed_1_2 := comes_1 fun _ _ _ _ _ _ h hF => ⟨h.2.1, hF⟩
end Jvm.Pilot.@@N@@
namespace Jvm.Pilot.@@N@@
open Jvm Jvm.ClassFile Sem Op Lib Jvm.Free Jvm.Stand Jvm.Pilot.@@N@@.Jvm.D
/-! MADE BY PROGRAM (witnessworld.py) out of the Statement's table words and the real class files: 43 classes; the members and pool entries that the words name. The judged class is class 1, her method 1. -/
namespace start1
open Jvm.ClassFile
def u (s : String) : CpInfo := .utf8 (stringToUtf16 s)
/-- a pool by its gaps: so many unusable entries, then the entry; so many at the end -/
def gap : Nat → List CpInfo → List CpInfo
  | 0, r => r
  | n + 1, r => .unusable :: gap n r
def poolList (es : List (Nat × CpInfo)) (last : Nat) : List CpInfo := es.foldr (fun e r => gap e.1 (e.2 :: r)) (gap last [])
def pool (es : List (Nat × CpInfo)) (last : Nat) : Array CpInfo := ⟨poolList es last⟩
def fileOf (pool : Array CpInfo) (this : Nat) (attrs : Array Attribute := #[]) (ms : Array MethodInfo := #[]) (fl : Nat := 33) (sup : Nat := 0) (ifs : Array Nat := #[]) (fds : Array FieldInfo := #[]) : ClassFile where
  minorVersion := 0
  majorVersion := 65
  constantPool := pool
  accessFlags := fl
  thisClass := this
  superClass := sup
  interfaces := ifs
  fields := fds
  methods := ms
  attributes := attrs
def plain (name : String) (sup : Option ClassId) : Class where
  name := name
  kind := .ordinary
  loader := none
  accessFlags := 33
  super := sup
  interfaces := #[]
  cf := none
  fields := #[]
  methods := #[]
  instanceTypes := #[]
  staticTypes := #[]
  resolved := #[]
  callSites := []
  init := .initialized
  statics := none
  mirror := none

def pool0 : Array CpInfo := pool [(5, u "<init>"), (0, u "()V"), (1, .class_ 10), (1, u "java/lang/Object"), (85, u "clone"), (0, u "()Ljava/lang/Object;")] 26

def k0c0 : Code := { maxStack := 0, maxLocals := 1, code := object_method_1_code, exceptionTable := #[], attributes := #[] }
def k0m0 : Method := { name := "<init>", desc := "()V", sig := { parameters := [], returnType := none }, accessFlags := 1, code := some k0c0 }
def k0m1 : Method := { name := "clone", desc := "()Ljava/lang/Object;", sig := { parameters := [], returnType := some (.object "java/lang/Object") }, accessFlags := 260, code := none }
/-- java/lang/Object -/
def k0 : Class := { plain "java/lang/Object" none with
  accessFlags := 33
  interfaces := #[]
  cf := some (fileOf pool0 8 #[] #[{ accessFlags := 1, nameIndex := 5, descriptorIndex := 6, attributes := #[] }, { accessFlags := 260, nameIndex := 96, descriptorIndex := 97, attributes := #[] }] 33 0 #[] #[])
  fields := #[]
  methods := #[k0m0, k0m1]
  instanceTypes := #[]
  staticTypes := #[]
  resolved := Array.replicate 124 none
  statics := none }

def pool1 : Array CpInfo := pool [(2, .class_ 4), (1, u "java/lang/Object"), (0, u "<init>"), (0, u "()V"), (0, .integer 2147483647), (0, .string 9), (0, u ""), (0, .methodref 11 12), (0, .class_ 13), (0, .nameAndType 14 15), (0, u "java/lang/String"), (0, u "valueOf"), (0, u "(C)Ljava/lang/String;"), (0, .methodref 11 17), (0, .nameAndType 5 18), (0, u "([C)V"), (0, .class_ 20), (0, u "com/example/parkville/parkville/QueryException"), (0, .methodref 19 22), (0, .nameAndType 5 23), (0, u "(ILjava/lang/String;)V"), (0, .methodref 19 25), (0, .nameAndType 26 27), (0, u "report"), (0, u "()Ljava/lang/String;"), (0, .methodref 29 30), (0, .class_ 31), (0, .nameAndType 32 33), (0, u "com/example/parkville/parkville/QueryExceptionReportPinLaw"), (0, u "digits"), (0, u "(I)I"), (0, .methodref 11 35), (0, .nameAndType 36 37), (0, u "length"), (0, u "()I"), (0, .methodref 29 39), (0, .nameAndType 40 41), (0, u "chk8"), (0, u "(Ljava/lang/String;IIIICCC)Z"), (0, .methodref 29 43), (0, .nameAndType 44 41), (0, u "at"), (0, .methodref 11 46), (0, .nameAndType 47 48), (0, u "charAt"), (0, u "(I)C"), (0, .methodref 29 50), (0, .nameAndType 51 52), (0, u "exp"), (0, u "(IIICCC)C"), (0, .string 54), (0, u "query error at position "), (0, .methodref 29 56), (0, .nameAndType 57 33), (0, u "pow10"), (0, .methodref 29 59), (0, .nameAndType 60 61), (0, u "rc"), (0, u "(ICCC)C"), (0, .string 63), (0, u "query error: "), (0, .integer 100000), (0, .integer 1000000), (0, .integer 10000000), (0, .integer 100000000), (0, .integer 1000000000), (2, u "law"), (0, u "(IIIII)Z")] 3

def k1m0 : Method := { name := "<init>", desc := "()V", sig := { parameters := [], returnType := none }, accessFlags := 1, code := none }
def k1c1 : Code := { maxStack := 8, maxLocals := 15, code := code, exceptionTable := #[], attributes := #[] }
def k1m1 : Method := { name := "law", desc := "(IIIII)Z", sig := { parameters := [.int, .int, .int, .int, .int], returnType := some .boolean }, accessFlags := 9, code := some k1c1 }
def k1c2 : Code := { maxStack := 8, maxLocals := 8, code := method_3_code, exceptionTable := #[], attributes := #[] }
def k1m2 : Method := { name := "chk8", desc := "(Ljava/lang/String;IIIICCC)Z", sig := { parameters := [(.object "java/lang/String"), .int, .int, .int, .int, .char, .char, .char], returnType := some .boolean }, accessFlags := 10, code := some k1c2 }
def k1c3 : Code := { maxStack := 7, maxLocals := 8, code := method_4_code, exceptionTable := #[], attributes := #[] }
def k1m3 : Method := { name := "at", desc := "(Ljava/lang/String;IIIICCC)Z", sig := { parameters := [(.object "java/lang/String"), .int, .int, .int, .int, .char, .char, .char], returnType := some .boolean }, accessFlags := 10, code := some k1c3 }
def k1c4 : Code := { maxStack := 4, maxLocals := 7, code := method_5_code, exceptionTable := #[], attributes := #[] }
def k1m4 : Method := { name := "exp", desc := "(IIICCC)C", sig := { parameters := [.int, .int, .int, .char, .char, .char], returnType := some .char }, accessFlags := 10, code := some k1c4 }
def k1c5 : Code := { maxStack := 2, maxLocals := 4, code := method_6_code, exceptionTable := #[], attributes := #[] }
def k1m5 : Method := { name := "rc", desc := "(ICCC)C", sig := { parameters := [.int, .char, .char, .char], returnType := some .char }, accessFlags := 10, code := some k1c5 }
def k1c6 : Code := { maxStack := 2, maxLocals := 1, code := method_7_code, exceptionTable := #[], attributes := #[] }
def k1m6 : Method := { name := "digits", desc := "(I)I", sig := { parameters := [.int], returnType := some .int }, accessFlags := 10, code := some k1c6 }
def k1c7 : Code := { maxStack := 4, maxLocals := 2, code := method_8_code, exceptionTable := #[], attributes := #[] }
def k1m7 : Method := { name := "pow10", desc := "(I)I", sig := { parameters := [.int], returnType := some .int }, accessFlags := 10, code := some k1c7 }
/-- com/example/parkville/parkville/QueryExceptionReportPinLaw -/
def k1 : Class := { plain "com/example/parkville/parkville/QueryExceptionReportPinLaw" (some 0) with
  accessFlags := 49
  interfaces := #[]
  cf := some (fileOf pool1 29 #[] #[{ accessFlags := 1, nameIndex := 5, descriptorIndex := 6, attributes := #[] }, { accessFlags := 9, nameIndex := 71, descriptorIndex := 72, attributes := #[] }, { accessFlags := 10, nameIndex := 40, descriptorIndex := 41, attributes := #[] }, { accessFlags := 10, nameIndex := 44, descriptorIndex := 41, attributes := #[] }, { accessFlags := 10, nameIndex := 51, descriptorIndex := 52, attributes := #[] }, { accessFlags := 10, nameIndex := 60, descriptorIndex := 61, attributes := #[] }, { accessFlags := 10, nameIndex := 32, descriptorIndex := 33, attributes := #[] }, { accessFlags := 10, nameIndex := 57, descriptorIndex := 33, attributes := #[] }] 49 2 #[] #[])
  fields := #[]
  methods := #[k1m0, k1m1, k1m2, k1m3, k1m4, k1m5, k1m6, k1m7]
  instanceTypes := #[]
  staticTypes := #[]
  resolved := Array.replicate 76 none
  statics := none }

def pool2 : Array CpInfo := pool [(1, .class_ 2), (0, u "java/io/Serializable"), (0, .class_ 4), (0, u "java/lang/Object")] 2

/-- java/io/Serializable -/
def k2 : Class := { plain "java/io/Serializable" (some 0) with
  accessFlags := 1537
  interfaces := #[]
  cf := some (fileOf pool2 1 #[] #[] 1537 3 #[] #[])
  fields := #[]
  methods := #[]
  instanceTypes := #[]
  staticTypes := #[]
  resolved := Array.replicate 7 none
  statics := none }

def pool3 : Array CpInfo := pool [(1, .class_ 2), (0, u "java/lang/Comparable"), (0, .class_ 4), (0, u "java/lang/Object")] 7

/-- java/lang/Comparable -/
def k3 : Class := { plain "java/lang/Comparable" (some 0) with
  accessFlags := 1537
  interfaces := #[]
  cf := some (fileOf pool3 1 #[] #[] 1537 3 #[] #[])
  fields := #[]
  methods := #[]
  instanceTypes := #[]
  staticTypes := #[]
  resolved := Array.replicate 12 none
  statics := none }

def pool4 : Array CpInfo := pool [(2, .class_ 4), (1, u "java/lang/CharSequence"), (42, .class_ 48), (0, u "java/lang/CharSequence$1CodePointIterator"), (10, .class_ 60), (0, u "java/lang/CharSequence$1CharIterator"), (5, .class_ 67), (0, u "java/lang/Object")] 63

/-- java/lang/CharSequence -/
def k4 : Class := { plain "java/lang/CharSequence" (some 0) with
  accessFlags := 1537
  interfaces := #[]
  cf := some (fileOf pool4 2 #[.nestMembers #[47, 59]] #[] 1537 66 #[] #[])
  fields := #[]
  methods := #[]
  instanceTypes := #[]
  staticTypes := #[]
  resolved := Array.replicate 131 none
  statics := none }

def pool5 : Array CpInfo := pool [(1, .class_ 2), (0, u "java/lang/constant/Constable"), (0, .class_ 4), (0, u "java/lang/Object")] 6

/-- java/lang/constant/Constable -/
def k5 : Class := { plain "java/lang/constant/Constable" (some 0) with
  accessFlags := 1537
  interfaces := #[]
  cf := some (fileOf pool5 1 #[] #[] 1537 3 #[] #[])
  fields := #[]
  methods := #[]
  instanceTypes := #[]
  staticTypes := #[]
  resolved := Array.replicate 11 none
  statics := none }

def pool6 : Array CpInfo := pool [(1, .class_ 2), (0, u "java/lang/constant/ConstantDesc"), (0, .class_ 4), (0, u "java/lang/Object")] 32

/-- java/lang/constant/ConstantDesc -/
def k6 : Class := { plain "java/lang/constant/ConstantDesc" (some 0) with
  accessFlags := 1537
  interfaces := #[]
  cf := some (fileOf pool6 1 #[] #[] 1537 3 #[] #[])
  fields := #[]
  methods := #[]
  instanceTypes := #[]
  staticTypes := #[]
  resolved := Array.replicate 37 none
  statics := none }

def pool7 : Array CpInfo := pool [(1, .methodref 2 3), (0, .class_ 4), (0, .nameAndType 5 6), (0, u "java/lang/Object"), (0, u "<init>"), (0, u "()V"), (2, .fieldref 10 11), (0, .class_ 12), (0, .nameAndType 13 14), (0, u "java/lang/String"), (0, u "value"), (0, u "[B"), (0, .fieldref 10 16), (0, .nameAndType 17 18), (0, u "coder"), (0, u "B"), (2, u "hash"), (0, u "I"), (2, u "hashIsZero"), (0, u "Z"), (0, .methodref 10 28), (0, .nameAndType 5 29), (0, u "([CIILjava/lang/Void;)V"), (8, .fieldref 10 39), (0, .nameAndType 40 26), (0, u "COMPACT_STRINGS"), (1, .class_ 44), (1, u "java/lang/StringUTF16"), (0, u "compress"), (1, .methodref 42 48), (0, .nameAndType 49 50), (0, u "coderFromArrayLen"), (0, u "([BI)B"), (2, u "toBytes"), (0, .methodref 55 56), (0, .class_ 57), (0, .nameAndType 58 59), (0, u "java/util/Arrays"), (0, u "copyOfRange"), (0, u "([BII)[B"), (47, .class_ 109), (1, u "java/lang/StringLatin1"), (32, u "()Z"), (34, .methodref 42 178), (0, .nameAndType 45 179), (0, u "([CII)[B"), (13, .class_ 195), (1, u "java/lang/System"), (13, .methodref 10 210), (0, .nameAndType 5 211), (0, u "([BB)V"), (0, .methodref 193 213), (0, .nameAndType 214 215), (0, u "arraycopy"), (0, u "(Ljava/lang/Object;ILjava/lang/Object;II)V"), (118, u "()I"), (0, .methodref 10 336), (0, .nameAndType 17 337), (0, u "()B"), (2, u "()[B"), (22, u "([BI)C"), (5, u "(C)Z"), (21, u "(II)V"), (35, u "(I)C"), (61, .methodref 10 490), (0, .nameAndType 5 491), (0, u "(Ljava/lang/AbstractStringBuilder;Ljava/lang/Void;)V"), (0, .methodref 10 493), (0, .nameAndType 494 142), (0, u "isLatin1"), (0, .methodref 107 496), (0, .nameAndType 497 363), (0, u "charAt"), (3, u "checkIndex"), (4, .nameAndType 507 334), (0, u "length"), (24, u "getBytes"), (16, .methodref 550 506), (0, .class_ 551), (0, u "java/lang/AbstractStringBuilder"), (0, .methodref 550 553), (0, .nameAndType 554 340), (0, u "getValue"), (20, .class_ 576), (0, u "java/lang/CharSequence"), (22, u "CASE_INSENSITIVE_ORDER"), (0, u "Ljava/util/Comparator;"), (181, u "valueOf"), (0, u "(C)Ljava/lang/String;"), (37, u "([BIB)V"), (188, u "([C)V"), (4, .methodref 107 1016), (0, .nameAndType 1017 369), (0, u "canEncode"), (0, .methodref 107 1019), (0, .nameAndType 53 1020), (0, u "(C)[B"), (26, .methodref 550 493), (5, .fieldref 1054 1055), (0, .class_ 1056), (0, .nameAndType 1057 1058), (0, u "jdk/internal/util/Preconditions"), (0, u "SIOOBE_FORMATTER"), (0, u "Ljava/util/function/BiFunction;"), (0, .methodref 1054 1060), (0, .nameAndType 501 1061), (0, u "(IILjava/util/function/BiFunction;)I"), (39, u "serialPersistentFields"), (0, u "[Ljava/io/ObjectStreamField;"), (0, .class_ 1104), (0, u "java/lang/String$CaseInsensitiveComparator"), (1, .class_ 1107), (0, u "java/io/Serializable"), (0, .class_ 1109), (0, u "java/lang/Comparable"), (0, .class_ 1111), (0, u "java/lang/constant/Constable"), (0, .class_ 1113), (0, u "java/lang/constant/ConstantDesc"), (2, u "serialVersionUID"), (0, u "J"), (3, u "REPL"), (0, u "C"), (2, u "LATIN1"), (1, u "UTF16"), (105, u "(Ljava/lang/StringBuilder;)V")] 217

def k7m0 : Method := { name := "<init>", desc := "()V", sig := { parameters := [], returnType := none }, accessFlags := 1, code := none }
def k7c1 : Code := { maxStack := 5, maxLocals := 2, code := jdk_42_method_3_code, exceptionTable := #[], attributes := #[] }
def k7m1 : Method := { name := "<init>", desc := "([C)V", sig := { parameters := [(.array .char)], returnType := none }, accessFlags := 1, code := some k7c1 }
def k7c2 : Code := { maxStack := 3, maxLocals := 2, code := jdk_42_method_53_code, exceptionTable := #[], attributes := #[] }
def k7m2 : Method := { name := "<init>", desc := "(Ljava/lang/StringBuilder;)V", sig := { parameters := [(.object "java/lang/StringBuilder")], returnType := none }, accessFlags := 1, code := some k7c2 }
def k7c3 : Code := { maxStack := 2, maxLocals := 1, code := jdk_42_method_54_code, exceptionTable := #[], attributes := #[] }
def k7m3 : Method := { name := "length", desc := "()I", sig := { parameters := [], returnType := some .int }, accessFlags := 1, code := some k7c3 }
def k7c4 : Code := { maxStack := 2, maxLocals := 2, code := jdk_42_method_56_code, exceptionTable := #[], attributes := #[] }
def k7m4 : Method := { name := "charAt", desc := "(I)C", sig := { parameters := [.int], returnType := some .char }, accessFlags := 1, code := some k7c4 }
def k7c5 : Code := { maxStack := 4, maxLocals := 1, code := jdk_42_method_139_code, exceptionTable := #[], attributes := #[] }
def k7m5 : Method := { name := "valueOf", desc := "(C)Ljava/lang/String;", sig := { parameters := [.char], returnType := some (.object "java/lang/String") }, accessFlags := 9, code := some k7c5 }
def k7c6 : Code := { maxStack := 5, maxLocals := 4, code := jdk_42_method_147_code, exceptionTable := #[], attributes := #[] }
def k7m6 : Method := { name := "getBytes", desc := "([BIB)V", sig := { parameters := [(.array .byte), .int, .byte], returnType := none }, accessFlags := 0, code := some k7c6 }
def k7c7 : Code := { maxStack := 4, maxLocals := 6, code := jdk_42_method_149_code, exceptionTable := #[], attributes := #[] }
def k7m7 : Method := { name := "<init>", desc := "([CIILjava/lang/Void;)V", sig := { parameters := [(.array .char), .int, .int, (.object "java/lang/Void")], returnType := none }, accessFlags := 2, code := some k7c7 }
def k7c8 : Code := { maxStack := 5, maxLocals := 5, code := jdk_42_method_150_code, exceptionTable := #[], attributes := #[] }
def k7m8 : Method := { name := "<init>", desc := "(Ljava/lang/AbstractStringBuilder;Ljava/lang/Void;)V", sig := { parameters := [(.object "java/lang/AbstractStringBuilder"), (.object "java/lang/Void")], returnType := none }, accessFlags := 0, code := some k7c8 }
def k7c9 : Code := { maxStack := 2, maxLocals := 3, code := jdk_42_method_151_code, exceptionTable := #[], attributes := #[] }
def k7m9 : Method := { name := "<init>", desc := "([BB)V", sig := { parameters := [(.array .byte), .byte], returnType := none }, accessFlags := 0, code := some k7c9 }
def k7c10 : Code := { maxStack := 1, maxLocals := 1, code := jdk_42_method_152_code, exceptionTable := #[], attributes := #[] }
def k7m10 : Method := { name := "coder", desc := "()B", sig := { parameters := [], returnType := some .byte }, accessFlags := 0, code := some k7c10 }
def k7c11 : Code := { maxStack := 1, maxLocals := 1, code := jdk_42_method_154_code, exceptionTable := #[], attributes := #[] }
def k7m11 : Method := { name := "isLatin1", desc := "()Z", sig := { parameters := [], returnType := some .boolean }, accessFlags := 0, code := some k7c11 }
def k7c12 : Code := { maxStack := 3, maxLocals := 2, code := jdk_42_method_155_code, exceptionTable := #[], attributes := #[] }
def k7m12 : Method := { name := "checkIndex", desc := "(II)V", sig := { parameters := [.int, .int], returnType := none }, accessFlags := 8, code := some k7c12 }
/-- java/lang/String -/
def k7 : Class := { plain "java/lang/String" (some 0) with
  accessFlags := 49
  interfaces := #[2, 3, 4, 5, 6]
  cf := some (fileOf pool7 10 #[.nestMembers #[1103]] #[{ accessFlags := 1, nameIndex := 5, descriptorIndex := 6, attributes := #[] }, { accessFlags := 1, nameIndex := 5, descriptorIndex := 1010, attributes := #[] }, { accessFlags := 1, nameIndex := 5, descriptorIndex := 1233, attributes := #[] }, { accessFlags := 1, nameIndex := 507, descriptorIndex := 334, attributes := #[] }, { accessFlags := 1, nameIndex := 497, descriptorIndex := 427, attributes := #[] }, { accessFlags := 9, nameIndex := 782, descriptorIndex := 783, attributes := #[] }, { accessFlags := 0, nameIndex := 532, descriptorIndex := 821, attributes := #[] }, { accessFlags := 2, nameIndex := 5, descriptorIndex := 29, attributes := #[] }, { accessFlags := 0, nameIndex := 5, descriptorIndex := 491, attributes := #[] }, { accessFlags := 0, nameIndex := 5, descriptorIndex := 211, attributes := #[] }, { accessFlags := 0, nameIndex := 17, descriptorIndex := 337, attributes := #[] }, { accessFlags := 0, nameIndex := 494, descriptorIndex := 142, attributes := #[] }, { accessFlags := 8, nameIndex := 501, descriptorIndex := 391, attributes := #[] }] 49 2 #[1106, 1108, 575, 1110, 1112] #[{ accessFlags := 18, nameIndex := 13, descriptorIndex := 14, attributes := #[] }, { accessFlags := 18, nameIndex := 17, descriptorIndex := 18, attributes := #[] }, { accessFlags := 2, nameIndex := 21, descriptorIndex := 22, attributes := #[] }, { accessFlags := 2, nameIndex := 25, descriptorIndex := 26, attributes := #[] }, { accessFlags := 26, nameIndex := 1116, descriptorIndex := 1117, attributes := #[] }, { accessFlags := 24, nameIndex := 40, descriptorIndex := 26, attributes := #[] }, { accessFlags := 26, nameIndex := 1101, descriptorIndex := 1102, attributes := #[] }, { accessFlags := 26, nameIndex := 1121, descriptorIndex := 1122, attributes := #[] }, { accessFlags := 25, nameIndex := 599, descriptorIndex := 600, attributes := #[] }, { accessFlags := 24, nameIndex := 1125, descriptorIndex := 18, attributes := #[] }, { accessFlags := 24, nameIndex := 1127, descriptorIndex := 18, attributes := #[] }])
  fields := #[{ name := "value", type := (.array .byte), accessFlags := 18, slot := 0, constantValue := 0 }, { name := "coder", type := .byte, accessFlags := 18, slot := 1, constantValue := 0 }, { name := "hash", type := .int, accessFlags := 2, slot := 2, constantValue := 0 }, { name := "hashIsZero", type := .boolean, accessFlags := 2, slot := 3, constantValue := 0 }, { name := "serialVersionUID", type := .long, accessFlags := 26, slot := 0, constantValue := 0 }, { name := "COMPACT_STRINGS", type := .boolean, accessFlags := 24, slot := 1, constantValue := 0 }, { name := "serialPersistentFields", type := (.array (.object "java/io/ObjectStreamField")), accessFlags := 26, slot := 2, constantValue := 0 }, { name := "REPL", type := .char, accessFlags := 26, slot := 3, constantValue := 0 }, { name := "CASE_INSENSITIVE_ORDER", type := (.object "java/util/Comparator"), accessFlags := 25, slot := 4, constantValue := 0 }, { name := "LATIN1", type := .byte, accessFlags := 24, slot := 5, constantValue := 0 }, { name := "UTF16", type := .byte, accessFlags := 24, slot := 6, constantValue := 0 }]
  methods := #[k7m0, k7m1, k7m2, k7m3, k7m4, k7m5, k7m6, k7m7, k7m8, k7m9, k7m10, k7m11, k7m12]
  instanceTypes := #[(.array .byte), .byte, .int, .boolean]
  staticTypes := #[.long, .boolean, (.array (.object "java/io/ObjectStreamField")), .char, (.object "java/util/Comparator"), .byte, .byte]
  resolved := Array.replicate 1451 none
  statics := some 0 }

def pool8 : Array CpInfo := pool [(1, .methodref 2 3), (0, .class_ 4), (0, .nameAndType 5 6), (0, u "java/lang/Object"), (0, u "<init>"), (0, u "()V"), (0, .fieldref 8 9), (0, .class_ 10), (0, .nameAndType 11 12), (0, u "java/lang/Throwable"), (0, u "cause"), (0, u "Ljava/lang/Throwable;"), (0, .fieldref 8 14), (0, .nameAndType 15 16), (0, u "UNASSIGNED_STACK"), (0, u "[Ljava/lang/StackTraceElement;"), (0, .fieldref 8 18), (0, .nameAndType 19 16), (0, u "stackTrace"), (0, .fieldref 8 21), (0, .nameAndType 22 23), (0, u "SUPPRESSED_SENTINEL"), (0, u "Ljava/util/List;"), (0, .fieldref 8 25), (0, .nameAndType 26 23), (0, u "suppressedExceptions"), (0, .methodref 8 28), (0, .nameAndType 29 30), (0, u "fillInStackTrace"), (0, u "()Ljava/lang/Throwable;"), (0, .fieldref 8 32), (0, .nameAndType 33 34), (0, u "detailMessage"), (0, u "Ljava/lang/String;"), (3, u "()Ljava/lang/String;"), (2, u "getMessage"), (51, .class_ 94), (0, u "java/lang/Throwable$WrappedPrintStream"), (6, .class_ 103), (1, u "java/lang/Throwable$PrintStreamOrWriter"), (61, u "$assertionsDisabled"), (0, u "Z"), (26, .class_ 194), (0, u "java/lang/Throwable$WrappedPrintWriter"), (3, .fieldref 8 199), (0, .nameAndType 200 201), (0, u "backtrace"), (0, u "Ljava/lang/Object;"), (0, .methodref 8 203), (0, .nameAndType 29 204), (0, u "(I)Ljava/lang/Throwable;"), (6, u "depth"), (0, u "I"), (10, u "(Ljava/lang/String;)V"), (45, .class_ 271), (1, u "java/lang/Throwable$SentinelHolder"), (32, u "EMPTY_THROWABLE_ARRAY"), (0, u "[Ljava/lang/Throwable;"), (12, .class_ 319), (0, u "java/io/Serializable"), (0, u "serialVersionUID"), (0, u "J"), (5, u "NULL_CAUSE_MESSAGE"), (0, u "SELF_SUPPRESSION_MESSAGE"), (0, u "CAUSE_CAPTION"), (0, u "SUPPRESSED_CAPTION")] 73

def k8c0 : Code := { maxStack := 2, maxLocals := 1, code := jdk_78_method_1_code, exceptionTable := #[], attributes := #[] }
def k8m0 : Method := { name := "<init>", desc := "()V", sig := { parameters := [], returnType := none }, accessFlags := 1, code := some k8c0 }
def k8c1 : Code := { maxStack := 2, maxLocals := 2, code := jdk_78_method_2_code, exceptionTable := #[], attributes := #[] }
def k8m1 : Method := { name := "<init>", desc := "(Ljava/lang/String;)V", sig := { parameters := [(.object "java/lang/String")], returnType := none }, accessFlags := 1, code := some k8c1 }
def k8c2 : Code := { maxStack := 1, maxLocals := 1, code := jdk_78_method_6_code, exceptionTable := #[], attributes := #[] }
def k8m2 : Method := { name := "getMessage", desc := "()Ljava/lang/String;", sig := { parameters := [], returnType := some (.object "java/lang/String") }, accessFlags := 1, code := some k8c2 }
def k8c3 : Code := { maxStack := 2, maxLocals := 1, code := ⟨#[0x2a, 0xb4, 0x00, 0x11, 0xc7, 0x00, 0x0a, 0x2a, 0xb4, 0x00, 0xc6, 0xc6, 0x00, 0x10, 0x2a, 0x03, 0xb6, 0x00, 0xca, 0x57, 0x2a, 0xb2, 0x00, 0x0d, 0xb5, 0x00, 0x11, 0x2a, 0xb0]⟩, exceptionTable := #[], attributes := #[] }
def k8m3 : Method := { name := "fillInStackTrace", desc := "()Ljava/lang/Throwable;", sig := { parameters := [], returnType := some (.object "java/lang/Throwable") }, accessFlags := 33, code := some k8c3 }
def k8m4 : Method := { name := "fillInStackTrace", desc := "(I)Ljava/lang/Throwable;", sig := { parameters := [.int], returnType := some (.object "java/lang/Throwable") }, accessFlags := 258, code := none }
/-- java/lang/Throwable -/
def k8 : Class := { plain "java/lang/Throwable" (some 0) with
  accessFlags := 33
  interfaces := #[2]
  cf := some (fileOf pool8 8 #[.nestMembers #[193, 93, 101, 269]] #[{ accessFlags := 1, nameIndex := 5, descriptorIndex := 6, attributes := #[] }, { accessFlags := 1, nameIndex := 5, descriptorIndex := 223, attributes := #[] }, { accessFlags := 1, nameIndex := 41, descriptorIndex := 38, attributes := #[] }, { accessFlags := 33, nameIndex := 29, descriptorIndex := 30, attributes := #[] }, { accessFlags := 258, nameIndex := 29, descriptorIndex := 204, attributes := #[] }] 33 2 #[318] #[{ accessFlags := 26, nameIndex := 320, descriptorIndex := 321, attributes := #[] }, { accessFlags := 130, nameIndex := 200, descriptorIndex := 201, attributes := #[] }, { accessFlags := 2, nameIndex := 33, descriptorIndex := 34, attributes := #[] }, { accessFlags := 26, nameIndex := 15, descriptorIndex := 16, attributes := #[] }, { accessFlags := 2, nameIndex := 11, descriptorIndex := 12, attributes := #[] }, { accessFlags := 2, nameIndex := 19, descriptorIndex := 16, attributes := #[] }, { accessFlags := 130, nameIndex := 211, descriptorIndex := 212, attributes := #[] }, { accessFlags := 26, nameIndex := 22, descriptorIndex := 23, attributes := #[] }, { accessFlags := 2, nameIndex := 26, descriptorIndex := 23, attributes := #[] }, { accessFlags := 26, nameIndex := 327, descriptorIndex := 34, attributes := #[] }, { accessFlags := 26, nameIndex := 328, descriptorIndex := 34, attributes := #[] }, { accessFlags := 26, nameIndex := 329, descriptorIndex := 34, attributes := #[] }, { accessFlags := 26, nameIndex := 330, descriptorIndex := 34, attributes := #[] }, { accessFlags := 26, nameIndex := 304, descriptorIndex := 305, attributes := #[] }, { accessFlags := 4120, nameIndex := 165, descriptorIndex := 166, attributes := #[] }])
  fields := #[{ name := "serialVersionUID", type := .long, accessFlags := 26, slot := 0, constantValue := 0 }, { name := "backtrace", type := (.object "java/lang/Object"), accessFlags := 130, slot := 0, constantValue := 0 }, { name := "detailMessage", type := (.object "java/lang/String"), accessFlags := 2, slot := 1, constantValue := 0 }, { name := "UNASSIGNED_STACK", type := (.array (.object "java/lang/StackTraceElement")), accessFlags := 26, slot := 1, constantValue := 0 }, { name := "cause", type := (.object "java/lang/Throwable"), accessFlags := 2, slot := 2, constantValue := 0 }, { name := "stackTrace", type := (.array (.object "java/lang/StackTraceElement")), accessFlags := 2, slot := 3, constantValue := 0 }, { name := "depth", type := .int, accessFlags := 130, slot := 4, constantValue := 0 }, { name := "SUPPRESSED_SENTINEL", type := (.object "java/util/List"), accessFlags := 26, slot := 2, constantValue := 0 }, { name := "suppressedExceptions", type := (.object "java/util/List"), accessFlags := 2, slot := 5, constantValue := 0 }, { name := "NULL_CAUSE_MESSAGE", type := (.object "java/lang/String"), accessFlags := 26, slot := 3, constantValue := 0 }, { name := "SELF_SUPPRESSION_MESSAGE", type := (.object "java/lang/String"), accessFlags := 26, slot := 4, constantValue := 0 }, { name := "CAUSE_CAPTION", type := (.object "java/lang/String"), accessFlags := 26, slot := 5, constantValue := 0 }, { name := "SUPPRESSED_CAPTION", type := (.object "java/lang/String"), accessFlags := 26, slot := 6, constantValue := 0 }, { name := "EMPTY_THROWABLE_ARRAY", type := (.array (.object "java/lang/Throwable")), accessFlags := 26, slot := 7, constantValue := 0 }, { name := "$assertionsDisabled", type := .boolean, accessFlags := 4120, slot := 8, constantValue := 0 }]
  methods := #[k8m0, k8m1, k8m2, k8m3, k8m4]
  instanceTypes := #[(.object "java/lang/Object"), (.object "java/lang/String"), (.object "java/lang/Throwable"), (.array (.object "java/lang/StackTraceElement")), .int, (.object "java/util/List")]
  staticTypes := #[.long, (.array (.object "java/lang/StackTraceElement")), (.object "java/util/List"), (.object "java/lang/String"), (.object "java/lang/String"), (.object "java/lang/String"), (.object "java/lang/String"), (.array (.object "java/lang/Throwable")), .boolean]
  resolved := Array.replicate 404 none
  statics := some 1 }

def pool9 : Array CpInfo := pool [(2, .class_ 4), (1, u "java/lang/Throwable"), (0, u "<init>"), (0, u "()V"), (0, .methodref 2 8), (0, .nameAndType 5 9), (0, u "(Ljava/lang/String;)V"), (9, .class_ 20), (0, u "java/lang/Exception"), (0, u "serialVersionUID"), (0, u "J")] 17

def k9m0 : Method := { name := "<init>", desc := "()V", sig := { parameters := [], returnType := none }, accessFlags := 1, code := none }
def k9c1 : Code := { maxStack := 2, maxLocals := 2, code := jdk_59_method_2_code, exceptionTable := #[], attributes := #[] }
def k9m1 : Method := { name := "<init>", desc := "(Ljava/lang/String;)V", sig := { parameters := [(.object "java/lang/String")], returnType := none }, accessFlags := 1, code := some k9c1 }
/-- java/lang/Exception -/
def k9 : Class := { plain "java/lang/Exception" (some 8) with
  accessFlags := 33
  interfaces := #[]
  cf := some (fileOf pool9 19 #[] #[{ accessFlags := 1, nameIndex := 5, descriptorIndex := 6, attributes := #[] }, { accessFlags := 1, nameIndex := 5, descriptorIndex := 9, attributes := #[] }] 33 2 #[] #[{ accessFlags := 24, nameIndex := 21, descriptorIndex := 22, attributes := #[] }])
  fields := #[{ name := "serialVersionUID", type := .long, accessFlags := 24, slot := 0, constantValue := 0 }]
  methods := #[k9m0, k9m1]
  instanceTypes := #[(.object "java/lang/Object"), (.object "java/lang/String"), (.object "java/lang/Throwable"), (.array (.object "java/lang/StackTraceElement")), .int, (.object "java/util/List")]
  staticTypes := #[.long]
  resolved := Array.replicate 40 none
  statics := none }

def pool10 : Array CpInfo := pool [(1, .class_ 2), (0, u "java/lang/StringBuilder"), (0, .methodref 1 4), (0, .nameAndType 5 6), (0, u "<init>"), (0, u "()V"), (0, .string 8), (0, u "at position "), (0, .methodref 1 10), (0, .nameAndType 11 12), (0, u "append"), (0, u "(Ljava/lang/String;)Ljava/lang/StringBuilder;"), (0, .methodref 1 14), (0, .nameAndType 11 15), (0, u "(I)Ljava/lang/StringBuilder;"), (0, .string 17), (0, u ": "), (0, .methodref 1 19), (0, .nameAndType 20 21), (0, u "toString"), (0, u "()Ljava/lang/String;"), (0, .methodref 23 24), (0, .class_ 25), (0, .nameAndType 5 26), (0, u "java/lang/Exception"), (0, u "(Ljava/lang/String;)V"), (0, .fieldref 28 29), (0, .class_ 30), (0, .nameAndType 31 32), (0, u "com/example/parkville/parkville/QueryException"), (0, u "position"), (0, u "I"), (0, .fieldref 28 34), (0, .nameAndType 35 36), (0, u "reason"), (0, u "Ljava/lang/String;"), (0, .string 38), (0, u "query error"), (0, .string 40), (0, u " "), (0, .methodref 28 42), (0, .nameAndType 43 21), (0, u "getMessage"), (0, u "serialVersionUID"), (0, u "J"), (3, u "(ILjava/lang/String;)V"), (6, u "report")] 2

def k10c0 : Code := { maxStack := 3, maxLocals := 3, code := prog_20_method_1_code, exceptionTable := #[], attributes := #[] }
def k10m0 : Method := { name := "<init>", desc := "(ILjava/lang/String;)V", sig := { parameters := [.int, (.object "java/lang/String")], returnType := none }, accessFlags := 1, code := some k10c0 }
def k10c1 : Code := { maxStack := 2, maxLocals := 1, code := prog_20_method_4_code, exceptionTable := #[], attributes := #[] }
def k10m1 : Method := { name := "report", desc := "()Ljava/lang/String;", sig := { parameters := [], returnType := some (.object "java/lang/String") }, accessFlags := 1, code := some k10c1 }
/-- com/example/parkville/parkville/QueryException -/
def k10 : Class := { plain "com/example/parkville/parkville/QueryException" (some 9) with
  accessFlags := 33
  interfaces := #[]
  cf := some (fileOf pool10 28 #[] #[{ accessFlags := 1, nameIndex := 5, descriptorIndex := 49, attributes := #[] }, { accessFlags := 1, nameIndex := 56, descriptorIndex := 21, attributes := #[] }] 33 23 #[] #[{ accessFlags := 26, nameIndex := 44, descriptorIndex := 45, attributes := #[] }, { accessFlags := 18, nameIndex := 31, descriptorIndex := 32, attributes := #[] }, { accessFlags := 18, nameIndex := 35, descriptorIndex := 36, attributes := #[] }])
  fields := #[{ name := "serialVersionUID", type := .long, accessFlags := 26, slot := 0, constantValue := 0 }, { name := "position", type := .int, accessFlags := 18, slot := 6, constantValue := 0 }, { name := "reason", type := (.object "java/lang/String"), accessFlags := 18, slot := 7, constantValue := 0 }]
  methods := #[k10m0, k10m1]
  instanceTypes := #[(.object "java/lang/Object"), (.object "java/lang/String"), (.object "java/lang/Throwable"), (.array (.object "java/lang/StackTraceElement")), .int, (.object "java/util/List"), .int, (.object "java/lang/String")]
  staticTypes := #[.long]
  resolved := Array.replicate 59 none
  statics := none }

def pool11 : Array CpInfo := pool [(1, .class_ 2), (0, u "java/lang/Appendable"), (0, .class_ 4), (0, u "java/lang/Object")] 9

/-- java/lang/Appendable -/
def k11 : Class := { plain "java/lang/Appendable" (some 0) with
  accessFlags := 1537
  interfaces := #[]
  cf := some (fileOf pool11 1 #[] #[] 1537 3 #[] #[])
  fields := #[]
  methods := #[]
  instanceTypes := #[]
  staticTypes := #[]
  resolved := Array.replicate 14 none
  statics := none }

def pool12 : Array CpInfo := pool [(1, .class_ 2), (0, u "java/lang/String"), (0, .methodref 4 5), (0, .class_ 6), (0, .nameAndType 7 8), (0, u "java/lang/Object"), (0, u "<init>"), (0, u "()V"), (1, .class_ 12), (1, u "java/lang/AbstractStringBuilder"), (0, u "EMPTYVALUE"), (0, u "[B"), (0, .fieldref 10 16), (0, .nameAndType 17 14), (0, u "value"), (0, .fieldref 1 19), (0, .nameAndType 20 21), (0, u "COMPACT_STRINGS"), (0, u "Z"), (0, .fieldref 10 23), (0, .nameAndType 24 25), (0, u "coder"), (0, u "B"), (6, .methodref 1 33), (0, .nameAndType 34 35), (0, u "length"), (0, u "()I"), (0, .class_ 37), (0, u "java/lang/Integer"), (1, .integer 2147483647), (0, .methodref 1 41), (0, .nameAndType 24 42), (0, u "()B"), (2, u "append"), (0, u "(Ljava/lang/String;)Ljava/lang/AbstractStringBuilder;"), (1, .class_ 49), (0, u "java/lang/CharSequence"), (19, u "(Ljava/lang/String;)V"), (5, u "maybeLatin1"), (3, .fieldref 10 80), (0, .nameAndType 81 82), (0, u "count"), (0, u "I"), (0, .methodref 10 84), (0, .nameAndType 85 86), (0, u "isLatin1"), (0, u "()Z"), (13, .methodref 10 101), (0, .nameAndType 102 103), (0, u "ensureCapacityInternal"), (0, u "(I)V"), (0, .methodref 10 105), (0, .nameAndType 106 107), (0, u "newCapacity"), (0, u "(I)I"), (0, .methodref 109 110), (0, .class_ 111), (0, .nameAndType 112 113), (0, u "java/util/Arrays"), (0, u "copyOf"), (0, u "([BI)[B"), (0, .methodref 115 116), (0, .class_ 117), (0, .nameAndType 118 119), (0, u "jdk/internal/util/ArraysSupport"), (0, u "newLength"), (0, u "(III)I"), (68, u "getChars"), (19, .methodref 10 209), (0, .nameAndType 210 211), (0, u "putStringAt"), (0, u "(ILjava/lang/String;)V"), (5, u "inflateIfNeededFor"), (2, .nameAndType 221 222), (0, u "getBytes"), (0, u "([BIB)V"), (22, .methodref 36 246), (0, .nameAndType 247 107), (0, u "stringSize"), (0, .methodref 36 249), (0, .nameAndType 188 250), (0, u "(II[B)I"), (146, .methodref 10 398), (0, .nameAndType 217 69), (0, .methodref 1 220), (3, u "()[B"), (40, .class_ 445), (0, u "java/lang/Appendable"), (65, u "(I)Ljava/lang/AbstractStringBuilder;"), (40, u "getValue")] 56

def k12m0 : Method := { name := "<init>", desc := "()V", sig := { parameters := [], returnType := none }, accessFlags := 0, code := none }
def k12c1 : Code := { maxStack := 2, maxLocals := 2, code := jdk_68_method_2_code, exceptionTable := #[], attributes := #[] }
def k12m1 : Method := { name := "<init>", desc := "(I)V", sig := { parameters := [.int], returnType := none }, accessFlags := 0, code := some k12c1 }
def k12c2 : Code := { maxStack := 1, maxLocals := 1, code := jdk_68_method_6_code, exceptionTable := #[], attributes := #[] }
def k12m2 : Method := { name := "length", desc := "()I", sig := { parameters := [], returnType := some .int }, accessFlags := 1, code := some k12c2 }
def k12c3 : Code := { maxStack := 4, maxLocals := 3, code := jdk_68_method_9_code, exceptionTable := #[], attributes := #[] }
def k12m3 : Method := { name := "ensureCapacityInternal", desc := "(I)V", sig := { parameters := [.int], returnType := none }, accessFlags := 2, code := some k12c3 }
def k12c4 : Code := { maxStack := 5, maxLocals := 6, code := jdk_68_method_10_code, exceptionTable := #[], attributes := #[] }
def k12m4 : Method := { name := "newCapacity", desc := "(I)I", sig := { parameters := [.int], returnType := some .int }, accessFlags := 2, code := some k12c4 }
def k12c5 : Code := { maxStack := 3, maxLocals := 3, code := jdk_68_method_22_code, exceptionTable := #[], attributes := #[] }
def k12m5 : Method := { name := "append", desc := "(Ljava/lang/String;)Ljava/lang/AbstractStringBuilder;", sig := { parameters := [(.object "java/lang/String")], returnType := some (.object "java/lang/AbstractStringBuilder") }, accessFlags := 1, code := some k12c5 }
def k12c6 : Code := { maxStack := 4, maxLocals := 4, code := jdk_68_method_32_code, exceptionTable := #[], attributes := #[] }
def k12m6 : Method := { name := "append", desc := "(I)Ljava/lang/AbstractStringBuilder;", sig := { parameters := [.int], returnType := some (.object "java/lang/AbstractStringBuilder") }, accessFlags := 1, code := some k12c6 }
def k12c7 : Code := { maxStack := 1, maxLocals := 1, code := jdk_68_method_64_code, exceptionTable := #[], attributes := #[] }
def k12m7 : Method := { name := "getValue", desc := "()[B", sig := { parameters := [], returnType := some (.array .byte) }, accessFlags := 16, code := some k12c7 }
def k12c8 : Code := { maxStack := 1, maxLocals := 1, code := jdk_68_method_68_code, exceptionTable := #[], attributes := #[] }
def k12m8 : Method := { name := "isLatin1", desc := "()Z", sig := { parameters := [], returnType := some .boolean }, accessFlags := 16, code := some k12c8 }
def k12c9 : Code := { maxStack := 2, maxLocals := 2, code := jdk_68_method_71_code, exceptionTable := #[], attributes := #[] }
def k12m9 : Method := { name := "inflateIfNeededFor", desc := "(Ljava/lang/String;)V", sig := { parameters := [(.object "java/lang/String")], returnType := none }, accessFlags := 2, code := some k12c9 }
def k12c10 : Code := { maxStack := 4, maxLocals := 3, code := jdk_68_method_73_code, exceptionTable := #[], attributes := #[] }
def k12m10 : Method := { name := "putStringAt", desc := "(ILjava/lang/String;)V", sig := { parameters := [.int, (.object "java/lang/String")], returnType := none }, accessFlags := 2, code := some k12c10 }
/-- java/lang/AbstractStringBuilder -/
def k12 : Class := { plain "java/lang/AbstractStringBuilder" (some 0) with
  accessFlags := 1056
  interfaces := #[11, 4]
  cf := some (fileOf pool12 10 #[] #[{ accessFlags := 0, nameIndex := 7, descriptorIndex := 8, attributes := #[] }, { accessFlags := 0, nameIndex := 7, descriptorIndex := 103, attributes := #[] }, { accessFlags := 1, nameIndex := 34, descriptorIndex := 35, attributes := #[] }, { accessFlags := 2, nameIndex := 102, descriptorIndex := 103, attributes := #[] }, { accessFlags := 2, nameIndex := 106, descriptorIndex := 107, attributes := #[] }, { accessFlags := 1, nameIndex := 45, descriptorIndex := 46, attributes := #[] }, { accessFlags := 1, nameIndex := 45, descriptorIndex := 511, attributes := #[] }, { accessFlags := 16, nameIndex := 552, descriptorIndex := 403, attributes := #[] }, { accessFlags := 16, nameIndex := 85, descriptorIndex := 86, attributes := #[] }, { accessFlags := 2, nameIndex := 217, descriptorIndex := 69, attributes := #[] }, { accessFlags := 2, nameIndex := 210, descriptorIndex := 211, attributes := #[] }] 1056 4 #[444, 48] #[{ accessFlags := 0, nameIndex := 17, descriptorIndex := 14, attributes := #[] }, { accessFlags := 0, nameIndex := 24, descriptorIndex := 25, attributes := #[] }, { accessFlags := 0, nameIndex := 75, descriptorIndex := 21, attributes := #[] }, { accessFlags := 0, nameIndex := 81, descriptorIndex := 82, attributes := #[] }, { accessFlags := 26, nameIndex := 13, descriptorIndex := 14, attributes := #[] }])
  fields := #[{ name := "value", type := (.array .byte), accessFlags := 0, slot := 0, constantValue := 0 }, { name := "coder", type := .byte, accessFlags := 0, slot := 1, constantValue := 0 }, { name := "maybeLatin1", type := .boolean, accessFlags := 0, slot := 2, constantValue := 0 }, { name := "count", type := .int, accessFlags := 0, slot := 3, constantValue := 0 }, { name := "EMPTYVALUE", type := (.array .byte), accessFlags := 26, slot := 0, constantValue := 0 }]
  methods := #[k12m0, k12m1, k12m2, k12m3, k12m4, k12m5, k12m6, k12m7, k12m8, k12m9, k12m10]
  instanceTypes := #[(.array .byte), .byte, .boolean, .int]
  staticTypes := #[(.array .byte)]
  resolved := Array.replicate 609 none
  statics := none }

def pool13 : Array CpInfo := pool [(1, .methodref 2 3), (0, .class_ 4), (0, .nameAndType 5 6), (0, u "java/lang/AbstractStringBuilder"), (0, u "<init>"), (0, u "(I)V"), (11, .class_ 20), (1, u "java/lang/String"), (3, .class_ 26), (1, u "java/lang/StringBuilder"), (0, u "append"), (0, u "(Ljava/lang/String;)Ljava/lang/StringBuilder;"), (0, .methodref 2 30), (0, .nameAndType 27 31), (0, u "(Ljava/lang/String;)Ljava/lang/AbstractStringBuilder;"), (21, .methodref 2 54), (0, .nameAndType 27 55), (0, u "(I)Ljava/lang/AbstractStringBuilder;"), (81, .methodref 18 138), (0, .nameAndType 5 139), (0, u "(Ljava/lang/StringBuilder;)V"), (5, u "()V"), (10, u "()I"), (111, u "(I)Ljava/lang/StringBuilder;"), (74, .methodref 2 344), (0, .nameAndType 345 156), (0, u "length"), (3, .class_ 350), (0, u "java/lang/Appendable"), (0, .class_ 352), (0, u "java/io/Serializable"), (0, .class_ 354), (0, u "java/lang/Comparable"), (0, .class_ 356), (0, u "java/lang/CharSequence"), (0, u "serialVersionUID"), (0, u "J"), (40, u "toString"), (0, u "()Ljava/lang/String;")] 21

def k13c0 : Code := { maxStack := 2, maxLocals := 1, code := jdk_67_method_1_code, exceptionTable := #[], attributes := #[] }
def k13m0 : Method := { name := "<init>", desc := "()V", sig := { parameters := [], returnType := none }, accessFlags := 1, code := some k13c0 }
def k13c1 : Code := { maxStack := 2, maxLocals := 2, code := jdk_67_method_7_code, exceptionTable := #[], attributes := #[] }
def k13m1 : Method := { name := "append", desc := "(Ljava/lang/String;)Ljava/lang/StringBuilder;", sig := { parameters := [(.object "java/lang/String")], returnType := some (.object "java/lang/StringBuilder") }, accessFlags := 1, code := some k13c1 }
def k13c2 : Code := { maxStack := 2, maxLocals := 2, code := jdk_67_method_15_code, exceptionTable := #[], attributes := #[] }
def k13m2 : Method := { name := "append", desc := "(I)Ljava/lang/StringBuilder;", sig := { parameters := [.int], returnType := some (.object "java/lang/StringBuilder") }, accessFlags := 1, code := some k13c2 }
def k13c3 : Code := { maxStack := 3, maxLocals := 1, code := jdk_67_method_42_code, exceptionTable := #[], attributes := #[] }
def k13m3 : Method := { name := "toString", desc := "()Ljava/lang/String;", sig := { parameters := [], returnType := some (.object "java/lang/String") }, accessFlags := 1, code := some k13c3 }
def k13c4 : Code := { maxStack := 1, maxLocals := 1, code := jdk_67_method_93_code, exceptionTable := #[], attributes := #[] }
def k13m4 : Method := { name := "length", desc := "()I", sig := { parameters := [], returnType := some .int }, accessFlags := 4161, code := some k13c4 }
/-- java/lang/StringBuilder -/
def k13 : Class := { plain "java/lang/StringBuilder" (some 12) with
  accessFlags := 49
  interfaces := #[11, 2, 3, 4]
  cf := some (fileOf pool13 24 #[] #[{ accessFlags := 1, nameIndex := 5, descriptorIndex := 145, attributes := #[] }, { accessFlags := 1, nameIndex := 27, descriptorIndex := 28, attributes := #[] }, { accessFlags := 1, nameIndex := 27, descriptorIndex := 268, attributes := #[] }, { accessFlags := 1, nameIndex := 399, descriptorIndex := 400, attributes := #[] }, { accessFlags := 4161, nameIndex := 345, descriptorIndex := 156, attributes := #[] }] 49 2 #[349, 351, 353, 355] #[{ accessFlags := 24, nameIndex := 357, descriptorIndex := 358, attributes := #[] }])
  fields := #[{ name := "serialVersionUID", type := .long, accessFlags := 24, slot := 0, constantValue := 0 }]
  methods := #[k13m0, k13m1, k13m2, k13m3, k13m4]
  instanceTypes := #[(.array .byte), .byte, .boolean, .int]
  staticTypes := #[.long]
  resolved := Array.replicate 422 none
  statics := none }

def pool14 : Array CpInfo := pool [(2, .class_ 4), (1, u "java/lang/Object"), (0, u "<init>"), (0, u "()V"), (1, .class_ 10), (1, u "java/lang/System"), (0, u "allowSecurityManager"), (0, u "I"), (16, u "cons"), (0, u "Ljava/io/Console;"), (77, .class_ 110), (1, u "java/lang/System$CallersHolder"), (43, u "initialErrStream"), (0, u "Ljava/io/PrintStream;"), (19, u "security"), (0, u "Ljava/lang/SecurityManager;"), (31, .class_ 209), (0, u "java/lang/System$1"), (7, u "props"), (0, u "Ljava/util/Properties;"), (2, u "lineSeparator"), (0, u "Ljava/lang/String;"), (96, .class_ 321), (1, u "java/lang/System$LoggerFinder"), (5, .class_ 328), (0, u "java/lang/System$Logger"), (67, u "err"), (2, u "out"), (91, u "notSupportedJnuEncoding"), (15, u "in"), (17, u "initialIn"), (0, u "Ljava/io/InputStream;"), (35, u "bootLayer"), (0, u "Ljava/lang/ModuleLayer;"), (99, .class_ 664), (0, u "java/lang/System$2"), (9, u "NEVER"), (2, u "MAYBE"), (49, u "arraycopy"), (0, u "(Ljava/lang/Object;ILjava/lang/Object;II)V"), (72, .class_ 802), (0, u "java/lang/System$Logger$Level")] 31

def k14m0 : Method := { name := "<init>", desc := "()V", sig := { parameters := [], returnType := none }, accessFlags := 2, code := none }
def k14m1 : Method := { name := "arraycopy", desc := "(Ljava/lang/Object;ILjava/lang/Object;II)V", sig := { parameters := [(.object "java/lang/Object"), .int, (.object "java/lang/Object"), .int, .int], returnType := none }, accessFlags := 265, code := none }
/-- java/lang/System -/
def k14 : Class := { plain "java/lang/System" (some 0) with
  accessFlags := 49
  interfaces := #[]
  cf := some (fileOf pool14 8 #[.nestMembers #[319, 327, 801, 108, 663, 208]] #[{ accessFlags := 2, nameIndex := 5, descriptorIndex := 6, attributes := #[] }, { accessFlags := 265, nameIndex := 727, descriptorIndex := 728, attributes := #[] }] 49 2 #[] #[{ accessFlags := 25, nameIndex := 507, descriptorIndex := 526, attributes := #[] }, { accessFlags := 25, nameIndex := 399, descriptorIndex := 155, attributes := #[] }, { accessFlags := 25, nameIndex := 396, descriptorIndex := 155, attributes := #[] }, { accessFlags := 10, nameIndex := 525, descriptorIndex := 526, attributes := #[] }, { accessFlags := 26, nameIndex := 674, descriptorIndex := 12, attributes := #[] }, { accessFlags := 26, nameIndex := 677, descriptorIndex := 12, attributes := #[] }, { accessFlags := 10, nameIndex := 11, descriptorIndex := 12, attributes := #[] }, { accessFlags := 74, nameIndex := 175, descriptorIndex := 176, attributes := #[] }, { accessFlags := 10, nameIndex := 491, descriptorIndex := 222, attributes := #[] }, { accessFlags := 74, nameIndex := 29, descriptorIndex := 30, attributes := #[] }, { accessFlags := 74, nameIndex := 154, descriptorIndex := 155, attributes := #[] }, { accessFlags := 10, nameIndex := 217, descriptorIndex := 218, attributes := #[] }, { accessFlags := 10, nameIndex := 221, descriptorIndex := 222, attributes := #[] }, { accessFlags := 8, nameIndex := 562, descriptorIndex := 563, attributes := #[] }])
  fields := #[{ name := "in", type := (.object "java/io/InputStream"), accessFlags := 25, slot := 0, constantValue := 0 }, { name := "out", type := (.object "java/io/PrintStream"), accessFlags := 25, slot := 1, constantValue := 0 }, { name := "err", type := (.object "java/io/PrintStream"), accessFlags := 25, slot := 2, constantValue := 0 }, { name := "initialIn", type := (.object "java/io/InputStream"), accessFlags := 10, slot := 3, constantValue := 0 }, { name := "NEVER", type := .int, accessFlags := 26, slot := 4, constantValue := 0 }, { name := "MAYBE", type := .int, accessFlags := 26, slot := 5, constantValue := 0 }, { name := "allowSecurityManager", type := .int, accessFlags := 10, slot := 6, constantValue := 0 }, { name := "security", type := (.object "java/lang/SecurityManager"), accessFlags := 74, slot := 7, constantValue := 0 }, { name := "notSupportedJnuEncoding", type := (.object "java/lang/String"), accessFlags := 10, slot := 8, constantValue := 0 }, { name := "cons", type := (.object "java/io/Console"), accessFlags := 74, slot := 9, constantValue := 0 }, { name := "initialErrStream", type := (.object "java/io/PrintStream"), accessFlags := 74, slot := 10, constantValue := 0 }, { name := "props", type := (.object "java/util/Properties"), accessFlags := 10, slot := 11, constantValue := 0 }, { name := "lineSeparator", type := (.object "java/lang/String"), accessFlags := 10, slot := 12, constantValue := 0 }, { name := "bootLayer", type := (.object "java/lang/ModuleLayer"), accessFlags := 8, slot := 13, constantValue := 0 }]
  methods := #[k14m0, k14m1]
  instanceTypes := #[]
  staticTypes := #[(.object "java/io/InputStream"), (.object "java/io/PrintStream"), (.object "java/io/PrintStream"), (.object "java/io/InputStream"), .int, .int, .int, (.object "java/lang/SecurityManager"), (.object "java/lang/String"), (.object "java/io/Console"), (.object "java/io/PrintStream"), (.object "java/util/Properties"), (.object "java/lang/String"), (.object "java/lang/ModuleLayer")]
  resolved := Array.replicate 834 none
  statics := none }

def pool15 : Array CpInfo := pool [(2, .class_ 4), (1, u "java/lang/Object"), (0, u "<init>"), (0, u "()V"), (7, .class_ 16), (1, u "java/util/Arrays"), (57, .class_ 76), (1, u "java/util/Arrays$NaturalOrder"), (32, u "()Ljava/lang/Object;"), (3, .class_ 115), (1, u "java/util/Arrays$LegacyMergeSort"), (1, u "Z"), (10, .nameAndType 129 109), (0, u "clone"), (9, u "copyOfRange"), (10, .methodref 151 152), (0, .class_ 153), (0, .nameAndType 154 155), (0, u "java/lang/System"), (0, u "arraycopy"), (0, u "(Ljava/lang/Object;ILjava/lang/Object;II)V"), (146, u "copyOf"), (1, .methodref 305 306), (0, .class_ 307), (0, .nameAndType 308 309), (0, u "java/lang/Math"), (0, u "min"), (0, u "(II)I"), (0, .methodref 311 128), (0, .class_ 312), (0, u "[B"), (26, .methodref 14 340), (0, .nameAndType 341 342), (0, u "copyOfRangeByte"), (0, u "([BII)[B"), (0, .methodref 14 344), (0, .nameAndType 345 346), (0, u "checkLength"), (0, u "(II)V"), (28, .class_ 376), (0, u "java/util/Arrays$ArrayList"), (68, u "$assertionsDisabled"), (269, u "MIN_ARRAY_SORT_GRAN"), (0, u "I"), (2, u "INSERTIONSORT_THRESHOLD"), (149, u "([BI)[B"), (105, .class_ 976), (0, u "java/util/Arrays$ArrayItr")] 52

def k15m0 : Method := { name := "<init>", desc := "()V", sig := { parameters := [], returnType := none }, accessFlags := 2, code := none }
def k15c1 : Code := { maxStack := 6, maxLocals := 3, code := jdk_65_method_121_code, exceptionTable := #[], attributes := #[] }
def k15m1 : Method := { name := "copyOf", desc := "([BI)[B", sig := { parameters := [(.array .byte), .int], returnType := some (.array .byte) }, accessFlags := 9, code := some k15c1 }
def k15c2 : Code := { maxStack := 4, maxLocals := 2, code := jdk_65_method_131_code, exceptionTable := #[], attributes := #[] }
def k15m2 : Method := { name := "checkLength", desc := "(II)V", sig := { parameters := [.int, .int], returnType := none }, accessFlags := 10, code := some k15c2 }
def k15c3 : Code := { maxStack := 3, maxLocals := 3, code := jdk_65_method_132_code, exceptionTable := #[], attributes := #[] }
def k15m3 : Method := { name := "copyOfRange", desc := "([BII)[B", sig := { parameters := [(.array .byte), .int, .int], returnType := some (.array .byte) }, accessFlags := 9, code := some k15c3 }
def k15c4 : Code := { maxStack := 6, maxLocals := 5, code := jdk_65_method_133_code, exceptionTable := #[], attributes := #[] }
def k15m4 : Method := { name := "copyOfRangeByte", desc := "([BII)[B", sig := { parameters := [(.array .byte), .int, .int], returnType := some (.array .byte) }, accessFlags := 10, code := some k15c4 }
/-- java/util/Arrays -/
def k15 : Class := { plain "java/util/Arrays" (some 0) with
  accessFlags := 49
  interfaces := #[]
  cf := some (fileOf pool15 14 #[.nestMembers #[975, 375, 113, 74]] #[{ accessFlags := 2, nameIndex := 5, descriptorIndex := 6, attributes := #[] }, { accessFlags := 9, nameIndex := 302, descriptorIndex := 869, attributes := #[] }, { accessFlags := 10, nameIndex := 345, descriptorIndex := 346, attributes := #[] }, { accessFlags := 9, nameIndex := 139, descriptorIndex := 342, attributes := #[] }, { accessFlags := 10, nameIndex := 341, descriptorIndex := 342, attributes := #[] }] 49 2 #[] #[{ accessFlags := 26, nameIndex := 715, descriptorIndex := 716, attributes := #[] }, { accessFlags := 26, nameIndex := 719, descriptorIndex := 716, attributes := #[] }, { accessFlags := 4120, nameIndex := 445, descriptorIndex := 117, attributes := #[] }])
  fields := #[{ name := "MIN_ARRAY_SORT_GRAN", type := .int, accessFlags := 26, slot := 0, constantValue := 0 }, { name := "INSERTIONSORT_THRESHOLD", type := .int, accessFlags := 26, slot := 1, constantValue := 0 }, { name := "$assertionsDisabled", type := .boolean, accessFlags := 4120, slot := 2, constantValue := 0 }]
  methods := #[k15m0, k15m1, k15m2, k15m3, k15m4]
  instanceTypes := #[]
  staticTypes := #[.int, .int, .boolean]
  resolved := Array.replicate 1029 none
  statics := none }

def pool16 : Array CpInfo := pool [(1, .class_ 2), (0, u "java/lang/Math"), (1, .class_ 6), (1, u "java/lang/Object"), (0, u "<init>"), (0, u "()V"), (89, .class_ 100), (1, u "java/lang/Math$RandomNumberGeneratorHolder"), (71, u "negativeZeroFloatBits"), (0, u "J"), (2, u "negativeZeroDoubleBits"), (21, u "max"), (2, u "min"), (43, u "$assertionsDisabled"), (0, u "Z"), (88, u "(II)I"), (2, u "twoToTheDoubleScaleDown"), (0, u "D"), (4, u "twoToTheDoubleScaleUp"), (9, u "E"), (3, u "PI"), (2, u "TAU"), (2, u "DEGREES_TO_RADIANS"), (0, u "RADIANS_TO_DEGREES")] 94

def k16m0 : Method := { name := "<init>", desc := "()V", sig := { parameters := [], returnType := none }, accessFlags := 2, code := none }
def k16c1 : Code := { maxStack := 2, maxLocals := 2, code := jdk_29_method_65_code, exceptionTable := #[], attributes := #[] }
def k16m1 : Method := { name := "max", desc := "(II)I", sig := { parameters := [.int, .int], returnType := some .int }, accessFlags := 9, code := some k16c1 }
def k16c2 : Code := { maxStack := 2, maxLocals := 2, code := jdk_29_method_69_code, exceptionTable := #[], attributes := #[] }
def k16m2 : Method := { name := "min", desc := "(II)I", sig := { parameters := [.int, .int], returnType := some .int }, accessFlags := 9, code := some k16c2 }
/-- java/lang/Math -/
def k16 : Class := { plain "java/lang/Math" (some 0) with
  accessFlags := 49
  interfaces := #[]
  cf := some (fileOf pool16 1 #[.nestMembers #[98]] #[{ accessFlags := 2, nameIndex := 7, descriptorIndex := 8, attributes := #[] }, { accessFlags := 9, nameIndex := 198, descriptorIndex := 335, attributes := #[] }, { accessFlags := 9, nameIndex := 201, descriptorIndex := 335, attributes := #[] }] 49 4 #[] #[{ accessFlags := 25, nameIndex := 354, descriptorIndex := 339, attributes := #[] }, { accessFlags := 25, nameIndex := 358, descriptorIndex := 339, attributes := #[] }, { accessFlags := 25, nameIndex := 361, descriptorIndex := 339, attributes := #[] }, { accessFlags := 26, nameIndex := 364, descriptorIndex := 339, attributes := #[] }, { accessFlags := 26, nameIndex := 365, descriptorIndex := 339, attributes := #[] }, { accessFlags := 26, nameIndex := 172, descriptorIndex := 173, attributes := #[] }, { accessFlags := 26, nameIndex := 176, descriptorIndex := 173, attributes := #[] }, { accessFlags := 8, nameIndex := 344, descriptorIndex := 339, attributes := #[] }, { accessFlags := 8, nameIndex := 338, descriptorIndex := 339, attributes := #[] }, { accessFlags := 4120, nameIndex := 245, descriptorIndex := 246, attributes := #[] }])
  fields := #[{ name := "E", type := .double, accessFlags := 25, slot := 0, constantValue := 0 }, { name := "PI", type := .double, accessFlags := 25, slot := 1, constantValue := 0 }, { name := "TAU", type := .double, accessFlags := 25, slot := 2, constantValue := 0 }, { name := "DEGREES_TO_RADIANS", type := .double, accessFlags := 26, slot := 3, constantValue := 0 }, { name := "RADIANS_TO_DEGREES", type := .double, accessFlags := 26, slot := 4, constantValue := 0 }, { name := "negativeZeroFloatBits", type := .long, accessFlags := 26, slot := 5, constantValue := 0 }, { name := "negativeZeroDoubleBits", type := .long, accessFlags := 26, slot := 6, constantValue := 0 }, { name := "twoToTheDoubleScaleUp", type := .double, accessFlags := 8, slot := 7, constantValue := 0 }, { name := "twoToTheDoubleScaleDown", type := .double, accessFlags := 8, slot := 8, constantValue := 0 }, { name := "$assertionsDisabled", type := .boolean, accessFlags := 4120, slot := 9, constantValue := 0 }]
  methods := #[k16m0, k16m1, k16m2]
  instanceTypes := #[]
  staticTypes := #[.double, .double, .double, .double, .double, .long, .long, .double, .double, .boolean]
  resolved := Array.replicate 460 none
  statics := none }

def pool17 : Array CpInfo := pool [(1, .class_ 2), (0, u "java/lang/String"), (1, .class_ 6), (1, u "java/lang/Object"), (0, u "<init>"), (0, u "()V"), (0, .methodref 1 10), (0, .nameAndType 11 12), (0, u "checkIndex"), (0, u "(II)V"), (1, .class_ 16), (1, u "java/lang/StringLatin1"), (36, u "([BI)C"), (36, u "canEncode"), (14, u "(C)Z"), (15, u "$assertionsDisabled"), (0, u "Z"), (98, .class_ 223), (1, u "java/lang/StringLatin1$LinesSpliterator"), (28, u "charAt"), (127, u "toBytes"), (1, u "(C)[B"), (7, .class_ 391), (0, u "java/lang/StringLatin1$CharsSpliterator")] 3

def k17m0 : Method := { name := "<init>", desc := "()V", sig := { parameters := [], returnType := none }, accessFlags := 0, code := none }
def k17c1 : Code := { maxStack := 2, maxLocals := 2, code := jdk_43_method_2_code, exceptionTable := #[], attributes := #[] }
def k17m1 : Method := { name := "charAt", desc := "([BI)C", sig := { parameters := [(.array .byte), .int], returnType := some .char }, accessFlags := 9, code := some k17c1 }
def k17c2 : Code := { maxStack := 2, maxLocals := 1, code := jdk_43_method_3_code, exceptionTable := #[], attributes := #[] }
def k17m2 : Method := { name := "canEncode", desc := "(C)Z", sig := { parameters := [.char], returnType := some .boolean }, accessFlags := 9, code := some k17c2 }
def k17c3 : Code := { maxStack := 4, maxLocals := 1, code := jdk_43_method_46_code, exceptionTable := #[], attributes := #[] }
def k17m3 : Method := { name := "toBytes", desc := "(C)[B", sig := { parameters := [.char], returnType := some (.array .byte) }, accessFlags := 9, code := some k17c3 }
/-- java/lang/StringLatin1 -/
def k17 : Class := { plain "java/lang/StringLatin1" (some 0) with
  accessFlags := 48
  interfaces := #[]
  cf := some (fileOf pool17 14 #[.nestMembers #[390, 221]] #[{ accessFlags := 0, nameIndex := 7, descriptorIndex := 8, attributes := #[] }, { accessFlags := 9, nameIndex := 252, descriptorIndex := 53, attributes := #[] }, { accessFlags := 9, nameIndex := 90, descriptorIndex := 105, attributes := #[] }, { accessFlags := 9, nameIndex := 380, descriptorIndex := 382, attributes := #[] }] 48 4 #[] #[{ accessFlags := 4120, nameIndex := 121, descriptorIndex := 122, attributes := #[] }])
  fields := #[{ name := "$assertionsDisabled", type := .boolean, accessFlags := 4120, slot := 0, constantValue := 0 }]
  methods := #[k17m0, k17m1, k17m2, k17m3]
  instanceTypes := #[]
  staticTypes := #[.boolean]
  resolved := Array.replicate 395 none
  statics := none }

def pool18 : Array CpInfo := pool [(2, .class_ 4), (1, u "java/lang/Object"), (0, u "<init>"), (0, u "()V"), (17, .class_ 26), (1, u "jdk/internal/util/Preconditions"), (6, u "checkIndex"), (21, .class_ 56), (0, u "jdk/internal/util/Preconditions$4"), (57, .class_ 115), (0, u "jdk/internal/util/Preconditions$1"), (7, u "SIOOBE_FORMATTER"), (0, u "Ljava/util/function/BiFunction;"), (0, .class_ 126), (0, u "jdk/internal/util/Preconditions$2"), (3, u "AIOOBE_FORMATTER"), (0, .class_ 132), (0, u "jdk/internal/util/Preconditions$3"), (3, u "IOOBE_FORMATTER"), (41, u "(IILjava/util/function/BiFunction;)I")] 15

def k18m0 : Method := { name := "<init>", desc := "()V", sig := { parameters := [], returnType := none }, accessFlags := 1, code := none }
def k18c1 : Code := { maxStack := 3, maxLocals := 3, code := jdk_41_method_11_code, exceptionTable := #[], attributes := #[] }
def k18m1 : Method := { name := "checkIndex", desc := "(IILjava/util/function/BiFunction;)I", sig := { parameters := [.int, .int, (.object "java/util/function/BiFunction")], returnType := some .int }, accessFlags := 9, code := some k18c1 }
/-- jdk/internal/util/Preconditions -/
def k18 : Class := { plain "jdk/internal/util/Preconditions" (some 0) with
  accessFlags := 33
  interfaces := #[]
  cf := some (fileOf pool18 24 #[.nestMembers #[55, 131, 125, 114]] #[{ accessFlags := 1, nameIndex := 5, descriptorIndex := 6, attributes := #[] }, { accessFlags := 9, nameIndex := 33, descriptorIndex := 178, attributes := #[] }] 33 2 #[] #[{ accessFlags := 25, nameIndex := 123, descriptorIndex := 124, attributes := #[] }, { accessFlags := 25, nameIndex := 130, descriptorIndex := 124, attributes := #[] }, { accessFlags := 25, nameIndex := 136, descriptorIndex := 124, attributes := #[] }])
  fields := #[{ name := "SIOOBE_FORMATTER", type := (.object "java/util/function/BiFunction"), accessFlags := 25, slot := 0, constantValue := 0 }, { name := "AIOOBE_FORMATTER", type := (.object "java/util/function/BiFunction"), accessFlags := 25, slot := 1, constantValue := 0 }, { name := "IOOBE_FORMATTER", type := (.object "java/util/function/BiFunction"), accessFlags := 25, slot := 2, constantValue := 0 }]
  methods := #[k18m0, k18m1]
  instanceTypes := #[]
  staticTypes := #[(.object "java/util/function/BiFunction"), (.object "java/util/function/BiFunction"), (.object "java/util/function/BiFunction")]
  resolved := Array.replicate 194 none
  statics := some 2 }

def pool19 : Array CpInfo := pool [(2, .class_ 4), (1, u "java/lang/Object"), (0, u "<init>"), (0, u "()V"), (1, .class_ 10), (1, u "java/lang/Number"), (2, .class_ 14), (0, u "java/io/Serializable"), (0, u "serialVersionUID"), (0, u "J")] 20

def k19m0 : Method := { name := "<init>", desc := "()V", sig := { parameters := [], returnType := none }, accessFlags := 1, code := none }
/-- java/lang/Number -/
def k19 : Class := { plain "java/lang/Number" (some 0) with
  accessFlags := 1057
  interfaces := #[2]
  cf := some (fileOf pool19 8 #[] #[{ accessFlags := 1, nameIndex := 5, descriptorIndex := 6, attributes := #[] }] 1057 2 #[13] #[{ accessFlags := 26, nameIndex := 15, descriptorIndex := 16, attributes := #[] }])
  fields := #[{ name := "serialVersionUID", type := .long, accessFlags := 26, slot := 0, constantValue := 0 }]
  methods := #[k19m0]
  instanceTypes := #[]
  staticTypes := #[.long]
  resolved := Array.replicate 37 none
  statics := none }

def pool20 : Array CpInfo := pool [(1, .class_ 2), (0, u "java/lang/Integer"), (16, u "digits"), (0, u "[C"), (33, u "(I)I"), (19, u "stringSize"), (2, u "getChars"), (0, u "(II[B)I"), (4, .fieldref 1 84), (0, .nameAndType 85 86), (0, u "DigitOnes"), (0, u "[B"), (0, .fieldref 1 88), (0, .nameAndType 89 86), (0, u "DigitTens"), (99, .class_ 190), (0, u "java/lang/Integer$IntegerCache"), (3, u "I"), (8, .class_ 204), (0, u "java/lang/Number"), (2, u "value"), (94, u "TYPE"), (0, u "Ljava/lang/Class;"), (0, .class_ 305), (0, u "java/lang/Comparable"), (0, .class_ 307), (0, u "java/lang/constant/Constable"), (0, .class_ 309), (0, u "java/lang/constant/ConstantDesc"), (0, u "MIN_VALUE"), (1, u "MAX_VALUE"), (3, u "SIZE"), (1, u "BYTES"), (1, u "serialVersionUID"), (0, u "J")] 131

def k20c0 : Code := { maxStack := 4, maxLocals := 7, code := jdk_33_method_12_code, exceptionTable := #[], attributes := #[] }
def k20m0 : Method := { name := "getChars", desc := "(II[B)I", sig := { parameters := [.int, .int, (.array .byte)], returnType := some .int }, accessFlags := 8, code := some k20c0 }
def k20c1 : Code := { maxStack := 2, maxLocals := 4, code := jdk_33_method_13_code, exceptionTable := #[], attributes := #[] }
def k20m1 : Method := { name := "stringSize", desc := "(I)I", sig := { parameters := [.int], returnType := some .int }, accessFlags := 8, code := some k20c1 }
/-- java/lang/Integer -/
def k20 : Class := { plain "java/lang/Integer" (some 19) with
  accessFlags := 49
  interfaces := #[3, 5, 6]
  cf := some (fileOf pool20 1 #[.nestMembers #[189]] #[{ accessFlags := 8, nameIndex := 77, descriptorIndex := 78, attributes := #[] }, { accessFlags := 8, nameIndex := 74, descriptorIndex := 54, attributes := #[] }] 49 203 #[304, 306, 308] #[{ accessFlags := 25, nameIndex := 310, descriptorIndex := 194, attributes := #[] }, { accessFlags := 25, nameIndex := 312, descriptorIndex := 194, attributes := #[] }, { accessFlags := 25, nameIndex := 302, descriptorIndex := 303, attributes := #[] }, { accessFlags := 24, nameIndex := 19, descriptorIndex := 20, attributes := #[] }, { accessFlags := 24, nameIndex := 89, descriptorIndex := 86, attributes := #[] }, { accessFlags := 24, nameIndex := 85, descriptorIndex := 86, attributes := #[] }, { accessFlags := 18, nameIndex := 207, descriptorIndex := 194, attributes := #[] }, { accessFlags := 25, nameIndex := 316, descriptorIndex := 194, attributes := #[] }, { accessFlags := 25, nameIndex := 318, descriptorIndex := 194, attributes := #[] }, { accessFlags := 26, nameIndex := 320, descriptorIndex := 321, attributes := #[] }])
  fields := #[{ name := "MIN_VALUE", type := .int, accessFlags := 25, slot := 0, constantValue := 0 }, { name := "MAX_VALUE", type := .int, accessFlags := 25, slot := 1, constantValue := 0 }, { name := "TYPE", type := (.object "java/lang/Class"), accessFlags := 25, slot := 2, constantValue := 0 }, { name := "digits", type := (.array .char), accessFlags := 24, slot := 3, constantValue := 0 }, { name := "DigitTens", type := (.array .byte), accessFlags := 24, slot := 4, constantValue := 0 }, { name := "DigitOnes", type := (.array .byte), accessFlags := 24, slot := 5, constantValue := 0 }, { name := "value", type := .int, accessFlags := 18, slot := 0, constantValue := 0 }, { name := "SIZE", type := .int, accessFlags := 25, slot := 6, constantValue := 0 }, { name := "BYTES", type := .int, accessFlags := 25, slot := 7, constantValue := 0 }, { name := "serialVersionUID", type := .long, accessFlags := 26, slot := 8, constantValue := 0 }]
  methods := #[k20m0, k20m1]
  instanceTypes := #[.int]
  staticTypes := #[.int, .int, (.object "java/lang/Class"), (.array .char), (.array .byte), (.array .byte), .int, .int, .long]
  resolved := Array.replicate 453 none
  statics := some 3 }

def pool21 : Array CpInfo := pool [(9, u "<init>"), (6, .class_ 18), (1, u "java/lang/Object"), (0, u "()V"), (1, .class_ 23), (1, u "jdk/internal/util/ArraysSupport"), (0, u "LOG2_ARRAY_LONG_INDEX_SCALE"), (0, u "I"), (2, u "U"), (0, u "Ljdk/internal/misc/Unsafe;"), (8, u "BIG_ENDIAN"), (0, u "Z"), (8, u "LOG2_BYTE_BIT_SIZE"), (4, u "LOG2_ARRAY_INT_INDEX_SCALE"), (54, u "JLA"), (0, u "Ljdk/internal/access/JavaLangAccess;"), (11, u "LOG2_ARRAY_BOOLEAN_INDEX_SCALE"), (9, u "LOG2_ARRAY_BYTE_INDEX_SCALE"), (5, u "LOG2_ARRAY_CHAR_INDEX_SCALE"), (5, u "LOG2_ARRAY_SHORT_INDEX_SCALE"), (18, u "LOG2_ARRAY_FLOAT_INDEX_SCALE"), (24, u "LOG2_ARRAY_DOUBLE_INDEX_SCALE"), (6, .methodref 195 196), (0, .class_ 197), (0, .nameAndType 198 199), (0, u "java/lang/Math"), (0, u "max"), (0, u "(II)I"), (0, .integer 2147483639), (76, u "T_BOOLEAN"), (2, u "T_CHAR"), (1, u "T_FLOAT"), (1, u "T_DOUBLE"), (1, u "T_BYTE"), (1, u "T_SHORT"), (1, u "T_INT"), (1, u "T_LONG"), (1, u "SOFT_MAX_ARRAY_LENGTH"), (56, u "newLength"), (0, u "(III)I")] 25

def k21m0 : Method := { name := "<init>", desc := "()V", sig := { parameters := [], returnType := none }, accessFlags := 2, code := none }
def k21c1 : Code := { maxStack := 3, maxLocals := 4, code := jdk_48_method_27_code, exceptionTable := #[], attributes := #[] }
def k21m1 : Method := { name := "newLength", desc := "(III)I", sig := { parameters := [.int, .int, .int], returnType := some .int }, accessFlags := 9, code := some k21c1 }
/-- jdk/internal/util/ArraysSupport -/
def k21 : Class := { plain "jdk/internal/util/ArraysSupport" (some 0) with
  accessFlags := 33
  interfaces := #[]
  cf := some (fileOf pool21 21 #[] #[{ accessFlags := 2, nameIndex := 9, descriptorIndex := 19, attributes := #[] }, { accessFlags := 9, nameIndex := 351, descriptorIndex := 352, attributes := #[] }] 33 16 #[] #[{ accessFlags := 24, nameIndex := 28, descriptorIndex := 29, attributes := #[] }, { accessFlags := 26, nameIndex := 38, descriptorIndex := 39, attributes := #[] }, { accessFlags := 25, nameIndex := 121, descriptorIndex := 25, attributes := #[] }, { accessFlags := 25, nameIndex := 131, descriptorIndex := 25, attributes := #[] }, { accessFlags := 25, nameIndex := 137, descriptorIndex := 25, attributes := #[] }, { accessFlags := 25, nameIndex := 143, descriptorIndex := 25, attributes := #[] }, { accessFlags := 25, nameIndex := 53, descriptorIndex := 25, attributes := #[] }, { accessFlags := 25, nameIndex := 24, descriptorIndex := 25, attributes := #[] }, { accessFlags := 25, nameIndex := 162, descriptorIndex := 25, attributes := #[] }, { accessFlags := 25, nameIndex := 187, descriptorIndex := 25, attributes := #[] }, { accessFlags := 26, nameIndex := 48, descriptorIndex := 25, attributes := #[] }, { accessFlags := 25, nameIndex := 277, descriptorIndex := 25, attributes := #[] }, { accessFlags := 25, nameIndex := 280, descriptorIndex := 25, attributes := #[] }, { accessFlags := 25, nameIndex := 282, descriptorIndex := 25, attributes := #[] }, { accessFlags := 25, nameIndex := 284, descriptorIndex := 25, attributes := #[] }, { accessFlags := 25, nameIndex := 286, descriptorIndex := 25, attributes := #[] }, { accessFlags := 25, nameIndex := 288, descriptorIndex := 25, attributes := #[] }, { accessFlags := 25, nameIndex := 290, descriptorIndex := 25, attributes := #[] }, { accessFlags := 25, nameIndex := 292, descriptorIndex := 25, attributes := #[] }, { accessFlags := 26, nameIndex := 108, descriptorIndex := 109, attributes := #[] }, { accessFlags := 25, nameIndex := 294, descriptorIndex := 25, attributes := #[] }])
  fields := #[{ name := "U", type := (.object "jdk/internal/misc/Unsafe"), accessFlags := 24, slot := 0, constantValue := 0 }, { name := "BIG_ENDIAN", type := .boolean, accessFlags := 26, slot := 1, constantValue := 0 }, { name := "LOG2_ARRAY_BOOLEAN_INDEX_SCALE", type := .int, accessFlags := 25, slot := 2, constantValue := 0 }, { name := "LOG2_ARRAY_BYTE_INDEX_SCALE", type := .int, accessFlags := 25, slot := 3, constantValue := 0 }, { name := "LOG2_ARRAY_CHAR_INDEX_SCALE", type := .int, accessFlags := 25, slot := 4, constantValue := 0 }, { name := "LOG2_ARRAY_SHORT_INDEX_SCALE", type := .int, accessFlags := 25, slot := 5, constantValue := 0 }, { name := "LOG2_ARRAY_INT_INDEX_SCALE", type := .int, accessFlags := 25, slot := 6, constantValue := 0 }, { name := "LOG2_ARRAY_LONG_INDEX_SCALE", type := .int, accessFlags := 25, slot := 7, constantValue := 0 }, { name := "LOG2_ARRAY_FLOAT_INDEX_SCALE", type := .int, accessFlags := 25, slot := 8, constantValue := 0 }, { name := "LOG2_ARRAY_DOUBLE_INDEX_SCALE", type := .int, accessFlags := 25, slot := 9, constantValue := 0 }, { name := "LOG2_BYTE_BIT_SIZE", type := .int, accessFlags := 26, slot := 10, constantValue := 0 }, { name := "T_BOOLEAN", type := .int, accessFlags := 25, slot := 11, constantValue := 0 }, { name := "T_CHAR", type := .int, accessFlags := 25, slot := 12, constantValue := 0 }, { name := "T_FLOAT", type := .int, accessFlags := 25, slot := 13, constantValue := 0 }, { name := "T_DOUBLE", type := .int, accessFlags := 25, slot := 14, constantValue := 0 }, { name := "T_BYTE", type := .int, accessFlags := 25, slot := 15, constantValue := 0 }, { name := "T_SHORT", type := .int, accessFlags := 25, slot := 16, constantValue := 0 }, { name := "T_INT", type := .int, accessFlags := 25, slot := 17, constantValue := 0 }, { name := "T_LONG", type := .int, accessFlags := 25, slot := 18, constantValue := 0 }, { name := "JLA", type := (.object "jdk/internal/access/JavaLangAccess"), accessFlags := 26, slot := 19, constantValue := 0 }, { name := "SOFT_MAX_ARRAY_LENGTH", type := .int, accessFlags := 25, slot := 20, constantValue := 0 }]
  methods := #[k21m0, k21m1]
  instanceTypes := #[]
  staticTypes := #[(.object "jdk/internal/misc/Unsafe"), .boolean, .int, .int, .int, .int, .int, .int, .int, .int, .int, .int, .int, .int, .int, .int, .int, .int, .int, (.object "jdk/internal/access/JavaLangAccess"), .int]
  resolved := Array.replicate 378 none
  statics := none }

def pool22 : Array CpInfo := pool [(6, .class_ 8), (1, u "java/lang/Object"), (0, u "<init>"), (0, u "()V"), (1, .class_ 14), (1, u "java/lang/StringUTF16"), (31, u "$assertionsDisabled"), (0, u "Z"), (13, u "HI_BYTE_SHIFT"), (0, u "I"), (2, u "LO_BYTE_SHIFT"), (49, .methodref 12 116), (0, .nameAndType 117 118), (0, u "compress"), (0, u "([CI[BII)I"), (3, u "([CII)[B"), (138, u "coderFromArrayLen"), (0, u "([BI)B"), (106, .class_ 371), (1, u "java/lang/StringUTF16$LinesSpliterator"), (58, u "MAX_LENGTH"), (196, .class_ 628), (0, u "java/lang/StringUTF16$CodePointsSpliterator"), (0, .class_ 630), (0, u "java/lang/StringUTF16$CharsSpliterator")] 4

def k22m0 : Method := { name := "<init>", desc := "()V", sig := { parameters := [], returnType := none }, accessFlags := 0, code := none }
def k22c1 : Code := { maxStack := 2, maxLocals := 2, code := jdk_52_method_15_code, exceptionTable := #[], attributes := #[] }
def k22m1 : Method := { name := "coderFromArrayLen", desc := "([BI)B", sig := { parameters := [(.array .byte), .int], returnType := some .byte }, accessFlags := 8, code := some k22c1 }
def k22c2 : Code := { maxStack := 5, maxLocals := 6, code := jdk_52_method_16_code, exceptionTable := #[], attributes := #[] }
def k22m2 : Method := { name := "compress", desc := "([CII)[B", sig := { parameters := [(.array .char), .int, .int], returnType := some (.array .byte) }, accessFlags := 9, code := some k22c2 }
def k22c3 : Code := { maxStack := 3, maxLocals := 7, code := jdk_52_method_21_code, exceptionTable := #[], attributes := #[] }
def k22m3 : Method := { name := "compress", desc := "([CI[BII)I", sig := { parameters := [(.array .char), .int, (.array .byte), .int, .int], returnType := some .int }, accessFlags := 9, code := some k22c3 }
/-- java/lang/StringUTF16 -/
def k22 : Class := { plain "java/lang/StringUTF16" (some 0) with
  accessFlags := 48
  interfaces := #[]
  cf := some (fileOf pool22 12 #[.nestMembers #[627, 629, 369]] #[{ accessFlags := 0, nameIndex := 9, descriptorIndex := 10, attributes := #[] }, { accessFlags := 8, nameIndex := 261, descriptorIndex := 262, attributes := #[] }, { accessFlags := 9, nameIndex := 117, descriptorIndex := 122, attributes := #[] }, { accessFlags := 9, nameIndex := 117, descriptorIndex := 118, attributes := #[] }] 48 6 #[] #[{ accessFlags := 26, nameIndex := 61, descriptorIndex := 62, attributes := #[] }, { accessFlags := 26, nameIndex := 65, descriptorIndex := 62, attributes := #[] }, { accessFlags := 24, nameIndex := 430, descriptorIndex := 62, attributes := #[] }, { accessFlags := 4120, nameIndex := 46, descriptorIndex := 47, attributes := #[] }])
  fields := #[{ name := "HI_BYTE_SHIFT", type := .int, accessFlags := 26, slot := 0, constantValue := 0 }, { name := "LO_BYTE_SHIFT", type := .int, accessFlags := 26, slot := 1, constantValue := 0 }, { name := "MAX_LENGTH", type := .int, accessFlags := 24, slot := 2, constantValue := 0 }, { name := "$assertionsDisabled", type := .boolean, accessFlags := 4120, slot := 3, constantValue := 0 }]
  methods := #[k22m0, k22m1, k22m2, k22m3]
  instanceTypes := #[]
  staticTypes := #[.int, .int, .int, .boolean]
  resolved := Array.replicate 635 none
  statics := none }

def pool23 : Array CpInfo := pool [(1, .class_ 2), (0, u "java/lang/Cloneable"), (0, .class_ 4), (0, u "java/lang/Object")] 2

/-- java/lang/Cloneable -/
def k23 : Class := { plain "java/lang/Cloneable" (some 0) with
  accessFlags := 1537
  interfaces := #[]
  cf := some (fileOf pool23 1 #[] #[] 1537 3 #[] #[])
  fields := #[]
  methods := #[]
  instanceTypes := #[]
  staticTypes := #[]
  resolved := Array.replicate 7 none
  statics := none }

def pool24 : Array CpInfo := pool [(2, .class_ 4), (1, u "java/lang/Object"), (0, u "<init>"), (0, u "()V"), (12, .class_ 20), (0, u "java/util/Collections"), (63, u "r"), (0, u "Ljava/util/Random;"), (80, .class_ 167), (0, u "java/util/Collections$UnmodifiableCollection"), (6, .class_ 175), (0, u "java/util/Collections$UnmodifiableSequencedCollection"), (6, .class_ 183), (0, u "java/util/Collections$UnmodifiableSet"), (6, .class_ 191), (0, u "java/util/Collections$UnmodifiableSequencedSet"), (6, .class_ 199), (0, u "java/util/Collections$UnmodifiableSortedSet"), (6, .class_ 207), (0, u "java/util/Collections$UnmodifiableNavigableSet"), (4, .class_ 213), (0, u "java/util/Collections$UnmodifiableList"), (1, .class_ 216), (0, u "java/util/Collections$UnmodifiableRandomAccessList"), (6, .class_ 224), (0, u "java/util/Collections$UnmodifiableMap"), (6, .class_ 232), (0, u "java/util/Collections$UnmodifiableSequencedMap"), (4, .class_ 238), (0, u "java/util/Collections$UnmodifiableSortedMap"), (6, .class_ 246), (0, u "java/util/Collections$UnmodifiableNavigableMap"), (3, .class_ 251), (0, u "java/util/Collections$SynchronizedCollection"), (4, .class_ 257), (0, u "java/util/Collections$SynchronizedSet"), (4, .class_ 263), (0, u "java/util/Collections$SynchronizedSortedSet"), (1, .class_ 266), (0, u "java/util/Collections$SynchronizedNavigableSet"), (1, .class_ 269), (0, u "java/util/Collections$SynchronizedRandomAccessList"), (1, .class_ 272), (0, u "java/util/Collections$SynchronizedList"), (5, .class_ 279), (0, u "java/util/Collections$SynchronizedMap"), (1, .class_ 282), (0, u "java/util/Collections$SynchronizedSortedMap"), (1, .class_ 285), (0, u "java/util/Collections$SynchronizedNavigableMap"), (1, .class_ 288), (0, u "java/util/Collections$CheckedCollection"), (11, .class_ 301), (0, u "java/util/Collections$CheckedQueue"), (3, .class_ 306), (0, u "java/util/Collections$CheckedSet"), (3, .class_ 311), (0, u "java/util/Collections$CheckedSortedSet"), (3, .class_ 316), (0, u "java/util/Collections$CheckedNavigableSet"), (3, .class_ 321), (0, u "java/util/Collections$CheckedRandomAccessList"), (3, .class_ 326), (0, u "java/util/Collections$CheckedList"), (1, .class_ 329), (0, u "java/util/Collections$CheckedMap"), (3, .class_ 334), (0, u "java/util/Collections$CheckedSortedMap"), (3, .class_ 339), (0, u "java/util/Collections$CheckedNavigableMap"), (4, .class_ 346), (1, u "java/util/Collections$EmptyIterator"), (3, .class_ 352), (1, u "java/util/Collections$EmptyListIterator"), (2, .class_ 357), (1, u "java/util/Collections$EmptyEnumeration"), (4, u "EMPTY_SET"), (0, u "Ljava/util/Set;"), (6, u "EMPTY_LIST"), (0, u "Ljava/util/List;"), (2, u "EMPTY_MAP"), (0, u "Ljava/util/Map;"), (4, .class_ 381), (0, u "java/util/Collections$SingletonSet"), (2, .class_ 385), (0, u "java/util/Collections$1"), (1, .class_ 388), (0, u "java/util/Collections$2"), (1, .class_ 391), (0, u "java/util/Collections$SingletonList"), (1, .class_ 394), (0, u "java/util/Collections$SingletonMap"), (22, .class_ 418), (0, u "java/util/Collections$CopiesList"), (4, .class_ 425), (1, u "java/util/Collections$ReverseComparator"), (8, .class_ 435), (0, u "java/util/Collections$ReverseComparator2"), (6, .class_ 443), (0, u "java/util/Collections$3"), (25, .class_ 470), (0, u "java/util/Collections$SetFromMap"), (2, .class_ 474), (0, u "java/util/Collections$SequencedSetFromMap"), (3, .class_ 479), (0, u "java/util/Collections$AsLIFOQueue"), (11, .class_ 492), (0, u "java/util/Collections$EmptySet"), (1, .class_ 495), (0, u "java/util/Collections$EmptyList"), (1, .class_ 498), (0, u "java/util/Collections$EmptyMap"), (1, u "BINARYSEARCH_THRESHOLD"), (0, u "I"), (2, u "REVERSE_THRESHOLD"), (1, u "SHUFFLE_THRESHOLD"), (1, u "FILL_THRESHOLD"), (1, u "ROTATE_THRESHOLD"), (1, u "COPY_THRESHOLD"), (1, u "REPLACEALL_THRESHOLD"), (1, u "INDEXOFSUBLIST_THRESHOLD"), (333, .class_ 851), (0, u "java/util/Collections$CheckedMap$CheckedEntrySet"), (0, .class_ 853), (0, u "java/util/Collections$CheckedMap$CheckedEntrySet$CheckedEntry"), (0, .class_ 855), (0, u "java/util/Collections$CheckedMap$CheckedEntrySet$1"), (0, .class_ 857), (0, u "java/util/Collections$CheckedList$1"), (0, .class_ 859), (0, u "java/util/Collections$CheckedCollection$1"), (0, .class_ 861), (0, u "java/util/Collections$UnmodifiableNavigableMap$EmptyNavigableMap"), (0, .class_ 863), (0, u "java/util/Collections$UnmodifiableMap$UnmodifiableEntrySet"), (0, .class_ 865), (0, u "java/util/Collections$UnmodifiableMap$UnmodifiableEntrySet$UnmodifiableEntry"), (0, .class_ 867), (0, u "java/util/Collections$UnmodifiableMap$UnmodifiableEntrySet$UnmodifiableEntrySetSpliterator"), (0, .class_ 869), (0, u "java/util/Collections$UnmodifiableMap$UnmodifiableEntrySet$1"), (0, .class_ 871), (0, u "java/util/Collections$UnmodifiableList$1"), (0, .class_ 873), (0, u "java/util/Collections$UnmodifiableNavigableSet$EmptyNavigableSet"), (0, .class_ 875), (0, u "java/util/Collections$UnmodifiableCollection$1")] 57

def k24m0 : Method := { name := "<init>", desc := "()V", sig := { parameters := [], returnType := none }, accessFlags := 2, code := none }
/-- java/util/Collections -/
def k24 : Class := { plain "java/util/Collections" (some 0) with
  accessFlags := 33
  interfaces := #[]
  cf := some (fileOf pool24 19 #[.nestMembers #[478, 473, 469, 434, 423, 417, 393, 390, 380, 497, 494, 491, 355, 350, 344, 338, 333, 328, 850, 852, 854, 320, 325, 856, 315, 310, 305, 300, 287, 858, 284, 281, 278, 268, 271, 265, 262, 256, 250, 245, 860, 237, 231, 223, 862, 864, 866, 868, 215, 212, 870, 206, 872, 198, 190, 182, 174, 166, 874, 442, 387, 384]] #[{ accessFlags := 2, nameIndex := 5, descriptorIndex := 6, attributes := #[] }] 33 2 #[] #[{ accessFlags := 26, nameIndex := 500, descriptorIndex := 501, attributes := #[] }, { accessFlags := 26, nameIndex := 504, descriptorIndex := 501, attributes := #[] }, { accessFlags := 26, nameIndex := 506, descriptorIndex := 501, attributes := #[] }, { accessFlags := 26, nameIndex := 508, descriptorIndex := 501, attributes := #[] }, { accessFlags := 26, nameIndex := 510, descriptorIndex := 501, attributes := #[] }, { accessFlags := 26, nameIndex := 512, descriptorIndex := 501, attributes := #[] }, { accessFlags := 26, nameIndex := 514, descriptorIndex := 501, attributes := #[] }, { accessFlags := 26, nameIndex := 516, descriptorIndex := 501, attributes := #[] }, { accessFlags := 10, nameIndex := 84, descriptorIndex := 85, attributes := #[] }, { accessFlags := 25, nameIndex := 362, descriptorIndex := 363, attributes := #[] }, { accessFlags := 25, nameIndex := 370, descriptorIndex := 371, attributes := #[] }, { accessFlags := 25, nameIndex := 374, descriptorIndex := 375, attributes := #[] }])
  fields := #[{ name := "BINARYSEARCH_THRESHOLD", type := .int, accessFlags := 26, slot := 0, constantValue := 0 }, { name := "REVERSE_THRESHOLD", type := .int, accessFlags := 26, slot := 1, constantValue := 0 }, { name := "SHUFFLE_THRESHOLD", type := .int, accessFlags := 26, slot := 2, constantValue := 0 }, { name := "FILL_THRESHOLD", type := .int, accessFlags := 26, slot := 3, constantValue := 0 }, { name := "ROTATE_THRESHOLD", type := .int, accessFlags := 26, slot := 4, constantValue := 0 }, { name := "COPY_THRESHOLD", type := .int, accessFlags := 26, slot := 5, constantValue := 0 }, { name := "REPLACEALL_THRESHOLD", type := .int, accessFlags := 26, slot := 6, constantValue := 0 }, { name := "INDEXOFSUBLIST_THRESHOLD", type := .int, accessFlags := 26, slot := 7, constantValue := 0 }, { name := "r", type := (.object "java/util/Random"), accessFlags := 10, slot := 8, constantValue := 0 }, { name := "EMPTY_SET", type := (.object "java/util/Set"), accessFlags := 25, slot := 9, constantValue := 0 }, { name := "EMPTY_LIST", type := (.object "java/util/List"), accessFlags := 25, slot := 10, constantValue := 0 }, { name := "EMPTY_MAP", type := (.object "java/util/Map"), accessFlags := 25, slot := 11, constantValue := 0 }]
  methods := #[k24m0]
  instanceTypes := #[]
  staticTypes := #[.int, .int, .int, .int, .int, .int, .int, .int, (.object "java/util/Random"), (.object "java/util/Set"), (.object "java/util/List"), (.object "java/util/Map")]
  resolved := Array.replicate 933 none
  statics := some 4 }

def pool25 : Array CpInfo := pool [(8, .class_ 10), (1, u "java/lang/Iterable"), (24, .class_ 36), (0, u "java/lang/Object")] 25

/-- java/lang/Iterable -/
def k25 : Class := { plain "java/lang/Iterable" (some 0) with
  accessFlags := 1537
  interfaces := #[]
  cf := some (fileOf pool25 8 #[] #[] 1537 35 #[] #[])
  fields := #[]
  methods := #[]
  instanceTypes := #[]
  staticTypes := #[]
  resolved := Array.replicate 62 none
  statics := none }

def pool26 : Array CpInfo := pool [(10, .class_ 12), (1, u "java/util/Collection"), (47, .class_ 61), (0, u "java/lang/Object"), (0, .class_ 63), (0, u "java/lang/Iterable")] 51

/-- java/util/Collection -/
def k26 : Class := { plain "java/util/Collection" (some 0) with
  accessFlags := 1537
  interfaces := #[25]
  cf := some (fileOf pool26 10 #[] #[] 1537 60 #[62] #[])
  fields := #[]
  methods := #[]
  instanceTypes := #[]
  staticTypes := #[]
  resolved := Array.replicate 115 none
  statics := none }

def pool27 : Array CpInfo := pool [(2, .class_ 4), (1, u "java/lang/Object"), (0, u "<init>"), (0, u "()V"), (1, .class_ 10), (1, u "java/util/AbstractCollection"), (66, .class_ 78), (0, u "java/util/Collection")] 81

def k27m0 : Method := { name := "<init>", desc := "()V", sig := { parameters := [], returnType := none }, accessFlags := 4, code := none }
/-- java/util/AbstractCollection -/
def k27 : Class := { plain "java/util/AbstractCollection" (some 0) with
  accessFlags := 1057
  interfaces := #[26]
  cf := some (fileOf pool27 8 #[] #[{ accessFlags := 4, nameIndex := 5, descriptorIndex := 6, attributes := #[] }] 1057 2 #[77] #[])
  fields := #[]
  methods := #[k27m0]
  instanceTypes := #[]
  staticTypes := #[]
  resolved := Array.replicate 160 none
  statics := none }

def pool28 : Array CpInfo := pool [(8, .class_ 10), (1, u "java/util/SequencedCollection"), (15, .class_ 27), (0, u "java/lang/Object"), (0, .class_ 29), (0, u "java/util/Collection")] 27

/-- java/util/SequencedCollection -/
def k28 : Class := { plain "java/util/SequencedCollection" (some 0) with
  accessFlags := 1537
  interfaces := #[26]
  cf := some (fileOf pool28 8 #[] #[] 1537 26 #[28] #[])
  fields := #[]
  methods := #[]
  instanceTypes := #[]
  staticTypes := #[]
  resolved := Array.replicate 57 none
  statics := none }

def pool29 : Array CpInfo := pool [(8, .class_ 10), (1, u "java/util/List"), (92, .class_ 104), (0, u "java/lang/Object"), (15, .class_ 121), (0, u "java/util/SequencedCollection")] 129

/-- java/util/List -/
def k29 : Class := { plain "java/util/List" (some 0) with
  accessFlags := 1537
  interfaces := #[28]
  cf := some (fileOf pool29 8 #[] #[] 1537 103 #[120] #[])
  fields := #[]
  methods := #[]
  instanceTypes := #[]
  staticTypes := #[]
  resolved := Array.replicate 251 none
  statics := none }

def pool30 : Array CpInfo := pool [(2, .class_ 4), (1, u "java/util/AbstractCollection"), (0, u "<init>"), (0, u "()V"), (1, .class_ 10), (1, u "java/util/AbstractList"), (0, u "modCount"), (0, u "I"), (64, .class_ 78), (0, u "java/util/AbstractList$Itr"), (3, .class_ 83), (0, u "java/util/AbstractList$ListItr"), (9, .class_ 94), (0, u "java/util/AbstractList$RandomAccessSubList"), (3, .class_ 99), (0, u "java/util/AbstractList$SubList"), (33, .class_ 134), (0, u "java/util/List"), (73, .class_ 209), (0, u "java/util/AbstractList$SubList$1"), (0, .class_ 211), (0, u "java/util/AbstractList$RandomAccessSpliterator")] 6

def k30m0 : Method := { name := "<init>", desc := "()V", sig := { parameters := [], returnType := none }, accessFlags := 4, code := none }
/-- java/util/AbstractList -/
def k30 : Class := { plain "java/util/AbstractList" (some 27) with
  accessFlags := 1057
  interfaces := #[29]
  cf := some (fileOf pool30 8 #[.nestMembers #[93, 98, 208, 210, 82, 77]] #[{ accessFlags := 4, nameIndex := 5, descriptorIndex := 6, attributes := #[] }] 1057 2 #[133] #[{ accessFlags := 132, nameIndex := 11, descriptorIndex := 12, attributes := #[] }])
  fields := #[{ name := "modCount", type := .int, accessFlags := 132, slot := 0, constantValue := 0 }]
  methods := #[k30m0]
  instanceTypes := #[.int]
  staticTypes := #[]
  resolved := Array.replicate 218 none
  statics := none }

def pool31 : Array CpInfo := pool [(1, .class_ 2), (0, u "java/util/RandomAccess"), (0, .class_ 4), (0, u "java/lang/Object")] 2

/-- java/util/RandomAccess -/
def k31 : Class := { plain "java/util/RandomAccess" (some 0) with
  accessFlags := 1537
  interfaces := #[]
  cf := some (fileOf pool31 1 #[] #[] 1537 3 #[] #[])
  fields := #[]
  methods := #[]
  instanceTypes := #[]
  staticTypes := #[]
  resolved := Array.replicate 7 none
  statics := none }

def pool32 : Array CpInfo := pool [(2, .class_ 4), (1, u "java/util/AbstractList"), (0, u "<init>"), (0, u "()V"), (1, .class_ 10), (1, u "java/util/Collections"), (54, .class_ 66), (0, u "java/util/Collections$EmptyList"), (0, .class_ 68), (0, u "java/util/RandomAccess"), (0, .class_ 70), (0, u "java/io/Serializable"), (0, u "serialVersionUID"), (0, u "J")] 77

def k32m0 : Method := { name := "<init>", desc := "()V", sig := { parameters := [], returnType := none }, accessFlags := 2, code := none }
/-- java/util/Collections$EmptyList -/
def k32 : Class := { plain "java/util/Collections$EmptyList" (some 30) with
  accessFlags := 32
  interfaces := #[31, 2]
  cf := some (fileOf pool32 65 #[.nestHost 8] #[{ accessFlags := 2, nameIndex := 5, descriptorIndex := 6, attributes := #[] }] 32 2 #[67, 69] #[{ accessFlags := 26, nameIndex := 71, descriptorIndex := 72, attributes := #[] }])
  fields := #[{ name := "serialVersionUID", type := .long, accessFlags := 26, slot := 0, constantValue := 0 }]
  methods := #[k32m0]
  instanceTypes := #[.int]
  staticTypes := #[.long]
  resolved := Array.replicate 150 none
  statics := none }

def pool33 : Array CpInfo := pool [(2, .class_ 4), (1, u "java/lang/StackTraceElement"), (0, u "<init>"), (2, .class_ 10), (1, u "java/lang/Object"), (0, u "()V"), (2, u "format"), (0, u "B"), (2, u "classLoaderName"), (0, u "Ljava/lang/String;"), (2, u "moduleName"), (2, u "moduleVersion"), (12, u "declaringClass"), (4, u "methodName"), (2, u "fileName"), (2, u "lineNumber"), (0, u "I"), (65, u "declaringClassObject"), (0, u "Ljava/lang/Class;"), (33, .class_ 153), (1, u "java/lang/StackTraceElement$HashedModules"), (17, .class_ 172), (0, u "java/io/Serializable"), (0, u "NATIVE_METHOD"), (1, u "UNKNOWN_SOURCE"), (2, u "BUILTIN_CLASS_LOADER"), (1, u "JDK_NON_UPGRADEABLE_MODULE"), (1, u "serialVersionUID"), (0, u "J")] 51

def k33m0 : Method := { name := "<init>", desc := "()V", sig := { parameters := [], returnType := none }, accessFlags := 2, code := none }
/-- java/lang/StackTraceElement -/
def k33 : Class := { plain "java/lang/StackTraceElement" (some 0) with
  accessFlags := 49
  interfaces := #[2]
  cf := some (fileOf pool33 2 #[.nestMembers #[151]] #[{ accessFlags := 2, nameIndex := 5, descriptorIndex := 11, attributes := #[] }] 49 8 #[171] #[{ accessFlags := 26, nameIndex := 173, descriptorIndex := 19, attributes := #[] }, { accessFlags := 26, nameIndex := 175, descriptorIndex := 19, attributes := #[] }, { accessFlags := 130, nameIndex := 116, descriptorIndex := 117, attributes := #[] }, { accessFlags := 2, nameIndex := 18, descriptorIndex := 19, attributes := #[] }, { accessFlags := 2, nameIndex := 22, descriptorIndex := 19, attributes := #[] }, { accessFlags := 2, nameIndex := 25, descriptorIndex := 19, attributes := #[] }, { accessFlags := 2, nameIndex := 38, descriptorIndex := 19, attributes := #[] }, { accessFlags := 2, nameIndex := 43, descriptorIndex := 19, attributes := #[] }, { accessFlags := 2, nameIndex := 46, descriptorIndex := 19, attributes := #[] }, { accessFlags := 2, nameIndex := 49, descriptorIndex := 50, attributes := #[] }, { accessFlags := 2, nameIndex := 14, descriptorIndex := 15, attributes := #[] }, { accessFlags := 26, nameIndex := 178, descriptorIndex := 15, attributes := #[] }, { accessFlags := 26, nameIndex := 180, descriptorIndex := 15, attributes := #[] }, { accessFlags := 26, nameIndex := 182, descriptorIndex := 183, attributes := #[] }])
  fields := #[{ name := "NATIVE_METHOD", type := (.object "java/lang/String"), accessFlags := 26, slot := 0, constantValue := 0 }, { name := "UNKNOWN_SOURCE", type := (.object "java/lang/String"), accessFlags := 26, slot := 1, constantValue := 0 }, { name := "declaringClassObject", type := (.object "java/lang/Class"), accessFlags := 130, slot := 0, constantValue := 0 }, { name := "classLoaderName", type := (.object "java/lang/String"), accessFlags := 2, slot := 1, constantValue := 0 }, { name := "moduleName", type := (.object "java/lang/String"), accessFlags := 2, slot := 2, constantValue := 0 }, { name := "moduleVersion", type := (.object "java/lang/String"), accessFlags := 2, slot := 3, constantValue := 0 }, { name := "declaringClass", type := (.object "java/lang/String"), accessFlags := 2, slot := 4, constantValue := 0 }, { name := "methodName", type := (.object "java/lang/String"), accessFlags := 2, slot := 5, constantValue := 0 }, { name := "fileName", type := (.object "java/lang/String"), accessFlags := 2, slot := 6, constantValue := 0 }, { name := "lineNumber", type := .int, accessFlags := 2, slot := 7, constantValue := 0 }, { name := "format", type := .byte, accessFlags := 2, slot := 8, constantValue := 0 }, { name := "BUILTIN_CLASS_LOADER", type := .byte, accessFlags := 26, slot := 2, constantValue := 0 }, { name := "JDK_NON_UPGRADEABLE_MODULE", type := .byte, accessFlags := 26, slot := 3, constantValue := 0 }, { name := "serialVersionUID", type := .long, accessFlags := 26, slot := 4, constantValue := 0 }]
  methods := #[k33m0]
  instanceTypes := #[(.object "java/lang/Class"), (.object "java/lang/String"), (.object "java/lang/String"), (.object "java/lang/String"), (.object "java/lang/String"), (.object "java/lang/String"), (.object "java/lang/String"), .int, .byte]
  staticTypes := #[(.object "java/lang/String"), (.object "java/lang/String"), .byte, .byte, .long]
  resolved := Array.replicate 235 none
  statics := none }

/-- the primitive byte -/
def k34 : Class := { plain "byte" none with kind := .primitive 'B', accessFlags := 0x411 }
/-- [B -/
def k35 : Class := { plain "[B" (some 0) with kind := .array 34 .byte, interfaces := #[23, 2], accessFlags := 1041 }

/-- the primitive char -/
def k36 : Class := { plain "char" none with kind := .primitive 'C', accessFlags := 0x411 }
/-- [C -/
def k37 : Class := { plain "[C" (some 0) with kind := .array 36 .char, interfaces := #[23, 2], accessFlags := 1041 }

/-- the primitive int -/
def k38 : Class := { plain "int" none with kind := .primitive 'I', accessFlags := 0x411 }
/-- [I -/
def k39 : Class := { plain "[I" (some 0) with kind := .array 38 .int, interfaces := #[23, 2], accessFlags := 1041 }

/-- [Ljava/lang/Object; -/
def k40 : Class := { plain "[Ljava/lang/Object;" (some 0) with kind := .array 0 (.object "java/lang/Object"), interfaces := #[23, 2], accessFlags := 1041 }

/-- [Ljava/lang/StackTraceElement; -/
def k41 : Class := { plain "[Ljava/lang/StackTraceElement;" (some 0) with kind := .array 33 (.object "java/lang/StackTraceElement"), interfaces := #[23, 2], accessFlags := 1041 }

/-- [Ljava/lang/Throwable; -/
def k42 : Class := { plain "[Ljava/lang/Throwable;" (some 0) with kind := .array 8 (.object "java/lang/Throwable"), interfaces := #[23, 2], accessFlags := 1041 }

def heap : Heap := #[{ cls := 7, slots := #[.long 0, .int 1, .null, .int 0, .null, .int 0, .int 0], vm := .statics 7 },
  { cls := 8, slots := #[.long 0, .ref 7, .ref 8, .null, .null, .null, .null, .ref 9, .int 1], vm := .statics 8 },
  { cls := 18, slots := #[.null, .null, .null], vm := .statics 18 },
  { cls := 20, slots := #[.int 0, .int 0, .null, .null, .ref 6, .ref 5, .int 0, .int 0, .long 0], vm := .statics 20 },
  { cls := 24, slots := #[.int 0, .int 0, .int 0, .int 0, .int 0, .int 0, .int 0, .int 0, .null, .null, .ref 8, .null], vm := .statics 24 },
  { cls := 35, slots := #[.int 48, .int 49, .int 50, .int 51, .int 52, .int 53, .int 54, .int 55, .int 56, .int 57, .int 48, .int 49, .int 50, .int 51, .int 52, .int 53, .int 54, .int 55, .int 56, .int 57, .int 48, .int 49, .int 50, .int 51, .int 52, .int 53, .int 54, .int 55, .int 56, .int 57, .int 48, .int 49, .int 50, .int 51, .int 52, .int 53, .int 54, .int 55, .int 56, .int 57, .int 48, .int 49, .int 50, .int 51, .int 52, .int 53, .int 54, .int 55, .int 56, .int 57, .int 48, .int 49, .int 50, .int 51, .int 52, .int 53, .int 54, .int 55, .int 56, .int 57, .int 48, .int 49, .int 50, .int 51, .int 52, .int 53, .int 54, .int 55, .int 56, .int 57, .int 48, .int 49, .int 50, .int 51, .int 52, .int 53, .int 54, .int 55, .int 56, .int 57, .int 48, .int 49, .int 50, .int 51, .int 52, .int 53, .int 54, .int 55, .int 56, .int 57, .int 48, .int 49, .int 50, .int 51, .int 52, .int 53, .int 54, .int 55, .int 56, .int 57], vm := .none },
  { cls := 35, slots := #[.int 48, .int 48, .int 48, .int 48, .int 48, .int 48, .int 48, .int 48, .int 48, .int 48, .int 49, .int 49, .int 49, .int 49, .int 49, .int 49, .int 49, .int 49, .int 49, .int 49, .int 50, .int 50, .int 50, .int 50, .int 50, .int 50, .int 50, .int 50, .int 50, .int 50, .int 51, .int 51, .int 51, .int 51, .int 51, .int 51, .int 51, .int 51, .int 51, .int 51, .int 52, .int 52, .int 52, .int 52, .int 52, .int 52, .int 52, .int 52, .int 52, .int 52, .int 53, .int 53, .int 53, .int 53, .int 53, .int 53, .int 53, .int 53, .int 53, .int 53, .int 54, .int 54, .int 54, .int 54, .int 54, .int 54, .int 54, .int 54, .int 54, .int 54, .int 55, .int 55, .int 55, .int 55, .int 55, .int 55, .int 55, .int 55, .int 55, .int 55, .int 56, .int 56, .int 56, .int 56, .int 56, .int 56, .int 56, .int 56, .int 56, .int 56, .int 57, .int 57, .int 57, .int 57, .int 57, .int 57, .int 57, .int 57, .int 57, .int 57], vm := .none },
  { cls := 41, slots := #[], vm := .none },
  { cls := 32, slots := #[.int 0], vm := .none },
  { cls := 42, slots := #[], vm := .none }]
def classes : Array Class := #[k0, k1, k2, k3, k4, k5, k6, k7, k8, k9, k10, k11, k12, k13, k14, k15, k16, k17, k18, k19, k20, k21, k22, k23, k24, k25, k26, k27, k28, k29, k30, k31, k32, k33, k34, k35, k36, k37, k38, k39, k40, k41, k42]
def interned : List (Array UInt16 × Addr) := []
def slotsUsed : Nat := 241
def theMethod : MethodId := ⟨1, 1⟩
def args0 : Array Value := #[.int 123, .int 13, .int 65, .int 66, .int 67]
def aboutOver (below : List Frame) : State where
  vm := { classes := classes, interned := interned.toArray }
  heap := heap
  slotsUsed := slotsUsed
  threads := #[{ frames := .invoking theMethod args0 :: below }]
def below0 : List Frame := [.native { method := ⟨0, 0⟩, args := #[] }]
def about1 : State := aboutOver below0
def p0 : Program := .bare "" "" ""
def e0 : Env := launch0.env 0 0 0
theorem w_frames : about1.frames = Frame.invoking theMethod args0 :: below0 := rfl
set_option maxRecDepth 65536 in
theorem w_args : argsFit about1.vm theMethod args0 = true := by decide +kernel
set_option maxRecDepth 65536 in
theorem w_heap : heapFits about1 = true := by decide +kernel
set_option maxRecDepth 65536 in
theorem w_runnable : about1.curStatus? = some .runnable := by decide +kernel
set_option maxRecDepth 65536 in
theorem w_alone : about1.alone = true := by decide +kernel
set_option maxRecDepth 65536 in
theorem w_named : about1.methodNamed? x = some theMethod := by decide +kernel
set_option maxRecDepth 65536 in
theorem w_hears : about1.hears theMethod below0 = true := by decide +kernel
set_option maxRecDepth 65536 in
theorem w_ripe : about1.ripe theMethod args0 below0 = true := by decide +kernel
theorem w_running : about1.status = .running := rfl
set_option maxRecDepth 65536 in
theorem w_room : about1.hasRoom e0.platform room_1 = true :=
  launch0.hasRoom_least _ room_1 (by decide +kernel) (by decide +kernel) (by decide +kernel) (by decide +kernel) (by decide +kernel) (by decide +kernel)
theorem allAtoms_all (ts : List Jvm.Cond) (a : Array Jvm.Value) (st : Jvm.State) : (allAtoms ts).before a st = ts.all (fun c => c.before a st) := by
  induction ts with
  | nil => rfl
  | cons c t ih =>
    show (Jvm.Cond.and c (allAtoms t)).before a st = _
    rw [Jvm.Cond.before_and, ih, List.all_cons]
def words1 : List Jvm.Cond := Jvm.Cond.code x code maxLocals ret :: tables_1
/-- a 'code' word, met by the world's own term for the bytes: nothing is compared byte by byte -/
theorem code_word {y : MethodName} {bytes : ByteArray} {mx : Nat} {rt : Option FieldType} {a : Array Value} {s : State} {m : MethodId} {meth : Method} {c : Code} (h1 : s.methodNamed? y = some m) (h2 : s.vm.method? m = some meth) (h3 : meth.code = some c) (h4 : c.code = bytes)
    (h5 : (c.maxLocals == mx && c.exceptionTable.isEmpty && decide (c.maxStack ≤ mostOperands) && decide (meth.sig.returnType = rt) && !meth.locks && decide (parseMethodDescriptor y.desc = some meth.sig)) = true) : (Jvm.Cond.code y bytes mx rt).before a s = true := by
  simp only [Bool.and_eq_true, beq_iff_eq, Bool.not_eq_true', decide_eq_true_eq] at h5
  obtain ⟨⟨⟨⟨⟨g1, g2⟩, g3⟩, g4⟩, g5⟩, g6⟩ := h5
  simp [Cond.before, Cond.holds, Cond.value, h1, h2, h3, h4, g1, g2, g3, g4, g5, g6]
def isCode : Jvm.Cond → Bool
  | .code _ _ _ _ => true
  | _ => false
theorem all_split {L : List Jvm.Cond} {P : Jvm.Cond → Bool} (h1 : L.all (fun c => isCode c || P c) = true) (h2 : ∀ c ∈ L.filter isCode, P c = true) : L.all P = true := by
  refine List.all_eq_true.mpr fun c hc => ?_
  have h := List.all_eq_true.mp h1 c hc
  rcases Bool.eq_false_or_eq_true (isCode c) with hi | hi
  · exact h2 c (List.mem_filter.mpr ⟨hc, hi⟩)
  · simpa [hi] using h
set_option maxRecDepth 65536 in
theorem w_c0 : (Jvm.Cond.code x code maxLocals ret).before args0 about1 = true := code_word (m := ⟨1, 1⟩) (meth := k1m1) (c := k1c1) (by decide +kernel) rfl rfl rfl (by decide +kernel)
set_option maxRecDepth 65536 in
theorem w_c1 : (Jvm.Cond.code ({ cls := "com/example/parkville/parkville/QueryException", name := "<init>", desc := "(ILjava/lang/String;)V" } : Jvm.MethodName) prog_20_method_1_code (3 : Nat) (Option.none : Option Jvm.ClassFile.FieldType)).before args0 about1 = true := code_word (m := ⟨10, 0⟩) (meth := k10m0) (c := k10c0) (by decide +kernel) rfl rfl rfl (by decide +kernel)
set_option maxRecDepth 65536 in
theorem w_c2 : (Jvm.Cond.code ({ cls := "java/lang/Exception", name := "<init>", desc := "(Ljava/lang/String;)V" } : Jvm.MethodName) jdk_59_method_2_code (2 : Nat) (Option.none : Option Jvm.ClassFile.FieldType)).before args0 about1 = true := code_word (m := ⟨9, 1⟩) (meth := k9m1) (c := k9c1) (by decide +kernel) rfl rfl rfl (by decide +kernel)
set_option maxRecDepth 65536 in
theorem w_c3 : (Jvm.Cond.code ({ cls := "java/lang/Throwable", name := "<init>", desc := "(Ljava/lang/String;)V" } : Jvm.MethodName) jdk_78_method_2_code (2 : Nat) (Option.none : Option Jvm.ClassFile.FieldType)).before args0 about1 = true := code_word (m := ⟨8, 1⟩) (meth := k8m1) (c := k8c1) (by decide +kernel) rfl rfl rfl (by decide +kernel)
set_option maxRecDepth 65536 in
theorem w_c4 : (Jvm.Cond.code ({ cls := "java/lang/Object", name := "<init>", desc := "()V" } : Jvm.MethodName) object_method_1_code (1 : Nat) (Option.none : Option Jvm.ClassFile.FieldType)).before args0 about1 = true := code_word (m := ⟨0, 0⟩) (meth := k0m0) (c := k0c0) (by decide +kernel) rfl rfl rfl (by decide +kernel)
set_option maxRecDepth 65536 in
theorem w_c5 : (Jvm.Cond.code ({ cls := "java/lang/Throwable", name := "<init>", desc := "()V" } : Jvm.MethodName) jdk_78_method_1_code (1 : Nat) (Option.none : Option Jvm.ClassFile.FieldType)).before args0 about1 = true := code_word (m := ⟨8, 0⟩) (meth := k8m0) (c := k8c0) (by decide +kernel) rfl rfl rfl (by decide +kernel)
set_option maxRecDepth 65536 in
theorem w_c6 : (Jvm.Cond.code ({ cls := "com/example/parkville/parkville/QueryException", name := "report", desc := "()Ljava/lang/String;" } : Jvm.MethodName) prog_20_method_4_code (1 : Nat) (Option.some (Jvm.ClassFile.FieldType.object "java/lang/String"))).before args0 about1 = true := code_word (m := ⟨10, 1⟩) (meth := k10m1) (c := k10c1) (by decide +kernel) rfl rfl rfl (by decide +kernel)
set_option maxRecDepth 65536 in
theorem w_c7 : (Jvm.Cond.code ({ cls := "java/lang/StringBuilder", name := "<init>", desc := "()V" } : Jvm.MethodName) jdk_67_method_1_code (1 : Nat) (Option.none : Option Jvm.ClassFile.FieldType)).before args0 about1 = true := code_word (m := ⟨13, 0⟩) (meth := k13m0) (c := k13c0) (by decide +kernel) rfl rfl rfl (by decide +kernel)
set_option maxRecDepth 65536 in
theorem w_c8 : (Jvm.Cond.code ({ cls := "java/lang/AbstractStringBuilder", name := "<init>", desc := "(I)V" } : Jvm.MethodName) jdk_68_method_2_code (2 : Nat) (Option.none : Option Jvm.ClassFile.FieldType)).before args0 about1 = true := code_word (m := ⟨12, 1⟩) (meth := k12m1) (c := k12c1) (by decide +kernel) rfl rfl rfl (by decide +kernel)
set_option maxRecDepth 65536 in
theorem w_c9 : (Jvm.Cond.code ({ cls := "java/lang/StringBuilder", name := "append", desc := "(Ljava/lang/String;)Ljava/lang/StringBuilder;" } : Jvm.MethodName) jdk_67_method_7_code (2 : Nat) (Option.some (Jvm.ClassFile.FieldType.object "java/lang/StringBuilder"))).before args0 about1 = true := code_word (m := ⟨13, 1⟩) (meth := k13m1) (c := k13c1) (by decide +kernel) rfl rfl rfl (by decide +kernel)
set_option maxRecDepth 65536 in
theorem w_c10 : (Jvm.Cond.code ({ cls := "java/lang/AbstractStringBuilder", name := "append", desc := "(Ljava/lang/String;)Ljava/lang/AbstractStringBuilder;" } : Jvm.MethodName) jdk_68_method_22_code (3 : Nat) (Option.some (Jvm.ClassFile.FieldType.object "java/lang/AbstractStringBuilder"))).before args0 about1 = true := code_word (m := ⟨12, 5⟩) (meth := k12m5) (c := k12c5) (by decide +kernel) rfl rfl rfl (by decide +kernel)
set_option maxRecDepth 65536 in
theorem w_c11 : (Jvm.Cond.code ({ cls := "java/lang/String", name := "length", desc := "()I" } : Jvm.MethodName) jdk_42_method_54_code (1 : Nat) (Option.some Jvm.ClassFile.FieldType.int)).before args0 about1 = true := code_word (m := ⟨7, 3⟩) (meth := k7m3) (c := k7c3) (by decide +kernel) rfl rfl rfl (by decide +kernel)
set_option maxRecDepth 65536 in
theorem w_c12 : (Jvm.Cond.code ({ cls := "java/lang/String", name := "coder", desc := "()B" } : Jvm.MethodName) jdk_42_method_152_code (1 : Nat) (Option.some Jvm.ClassFile.FieldType.byte)).before args0 about1 = true := code_word (m := ⟨7, 10⟩) (meth := k7m10) (c := k7c10) (by decide +kernel) rfl rfl rfl (by decide +kernel)
set_option maxRecDepth 65536 in
theorem w_c13 : (Jvm.Cond.code ({ cls := "java/lang/AbstractStringBuilder", name := "ensureCapacityInternal", desc := "(I)V" } : Jvm.MethodName) jdk_68_method_9_code (3 : Nat) (Option.none : Option Jvm.ClassFile.FieldType)).before args0 about1 = true := code_word (m := ⟨12, 3⟩) (meth := k12m3) (c := k12c3) (by decide +kernel) rfl rfl rfl (by decide +kernel)
set_option maxRecDepth 65536 in
theorem w_c14 : (Jvm.Cond.code ({ cls := "java/lang/AbstractStringBuilder", name := "putStringAt", desc := "(ILjava/lang/String;)V" } : Jvm.MethodName) jdk_68_method_73_code (3 : Nat) (Option.none : Option Jvm.ClassFile.FieldType)).before args0 about1 = true := code_word (m := ⟨12, 10⟩) (meth := k12m10) (c := k12c10) (by decide +kernel) rfl rfl rfl (by decide +kernel)
set_option maxRecDepth 65536 in
theorem w_c15 : (Jvm.Cond.code ({ cls := "java/lang/AbstractStringBuilder", name := "inflateIfNeededFor", desc := "(Ljava/lang/String;)V" } : Jvm.MethodName) jdk_68_method_71_code (2 : Nat) (Option.none : Option Jvm.ClassFile.FieldType)).before args0 about1 = true := code_word (m := ⟨12, 9⟩) (meth := k12m9) (c := k12c9) (by decide +kernel) rfl rfl rfl (by decide +kernel)
set_option maxRecDepth 65536 in
theorem w_c16 : (Jvm.Cond.code ({ cls := "java/lang/String", name := "getBytes", desc := "([BIB)V" } : Jvm.MethodName) jdk_42_method_147_code (4 : Nat) (Option.none : Option Jvm.ClassFile.FieldType)).before args0 about1 = true := code_word (m := ⟨7, 6⟩) (meth := k7m6) (c := k7c6) (by decide +kernel) rfl rfl rfl (by decide +kernel)
set_option maxRecDepth 65536 in
theorem w_c17 : (Jvm.Cond.code ({ cls := "java/lang/Throwable", name := "getMessage", desc := "()Ljava/lang/String;" } : Jvm.MethodName) jdk_78_method_6_code (1 : Nat) (Option.some (Jvm.ClassFile.FieldType.object "java/lang/String"))).before args0 about1 = true := code_word (m := ⟨8, 2⟩) (meth := k8m2) (c := k8c2) (by decide +kernel) rfl rfl rfl (by decide +kernel)
set_option maxRecDepth 65536 in
theorem w_c18 : (Jvm.Cond.code ({ cls := "java/lang/StringBuilder", name := "toString", desc := "()Ljava/lang/String;" } : Jvm.MethodName) jdk_67_method_42_code (1 : Nat) (Option.some (Jvm.ClassFile.FieldType.object "java/lang/String"))).before args0 about1 = true := code_word (m := ⟨13, 3⟩) (meth := k13m3) (c := k13c3) (by decide +kernel) rfl rfl rfl (by decide +kernel)
set_option maxRecDepth 65536 in
theorem w_c19 : (Jvm.Cond.code ({ cls := "java/lang/String", name := "<init>", desc := "(Ljava/lang/StringBuilder;)V" } : Jvm.MethodName) jdk_42_method_53_code (2 : Nat) (Option.none : Option Jvm.ClassFile.FieldType)).before args0 about1 = true := code_word (m := ⟨7, 2⟩) (meth := k7m2) (c := k7c2) (by decide +kernel) rfl rfl rfl (by decide +kernel)
set_option maxRecDepth 65536 in
theorem w_c20 : (Jvm.Cond.code ({ cls := "java/lang/String", name := "<init>", desc := "(Ljava/lang/AbstractStringBuilder;Ljava/lang/Void;)V" } : Jvm.MethodName) jdk_42_method_150_code (5 : Nat) (Option.none : Option Jvm.ClassFile.FieldType)).before args0 about1 = true := code_word (m := ⟨7, 8⟩) (meth := k7m8) (c := k7c8) (by decide +kernel) rfl rfl rfl (by decide +kernel)
set_option maxRecDepth 65536 in
theorem w_c21 : (Jvm.Cond.code ({ cls := "java/lang/AbstractStringBuilder", name := "getValue", desc := "()[B" } : Jvm.MethodName) jdk_68_method_64_code (1 : Nat) (Option.some (Jvm.ClassFile.FieldType.array Jvm.ClassFile.FieldType.byte))).before args0 about1 = true := code_word (m := ⟨12, 7⟩) (meth := k12m7) (c := k12c7) (by decide +kernel) rfl rfl rfl (by decide +kernel)
set_option maxRecDepth 65536 in
theorem w_c22 : (Jvm.Cond.code ({ cls := "java/lang/StringBuilder", name := "length", desc := "()I" } : Jvm.MethodName) jdk_67_method_93_code (1 : Nat) (Option.some Jvm.ClassFile.FieldType.int)).before args0 about1 = true := code_word (m := ⟨13, 4⟩) (meth := k13m4) (c := k13c4) (by decide +kernel) rfl rfl rfl (by decide +kernel)
set_option maxRecDepth 65536 in
theorem w_c23 : (Jvm.Cond.code ({ cls := "java/lang/AbstractStringBuilder", name := "length", desc := "()I" } : Jvm.MethodName) jdk_68_method_6_code (1 : Nat) (Option.some Jvm.ClassFile.FieldType.int)).before args0 about1 = true := code_word (m := ⟨12, 2⟩) (meth := k12m2) (c := k12c2) (by decide +kernel) rfl rfl rfl (by decide +kernel)
set_option maxRecDepth 65536 in
theorem w_c24 : (Jvm.Cond.code ({ cls := "java/lang/AbstractStringBuilder", name := "isLatin1", desc := "()Z" } : Jvm.MethodName) jdk_68_method_68_code (1 : Nat) (Option.some Jvm.ClassFile.FieldType.boolean)).before args0 about1 = true := code_word (m := ⟨12, 8⟩) (meth := k12m8) (c := k12c8) (by decide +kernel) rfl rfl rfl (by decide +kernel)
set_option maxRecDepth 65536 in
theorem w_c25 : (Jvm.Cond.code ({ cls := "java/util/Arrays", name := "copyOfRange", desc := "([BII)[B" } : Jvm.MethodName) jdk_65_method_132_code (3 : Nat) (Option.some (Jvm.ClassFile.FieldType.array Jvm.ClassFile.FieldType.byte))).before args0 about1 = true := code_word (m := ⟨15, 3⟩) (meth := k15m3) (c := k15c3) (by decide +kernel) rfl rfl rfl (by decide +kernel)
set_option maxRecDepth 65536 in
theorem w_c26 : (Jvm.Cond.code ({ cls := "java/util/Arrays", name := "copyOfRangeByte", desc := "([BII)[B" } : Jvm.MethodName) jdk_65_method_133_code (5 : Nat) (Option.some (Jvm.ClassFile.FieldType.array Jvm.ClassFile.FieldType.byte))).before args0 about1 = true := code_word (m := ⟨15, 4⟩) (meth := k15m4) (c := k15c4) (by decide +kernel) rfl rfl rfl (by decide +kernel)
set_option maxRecDepth 65536 in
theorem w_c27 : (Jvm.Cond.code ({ cls := "java/util/Arrays", name := "checkLength", desc := "(II)V" } : Jvm.MethodName) jdk_65_method_131_code (2 : Nat) (Option.none : Option Jvm.ClassFile.FieldType)).before args0 about1 = true := code_word (m := ⟨15, 2⟩) (meth := k15m2) (c := k15c2) (by decide +kernel) rfl rfl rfl (by decide +kernel)
set_option maxRecDepth 65536 in
theorem w_c28 : (Jvm.Cond.code ({ cls := "java/lang/Math", name := "min", desc := "(II)I" } : Jvm.MethodName) jdk_29_method_69_code (2 : Nat) (Option.some Jvm.ClassFile.FieldType.int)).before args0 about1 = true := code_word (m := ⟨16, 2⟩) (meth := k16m2) (c := k16c2) (by decide +kernel) rfl rfl rfl (by decide +kernel)
set_option maxRecDepth 65536 in
theorem w_c29 : (Jvm.Cond.code ({ cls := "com/example/parkville/parkville/QueryExceptionReportPinLaw", name := "chk8", desc := "(Ljava/lang/String;IIIICCC)Z" } : Jvm.MethodName) method_3_code (8 : Nat) (Option.some Jvm.ClassFile.FieldType.boolean)).before args0 about1 = true := code_word (m := ⟨1, 2⟩) (meth := k1m2) (c := k1c2) (by decide +kernel) rfl rfl rfl (by decide +kernel)
set_option maxRecDepth 65536 in
theorem w_c30 : (Jvm.Cond.code ({ cls := "com/example/parkville/parkville/QueryExceptionReportPinLaw", name := "at", desc := "(Ljava/lang/String;IIIICCC)Z" } : Jvm.MethodName) method_4_code (8 : Nat) (Option.some Jvm.ClassFile.FieldType.boolean)).before args0 about1 = true := code_word (m := ⟨1, 3⟩) (meth := k1m3) (c := k1c3) (by decide +kernel) rfl rfl rfl (by decide +kernel)
set_option maxRecDepth 65536 in
theorem w_c31 : (Jvm.Cond.code ({ cls := "java/lang/String", name := "charAt", desc := "(I)C" } : Jvm.MethodName) jdk_42_method_56_code (2 : Nat) (Option.some Jvm.ClassFile.FieldType.char)).before args0 about1 = true := code_word (m := ⟨7, 4⟩) (meth := k7m4) (c := k7c4) (by decide +kernel) rfl rfl rfl (by decide +kernel)
set_option maxRecDepth 65536 in
theorem w_c32 : (Jvm.Cond.code ({ cls := "java/lang/String", name := "isLatin1", desc := "()Z" } : Jvm.MethodName) jdk_42_method_154_code (1 : Nat) (Option.some Jvm.ClassFile.FieldType.boolean)).before args0 about1 = true := code_word (m := ⟨7, 11⟩) (meth := k7m11) (c := k7c11) (by decide +kernel) rfl rfl rfl (by decide +kernel)
set_option maxRecDepth 65536 in
theorem w_c33 : (Jvm.Cond.code ({ cls := "java/lang/StringLatin1", name := "charAt", desc := "([BI)C" } : Jvm.MethodName) jdk_43_method_2_code (2 : Nat) (Option.some Jvm.ClassFile.FieldType.char)).before args0 about1 = true := code_word (m := ⟨17, 1⟩) (meth := k17m1) (c := k17c1) (by decide +kernel) rfl rfl rfl (by decide +kernel)
set_option maxRecDepth 65536 in
theorem w_c34 : (Jvm.Cond.code ({ cls := "java/lang/String", name := "checkIndex", desc := "(II)V" } : Jvm.MethodName) jdk_42_method_155_code (2 : Nat) (Option.none : Option Jvm.ClassFile.FieldType)).before args0 about1 = true := code_word (m := ⟨7, 12⟩) (meth := k7m12) (c := k7c12) (by decide +kernel) rfl rfl rfl (by decide +kernel)
set_option maxRecDepth 65536 in
theorem w_c35 : (Jvm.Cond.code ({ cls := "jdk/internal/util/Preconditions", name := "checkIndex", desc := "(IILjava/util/function/BiFunction;)I" } : Jvm.MethodName) jdk_41_method_11_code (3 : Nat) (Option.some Jvm.ClassFile.FieldType.int)).before args0 about1 = true := code_word (m := ⟨18, 1⟩) (meth := k18m1) (c := k18c1) (by decide +kernel) rfl rfl rfl (by decide +kernel)
set_option maxRecDepth 65536 in
theorem w_c36 : (Jvm.Cond.code ({ cls := "com/example/parkville/parkville/QueryExceptionReportPinLaw", name := "exp", desc := "(IIICCC)C" } : Jvm.MethodName) method_5_code (7 : Nat) (Option.some Jvm.ClassFile.FieldType.char)).before args0 about1 = true := code_word (m := ⟨1, 4⟩) (meth := k1m4) (c := k1c4) (by decide +kernel) rfl rfl rfl (by decide +kernel)
set_option maxRecDepth 65536 in
theorem w_c37 : (Jvm.Cond.code ({ cls := "java/lang/String", name := "valueOf", desc := "(C)Ljava/lang/String;" } : Jvm.MethodName) jdk_42_method_139_code (1 : Nat) (Option.some (Jvm.ClassFile.FieldType.object "java/lang/String"))).before args0 about1 = true := code_word (m := ⟨7, 5⟩) (meth := k7m5) (c := k7c5) (by decide +kernel) rfl rfl rfl (by decide +kernel)
set_option maxRecDepth 65536 in
theorem w_c38 : (Jvm.Cond.code ({ cls := "java/lang/StringLatin1", name := "canEncode", desc := "(C)Z" } : Jvm.MethodName) jdk_43_method_3_code (1 : Nat) (Option.some Jvm.ClassFile.FieldType.boolean)).before args0 about1 = true := code_word (m := ⟨17, 2⟩) (meth := k17m2) (c := k17c2) (by decide +kernel) rfl rfl rfl (by decide +kernel)
set_option maxRecDepth 65536 in
theorem w_c39 : (Jvm.Cond.code ({ cls := "java/lang/StringLatin1", name := "toBytes", desc := "(C)[B" } : Jvm.MethodName) jdk_43_method_46_code (1 : Nat) (Option.some (Jvm.ClassFile.FieldType.array Jvm.ClassFile.FieldType.byte))).before args0 about1 = true := code_word (m := ⟨17, 3⟩) (meth := k17m3) (c := k17c3) (by decide +kernel) rfl rfl rfl (by decide +kernel)
set_option maxRecDepth 65536 in
theorem w_c40 : (Jvm.Cond.code ({ cls := "java/lang/String", name := "<init>", desc := "([BB)V" } : Jvm.MethodName) jdk_42_method_151_code (3 : Nat) (Option.none : Option Jvm.ClassFile.FieldType)).before args0 about1 = true := code_word (m := ⟨7, 9⟩) (meth := k7m9) (c := k7c9) (by decide +kernel) rfl rfl rfl (by decide +kernel)
set_option maxRecDepth 65536 in
theorem w_c41 : (Jvm.Cond.code ({ cls := "com/example/parkville/parkville/QueryExceptionReportPinLaw", name := "rc", desc := "(ICCC)C" } : Jvm.MethodName) method_6_code (4 : Nat) (Option.some Jvm.ClassFile.FieldType.char)).before args0 about1 = true := code_word (m := ⟨1, 5⟩) (meth := k1m5) (c := k1c5) (by decide +kernel) rfl rfl rfl (by decide +kernel)
set_option maxRecDepth 65536 in
theorem w_c42 : (Jvm.Cond.code ({ cls := "java/lang/StringBuilder", name := "append", desc := "(I)Ljava/lang/StringBuilder;" } : Jvm.MethodName) jdk_67_method_15_code (2 : Nat) (Option.some (Jvm.ClassFile.FieldType.object "java/lang/StringBuilder"))).before args0 about1 = true := code_word (m := ⟨13, 2⟩) (meth := k13m2) (c := k13c2) (by decide +kernel) rfl rfl rfl (by decide +kernel)
set_option maxRecDepth 65536 in
theorem w_c43 : (Jvm.Cond.code ({ cls := "java/lang/AbstractStringBuilder", name := "append", desc := "(I)Ljava/lang/AbstractStringBuilder;" } : Jvm.MethodName) jdk_68_method_32_code (4 : Nat) (Option.some (Jvm.ClassFile.FieldType.object "java/lang/AbstractStringBuilder"))).before args0 about1 = true := code_word (m := ⟨12, 6⟩) (meth := k12m6) (c := k12c6) (by decide +kernel) rfl rfl rfl (by decide +kernel)
set_option maxRecDepth 65536 in
theorem w_c44 : (Jvm.Cond.code ({ cls := "java/lang/Integer", name := "stringSize", desc := "(I)I" } : Jvm.MethodName) jdk_33_method_13_code (4 : Nat) (Option.some Jvm.ClassFile.FieldType.int)).before args0 about1 = true := code_word (m := ⟨20, 1⟩) (meth := k20m1) (c := k20c1) (by decide +kernel) rfl rfl rfl (by decide +kernel)
set_option maxRecDepth 65536 in
theorem w_c45 : (Jvm.Cond.code ({ cls := "java/lang/Integer", name := "getChars", desc := "(II[B)I" } : Jvm.MethodName) jdk_33_method_12_code (7 : Nat) (Option.some Jvm.ClassFile.FieldType.int)).before args0 about1 = true := code_word (m := ⟨20, 0⟩) (meth := k20m0) (c := k20c0) (by decide +kernel) rfl rfl rfl (by decide +kernel)
set_option maxRecDepth 65536 in
theorem w_c46 : (Jvm.Cond.code ({ cls := "java/lang/AbstractStringBuilder", name := "newCapacity", desc := "(I)I" } : Jvm.MethodName) jdk_68_method_10_code (6 : Nat) (Option.some Jvm.ClassFile.FieldType.int)).before args0 about1 = true := code_word (m := ⟨12, 4⟩) (meth := k12m4) (c := k12c4) (by decide +kernel) rfl rfl rfl (by decide +kernel)
set_option maxRecDepth 65536 in
theorem w_c47 : (Jvm.Cond.code ({ cls := "jdk/internal/util/ArraysSupport", name := "newLength", desc := "(III)I" } : Jvm.MethodName) jdk_48_method_27_code (4 : Nat) (Option.some Jvm.ClassFile.FieldType.int)).before args0 about1 = true := code_word (m := ⟨21, 1⟩) (meth := k21m1) (c := k21c1) (by decide +kernel) rfl rfl rfl (by decide +kernel)
set_option maxRecDepth 65536 in
theorem w_c48 : (Jvm.Cond.code ({ cls := "java/lang/Math", name := "max", desc := "(II)I" } : Jvm.MethodName) jdk_29_method_65_code (2 : Nat) (Option.some Jvm.ClassFile.FieldType.int)).before args0 about1 = true := code_word (m := ⟨16, 1⟩) (meth := k16m1) (c := k16c1) (by decide +kernel) rfl rfl rfl (by decide +kernel)
set_option maxRecDepth 65536 in
theorem w_c49 : (Jvm.Cond.code ({ cls := "java/util/Arrays", name := "copyOf", desc := "([BI)[B" } : Jvm.MethodName) jdk_65_method_121_code (3 : Nat) (Option.some (Jvm.ClassFile.FieldType.array Jvm.ClassFile.FieldType.byte))).before args0 about1 = true := code_word (m := ⟨15, 1⟩) (meth := k15m1) (c := k15c1) (by decide +kernel) rfl rfl rfl (by decide +kernel)
set_option maxRecDepth 65536 in
theorem w_c50 : (Jvm.Cond.code ({ cls := "com/example/parkville/parkville/QueryExceptionReportPinLaw", name := "digits", desc := "(I)I" } : Jvm.MethodName) method_7_code (1 : Nat) (Option.some Jvm.ClassFile.FieldType.int)).before args0 about1 = true := code_word (m := ⟨1, 6⟩) (meth := k1m6) (c := k1c6) (by decide +kernel) rfl rfl rfl (by decide +kernel)
set_option maxRecDepth 65536 in
theorem w_c51 : (Jvm.Cond.code ({ cls := "com/example/parkville/parkville/QueryExceptionReportPinLaw", name := "pow10", desc := "(I)I" } : Jvm.MethodName) method_8_code (2 : Nat) (Option.some Jvm.ClassFile.FieldType.int)).before args0 about1 = true := code_word (m := ⟨1, 7⟩) (meth := k1m7) (c := k1c7) (by decide +kernel) rfl rfl rfl (by decide +kernel)
set_option maxRecDepth 65536 in
theorem w_c52 : (Jvm.Cond.code ({ cls := "java/lang/String", name := "<init>", desc := "([C)V" } : Jvm.MethodName) jdk_42_method_3_code (2 : Nat) (Option.none : Option Jvm.ClassFile.FieldType)).before args0 about1 = true := code_word (m := ⟨7, 1⟩) (meth := k7m1) (c := k7c1) (by decide +kernel) rfl rfl rfl (by decide +kernel)
set_option maxRecDepth 65536 in
theorem w_c53 : (Jvm.Cond.code ({ cls := "java/lang/String", name := "<init>", desc := "([CIILjava/lang/Void;)V" } : Jvm.MethodName) jdk_42_method_149_code (6 : Nat) (Option.none : Option Jvm.ClassFile.FieldType)).before args0 about1 = true := code_word (m := ⟨7, 7⟩) (meth := k7m7) (c := k7c7) (by decide +kernel) rfl rfl rfl (by decide +kernel)
set_option maxRecDepth 65536 in
theorem w_c54 : (Jvm.Cond.code ({ cls := "java/lang/StringUTF16", name := "compress", desc := "([CII)[B" } : Jvm.MethodName) jdk_52_method_16_code (6 : Nat) (Option.some (Jvm.ClassFile.FieldType.array Jvm.ClassFile.FieldType.byte))).before args0 about1 = true := code_word (m := ⟨22, 2⟩) (meth := k22m2) (c := k22c2) (by decide +kernel) rfl rfl rfl (by decide +kernel)
set_option maxRecDepth 65536 in
theorem w_c55 : (Jvm.Cond.code ({ cls := "java/lang/StringUTF16", name := "compress", desc := "([CI[BII)I" } : Jvm.MethodName) jdk_52_method_21_code (7 : Nat) (Option.some Jvm.ClassFile.FieldType.int)).before args0 about1 = true := code_word (m := ⟨22, 3⟩) (meth := k22m3) (c := k22c3) (by decide +kernel) rfl rfl rfl (by decide +kernel)
set_option maxRecDepth 65536 in
theorem w_c56 : (Jvm.Cond.code ({ cls := "java/lang/StringUTF16", name := "coderFromArrayLen", desc := "([BI)B" } : Jvm.MethodName) jdk_52_method_15_code (2 : Nat) (Option.some Jvm.ClassFile.FieldType.byte)).before args0 about1 = true := code_word (m := ⟨22, 1⟩) (meth := k22m1) (c := k22c1) (by decide +kernel) rfl rfl rfl (by decide +kernel)
def codes1 : List Jvm.Cond := [Jvm.Cond.code x code maxLocals ret, Jvm.Cond.code ({ cls := "com/example/parkville/parkville/QueryException", name := "<init>", desc := "(ILjava/lang/String;)V" } : Jvm.MethodName) prog_20_method_1_code (3 : Nat) (Option.none : Option Jvm.ClassFile.FieldType), Jvm.Cond.code ({ cls := "java/lang/Exception", name := "<init>", desc := "(Ljava/lang/String;)V" } : Jvm.MethodName) jdk_59_method_2_code (2 : Nat) (Option.none : Option Jvm.ClassFile.FieldType), Jvm.Cond.code ({ cls := "java/lang/Throwable", name := "<init>", desc := "(Ljava/lang/String;)V" } : Jvm.MethodName) jdk_78_method_2_code (2 : Nat) (Option.none : Option Jvm.ClassFile.FieldType), Jvm.Cond.code ({ cls := "java/lang/Object", name := "<init>", desc := "()V" } : Jvm.MethodName) object_method_1_code (1 : Nat) (Option.none : Option Jvm.ClassFile.FieldType), Jvm.Cond.code ({ cls := "java/lang/Throwable", name := "<init>", desc := "()V" } : Jvm.MethodName) jdk_78_method_1_code (1 : Nat) (Option.none : Option Jvm.ClassFile.FieldType), Jvm.Cond.code ({ cls := "com/example/parkville/parkville/QueryException", name := "report", desc := "()Ljava/lang/String;" } : Jvm.MethodName) prog_20_method_4_code (1 : Nat) (Option.some (Jvm.ClassFile.FieldType.object "java/lang/String")), Jvm.Cond.code ({ cls := "java/lang/StringBuilder", name := "<init>", desc := "()V" } : Jvm.MethodName) jdk_67_method_1_code (1 : Nat) (Option.none : Option Jvm.ClassFile.FieldType), Jvm.Cond.code ({ cls := "java/lang/AbstractStringBuilder", name := "<init>", desc := "(I)V" } : Jvm.MethodName) jdk_68_method_2_code (2 : Nat) (Option.none : Option Jvm.ClassFile.FieldType), Jvm.Cond.code ({ cls := "java/lang/StringBuilder", name := "append", desc := "(Ljava/lang/String;)Ljava/lang/StringBuilder;" } : Jvm.MethodName) jdk_67_method_7_code (2 : Nat) (Option.some (Jvm.ClassFile.FieldType.object "java/lang/StringBuilder")), Jvm.Cond.code ({ cls := "java/lang/AbstractStringBuilder", name := "append", desc := "(Ljava/lang/String;)Ljava/lang/AbstractStringBuilder;" } : Jvm.MethodName) jdk_68_method_22_code (3 : Nat) (Option.some (Jvm.ClassFile.FieldType.object "java/lang/AbstractStringBuilder")), Jvm.Cond.code ({ cls := "java/lang/String", name := "length", desc := "()I" } : Jvm.MethodName) jdk_42_method_54_code (1 : Nat) (Option.some Jvm.ClassFile.FieldType.int), Jvm.Cond.code ({ cls := "java/lang/String", name := "coder", desc := "()B" } : Jvm.MethodName) jdk_42_method_152_code (1 : Nat) (Option.some Jvm.ClassFile.FieldType.byte), Jvm.Cond.code ({ cls := "java/lang/AbstractStringBuilder", name := "ensureCapacityInternal", desc := "(I)V" } : Jvm.MethodName) jdk_68_method_9_code (3 : Nat) (Option.none : Option Jvm.ClassFile.FieldType), Jvm.Cond.code ({ cls := "java/lang/AbstractStringBuilder", name := "putStringAt", desc := "(ILjava/lang/String;)V" } : Jvm.MethodName) jdk_68_method_73_code (3 : Nat) (Option.none : Option Jvm.ClassFile.FieldType), Jvm.Cond.code ({ cls := "java/lang/AbstractStringBuilder", name := "inflateIfNeededFor", desc := "(Ljava/lang/String;)V" } : Jvm.MethodName) jdk_68_method_71_code (2 : Nat) (Option.none : Option Jvm.ClassFile.FieldType), Jvm.Cond.code ({ cls := "java/lang/String", name := "getBytes", desc := "([BIB)V" } : Jvm.MethodName) jdk_42_method_147_code (4 : Nat) (Option.none : Option Jvm.ClassFile.FieldType), Jvm.Cond.code ({ cls := "java/lang/Throwable", name := "getMessage", desc := "()Ljava/lang/String;" } : Jvm.MethodName) jdk_78_method_6_code (1 : Nat) (Option.some (Jvm.ClassFile.FieldType.object "java/lang/String")), Jvm.Cond.code ({ cls := "java/lang/StringBuilder", name := "toString", desc := "()Ljava/lang/String;" } : Jvm.MethodName) jdk_67_method_42_code (1 : Nat) (Option.some (Jvm.ClassFile.FieldType.object "java/lang/String")), Jvm.Cond.code ({ cls := "java/lang/String", name := "<init>", desc := "(Ljava/lang/StringBuilder;)V" } : Jvm.MethodName) jdk_42_method_53_code (2 : Nat) (Option.none : Option Jvm.ClassFile.FieldType), Jvm.Cond.code ({ cls := "java/lang/String", name := "<init>", desc := "(Ljava/lang/AbstractStringBuilder;Ljava/lang/Void;)V" } : Jvm.MethodName) jdk_42_method_150_code (5 : Nat) (Option.none : Option Jvm.ClassFile.FieldType), Jvm.Cond.code ({ cls := "java/lang/AbstractStringBuilder", name := "getValue", desc := "()[B" } : Jvm.MethodName) jdk_68_method_64_code (1 : Nat) (Option.some (Jvm.ClassFile.FieldType.array Jvm.ClassFile.FieldType.byte)), Jvm.Cond.code ({ cls := "java/lang/StringBuilder", name := "length", desc := "()I" } : Jvm.MethodName) jdk_67_method_93_code (1 : Nat) (Option.some Jvm.ClassFile.FieldType.int), Jvm.Cond.code ({ cls := "java/lang/AbstractStringBuilder", name := "length", desc := "()I" } : Jvm.MethodName) jdk_68_method_6_code (1 : Nat) (Option.some Jvm.ClassFile.FieldType.int), Jvm.Cond.code ({ cls := "java/lang/AbstractStringBuilder", name := "isLatin1", desc := "()Z" } : Jvm.MethodName) jdk_68_method_68_code (1 : Nat) (Option.some Jvm.ClassFile.FieldType.boolean), Jvm.Cond.code ({ cls := "java/util/Arrays", name := "copyOfRange", desc := "([BII)[B" } : Jvm.MethodName) jdk_65_method_132_code (3 : Nat) (Option.some (Jvm.ClassFile.FieldType.array Jvm.ClassFile.FieldType.byte)), Jvm.Cond.code ({ cls := "java/util/Arrays", name := "copyOfRangeByte", desc := "([BII)[B" } : Jvm.MethodName) jdk_65_method_133_code (5 : Nat) (Option.some (Jvm.ClassFile.FieldType.array Jvm.ClassFile.FieldType.byte)), Jvm.Cond.code ({ cls := "java/util/Arrays", name := "checkLength", desc := "(II)V" } : Jvm.MethodName) jdk_65_method_131_code (2 : Nat) (Option.none : Option Jvm.ClassFile.FieldType), Jvm.Cond.code ({ cls := "java/lang/Math", name := "min", desc := "(II)I" } : Jvm.MethodName) jdk_29_method_69_code (2 : Nat) (Option.some Jvm.ClassFile.FieldType.int), Jvm.Cond.code ({ cls := "com/example/parkville/parkville/QueryExceptionReportPinLaw", name := "chk8", desc := "(Ljava/lang/String;IIIICCC)Z" } : Jvm.MethodName) method_3_code (8 : Nat) (Option.some Jvm.ClassFile.FieldType.boolean), Jvm.Cond.code ({ cls := "com/example/parkville/parkville/QueryExceptionReportPinLaw", name := "at", desc := "(Ljava/lang/String;IIIICCC)Z" } : Jvm.MethodName) method_4_code (8 : Nat) (Option.some Jvm.ClassFile.FieldType.boolean), Jvm.Cond.code ({ cls := "java/lang/String", name := "charAt", desc := "(I)C" } : Jvm.MethodName) jdk_42_method_56_code (2 : Nat) (Option.some Jvm.ClassFile.FieldType.char), Jvm.Cond.code ({ cls := "java/lang/String", name := "isLatin1", desc := "()Z" } : Jvm.MethodName) jdk_42_method_154_code (1 : Nat) (Option.some Jvm.ClassFile.FieldType.boolean), Jvm.Cond.code ({ cls := "java/lang/StringLatin1", name := "charAt", desc := "([BI)C" } : Jvm.MethodName) jdk_43_method_2_code (2 : Nat) (Option.some Jvm.ClassFile.FieldType.char), Jvm.Cond.code ({ cls := "java/lang/String", name := "checkIndex", desc := "(II)V" } : Jvm.MethodName) jdk_42_method_155_code (2 : Nat) (Option.none : Option Jvm.ClassFile.FieldType), Jvm.Cond.code ({ cls := "jdk/internal/util/Preconditions", name := "checkIndex", desc := "(IILjava/util/function/BiFunction;)I" } : Jvm.MethodName) jdk_41_method_11_code (3 : Nat) (Option.some Jvm.ClassFile.FieldType.int), Jvm.Cond.code ({ cls := "com/example/parkville/parkville/QueryExceptionReportPinLaw", name := "exp", desc := "(IIICCC)C" } : Jvm.MethodName) method_5_code (7 : Nat) (Option.some Jvm.ClassFile.FieldType.char), Jvm.Cond.code ({ cls := "java/lang/String", name := "valueOf", desc := "(C)Ljava/lang/String;" } : Jvm.MethodName) jdk_42_method_139_code (1 : Nat) (Option.some (Jvm.ClassFile.FieldType.object "java/lang/String")), Jvm.Cond.code ({ cls := "java/lang/StringLatin1", name := "canEncode", desc := "(C)Z" } : Jvm.MethodName) jdk_43_method_3_code (1 : Nat) (Option.some Jvm.ClassFile.FieldType.boolean), Jvm.Cond.code ({ cls := "java/lang/StringLatin1", name := "toBytes", desc := "(C)[B" } : Jvm.MethodName) jdk_43_method_46_code (1 : Nat) (Option.some (Jvm.ClassFile.FieldType.array Jvm.ClassFile.FieldType.byte)), Jvm.Cond.code ({ cls := "java/lang/String", name := "<init>", desc := "([BB)V" } : Jvm.MethodName) jdk_42_method_151_code (3 : Nat) (Option.none : Option Jvm.ClassFile.FieldType), Jvm.Cond.code ({ cls := "com/example/parkville/parkville/QueryExceptionReportPinLaw", name := "rc", desc := "(ICCC)C" } : Jvm.MethodName) method_6_code (4 : Nat) (Option.some Jvm.ClassFile.FieldType.char), Jvm.Cond.code ({ cls := "java/lang/StringBuilder", name := "append", desc := "(I)Ljava/lang/StringBuilder;" } : Jvm.MethodName) jdk_67_method_15_code (2 : Nat) (Option.some (Jvm.ClassFile.FieldType.object "java/lang/StringBuilder")), Jvm.Cond.code ({ cls := "java/lang/AbstractStringBuilder", name := "append", desc := "(I)Ljava/lang/AbstractStringBuilder;" } : Jvm.MethodName) jdk_68_method_32_code (4 : Nat) (Option.some (Jvm.ClassFile.FieldType.object "java/lang/AbstractStringBuilder")), Jvm.Cond.code ({ cls := "java/lang/Integer", name := "stringSize", desc := "(I)I" } : Jvm.MethodName) jdk_33_method_13_code (4 : Nat) (Option.some Jvm.ClassFile.FieldType.int), Jvm.Cond.code ({ cls := "java/lang/Integer", name := "getChars", desc := "(II[B)I" } : Jvm.MethodName) jdk_33_method_12_code (7 : Nat) (Option.some Jvm.ClassFile.FieldType.int), Jvm.Cond.code ({ cls := "java/lang/AbstractStringBuilder", name := "newCapacity", desc := "(I)I" } : Jvm.MethodName) jdk_68_method_10_code (6 : Nat) (Option.some Jvm.ClassFile.FieldType.int), Jvm.Cond.code ({ cls := "jdk/internal/util/ArraysSupport", name := "newLength", desc := "(III)I" } : Jvm.MethodName) jdk_48_method_27_code (4 : Nat) (Option.some Jvm.ClassFile.FieldType.int), Jvm.Cond.code ({ cls := "java/lang/Math", name := "max", desc := "(II)I" } : Jvm.MethodName) jdk_29_method_65_code (2 : Nat) (Option.some Jvm.ClassFile.FieldType.int), Jvm.Cond.code ({ cls := "java/util/Arrays", name := "copyOf", desc := "([BI)[B" } : Jvm.MethodName) jdk_65_method_121_code (3 : Nat) (Option.some (Jvm.ClassFile.FieldType.array Jvm.ClassFile.FieldType.byte)), Jvm.Cond.code ({ cls := "com/example/parkville/parkville/QueryExceptionReportPinLaw", name := "digits", desc := "(I)I" } : Jvm.MethodName) method_7_code (1 : Nat) (Option.some Jvm.ClassFile.FieldType.int), Jvm.Cond.code ({ cls := "com/example/parkville/parkville/QueryExceptionReportPinLaw", name := "pow10", desc := "(I)I" } : Jvm.MethodName) method_8_code (2 : Nat) (Option.some Jvm.ClassFile.FieldType.int), Jvm.Cond.code ({ cls := "java/lang/String", name := "<init>", desc := "([C)V" } : Jvm.MethodName) jdk_42_method_3_code (2 : Nat) (Option.none : Option Jvm.ClassFile.FieldType), Jvm.Cond.code ({ cls := "java/lang/String", name := "<init>", desc := "([CIILjava/lang/Void;)V" } : Jvm.MethodName) jdk_42_method_149_code (6 : Nat) (Option.none : Option Jvm.ClassFile.FieldType), Jvm.Cond.code ({ cls := "java/lang/StringUTF16", name := "compress", desc := "([CII)[B" } : Jvm.MethodName) jdk_52_method_16_code (6 : Nat) (Option.some (Jvm.ClassFile.FieldType.array Jvm.ClassFile.FieldType.byte)), Jvm.Cond.code ({ cls := "java/lang/StringUTF16", name := "compress", desc := "([CI[BII)I" } : Jvm.MethodName) jdk_52_method_21_code (7 : Nat) (Option.some Jvm.ClassFile.FieldType.int), Jvm.Cond.code ({ cls := "java/lang/StringUTF16", name := "coderFromArrayLen", desc := "([BI)B" } : Jvm.MethodName) jdk_52_method_15_code (2 : Nat) (Option.some Jvm.ClassFile.FieldType.byte)]
set_option maxRecDepth 65536 in
theorem codes_eq : words1.filter isCode = codes1 := rfl
theorem w_codes : ∀ c ∈ words1.filter isCode, c.before args0 about1 = true := by
  rw [codes_eq]
  intro c hc
  simp only [codes1, List.mem_cons, List.not_mem_nil, or_false] at hc
  rcases hc with rfl | rfl | rfl | rfl | rfl | rfl | rfl | rfl | rfl | rfl | rfl | rfl | rfl | rfl | rfl | rfl | rfl | rfl | rfl | rfl | rfl | rfl | rfl | rfl | rfl | rfl | rfl | rfl | rfl | rfl | rfl | rfl | rfl | rfl | rfl | rfl | rfl | rfl | rfl | rfl | rfl | rfl | rfl | rfl | rfl | rfl | rfl | rfl | rfl | rfl | rfl | rfl | rfl | rfl | rfl | rfl | rfl
  · exact w_c0
  · exact w_c1
  · exact w_c2
  · exact w_c3
  · exact w_c4
  · exact w_c5
  · exact w_c6
  · exact w_c7
  · exact w_c8
  · exact w_c9
  · exact w_c10
  · exact w_c11
  · exact w_c12
  · exact w_c13
  · exact w_c14
  · exact w_c15
  · exact w_c16
  · exact w_c17
  · exact w_c18
  · exact w_c19
  · exact w_c20
  · exact w_c21
  · exact w_c22
  · exact w_c23
  · exact w_c24
  · exact w_c25
  · exact w_c26
  · exact w_c27
  · exact w_c28
  · exact w_c29
  · exact w_c30
  · exact w_c31
  · exact w_c32
  · exact w_c33
  · exact w_c34
  · exact w_c35
  · exact w_c36
  · exact w_c37
  · exact w_c38
  · exact w_c39
  · exact w_c40
  · exact w_c41
  · exact w_c42
  · exact w_c43
  · exact w_c44
  · exact w_c45
  · exact w_c46
  · exact w_c47
  · exact w_c48
  · exact w_c49
  · exact w_c50
  · exact w_c51
  · exact w_c52
  · exact w_c53
  · exact w_c54
  · exact w_c55
  · exact w_c56
set_option maxRecDepth 65536 in
theorem w_t1 : (words1.take 24).all (fun c => isCode c || c.before args0 about1) = true := by decide +kernel
set_option maxRecDepth 65536 in
theorem w_t2 : ((words1.drop 24).take 24).all (fun c => isCode c || c.before args0 about1) = true := by decide +kernel
set_option maxRecDepth 65536 in
theorem w_t3 : (((words1.drop 24).drop 24).take 24).all (fun c => isCode c || c.before args0 about1) = true := by decide +kernel
set_option maxRecDepth 65536 in
theorem w_t4 : ((((words1.drop 24).drop 24).drop 24).take 24).all (fun c => isCode c || c.before args0 about1) = true := by decide +kernel
set_option maxRecDepth 65536 in
theorem w_t5 : (((((words1.drop 24).drop 24).drop 24).drop 24).take 24).all (fun c => isCode c || c.before args0 about1) = true := by decide +kernel
set_option maxRecDepth 65536 in
theorem w_t6 : ((((((words1.drop 24).drop 24).drop 24).drop 24).drop 24).take 24).all (fun c => isCode c || c.before args0 about1) = true := by decide +kernel
set_option maxRecDepth 65536 in
theorem w_t7 : (((((((words1.drop 24).drop 24).drop 24).drop 24).drop 24).drop 24).take 24).all (fun c => isCode c || c.before args0 about1) = true := by decide +kernel
set_option maxRecDepth 65536 in
theorem w_t8 : ((((((((words1.drop 24).drop 24).drop 24).drop 24).drop 24).drop 24).drop 24).take 24).all (fun c => isCode c || c.before args0 about1) = true := by decide +kernel
set_option maxRecDepth 65536 in
theorem w_t9 : (((((((((words1.drop 24).drop 24).drop 24).drop 24).drop 24).drop 24).drop 24).drop 24).take 24).all (fun c => isCode c || c.before args0 about1) = true := by decide +kernel
set_option maxRecDepth 65536 in
theorem w_t10 : ((((((((((words1.drop 24).drop 24).drop 24).drop 24).drop 24).drop 24).drop 24).drop 24).drop 24).take 24).all (fun c => isCode c || c.before args0 about1) = true := by decide +kernel
set_option maxRecDepth 65536 in
theorem w_t11 : (((((((((((words1.drop 24).drop 24).drop 24).drop 24).drop 24).drop 24).drop 24).drop 24).drop 24).drop 24).take 24).all (fun c => isCode c || c.before args0 about1) = true := by decide +kernel
set_option maxRecDepth 65536 in
theorem w_t12 : ((((((((((((words1.drop 24).drop 24).drop 24).drop 24).drop 24).drop 24).drop 24).drop 24).drop 24).drop 24).drop 24).take 24).all (fun c => isCode c || c.before args0 about1) = true := by decide +kernel
set_option maxRecDepth 65536 in
theorem w_t13 : (((((((((((((words1.drop 24).drop 24).drop 24).drop 24).drop 24).drop 24).drop 24).drop 24).drop 24).drop 24).drop 24).drop 24).take 24).all (fun c => isCode c || c.before args0 about1) = true := by decide +kernel
set_option maxRecDepth 65536 in
theorem w_t14 : (((((((((((((words1.drop 24).drop 24).drop 24).drop 24).drop 24).drop 24).drop 24).drop 24).drop 24).drop 24).drop 24).drop 24).drop 24).all (fun c => isCode c || c.before args0 about1) = true := by decide +kernel
theorem w_tables : (allAtoms (Jvm.Cond.code x code maxLocals ret :: tables_1)).before args0 about1 = true := by
  rw [allAtoms_all]
  show words1.all (fun c => c.before args0 about1) = true
  refine all_split ?_ w_codes
  rw [← List.take_append_drop 24 words1, List.all_append, w_t1, ← List.take_append_drop 24 (words1.drop 24), List.all_append, w_t2, ← List.take_append_drop 24 ((words1.drop 24).drop 24), List.all_append, w_t3, ← List.take_append_drop 24 (((words1.drop 24).drop 24).drop 24), List.all_append, w_t4, ← List.take_append_drop 24 ((((words1.drop 24).drop 24).drop 24).drop 24), List.all_append, w_t5, ← List.take_append_drop 24 (((((words1.drop 24).drop 24).drop 24).drop 24).drop 24), List.all_append, w_t6, ← List.take_append_drop 24 ((((((words1.drop 24).drop 24).drop 24).drop 24).drop 24).drop 24), List.all_append, w_t7, ← List.take_append_drop 24 (((((((words1.drop 24).drop 24).drop 24).drop 24).drop 24).drop 24).drop 24), List.all_append, w_t8, ← List.take_append_drop 24 ((((((((words1.drop 24).drop 24).drop 24).drop 24).drop 24).drop 24).drop 24).drop 24), List.all_append, w_t9, ← List.take_append_drop 24 (((((((((words1.drop 24).drop 24).drop 24).drop 24).drop 24).drop 24).drop 24).drop 24).drop 24), List.all_append, w_t10, ← List.take_append_drop 24 ((((((((((words1.drop 24).drop 24).drop 24).drop 24).drop 24).drop 24).drop 24).drop 24).drop 24).drop 24), List.all_append, w_t11, ← List.take_append_drop 24 (((((((((((words1.drop 24).drop 24).drop 24).drop 24).drop 24).drop 24).drop 24).drop 24).drop 24).drop 24).drop 24), List.all_append, w_t12, ← List.take_append_drop 24 ((((((((((((words1.drop 24).drop 24).drop 24).drop 24).drop 24).drop 24).drop 24).drop 24).drop 24).drop 24).drop 24).drop 24), List.all_append, w_t13, w_t14]
  rfl
set_option maxRecDepth 65536 in
theorem w_rest : rest_1_c.before args0 about1 = true := by decide +kernel
set_option maxRecDepth 65536 in
theorem w_case : (Jvm.Cond.and given_1 narrow_1).before args0 about1 = true := by decide +kernel
set_option maxRecDepth 65536 in
theorem w_consts : constsHeld consts_1 about1 := Jvm.Lit.constsHeldB_iff.mp (by decide +kernel)
theorem w_applies : (headSpec (Jvm.Cond.code x code maxLocals ret :: tables_1) room_1).applies x e0.platform about1 = true :=
  (Spec.applies_iff w_frames).mpr ⟨w_running, w_runnable, w_alone, w_named, w_hears, w_ripe, w_room, w_tables⟩
theorem atStart : AtStart classFile x code maxLocals ret World_1 tables_1 room_1 Calls_1 rest_1 Pre_1 launch0 p0 e0 about1 theMethod args0 below0 :=
  ⟨lists_1, trivial, launch0.admits_env _ _ _, launch0.least_env, fairChoices_fair.cas, fairChoices_fair.clock, w_frames, w_args, w_heap, w_applies, ⟨(by decide +kernel : framesKnown about1 = true), ⟨(by decide +kernel : tablesKnown about1 = true), ⟨w_consts, trivial⟩⟩⟩, w_rest, w_case⟩
end start1
theorem witness_1 : WitnessClaimed_1 := ⟨start1.p0, start1.e0, start1.about1, start1.theMethod, start1.args0, start1.below0, start1.atStart⟩
end Jvm.Pilot.@@N@@
