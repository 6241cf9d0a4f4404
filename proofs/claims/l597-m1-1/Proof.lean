import JvmDerived
import JvmDerived.Pilot.@@N@@Statement
import JvmDerived.Pilot.@@N@@Code
set_option linter.unusedVariables false
set_option linter.unusedSimpArgs false

/- laws to paste: Road.backV, Road.lenW, Road.chN, Road.codOf (cut by pick.py; bodies as the Statement names them) -/
namespace Jvm.Pilot.@@N@@
namespace StrChars
open Jvm Sem ClassFile Op Lib Jvm.Stand Jvm.Free.XT Jvm.Free.ALB Jvm.Free.JM Jvm.Free
open Jvm.Lib.Cold (StaticIs)
/-- a char array whose places are chars -/
def Ch (a : Addr) (A : Cell) (U : State) : Prop := Arr .char a A U ∧ Typed .char A
theorem Ch.mv {a : Addr} {A : Cell} {U U' : State} (h : Ch a A U) (hal : U.vm.Alike U'.vm) (hh : U'.heap = U.heap) : Ch a A U' := ⟨h.1.mv hal hh, h.2⟩
theorem Ch.keep {a : Addr} {A : Cell} {U U' : State} (h : Ch a A U) (hal : U.vm.Alike U'.vm) (hk : U'.heap[a]? = some A) : Ch a A U' := ⟨h.1.keep hal hk, h.2⟩
/-- what place i of a char[]'s cell holds -/
def cv (A : Cell) (i : Nat) : Int32 := match A.slots[i]? with | some (.int x) => x | _ => 0
theorem Ch.get {a : Addr} {A : Cell} {U : State} (h : Ch a A U) {i : Nat} (hi : i < A.slots.size) : A.slots[i]? = some (.int (cv A i)) := by
  have e := Array.getElem?_eq_getElem hi
  have f := h.2 i _ e
  unfold cv; rw [e]
  generalize A.slots[i] = v at f
  cases v <;> simp [fits] at f ⊢
/-- the byte that i2b leaves of a char -/
def lo8 (x : Int32) : Int32 := x.toInt8.toInt32
theorem fits_lo8 (y : Int32) : fits .byte (.int (lo8 y)) = true := by
  have h1 := y.toInt8.le_toInt
  have h2 := y.toInt8.toInt_lt
  simp only [lo8, fits, Bool.and_eq_true, decide_eq_true_eq, Int32.le_iff_toInt_le, Int8.toInt_toInt32, show (-128 : Int32).toInt = -128 from by decide, show (127 : Int32).toInt = 127 from by decide]
  omega
/-- A' is A but that each place j of lo .. hi - 1 holds f j -/
def Laid (A A' : Cell) (lo hi : Nat) (f : Nat → Value) : Prop := A'.cls = A.cls ∧ A'.vm = A.vm ∧ A'.slots.size = A.slots.size ∧ ∀ i, A'.slots[i]? = if lo ≤ i ∧ i < hi then some (f i) else A.slots[i]?
theorem Laid.zero (A : Cell) (lo : Nat) (f : Nat → Value) : Laid A A lo (lo + 0) f := ⟨rfl, rfl, rfl, fun i => by rw [if_neg (by omega)]⟩
theorem Laid.step {A Ak : Cell} {lo k : Nat} {f : Nat → Value} {v : Value} (h : Laid A Ak lo k f) (hlo : lo ≤ k) (hk : k < Ak.slots.size) (hv : v = f k) : Laid A (Ak.setSlot k v) lo (k + 1) f := by
  refine ⟨h.1, h.2.1, by simpa [Cell.setSlot] using h.2.2.1, fun i => ?_⟩
  by_cases e : k = i
  · subst e; rw [Cell.slots_setSlot_self v hk, if_pos (by omega), hv]
  · rw [Cell.slots_setSlot_ne v e, h.2.2.2 i]
    by_cases q : lo ≤ i ∧ i < k
    · rw [if_pos q, if_pos (by omega)]
    · rw [if_neg q, if_neg (by omega)]
def U16 : String := "java/lang/StringUTF16"
namespace Cmp5
def yN : MethodName := ⟨"java/lang/StringUTF16", "compress", "([CI[BII)I"⟩
abbrev yB : ByteArray := jdk_52_method_21_code
theorem d0 : decode yB 0 = .ok (.iconst 0, 1) := by decide +kernel
theorem d1 : decode yB 1 = .ok (.istore 5, 2) := by decide +kernel
theorem d3 : decode yB 3 = .ok (.iload 5, 2) := by decide +kernel
theorem d5 : decode yB 5 = .ok (.iload 4, 2) := by decide +kernel
theorem d7 : decode yB 7 = .ok (.if_icmp (.ge) 37, 3) := by decide +kernel
theorem d10 : decode yB 10 = .ok (.aload_n 0, 1) := by decide +kernel
theorem d11 : decode yB 11 = .ok (.iload_n 1, 1) := by decide +kernel
theorem d12 : decode yB 12 = .ok (.caload, 1) := by decide +kernel
theorem d13 : decode yB 13 = .ok (.istore 6, 2) := by decide +kernel
theorem d15 : decode yB 15 = .ok (.iload 6, 2) := by decide +kernel
theorem d17 : decode yB 17 = .ok (.sipush 255, 3) := by decide +kernel
theorem d20 : decode yB 20 = .ok (.if_icmp (.le) 6, 3) := by decide +kernel
theorem d26 : decode yB 26 = .ok (.aload_n 2, 1) := by decide +kernel
theorem d27 : decode yB 27 = .ok (.iload_n 3, 1) := by decide +kernel
theorem d28 : decode yB 28 = .ok (.iload 6, 2) := by decide +kernel
theorem d30 : decode yB 30 = .ok (.i2b, 1) := by decide +kernel
theorem d31 : decode yB 31 = .ok (.bastore, 1) := by decide +kernel
theorem d32 : decode yB 32 = .ok (.iinc 1 1, 3) := by decide +kernel
theorem d35 : decode yB 35 = .ok (.iinc 3 1, 3) := by decide +kernel
theorem d38 : decode yB 38 = .ok (.iinc 5 1, 3) := by decide +kernel
theorem d41 : decode yB 41 = .ok (.goto (-38), 3) := by decide +kernel
theorem d44 : decode yB 44 = .ok (.iload 4, 2) := by decide +kernel
theorem d46 : decode yB 46 = .ok (.ireturn, 1) := by decide +kernel
def site : List Cond := []
def tab : Cond := tabOf yN yB 7 (some .int) site
def P (b : Addr) (A : Cell) (d : Addr) (B : Cell) (o q len : Nat) (args : Array Value) (s : State) : Prop := args = #[.ref b, .int (Int32.ofNat o), .ref d, .int (Int32.ofNat q), .int (Int32.ofNat len)] ∧ Ch b A s ∧ Arr .byte d B s ∧ b ≠ d ∧ o + len ≤ A.slots.size ∧ q + len ≤ B.slots.size ∧ ∀ i, i < len → ¬ 255 < cv A (o + i)
def E (b : Addr) (A : Cell) (d : Addr) (B : Cell) (o q len : Nat) (r : Option Value) (s u : State) : Prop := r = some (.int (Int32.ofNat len)) ∧ ∃ B', Put d B' s u ∧ Laid B B' q (q + len) (fun j => Value.int (lo8 (cv A (o + (j - q)))))
/-- no char of the range above 255: len; the places written hold each char's low byte -/
theorem law (l : Launch) (b : Addr) (A : Cell) (d : Addr) (B : Cell) (o q len : Nat) : Law l yN 5 5 0 0 yB 7 (some .int) site (P b A d B o q len) (E b A d B o q len) (copyLocs d q len) 0 0 := by
  refine Law.of_walk (plainFor_of_name (by decide +kernel)) (by decide +kernel) (by decide +kernel) (by decide) (fun _ _ h => by rw [h.1]; rfl) (fun _ U U' hal hh h => ⟨h.1, h.2.1.mv hal hh, h.2.2.1.mv hal hh, h.2.2.2⟩) (fun r U U' V V' h1 hal h2 h => ⟨h.1, h.2.elim fun B' q => ⟨B', q.1.mv h1 h2, q.2⟩⟩) ?_
  intro p e s m args below meth c s₁ X0 hexec hbytes hml hret hlk hnm hown hh0 W hP
  obtain ⟨rfl, hA, hB, hne, l1, l2, hp⟩ := hP
  have c1 : Steps p.tables e below (s₁.setTop (entryFrame m #[.ref b, .int (Int32.ofNat o), .ref d, .int (Int32.ofNat q), .int (Int32.ofNat len)] 7)) (s₁.setTop (mkF m 0 #[.val (.ref b), .val (.int (Int32.ofNat o)), .val (.ref d), .val (.int (Int32.ofNat q)), .val (.int (Int32.ofNat len)), .unset, .unset] [])) := entry rfl
  have hA0 := hA.1.mv X0.warmed.alike hh0
  have hB0 := hB.mv X0.warmed.alike hh0
  have a31 := hA.1.2.2.2
  have c2 : Steps p.tables e below (s₁.setTop (entryFrame m #[.ref b, .int (Int32.ofNat o), .ref d, .int (Int32.ofNat q), .int (Int32.ofNat len)] 7)) (s₁.setTop (mkF m 3 #[.val (.ref b), .val (.int (Int32.ofNat o)), .val (.ref d), .val (.int (Int32.ofNat q)), .val (.int (Int32.ofNat len)), .val (.int 0), .unset] [])) := c1.trans (by
    refine iconstV X0.here hexec rfl 0 (hb hbytes d0) (by decide) ?_
    refine XS.istore X0.here hexec rfl (hb hbytes d1) rfl rfl ?_
    exact Steps.refl _)
  have loop : ∀ (r i : Nat), i + r = len → ∀ (z : Slot), (z = .unset ∨ ∃ w, z = .val w ∧ w.category = 1) → ∀ (Tl : State) (Bk : Cell), Stand p l e { frames := 0, locals := 0, cells := 0, slots := 0 } s m #[.ref b, .int (Int32.ofNat o), .ref d, .int (Int32.ofNat q), .int (Int32.ofNat len)] below meth c Tl ([] ++ copyLocs d q i) 0 0 → Put d Bk s₁ Tl → Laid B Bk q (q + i) (fun j => Value.int (lo8 (cv A (o + (j - q))))) →
      Steps p.tables e below (s₁.setTop (entryFrame m #[.ref b, .int (Int32.ofNat o), .ref d, .int (Int32.ofNat q), .int (Int32.ofNat len)] 7)) (Tl.setTop (mkF m 3 #[.val (.ref b), .val (.int (Int32.ofNat (o + i))), .val (.ref d), .val (.int (Int32.ofNat (q + i))), .val (.int (Int32.ofNat len)), .val (.int (Int32.ofNat i)), z] [])) → ∃ (T' : State) (B' : Cell) (z' : Slot), Stand p l e { frames := 0, locals := 0, cells := 0, slots := 0 } s m #[.ref b, .int (Int32.ofNat o), .ref d, .int (Int32.ofNat q), .int (Int32.ofNat len)] below meth c T' ([] ++ copyLocs d q len) 0 0 ∧ Put d B' s₁ T' ∧ Laid B B' q (q + len) (fun j => Value.int (lo8 (cv A (o + (j - q))))) ∧
      Steps p.tables e below (s₁.setTop (entryFrame m #[.ref b, .int (Int32.ofNat o), .ref d, .int (Int32.ofNat q), .int (Int32.ofNat len)] 7)) (T'.setTop (mkF m 3 #[.val (.ref b), .val (.int (Int32.ofNat (o + len))), .val (.ref d), .val (.int (Int32.ofNat (q + len))), .val (.int (Int32.ofNat len)), .val (.int (Int32.ofNat len)), z'] [])) := by
    intro r
    induction r with
    | zero =>
      intro i hi z hz Tl Bk Xl pl fl cl
      have hil : i = len := by omega
      rw [hil] at Xl fl cl
      exact ⟨Tl, Bk, z, Xl, pl, fl, cl⟩
    | succ r ih =>
      intro i hi z hz Tl Bk Xl pl fl cl
      have all := X0.warmed.alike.symm.trans Xl.warmed.alike
      have hAl := hA0.keep all (pl.other hne hA0.1)
      have hBk := hB0.like all pl.1 fl.1 fl.2.1 fl.2.2.1
      have hlt : q + i < Bk.slots.size := by rw [fl.2.2.1]; omega
      have c3 : Steps p.tables e below (s₁.setTop (entryFrame m #[.ref b, .int (Int32.ofNat o), .ref d, .int (Int32.ofNat q), .int (Int32.ofNat len)] 7)) (Tl.setTop (mkF m 12 #[.val (.ref b), .val (.int (Int32.ofNat (o + i))), .val (.ref d), .val (.int (Int32.ofNat (q + i))), .val (.int (Int32.ofNat len)), .val (.int (Int32.ofNat i)), z] [.int (Int32.ofNat (o + i)), .ref b])) := cl.trans (by
        refine XS.iload Xl.here hexec rfl (hb hbytes d3) rfl ?_
        refine XS.iload Xl.here hexec rfl (hb hbytes d5) rfl ?_
        refine XS.icmpNo Xl.here hexec rfl (hb hbytes d7) rfl (ii_ge_f (lt32 (by omega) (by omega))) ?_
        refine XS.aloadN Xl.here hexec rfl (hb hbytes d10) rfl rfl ?_
        refine XS.iloadN Xl.here hexec rfl (hb hbytes d11) rfl ?_
        exact Steps.refl _)
      have c4 : Steps p.tables e below (s₁.setTop (entryFrame m #[.ref b, .int (Int32.ofNat o), .ref d, .int (Int32.ofNat q), .int (Int32.ofNat len)] 7)) (Tl.setTop (mkF m 13 #[.val (.ref b), .val (.int (Int32.ofNat (o + i))), .val (.ref d), .val (.int (Int32.ofNat (q + i))), .val (.int (Int32.ofNat len)), .val (.int (Int32.ofNat i)), z] [.int (cv A (o + i))])) := c3.trans (by
        refine Xl.aget hexec hAl rfl (hA.get (i := o + i) (by omega)) rfl rfl (hb hbytes d12) ?_
        exact Steps.refl _)
      have c5 : Steps p.tables e below (s₁.setTop (entryFrame m #[.ref b, .int (Int32.ofNat o), .ref d, .int (Int32.ofNat q), .int (Int32.ofNat len)] 7)) (Tl.setTop (mkF m 15 #[.val (.ref b), .val (.int (Int32.ofNat (o + i))), .val (.ref d), .val (.int (Int32.ofNat (q + i))), .val (.int (Int32.ofNat len)), .val (.int (Int32.ofNat i)), .val (.int (cv A (o + i)))] [])) := c4.trans (by
        refine XS.istoreS Xl.here hexec rfl (hb hbytes d13) rfl rfl hz ?_
        exact Steps.refl _)
      have c6 : Steps p.tables e below (s₁.setTop (entryFrame m #[.ref b, .int (Int32.ofNat o), .ref d, .int (Int32.ofNat q), .int (Int32.ofNat len)] 7)) (Tl.setTop (mkF m 31 #[.val (.ref b), .val (.int (Int32.ofNat (o + i))), .val (.ref d), .val (.int (Int32.ofNat (q + i))), .val (.int (Int32.ofNat len)), .val (.int (Int32.ofNat i)), .val (.int (cv A (o + i)))] [.int (lo8 (cv A (o + i))), .int (Int32.ofNat (q + i)), .ref d])) := c5.trans (by
        refine XS.iload Xl.here hexec rfl (hb hbytes d15) rfl ?_
        refine sipushV Xl.here hexec rfl 255 (hb hbytes d17) (by decide) ?_
        refine XS.icmpYes Xl.here hexec rfl (pc0 := 20) rfl (hb hbytes d20) rfl (ii_le_t (hp i (by omega))) (by decide) rfl ?_
        refine XS.aloadN Xl.here hexec rfl (hb hbytes d26) rfl rfl ?_
        refine XS.iloadN Xl.here hexec rfl (hb hbytes d27) rfl ?_
        refine XS.iload Xl.here hexec rfl (hb hbytes d28) rfl ?_
        refine i2b Xl.here hexec rfl (hb hbytes d30) rfl ?_
        exact Steps.refl _)
      obtain ⟨T7, X7, p7, st7⟩ := Xl.aput hexec hBk rfl hlt rfl (fits_lo8 (cv A (o + i))) (g := (mkF m 31 #[.val (.ref b), .val (.int (Int32.ofNat (o + i))), .val (.ref d), .val (.int (Int32.ofNat (q + i))), .val (.int (Int32.ofNat len)), .val (.int (Int32.ofNat i)), .val (.int (cv A (o + i)))] [.int (lo8 (cv A (o + i))), .int (Int32.ofNat (q + i)), .ref d])) rfl (rest := []) rfl (hb hbytes d31)
      have c8 : Steps p.tables e below (s₁.setTop (entryFrame m #[.ref b, .int (Int32.ofNat o), .ref d, .int (Int32.ofNat q), .int (Int32.ofNat len)] 7)) (T7.setTop (mkF m 32 #[.val (.ref b), .val (.int (Int32.ofNat (o + i))), .val (.ref d), .val (.int (Int32.ofNat (q + i))), .val (.int (Int32.ofNat len)), .val (.int (Int32.ofNat i)), .val (.int (cv A (o + i)))] [])) := c6.trans (st7 _ (Steps.refl _))
      have c9 : Steps p.tables e below (s₁.setTop (entryFrame m #[.ref b, .int (Int32.ofNat o), .ref d, .int (Int32.ofNat q), .int (Int32.ofNat len)] 7)) (T7.setTop (mkF m 3 #[.val (.ref b), .val (.int (Int32.ofNat (o + i) + 1)), .val (.ref d), .val (.int (Int32.ofNat (q + i) + 1)), .val (.int (Int32.ofNat len)), .val (.int (Int32.ofNat i + 1)), .val (.int (cv A (o + i)))] [])) := c8.trans (by
        refine iincV X7.here hexec rfl 1 (hb hbytes d32) (by decide) rfl rfl ?_
        refine iincV X7.here hexec rfl 1 (hb hbytes d35) (by decide) rfl rfl ?_
        refine iincV X7.here hexec rfl 1 (hb hbytes d38) (by decide) rfl rfl ?_
        refine XS.goto X7.here hexec rfl (pc0 := 41) rfl (hb hbytes d41) (by decide) rfl ?_
        exact Steps.refl _)
      have c10 : Steps p.tables e below (s₁.setTop (entryFrame m #[.ref b, .int (Int32.ofNat o), .ref d, .int (Int32.ofNat q), .int (Int32.ofNat len)] 7)) (T7.setTop (mkF m 3 #[.val (.ref b), .val (.int (Int32.ofNat (o + (i + 1)))), .val (.ref d), .val (.int (Int32.ofNat (q + (i + 1)))), .val (.int (Int32.ofNat len)), .val (.int (Int32.ofNat (i + 1))), .val (.int (cv A (o + i)))] [])) := by
        have := c9
        rw [succ32, succ32, succ32] at this
        exact this
      exact ih (i + 1) (by omega) _ (Or.inr ⟨_, rfl, rfl⟩) T7 _ (by rw [copyLocs_step, ← List.append_assoc]; exact X7) (pl.trans p7) (fl.step (by omega) hlt (by simp)) c10
  obtain ⟨T9, B9, z9, X9, p9, f9, g9⟩ := loop len 0 (by omega) .unset (Or.inl rfl) s₁ B (by simpa [copyLocs] using X0) ⟨hB0.1, fun _ _ => rfl, rfl⟩ (Laid.zero _ _ _) c2
  have c11 : Steps p.tables e below (s₁.setTop (entryFrame m #[.ref b, .int (Int32.ofNat o), .ref d, .int (Int32.ofNat q), .int (Int32.ofNat len)] 7)) (T9.setTop (mkF m 46 #[.val (.ref b), .val (.int (Int32.ofNat (o + len))), .val (.ref d), .val (.int (Int32.ofNat (q + len))), .val (.int (Int32.ofNat len)), .val (.int (Int32.ofNat len)), z9] [.int (Int32.ofNat len)])) := g9.trans (by
    refine XS.iload X9.here hexec rfl (hb hbytes d3) rfl ?_
    refine XS.iload X9.here hexec rfl (hb hbytes d5) rfl ?_
    refine XS.icmpYes X9.here hexec rfl (pc0 := 7) rfl (hb hbytes d7) rfl (ii_ge_t (nlt32 (by omega) (Nat.le_refl _))) (by decide) rfl ?_
    refine XS.iload X9.here hexec rfl (hb hbytes d44) rfl ?_
    exact Steps.refl _)
  exact ⟨T9, some (.int (Int32.ofNat len)), _, _, _, X9, by simp, rfl, rfl, (fun h => by cases h), ⟨rfl, B9, p9.from hh0, f9⟩, fun fs hl => c11.trans (X9.ireturnOut hexec hret rfl (Or.inl rfl) (hb hbytes d46) hl)⟩
end Cmp5
namespace Cmp3
def yN : MethodName := ⟨"java/lang/StringUTF16", "compress", "([CII)[B"⟩
abbrev yB : ByteArray := jdk_52_method_16_code
theorem d0 : decode yB 0 = .ok (.iload_n 2, 1) := by decide +kernel
theorem d1 : decode yB 1 = .ok (.newarray .byte, 2) := by decide +kernel
theorem d3 : decode yB 3 = .ok (.astore_n 3, 1) := by decide +kernel
theorem d4 : decode yB 4 = .ok (.aload_n 0, 1) := by decide +kernel
theorem d5 : decode yB 5 = .ok (.iload_n 1, 1) := by decide +kernel
theorem d6 : decode yB 6 = .ok (.aload_n 3, 1) := by decide +kernel
theorem d7 : decode yB 7 = .ok (.iconst 0, 1) := by decide +kernel
theorem d8 : decode yB 8 = .ok (.iload_n 2, 1) := by decide +kernel
theorem d9 : decode yB 9 = .ok (.invokestatic 115, 3) := by decide +kernel
theorem d12 : decode yB 12 = .ok (.istore 4, 2) := by decide +kernel
theorem d14 : decode yB 14 = .ok (.iload 4, 2) := by decide +kernel
theorem d16 : decode yB 16 = .ok (.iload_n 2, 1) := by decide +kernel
theorem d17 : decode yB 17 = .ok (.if_icmp (.eq) 40, 3) := by decide +kernel
theorem d57 : decode yB 57 = .ok (.aload_n 3, 1) := by decide +kernel
theorem d58 : decode yB 58 = .ok (.areturn, 1) := by decide +kernel
def site : List Cond := [.arrayClass .byte, Cmp5.tab] ++ staticW U16 115 Cmp5.yN
def tab : Cond := tabOf yN yB 6 (some (.array .byte)) site
def P (b : Addr) (A : Cell) (o len : Nat) (args : Array Value) (s : State) : Prop := args = #[.ref b, .int (Int32.ofNat o), .int (Int32.ofNat len)] ∧ Ch b A s ∧ o + len ≤ A.slots.size ∧ len ≤ 536870912 ∧ ∀ i, i < len → ¬ 255 < cv A (o + i)
def E (b : Addr) (A : Cell) (o len : Nat) (r : Option Value) (s u : State) : Prop := NewArr .byte "[B" len (fun j => .int (lo8 (cv A (o + j)))) r s u ∧ u.heap.size = s.heap.size + 1
/-- no char of the range above 255: a new byte[] of their low bytes -/
theorem law (l : Launch) (b : Addr) (A : Cell) (o len : Nat) : Law l yN 3 3 1 18 yB 6 (some (.array .byte)) site (P b A o len) (E b A o len) [] 1 len := by
  refine Law.of_walk (plainFor_of_name (by decide +kernel)) (by decide +kernel) (by decide +kernel) (by decide) (fun _ _ h => by rw [h.1]; rfl) (fun _ U U' hal hh h => ⟨h.1, h.2.1.mv hal hh, h.2.2⟩) (fun r U U' V V' h1 hal h2 h => ⟨NewArr.mv r U U' V V' h1 hal h2 h.1, by rw [h1, h2]; exact h.2⟩) ?_
  intro p e s m args below meth c s₁ X0 hexec hbytes hml hret hlk hnm hown hh0 W hP
  obtain ⟨rfl, hA, l1, l2, hp⟩ := hP
  have a31 := hA.1.2.2.2
  have c1 : Steps p.tables e below (s₁.setTop (entryFrame m #[.ref b, .int (Int32.ofNat o), .int (Int32.ofNat len)] 6)) (s₁.setTop (mkF m 0 #[.val (.ref b), .val (.int (Int32.ofNat o)), .val (.int (Int32.ofNat len)), .unset, .unset, .unset] [])) := entry rfl
  have c2 : Steps p.tables e below (s₁.setTop (entryFrame m #[.ref b, .int (Int32.ofNat o), .int (Int32.ofNat len)] 6)) (s₁.setTop (mkF m 1 #[.val (.ref b), .val (.int (Int32.ofNat o)), .val (.int (Int32.ofNat len)), .unset, .unset, .unset] [.int (Int32.ofNat len)])) := c1.trans (by
    refine XS.iloadN X0.here hexec rfl (hb hbytes d0) rfl ?_
    exact Steps.refl _)
  obtain ⟨T3, B3, X3, ba3, bs3, bv3, bh3, bf3, st3⟩ := X0.anew hexec (atype := .byte) (wk W (.arrayClass .byte)) rfl (by show len * 1 ≤ _; omega) (by omega) (g := (mkF m 1 #[.val (.ref b), .val (.int (Int32.ofNat o)), .val (.int (Int32.ofNat len)), .unset, .unset, .unset] [.int (Int32.ofNat len)])) rfl (hb hbytes d1) (rest := []) rfl (Nat.le_refl _) (by show 0 + len ≤ len; omega)
  rw [hh0] at ba3 st3
  have kp3 : XT.Kept s T3 := (XT.Kept.of_eq hh0).push bh3
  have hA3 := hA.keep X3.warmed.alike (kp3 _ _ hA.1.1)
  have hne : b ≠ s.heap.size := hA.1.ne
  have c4 : Steps p.tables e below (s₁.setTop (entryFrame m #[.ref b, .int (Int32.ofNat o), .int (Int32.ofNat len)] 6)) (T3.setTop (mkF m 3 #[.val (.ref b), .val (.int (Int32.ofNat o)), .val (.int (Int32.ofNat len)), .unset, .unset, .unset] [.ref s.heap.size])) := c2.trans (st3 _ (Steps.refl _))
  have c5 : Steps p.tables e below (s₁.setTop (entryFrame m #[.ref b, .int (Int32.ofNat o), .int (Int32.ofNat len)] 6)) (T3.setTop (mkF m 9 #[.val (.ref b), .val (.int (Int32.ofNat o)), .val (.int (Int32.ofNat len)), .val (.ref s.heap.size), .unset, .unset] [.int (Int32.ofNat len), .int 0, .ref s.heap.size, .int (Int32.ofNat o), .ref b])) := c4.trans (by
    refine XS.astoreN X3.here hexec rfl (hb hbytes d3) rfl rfl rfl ?_
    refine XS.aloadN X3.here hexec rfl (hb hbytes d4) rfl rfl ?_
    refine XS.iloadN X3.here hexec rfl (hb hbytes d5) rfl ?_
    refine XS.aloadN X3.here hexec rfl (hb hbytes d6) rfl rfl ?_
    refine iconstV X3.here hexec rfl 0 (hb hbytes d7) (by decide) ?_
    refine XS.iloadN X3.here hexec rfl (hb hbytes d8) rfl ?_
    exact Steps.refl _)
  obtain ⟨v6, T6, X6, E6, g6⟩ := X3.callS hexec (Cmp5.law l b A s.heap.size B3 o 0 len) hown (wks W (staticW U16 115 Cmp5.yN)) (wk W Cmp5.tab) (W := 0) (Nat.le_of_ble_eq_true rfl) (Nat.le_of_ble_eq_true rfl) (Nat.le_refl _) (by show 0 + len + 0 ≤ len; omega) (g := (mkF m 9 #[.val (.ref b), .val (.int (Int32.ofNat o)), .val (.int (Int32.ofNat len)), .val (.ref s.heap.size), .unset, .unset] [.int (Int32.ofNat len), .int (Int32.ofNat 0), .ref s.heap.size, .int (Int32.ofNat o), .ref b])) rfl (by rw [hml]; rfl) c5 (argsL := [.ref b, .int (Int32.ofNat o), .ref s.heap.size, .int (Int32.ofNat 0), .int (Int32.ofNat len)]) (rest := []) rfl rfl (by show 2 * 0 + 0 ≤ _; decide) (hb hbytes d9) (⟨rfl, hA3, ba3, hne, l1, by rw [bs3]; simp, hp⟩)
  obtain ⟨rfl, B6, p6, f6⟩ := E6
  have c7 : Steps p.tables e below (s₁.setTop (entryFrame m #[.ref b, .int (Int32.ofNat o), .int (Int32.ofNat len)] 6)) (T6.setTop (mkF m 12 #[.val (.ref b), .val (.int (Int32.ofNat o)), .val (.int (Int32.ofNat len)), .val (.ref s.heap.size), .unset, .unset] [.int (Int32.ofNat len)])) := g6
  have c8 : Steps p.tables e below (s₁.setTop (entryFrame m #[.ref b, .int (Int32.ofNat o), .int (Int32.ofNat len)] 6)) (T6.setTop (mkF m 58 #[.val (.ref b), .val (.int (Int32.ofNat o)), .val (.int (Int32.ofNat len)), .val (.ref s.heap.size), .val (.int (Int32.ofNat len)), .unset] [.ref s.heap.size])) := c7.trans (by
    refine XS.istore X6.here hexec rfl (hb hbytes d12) rfl rfl ?_
    refine XS.iload X6.here hexec rfl (hb hbytes d14) rfl ?_
    refine XS.iloadN X6.here hexec rfl (hb hbytes d16) rfl ?_
    refine XS.icmpYes X6.here hexec rfl (pc0 := 17) rfl (hb hbytes d17) rfl (ii_eq_t rfl) (by decide) rfl ?_
    refine XS.aloadN X6.here hexec rfl (hb hbytes d57) rfl rfl ?_
    exact Steps.refl _)
  have X8 := X6.wide (L' := []) (cells' := 1) (slots' := len) (fun x hx hlt => by
    simp only [List.nil_append, copyLocs, List.mem_map, List.mem_range] at hx
    obtain ⟨i, -, rfl⟩ := hx
    exact absurd hlt (Nat.lt_irrefl _)) (Nat.le_refl _) (by omega)
  exact ⟨T6, some (.ref s.heap.size), _, _, _, X8, rfl, rfl, rfl, (fun h => by cases h), ⟨⟨rfl, B6, ba3.like (X3.warmed.alike.symm.trans X6.warmed.alike) p6.1 f6.1 f6.2.1 f6.2.2.1, f6.2.1.trans bv3, by rw [X6.warmed.alike.findClass, f6.1]; exact bf3, by rw [f6.2.2.1, bs3]; simp, fun j hj => by rw [f6.2.2.2 j, if_pos (by omega)]; rfl, kp3.put p6 (Nat.le_refl _)⟩, by rw [p6.2.2, bh3, hh0]; simp⟩, fun fs hl => c8.trans (X8.areturnOut hexec rfl hret rfl (hb hbytes d58) hl)⟩
end Cmp3
namespace CodL
def yN : MethodName := ⟨"java/lang/StringUTF16", "coderFromArrayLen", "([BI)B"⟩
abbrev yB : ByteArray := jdk_52_method_15_code
theorem d0 : decode yB 0 = .ok (.iload_n 1, 1) := by decide +kernel
theorem d1 : decode yB 1 = .ok (.aload_n 0, 1) := by decide +kernel
theorem d2 : decode yB 2 = .ok (.arraylength, 1) := by decide +kernel
theorem d3 : decode yB 3 = .ok (.isub, 1) := by decide +kernel
theorem d4 : decode yB 4 = .ok (.bipush 31, 2) := by decide +kernel
theorem d6 : decode yB 6 = .ok (.iushr, 1) := by decide +kernel
theorem d7 : decode yB 7 = .ok (.i2b, 1) := by decide +kernel
theorem d8 : decode yB 8 = .ok (.ireturn, 1) := by decide +kernel
def site : List Cond := []
def tab : Cond := tabOf yN yB 2 (some .byte) site
def P (d : Addr) (B : Cell) (args : Array Value) (s : State) : Prop := args = #[.ref d, .int (Int32.ofNat B.slots.size)] ∧ Arr .byte d B s
def E (r : Option Value) (s u : State) : Prop := XT.PureE (some (.int 0)) r s u
/-- an array as long as the number of chars: LATIN1 -/
theorem law (l : Launch) (d : Addr) (B : Cell) : Law l yN 2 2 0 0 yB 2 (some .byte) site (P d B) E [] 0 0 := by
  refine Law.of_walk (plainFor_of_name (by decide +kernel)) (by decide +kernel) (by decide +kernel) (by decide) (fun _ _ h => by rw [h.1]; rfl) (fun _ U U' hal hh h => ⟨h.1, h.2.mv hal hh⟩) (fun r U U' V V' h1 hal h2 h => XT.PureE.mv r U U' V V' h1 hal h2 h) ?_
  intro p e s m args below meth c s₁ X0 hexec hbytes hml hret hlk hnm hown hh0 W hP
  obtain ⟨rfl, hB⟩ := hP
  have hB0 := hB.mv X0.warmed.alike hh0
  have c1 : Steps p.tables e below (s₁.setTop (entryFrame m #[.ref d, .int (Int32.ofNat B.slots.size)] 2)) (s₁.setTop (mkF m 0 #[.val (.ref d), .val (.int (Int32.ofNat B.slots.size))] [])) := entry rfl
  have c2 : Steps p.tables e below (s₁.setTop (entryFrame m #[.ref d, .int (Int32.ofNat B.slots.size)] 2)) (s₁.setTop (mkF m 2 #[.val (.ref d), .val (.int (Int32.ofNat B.slots.size))] [.ref d, .int (Int32.ofNat B.slots.size)])) := c1.trans (by
    refine XS.iloadN X0.here hexec rfl (hb hbytes d0) rfl ?_
    refine XS.aloadN X0.here hexec rfl (hb hbytes d1) rfl rfl ?_
    exact Steps.refl _)
  have c3 : Steps p.tables e below (s₁.setTop (entryFrame m #[.ref d, .int (Int32.ofNat B.slots.size)] 2)) (s₁.setTop (mkF m 8 #[.val (.ref d), .val (.int (Int32.ofNat B.slots.size))] [.int (lo8 (ushr (Int32.ofNat B.slots.size - Int32.ofNat B.slots.size) 31))])) := c2.trans (by
    refine X0.alen hexec hB0 rfl rfl (hb hbytes d2) ?_
    refine XS.isub X0.here hexec rfl (hb hbytes d3) rfl ?_
    refine bipushV X0.here hexec rfl 31 (hb hbytes d4) (by decide) ?_
    refine iushr X0.here hexec rfl (hb hbytes d6) rfl ?_
    refine i2b X0.here hexec rfl (hb hbytes d7) rfl ?_
    exact Steps.refl _)
  have e0 : lo8 (ushr (Int32.ofNat B.slots.size - Int32.ofNat B.slots.size) 31) = 0 := by rw [Int32.sub_self]; decide
  rw [e0] at c3
  exact ⟨s₁, some (.int 0), _, _, _, X0, rfl, rfl, rfl, (fun h => by cases h), ⟨rfl, hh0⟩, fun fs hl => c3.trans (X0.ireturnOut hexec hret rfl (Or.inr (Or.inr (Or.inl rfl))) (hb hbytes d8) hl)⟩
end CodL
/-- the String at a is Latin-1 over a new byte[] (the heap's one new cell): the low bytes of the len chars of A from o on; every cell but a is kept -/
def Got (a : Addr) (D : Cell) (fV fC : Field) (A : Cell) (o len : Nat) (r : Option Value) (s u : State) : Prop := r = none ∧ ∃ D' V : Cell, Blank "java/lang/String" a D' u ∧ Same D D' [fV.slot, fC.slot] ∧ D'.slots[fV.slot]? = some (.ref s.heap.size) ∧ D'.slots[fC.slot]? = some (.int 0) ∧ Arr .byte s.heap.size V u ∧ V.vm = .none ∧ u.vm.findClass "[B" = some V.cls ∧ V.slots.size = len ∧ (∀ j, j < len → V.slots[j]? = some (.int (lo8 (cv A (o + j))))) ∧ (∀ (y : Addr) (c : Cell), y ≠ a → s.heap[y]? = some c → u.heap[y]? = some c) ∧ u.heap.size = s.heap.size + 1
theorem Got.mv {a : Addr} {D A : Cell} {fV fC : Field} {o len : Nat} : ∀ r (U U' V V' : State), U'.heap = U.heap → V.vm.Alike V'.vm → V'.heap = V.heap → Got a D fV fC A o len r U V → Got a D fV fC A o len r U' V' :=
  fun r U U' V V' h1 hal h2 ⟨e0, D', X, a1, a2, a3, a4, a5, a6, a7, a8, a9, a10, a11⟩ => ⟨e0, D', X, a1.mv hal h2, a2, by rw [h1]; exact a3, a4, by rw [h1]; exact a5.mv hal h2, a6, by rw [hal.findClass]; exact a7, a8, a9, by rw [h1, h2]; exact a10, by rw [h1, h2]; exact a11⟩
namespace New4
def yN : MethodName := ⟨"java/lang/String", "<init>", "([CIILjava/lang/Void;)V"⟩
abbrev yB : ByteArray := jdk_42_method_149_code
theorem d0 : decode yB 0 = .ok (.aload_n 0, 1) := by decide +kernel
theorem d1 : decode yB 1 = .ok (.invokespecial 1, 3) := by decide +kernel
theorem d4 : decode yB 4 = .ok (.iload_n 3, 1) := by decide +kernel
theorem d5 : decode yB 5 = .ok (.ifCond (.ne) 22, 3) := by decide +kernel
theorem d27 : decode yB 27 = .ok (.getstatic 38, 3) := by decide +kernel
theorem d30 : decode yB 30 = .ok (.ifCond (.eq) 28, 3) := by decide +kernel
theorem d33 : decode yB 33 = .ok (.aload_n 1, 1) := by decide +kernel
theorem d34 : decode yB 34 = .ok (.iload_n 2, 1) := by decide +kernel
theorem d35 : decode yB 35 = .ok (.iload_n 3, 1) := by decide +kernel
theorem d36 : decode yB 36 = .ok (.invokestatic 177, 3) := by decide +kernel
theorem d39 : decode yB 39 = .ok (.astore 5, 2) := by decide +kernel
theorem d41 : decode yB 41 = .ok (.aload_n 0, 1) := by decide +kernel
theorem d42 : decode yB 42 = .ok (.aload 5, 2) := by decide +kernel
theorem d44 : decode yB 44 = .ok (.iload_n 3, 1) := by decide +kernel
theorem d45 : decode yB 45 = .ok (.invokestatic 47, 3) := by decide +kernel
theorem d48 : decode yB 48 = .ok (.putfield 15, 3) := by decide +kernel
theorem d51 : decode yB 51 = .ok (.aload_n 0, 1) := by decide +kernel
theorem d52 : decode yB 52 = .ok (.aload 5, 2) := by decide +kernel
theorem d54 : decode yB 54 = .ok (.putfield 9, 3) := by decide +kernel
theorem d57 : decode yB 57 = .ok (.return_, 1) := by decide +kernel
def site : List Cond := [.fieldLink "java/lang/String" 38 "java/lang/String" "COMPACT_STRINGS" "Z", Cmp3.tab, CodL.tab, .laysFinal "java/lang/String" "java/lang/String" "value" "[B", .fieldLink "java/lang/String" 9 "java/lang/String" "value" "[B", .laysFinal "java/lang/String" "java/lang/String" "coder" "B", .fieldLink "java/lang/String" 15 "java/lang/String" "coder" "B"] ++ objW "java/lang/String" 1 ++ staticW "java/lang/String" 177 Cmp3.yN ++ staticW "java/lang/String" 47 CodL.yN
def tab : Cond := tabOf yN yB 6 none site
def P (a : Addr) (D : Cell) (fV fC : Field) (b : Addr) (A : Cell) (z : Int32) (o len : Nat) (args : Array Value) (s : State) : Prop := args = #[.ref a, .ref b, .int (Int32.ofNat o), .int (Int32.ofNat len), .null] ∧ Blank "java/lang/String" a D s ∧ Found "java/lang/String" "value" "[B" fV s ∧ Found "java/lang/String" "coder" "B" fC s ∧ Ch b A s ∧ StaticIs s "java/lang/String" "COMPACT_STRINGS" "Z" (.int z) ∧ ¬ z = 0 ∧ 0 < len ∧ o + len ≤ A.slots.size ∧ len ≤ 536870912 ∧ ∀ i, i < len → ¬ 255 < cv A (o + i)
def E (a : Addr) (D : Cell) (fV fC : Field) (A : Cell) (o len : Nat) (r : Option Value) (s u : State) : Prop := Got a D fV fC A o len r s u
/-- len > 0, no char of the range above 255: a Latin-1 String of their low bytes -/
theorem law (l : Launch) (a : Addr) (D : Cell) (fV fC : Field) (b : Addr) (A : Cell) (z : Int32) (o len : Nat) : Law l yN 5 4 2 35 yB 6 none site (P a D fV fC b A z o len) (E a D fV fC A o len) [⟨a, fC.slot⟩, ⟨a, fV.slot⟩] 1 len := by
  refine Law.of_walk (plainFor_of_name (by decide +kernel)) (by decide +kernel) (by decide +kernel) (by decide) (fun _ _ h => by rw [h.1]; rfl) (fun _ U U' hal hh h => ⟨h.1, h.2.1.mv hal hh, h.2.2.1.al hal, h.2.2.2.1.al hal, h.2.2.2.2.1.mv hal hh, h.2.2.2.2.2.1.there hal hh, h.2.2.2.2.2.2⟩) (fun r U U' V V' h1 hal h2 h => Got.mv r U U' V V' h1 hal h2 h) ?_
  intro p e s m args below meth c s₁ X0 hexec hbytes hml hret hlk hnm hown hh0 W hP
  obtain ⟨rfl, hB, f1, f2, hA, s1, hz, l0, l1, l2, hp⟩ := hP
  have a31 := hA.1.2.2.2
  have c1 : Steps p.tables e below (s₁.setTop (entryFrame m #[.ref a, .ref b, .int (Int32.ofNat o), .int (Int32.ofNat len), .null] 6)) (s₁.setTop (mkF m 0 #[.val (.ref a), .val (.ref b), .val (.int (Int32.ofNat o)), .val (.int (Int32.ofNat len)), .val .null, .unset] [])) := entry rfl
  have c2 : Steps p.tables e below (s₁.setTop (entryFrame m #[.ref a, .ref b, .int (Int32.ofNat o), .int (Int32.ofNat len), .null] 6)) (s₁.setTop (mkF m 1 #[.val (.ref a), .val (.ref b), .val (.int (Int32.ofNat o)), .val (.int (Int32.ofNat len)), .val .null, .unset] [.ref a])) := c1.trans (by
    refine XS.aloadN X0.here hexec rfl (hb hbytes d0) rfl rfl ?_
    exact Steps.refl _)
  obtain ⟨T3, X3, q3, st3⟩ := X0.oinit hexec hown (wks W (objW "java/lang/String" 1)) (g := (mkF m 1 #[.val (.ref a), .val (.ref b), .val (.int (Int32.ofNat o)), .val (.int (Int32.ofNat len)), .val .null, .unset] [.ref a])) rfl (by rw [hml]; rfl) (rest := []) rfl (hb hbytes d1) (W := 0) (by show 2 * 0 + 0 ≤ _; decide) (Nat.le_of_ble_eq_true rfl) (Nat.le_of_ble_eq_true rfl)
  have hh3 := q3.trans hh0
  have c4 : Steps p.tables e below (s₁.setTop (entryFrame m #[.ref a, .ref b, .int (Int32.ofNat o), .int (Int32.ofNat len), .null] 6)) (T3.setTop (mkF m 27 #[.val (.ref a), .val (.ref b), .val (.int (Int32.ofNat o)), .val (.int (Int32.ofNat len)), .val .null, .unset] [])) := (c2.trans (st3 _ (Steps.refl _))).trans (by
    refine XS.iloadN X3.here hexec rfl (hb hbytes d4) rfl ?_
    refine XS.ifYes X3.here hexec rfl (pc0 := 5) rfl (hb hbytes d5) rfl (i0_ne_t (nz32 (by omega) l0)) (by decide) rfl ?_
    exact Steps.refl _)
  obtain ⟨T5, X5, q5, st5⟩ := X3.sget hexec hown (wk W (.fieldLink "java/lang/String" 38 "java/lang/String" "COMPACT_STRINGS" "Z")) s1 (fun _ _ h => by rw [hh3]; exact h) (g := (mkF m 27 #[.val (.ref a), .val (.ref b), .val (.int (Int32.ofNat o)), .val (.int (Int32.ofNat len)), .val .null, .unset] [])) rfl (hb hbytes d27)
  have hh5 := q5.trans hh3
  have c6 : Steps p.tables e below (s₁.setTop (entryFrame m #[.ref a, .ref b, .int (Int32.ofNat o), .int (Int32.ofNat len), .null] 6)) (T5.setTop (mkF m 30 #[.val (.ref a), .val (.ref b), .val (.int (Int32.ofNat o)), .val (.int (Int32.ofNat len)), .val .null, .unset] [.int z])) := c4.trans (st5 _ (Steps.refl _))
  have c7 : Steps p.tables e below (s₁.setTop (entryFrame m #[.ref a, .ref b, .int (Int32.ofNat o), .int (Int32.ofNat len), .null] 6)) (T5.setTop (mkF m 36 #[.val (.ref a), .val (.ref b), .val (.int (Int32.ofNat o)), .val (.int (Int32.ofNat len)), .val .null, .unset] [.int (Int32.ofNat len), .int (Int32.ofNat o), .ref b])) := c6.trans (by
    refine XS.ifNo X5.here hexec rfl (hb hbytes d30) rfl (i0_eq_f hz) ?_
    refine XS.aloadN X5.here hexec rfl (hb hbytes d33) rfl rfl ?_
    refine XS.iloadN X5.here hexec rfl (hb hbytes d34) rfl ?_
    refine XS.iloadN X5.here hexec rfl (hb hbytes d35) rfl ?_
    exact Steps.refl _)
  obtain ⟨v8, T8, X8, E8, g8⟩ := X5.callS hexec (Cmp3.law l b A o len) hown (wks W (staticW "java/lang/String" 177 Cmp3.yN)) (wk W Cmp3.tab) (W := 0) (Nat.le_of_ble_eq_true rfl) (Nat.le_of_ble_eq_true rfl) (Nat.le_refl _) (by show 0 + len ≤ len; omega) (g := (mkF m 36 #[.val (.ref a), .val (.ref b), .val (.int (Int32.ofNat o)), .val (.int (Int32.ofNat len)), .val .null, .unset] [.int (Int32.ofNat len), .int (Int32.ofNat o), .ref b])) rfl (by rw [hml]; rfl) c7 (argsL := [.ref b, .int (Int32.ofNat o), .int (Int32.ofNat len)]) (rest := []) rfl rfl (by show 2 * 0 + 0 ≤ _; decide) (hb hbytes d36) (⟨rfl, hA.mv X5.warmed.alike hh5, l1, l2, hp⟩)
  obtain ⟨e8, z8⟩ := E8
  obtain ⟨rfl, N, n1, n2, n3, n4, n5, n6⟩ := NewArr.mv _ T5 s _ _ hh5.symm (Vm.Alike.refl _) rfl e8
  rw [hh5] at z8
  have hB1 := hB.keep X8.warmed.alike (n6 _ _ hB.1)
  have hne : s.heap.size ≠ a := (Nat.ne_of_lt (Array.getElem?_eq_some_iff.mp hB.1).1).symm
  have c9 : Steps p.tables e below (s₁.setTop (entryFrame m #[.ref a, .ref b, .int (Int32.ofNat o), .int (Int32.ofNat len), .null] 6)) (T8.setTop (mkF m 39 #[.val (.ref a), .val (.ref b), .val (.int (Int32.ofNat o)), .val (.int (Int32.ofNat len)), .val .null, .unset] [.ref s.heap.size])) := g8
  have c10 : Steps p.tables e below (s₁.setTop (entryFrame m #[.ref a, .ref b, .int (Int32.ofNat o), .int (Int32.ofNat len), .null] 6)) (T8.setTop (mkF m 45 #[.val (.ref a), .val (.ref b), .val (.int (Int32.ofNat o)), .val (.int (Int32.ofNat len)), .val .null, .val (.ref s.heap.size)] [.int (Int32.ofNat N.slots.size), .ref s.heap.size, .ref a])) := by
    have hc : Steps p.tables e below (s₁.setTop (entryFrame m #[.ref a, .ref b, .int (Int32.ofNat o), .int (Int32.ofNat len), .null] 6)) (T8.setTop (mkF m 45 #[.val (.ref a), .val (.ref b), .val (.int (Int32.ofNat o)), .val (.int (Int32.ofNat len)), .val .null, .val (.ref s.heap.size)] [.int (Int32.ofNat len), .ref s.heap.size, .ref a])) := c9.trans (by
      refine XS.astore X8.here hexec rfl (hb hbytes d39) rfl rfl rfl ?_
      refine XS.aloadN X8.here hexec rfl (hb hbytes d41) rfl rfl ?_
      refine XS.aload X8.here hexec rfl (hb hbytes d42) rfl rfl ?_
      refine XS.iloadN X8.here hexec rfl (hb hbytes d44) rfl ?_
      exact Steps.refl _)
    rw [n4]; exact hc
  obtain ⟨v11, T11, X11, E11, g11⟩ := X8.callS hexec (CodL.law l s.heap.size N) hown (wks W (staticW "java/lang/String" 47 CodL.yN)) (wk W CodL.tab) (W := 1) (Nat.le_of_ble_eq_true rfl) (Nat.le_of_ble_eq_true rfl) (Nat.le_refl _) (by show 0 + len + 0 ≤ len; omega) (g := (mkF m 45 #[.val (.ref a), .val (.ref b), .val (.int (Int32.ofNat o)), .val (.int (Int32.ofNat len)), .val .null, .val (.ref s.heap.size)] [.int (Int32.ofNat N.slots.size), .ref s.heap.size, .ref a])) rfl (by rw [hml]; rfl) c10 (argsL := [.ref s.heap.size, .int (Int32.ofNat N.slots.size)]) (rest := [.ref a]) rfl rfl (by show 2 * 0 + (1 + 0) ≤ _; decide) (hb hbytes d45) (⟨rfl, n1⟩)
  obtain ⟨rfl, q11⟩ := E11
  have hB11 := hB1.mv (X8.warmed.alike.symm.trans X11.warmed.alike) q11
  have c12 : Steps p.tables e below (s₁.setTop (entryFrame m #[.ref a, .ref b, .int (Int32.ofNat o), .int (Int32.ofNat len), .null] 6)) (T11.setTop (mkF m 48 #[.val (.ref a), .val (.ref b), .val (.int (Int32.ofNat o)), .val (.int (Int32.ofNat len)), .val .null, .val (.ref s.heap.size)] [.int 0, .ref a])) := g11
  obtain ⟨T13, X13, p13, bl13, sl13, st13⟩ := X11.finit hexec hown (wk W (.fieldLink "java/lang/String" 15 "java/lang/String" "coder" "B")) (Or.inr ⟨_, (wk W (.laysFinal "java/lang/String" "java/lang/String" "coder" "B"))⟩) (Or.inl ⟨rfl, hnm⟩) f2 (Or.inl rfl) hB11 (t := .byte) (by decide +kernel) rfl (g := (mkF m 48 #[.val (.ref a), .val (.ref b), .val (.int (Int32.ofNat o)), .val (.int (Int32.ofNat len)), .val .null, .val (.ref s.heap.size)] [.int 0, .ref a])) rfl (rest := []) rfl (hb hbytes d48)
  have c14 : Steps p.tables e below (s₁.setTop (entryFrame m #[.ref a, .ref b, .int (Int32.ofNat o), .int (Int32.ofNat len), .null] 6)) (T13.setTop (mkF m 54 #[.val (.ref a), .val (.ref b), .val (.int (Int32.ofNat o)), .val (.int (Int32.ofNat len)), .val .null, .val (.ref s.heap.size)] [.ref s.heap.size, .ref a])) := (c12.trans (st13 _ (Steps.refl _))).trans (by
    refine XS.aloadN X13.here hexec rfl (hb hbytes d51) rfl rfl ?_
    refine XS.aload X13.here hexec rfl (hb hbytes d52) rfl rfl ?_
    exact Steps.refl _)
  obtain ⟨T15, X15, p15, bl15, sl15, st15⟩ := X13.finit hexec hown (wk W (.fieldLink "java/lang/String" 9 "java/lang/String" "value" "[B")) (Or.inr ⟨_, (wk W (.laysFinal "java/lang/String" "java/lang/String" "value" "[B"))⟩) (Or.inl ⟨rfl, hnm⟩) f1 (Or.inl rfl) bl13 (t := (.array .byte)) (by decide +kernel) rfl (g := (mkF m 54 #[.val (.ref a), .val (.ref b), .val (.int (Int32.ofNat o)), .val (.int (Int32.ofNat len)), .val .null, .val (.ref s.heap.size)] [.ref s.heap.size, .ref a])) rfl (rest := []) rfl (hb hbytes d54)
  have c16 : Steps p.tables e below (s₁.setTop (entryFrame m #[.ref a, .ref b, .int (Int32.ofNat o), .int (Int32.ofNat len), .null] 6)) (T15.setTop (mkF m 57 #[.val (.ref a), .val (.ref b), .val (.int (Int32.ofNat o)), .val (.int (Int32.ofNat len)), .val .null, .val (.ref s.heap.size)] [])) := c14.trans (st15 _ (Steps.refl _))
  have ap := apart (Or.inr ⟨_, (wk W (.laysFinal "java/lang/String" "java/lang/String" "value" "[B"))⟩) (Or.inr ⟨_, (wk W (.laysFinal "java/lang/String" "java/lang/String" "coder" "B"))⟩) f1 f2 (t₁ := .array .byte) (t₂ := .byte) (by decide +kernel) (by decide +kernel) (by decide)
  have al := X8.warmed.alike.symm.trans X15.warmed.alike
  have n7 : T11.heap[s.heap.size]? = some N := by rw [q11]; exact n1.1
  exact ⟨T15, none, _, _, _, X15, by simp, rfl, by omega, (fun _ => rfl), ⟨rfl, _, N, bl15, ((Same.refl D _).set _ (by simp)).set _ (by simp), sl15, (Cell.slots_setSlot_ne _ ap).trans sl13, n1.keep al (p15.other hne (p13.other hne n7)), n2, by rw [al.findClass]; exact n3, n4, n5, fun y c h1 h2 => p15.other h1 (p13.other h1 (by rw [q11]; exact n6 y c h2)), by rw [p15.2.2, p13.2.2, q11]; exact z8⟩, fun fs hl => c16.trans (X15.returnOut hexec hret (hb hbytes d57) hl)⟩
end New4
namespace New1
def yN : MethodName := ⟨"java/lang/String", "<init>", "([C)V"⟩
abbrev yB : ByteArray := jdk_42_method_3_code
theorem d0 : decode yB 0 = .ok (.aload_n 0, 1) := by decide +kernel
theorem d1 : decode yB 1 = .ok (.aload_n 1, 1) := by decide +kernel
theorem d2 : decode yB 2 = .ok (.iconst 0, 1) := by decide +kernel
theorem d3 : decode yB 3 = .ok (.aload_n 1, 1) := by decide +kernel
theorem d4 : decode yB 4 = .ok (.arraylength, 1) := by decide +kernel
theorem d5 : decode yB 5 = .ok (.aconst_null, 1) := by decide +kernel
theorem d6 : decode yB 6 = .ok (.invokespecial 27, 3) := by decide +kernel
theorem d9 : decode yB 9 = .ok (.return_, 1) := by decide +kernel
def site : List Cond := [New4.tab] ++ initW "java/lang/String" 27 New4.yN
def tab : Cond := tabOf yN yB 2 none site
def P (a : Addr) (D : Cell) (fV fC : Field) (b : Addr) (A : Cell) (z : Int32) (args : Array Value) (s : State) : Prop := args = #[.ref a, .ref b] ∧ Blank "java/lang/String" a D s ∧ Found "java/lang/String" "value" "[B" fV s ∧ Found "java/lang/String" "coder" "B" fC s ∧ Ch b A s ∧ StaticIs s "java/lang/String" "COMPACT_STRINGS" "Z" (.int z) ∧ ¬ z = 0 ∧ 0 < A.slots.size ∧ A.slots.size ≤ 536870912 ∧ ∀ i, i < A.slots.size → ¬ 255 < cv A i
def E (a : Addr) (D : Cell) (fV fC : Field) (A : Cell) (r : Option Value) (s u : State) : Prop := Got a D fV fC A 0 A.slots.size r s u
/-- new String(chars), not empty, no char above 255: a Latin-1 String of their low bytes -/
theorem law (l : Launch) (a : Addr) (D : Cell) (fV fC : Field) (b : Addr) (A : Cell) (z : Int32) : Law l yN 2 1 3 52 yB 2 none site (P a D fV fC b A z) (E a D fV fC A) [⟨a, fC.slot⟩, ⟨a, fV.slot⟩] 1 A.slots.size := by
  refine Law.of_walk (plainFor_of_name (by decide +kernel)) (by decide +kernel) (by decide +kernel) (by decide) (fun _ _ h => by rw [h.1]; rfl) (fun _ U U' hal hh h => ⟨h.1, h.2.1.mv hal hh, h.2.2.1.al hal, h.2.2.2.1.al hal, h.2.2.2.2.1.mv hal hh, h.2.2.2.2.2.1.there hal hh, h.2.2.2.2.2.2⟩) (fun r U U' V V' h1 hal h2 h => Got.mv r U U' V V' h1 hal h2 h) ?_
  intro p e s m args below meth c s₁ X0 hexec hbytes hml hret hlk hnm hown hh0 W hP
  obtain ⟨rfl, hB, f1, f2, hA, s1, hz, l0, l2, hp⟩ := hP
  have c1 : Steps p.tables e below (s₁.setTop (entryFrame m #[.ref a, .ref b] 2)) (s₁.setTop (mkF m 0 #[.val (.ref a), .val (.ref b)] [])) := entry rfl
  have c2 : Steps p.tables e below (s₁.setTop (entryFrame m #[.ref a, .ref b] 2)) (s₁.setTop (mkF m 6 #[.val (.ref a), .val (.ref b)] [.null, .int (Int32.ofNat A.slots.size), .int 0, .ref b, .ref a])) := c1.trans (by
    refine XS.aloadN X0.here hexec rfl (hb hbytes d0) rfl rfl ?_
    refine XS.aloadN X0.here hexec rfl (hb hbytes d1) rfl rfl ?_
    refine iconstV X0.here hexec rfl 0 (hb hbytes d2) (by decide) ?_
    refine XS.aloadN X0.here hexec rfl (hb hbytes d3) rfl rfl ?_
    refine X0.alen hexec (hA.1.mv X0.warmed.alike hh0) rfl rfl (hb hbytes d4) ?_
    refine XS.aconstNull X0.here hexec rfl (hb hbytes d5) ?_
    exact Steps.refl _)
  obtain ⟨v3, T3, X3, E3, g3⟩ := X0.callN hexec (New4.law l a D fV fC b A z 0 A.slots.size) rfl hown (wks W (initW "java/lang/String" 27 New4.yN)) (W New4.tab (by simp only [site, List.mem_cons, List.mem_append, true_or, or_true])) (W := 0) (Nat.le_of_ble_eq_true rfl) (Nat.le_of_ble_eq_true rfl) (Nat.le_refl _) (by show 0 + A.slots.size ≤ A.slots.size; omega) (g := (mkF m 6 #[.val (.ref a), .val (.ref b)] [.null, .int (Int32.ofNat A.slots.size), .int (Int32.ofNat 0), .ref b, .ref a])) rfl (by rw [hml]; rfl) c2 (argsL := [.ref b, .int (Int32.ofNat 0), .int (Int32.ofNat A.slots.size), .null]) (rest := []) rfl rfl (by show 2 * 0 + 0 ≤ _; decide) (hb hbytes d6) (⟨rfl, hB.mv X0.warmed.alike hh0, f1.al X0.warmed.alike, f2.al X0.warmed.alike, hA.mv X0.warmed.alike hh0, s1.there X0.warmed.alike hh0, hz, l0, by omega, l2, fun i hi => by rw [Nat.zero_add]; exact hp i hi⟩)
  have e0 := Got.mv _ s₁ s _ _ hh0.symm (Vm.Alike.refl _) rfl E3
  obtain rfl := e0.1
  have c4 : Steps p.tables e below (s₁.setTop (entryFrame m #[.ref a, .ref b] 2)) (T3.setTop (mkF m 9 #[.val (.ref a), .val (.ref b)] [])) := g3
  exact ⟨T3, none, _, _, _, X3, by simp, rfl, by omega, (fun _ => rfl), e0, fun fs hl => c4.trans (X3.returnOut hexec hret (hb hbytes d9) hl)⟩
theorem pays {l : Launch} {R : Room} {p : Program} {e : Env} {below : List Frame} {s : State} {sargs : Array Value} {len W : Nat} (a : Addr) (D : Cell) (fV fC : Field) (b : Addr) (A : Cell) (z : Int32) (htab : tab.before sargs s = true) (hfr : 4 ≤ R.frames) (hlo : W + 65 ≤ R.locals) :
    Back l R p e below s sargs yN len W (fun A₁ a₁ => A₁.cells + 1 ≤ R.cells ∧ A₁.slots + A.slots.size ≤ R.slots ∧ P a D fV fC b A z a₁ A₁.U) (fun A₁ _ v₁ B₁ => E a D fV fC A v₁ A₁.U B₁.U ∧ B₁.locs = A₁.locs ++ [⟨a, fC.slot⟩, ⟨a, fV.slot⟩] ∧ B₁.cells = A₁.cells + 1 ∧ B₁.slots = A₁.slots + A.slots.size) :=
  (law l a D fV fC b A z).pays htab hfr (by omega)
end New1
/-- the byte, read back as charAt reads it, is the char -/
theorem lo8_mask {x : Int32} (h0 : ¬ x < 0) (h1 : ¬ 255 < x) : lo8 x &&& 255 = x := by
  have t : ∀ k : Fin 256, lo8 (Int32.ofNat k.val) &&& 255 = Int32.ofNat k.val := by decide +kernel
  rw [Int32.lt_iff_toInt_lt] at h0 h1
  have e0 : (0 : Int32).toInt = 0 := rfl
  have e1 : (255 : Int32).toInt = 255 := rfl
  obtain ⟨k, hk⟩ : ∃ k : Nat, x.toInt = k := ⟨x.toInt.toNat, by omega⟩
  have hx : x = Int32.ofNat k := Int32.toInt_inj.mp (by rw [hk, Int32.toInt_ofNat_small (by omega)])
  rw [hx]
  exact t ⟨k, by omega⟩
end StrChars
namespace StrChars.Road
open Jvm Sem ClassFile Op Lib Jvm.Stand Jvm.Free Jvm.Free.XT
open Jvm.Lib.Cold (StaticIs)
abbrev ST : String := "java/lang/String"
/-- every table word that New1's law asks, flat -/
abbrev words : List Jvm.Cond := [.code New1.yN New1.yB 2 none, .initialized ST, .methodLink ST 27 New4.yN, .instanceMethod New4.yN,
  .code New4.yN New4.yB 6 none, .fieldLink ST 38 ST "COMPACT_STRINGS" "Z", .laysFinal ST ST "value" "[B", .fieldLink ST 9 ST "value" "[B", .laysFinal ST ST "coder" "B", .fieldLink ST 15 ST "coder" "B",
  .methodLink ST 1 Lib.objectInit, .instanceMethod Lib.objectInit, .code Lib.objectInit ⟨#[0xb1]⟩ 1 none, .methodLink ST 177 Cmp3.yN, .static Cmp3.yN, .methodLink ST 47 CodL.yN, .static CodL.yN,
  .code Cmp3.yN Cmp3.yB 6 (some (.array .byte)), .initialized U16, .arrayClass .byte, .methodLink U16 115 Cmp5.yN, .static Cmp5.yN, .code Cmp5.yN Cmp5.yB 7 (some .int), .code CodL.yN CodL.yB 2 (some .byte)]
theorem tab_of {a : Array Value} {s : State} (h : ∀ w ∈ words, w.before a s = true) : New1.tab.before a s = true := by
  have h5 : Cmp5.tab.before a s = true := unparts (wk h (.code Cmp5.yN Cmp5.yB 7 (some .int))) (wks h (.initialized Cmp5.yN.cls :: Cmp5.site))
  have hc : CodL.tab.before a s = true := unparts (wk h (.code CodL.yN CodL.yB 2 (some .byte))) (wks h (.initialized CodL.yN.cls :: CodL.site))
  have q5 : ∀ w ∈ Cmp5.tab :: words, w.before a s = true := fun w hw => (List.mem_cons.mp hw).elim (fun e => e ▸ h5) (h w)
  have h3 : Cmp3.tab.before a s = true := unparts (wk q5 (.code Cmp3.yN Cmp3.yB 6 (some (.array .byte)))) (wks q5 (.initialized Cmp3.yN.cls :: Cmp3.site))
  have q3 : ∀ w ∈ Cmp3.tab :: CodL.tab :: words, w.before a s = true := fun w hw => (List.mem_cons.mp hw).elim (fun e => e ▸ h3) fun hw => (List.mem_cons.mp hw).elim (fun e => e ▸ hc) (h w)
  have h4 : New4.tab.before a s = true := unparts (wk q3 (.code New4.yN New4.yB 6 none)) (wks q3 (.initialized New4.yN.cls :: New4.site))
  have q4 : ∀ w ∈ New4.tab :: words, w.before a s = true := fun w hw => (List.mem_cons.mp hw).elim (fun e => e ▸ h4) (h w)
  exact unparts (wk q4 (.code New1.yN New1.yB 2 none)) (wks q4 (.initialized New1.yN.cls :: New1.site))
/-- the words ride from the start Z to the walk's own state -/
theorem moved {Z s : State} {a0 args : Array Value} (hZ : Z.Warmed39 s.vm) (hw : ∀ d ∈ words, d.before a0 Z = true) : ∀ d ∈ words, d.before args s = true := fun d hd => by
  have q := hw d hd
  have t : ∀ d ∈ words, d = .arrayClass .byte ∨ (d.onTables && d.keepsFace) = true := by decide +kernel
  rcases t d hd with rfl | t
  · exact RoadKit.mvA hZ q
  · exact RoadKit.mv hZ q t
/-- WHAT COMES BACK, over the tables of the start Z: h the heap at the call, h' behind it -/
def Q (Z : State) (x : Addr) (A : Cell) (h : Heap) (v : Option Value) (h' : Heap) (L : List Loc) : Prop := v = none ∧ (∀ y ∈ L, y.base = x) ∧ RoadKit.Keep h h' [x] ∧ h'.size = h.size + 1 ∧ RoadKit.Exa Z h' x ST ∧ RoadKit.Fld Z h' x ST "value" "[B" (.ref h.size) ∧ RoadKit.Fld Z h' x ST "coder" "B" (.int 0) ∧
  (∃ V : Cell, RoadKit.Arr Z h' h.size V .byte ∧ V.vm = .none ∧ Z.vm.findClass "[B" = some V.cls ∧ V.slots.size = A.slots.size ∧ ∀ j, j < A.slots.size → V.slots[j]? = some (.int (lo8 (cv A j)))) ∧
  ∀ (O n d : String) (w : Value), RoadKit.Fld Z h x O n d w → RoadKit.slotOf Z O n d ≠ RoadKit.slotOf Z ST "value" "[B" → RoadKit.slotOf Z O n d ≠ RoadKit.slotOf Z ST "coder" "B" → RoadKit.Fld Z h' x O n d w
/-- **new String(chars) AT A CALL, IN THE ROAD'S FORM**: for specialBack behind newO: x the fresh String, b the char[] with the cell A -/
theorem back {p : Program} {l : Launch} {e : Env} {R : Room} {s : State} {args : Array Value} {below : List Frame} {len W : Nat} {Z : State} {a0 : Array Value} {h : Heap} (hZ : Z.Warmed39 s.vm) (hw : ∀ d ∈ words, d.before a0 Z = true) {kI : Nat} (wi : (Jvm.Cond.instantiable ST kI).before a0 Z = true)
    {x b : Addr} {A : Cell} {z : Int32} {v0 c0 : Value} (E : RoadKit.Exa Z h x ST) (V : RoadKit.Fld Z h x ST "value" "[B" v0) (C : RoadKit.Fld Z h x ST "coder" "B" c0) (K : RoadKit.Arr Z h b A .char) (hty : Typed .char A) (S : RoadKit.Sta Z h ST "COMPACT_STRINGS" "Z" (.int z)) (hz : ¬ z = 0)
    (l0 : 0 < A.slots.size) (l2 : A.slots.size ≤ 536870912) (hp : ∀ i, i < A.slots.size → ¬ 255 < cv A i) (hfr : 4 ≤ R.frames) (hlo : W + 65 ≤ R.locals) :
    Back l R p e below s args New1.yN len W (fun P a => a = #[.ref x, .ref b] ∧ P.U.heap = h ∧ P.cells + 1 ≤ R.cells ∧ P.slots + A.slots.size ≤ R.slots)
      (fun P _ v B => ∃ L, Q Z x A h v B.U.heap L ∧ B.locs = P.locs ++ L ∧ B.cells = P.cells + 1 ∧ B.slots = P.slots + A.slots.size) := by
  intro m meth c P g ig mk a X hg hsize hdg hW hn hp'
  obtain ⟨rfl, rfl, r1, r2⟩ := hp'
  have al : Z.vm.Alike P.U.vm := hZ.alike.trans X.warmed.alike
  obtain ⟨D, cfV, kV, iV, fV, hD, gV, stV, knV, obV, asV, slV⟩ := id V
  obtain ⟨D', cfC, kC, iC, fC, hD', gC, stC, -, -, asC, slC⟩ := id C
  cases hD.symm.trans hD'
  obtain ⟨D2, kD, e1, e2, e3, e4, e5⟩ := id E
  cases hD.symm.trans e1
  obtain ⟨c2, k2, i1, i2, i3, -⟩ := Cond.instantiable_spec wi
  cases e2.symm.trans i1
  cases e3.symm.trans i2
  obtain ⟨kU, u1, u2⟩ := al.2.2 _ _ e3
  have hB : Blank ST x D P.U := ⟨hD, ⟨knV, fun q hq => by rw [hq] at obV; cases obV⟩, by rw [al.findClass]; exact e2, kU, u1, by rw [u2]; exact i3, by rw [u2]; exact e5 i3⟩
  have F1 : Found ST "value" "[B" fV P.U := ⟨SBG.found_only al ⟨cfV, kV, iV, gV⟩, stV⟩
  have F2 : Found ST "coder" "B" fC P.U := ⟨SBG.found_only al ⟨cfC, kC, iC, gC⟩, stC⟩
  have hA : Ch b A P.U := ⟨⟨K.1, State.isArrayOf_alike al K.2.1, K.2.2, by omega⟩, hty⟩
  have hS : StaticIs P.U ST "COMPACT_STRINGS" "Z" (.int z) := by
    obtain ⟨cfS, iS, kS, fS, st, cS, t1, t2, t3, t4, t5, t6, t7⟩ := S
    exact StaticIs.there (s := { Z with heap := P.U.heap }) ⟨cfS, iS, kS, fS, st, cS, t1, t2, t3, t4, t5, (fun q => by rw [q] at t6; cases t6), t7⟩ al rfl
  obtain ⟨v, B, X', ⟨⟨hv, E', V', q1, q2, q3, q4, q5, q6, q7, q8, q9, q10, q11⟩, hl, hc, hs⟩, st⟩ := New1.pays x D fV fC b A z (tab_of (moved hZ hw)) hfr hlo m meth c P g ig mk _ X hg hsize hdg hW hn ⟨r1, r2, rfl, hB, F1, F2, hA, hS, hz, l0, l2, hp⟩
  have al' : Z.vm.Alike B.U.vm := hZ.alike.trans X'.warmed.alike
  have hsz : E'.slots.size = D.slots.size := by
    obtain ⟨-, -, -, kB, w1, w2, w3⟩ := q1
    obtain ⟨kB', y1, y2⟩ := al'.2.2 _ _ e3
    rw [q2.2.1] at w1
    cases w1.symm.trans y1
    rw [w3, e5 i3, y2]
  refine ⟨v, B, X', ⟨_, ⟨hv, ?_, ⟨by omega, fun y cy hy hn' => q10 y cy (by simpa using hn') hy, fun y cy hy => ?_⟩, q11, ⟨E', _, q1.1, by rw [q2.2.1]; exact e2, by rw [q2.2.1]; exact e3, by rw [q2.1]; exact obV, fun _ => by rw [hsz]; exact e5 i3⟩,
    ⟨E', cfV, kV, iV, fV, q1.1, gV, stV, by rw [q2.1]; exact knV, by rw [q2.1]; exact obV, by rw [q2.2.1]; exact asV, q3⟩, ⟨E', cfC, kC, iC, fC, q1.1, gC, stC, by rw [q2.1]; exact knV, by rw [q2.1]; exact obV, by rw [q2.2.1]; exact asC, q4⟩,
    ⟨V', ⟨q5.1, State.isArrayOf_alike al'.symm q5.2.1, q5.2.2.1⟩, q6, by rw [← al'.findClass]; exact q7, q8, fun j hj => by have := q9 j hj; rwa [Nat.zero_add] at this⟩, fun O n d w F n1 n2 => ?_⟩, hl, hc, hs⟩, st⟩
  · intro y hy
    simp only [List.mem_cons, List.not_mem_nil, or_false] at hy
    rcases hy with rfl | rfl <;> rfl
  · by_cases q : y = x
    · subst q
      cases hD.symm.trans hy
      exact ⟨E', q1.1, q2.2.1, q2.1, hsz⟩
    · exact ⟨cy, q10 y cy q hy, rfl, rfl, rfl⟩
  · obtain ⟨D3, cf, k, i, f, g1, g2, g3, g4, g5, g6, g7⟩ := F
    cases hD.symm.trans g1
    simp only [RoadKit.slotOf, g2, gV, gC, Option.map_some, Option.getD_some] at n1 n2
    exact ⟨E', cf, k, i, f, q1.1, g2, g3, by rw [q2.1]; exact g4, by rw [q2.1]; exact g5, by rw [q2.2.1]; exact g6, by rw [q2.2.2 f.slot (by simp [n1, n2])]; exact g7⟩
end StrChars.Road
namespace StrChars.Road
open Jvm Sem ClassFile Op Lib Jvm.Stand Jvm.Free Jvm.Free.XT
/-- WHAT COMES BACK, the byte[] as a list of values -/
def QA (Z : State) (x : Addr) (zn : Int32) (cs : List Int32) (h : Heap) (v : Option Value) (h' : Heap) (L : List Loc) : Prop := v = none ∧ (∀ y ∈ L, y.base = x) ∧ RoadKit.Keep h h' [x] ∧ h'.size = h.size + 1 ∧ RoadKit.Exa Z h' x ST ∧ RoadKit.Fld Z h' x ST "value" "[B" (.ref h.size) ∧ RoadKit.Fld Z h' x ST "coder" "B" (.int 0) ∧
  (∃ kb, Z.vm.findClass "[B" = some kb ∧ RoadKit.Arv Z h' h.size kb .byte zn (cs.map fun c => .int (lo8 c)) (.int 0)) ∧
  ∀ (O n d : String) (w : Value), RoadKit.Fld Z h x O n d w → RoadKit.slotOf Z O n d ≠ RoadKit.slotOf Z ST "value" "[B" → RoadKit.slotOf Z O n d ≠ RoadKit.slotOf Z ST "coder" "B" → RoadKit.Fld Z h' x O n d w
/-- **new String(chars) AT A CALL, THE ARRAYS AS LISTS**: the char[] at b holds cs, not empty, no char above 255 -/
theorem backArv {p : Program} {l : Launch} {e : Env} {R : Room} {s : State} {args : Array Value} {below : List Frame} {len W : Nat} {Z : State} {a0 : Array Value} {h : Heap} (hZ : Z.Warmed39 s.vm) (hw : ∀ d ∈ words, d.before a0 Z = true) {kI : Nat} (wi : (Jvm.Cond.instantiable ST kI).before a0 Z = true)
    {x b : Addr} {k : ClassId} {zn z : Int32} {cs : List Int32} {dv v0 c0 : Value} (E : RoadKit.Exa Z h x ST) (V : RoadKit.Fld Z h x ST "value" "[B" v0) (C : RoadKit.Fld Z h x ST "coder" "B" c0) (K : RoadKit.Arv Z h b k .char zn (cs.map Value.int) dv) (S : RoadKit.Sta Z h ST "COMPACT_STRINGS" "Z" (.int z)) (hz : ¬ z = 0)
    (hlen : zn.toNatClampNeg = cs.length) (h0 : 0 < cs.length) (hbig : cs.length ≤ 536870912) (hall : ∀ c ∈ cs, ¬ 255 < c) (hfr : 4 ≤ R.frames) (hlo : W + 65 ≤ R.locals) :
    Back l R p e below s args New1.yN len W (fun P a => a = #[.ref x, .ref b] ∧ P.U.heap = h ∧ P.cells + 1 ≤ R.cells ∧ P.slots + cs.length ≤ R.slots)
      (fun P _ v B => ∃ L, QA Z x zn cs h v B.U.heap L ∧ B.locs = P.locs ++ L ∧ B.cells = P.cells + 1 ∧ B.slots = P.slots + cs.length) := by
  obtain ⟨A, K1, K2, K3, K4, K5, K6⟩ := K
  have e : A.slots.size = cs.length := K3.trans hlen
  have hat : ∀ (i : Nat) (hi : i < cs.length), A.slots[i]? = some (.int cs[i]) := fun i hi => by rw [K5 i (by omega)]; simp [List.getD_eq_getElem?_getD, hi]
  have hcv : ∀ (i : Nat) (hi : i < cs.length), cv A i = cs[i] := fun i hi => by unfold cv; rw [hat i hi]
  have hty : Typed .char A := fun i v hv => by
    have hi : i < A.slots.size := (Array.getElem?_eq_some_iff.mp hv).1
    have q := K5 i hi
    rw [hv] at q
    rw [Option.some.inj q]
    exact K6 i hi
  refine Back.mono (back hZ hw wi E V C K1 hty S hz (by omega) (by omega) (fun i hi => by rw [hcv i (by omega)]; exact hall _ (List.getElem_mem _)) hfr hlo) (fun P a hp => ⟨hp.1, hp.2.1, hp.2.2.1, by rw [e]; exact hp.2.2.2⟩) (fun P a v B hp hq => ?_)
  obtain ⟨L, ⟨q1, q2, q3, q4, q5, q6, q7, ⟨V', v1, v2, v3, v4, v5⟩, q9⟩, hl, hc, hs⟩ := hq
  refine ⟨L, ⟨q1, q2, q3, q4, q5, q6, q7, ⟨V'.cls, v3, V', v1, rfl, by rw [v4, e, hlen], K4, fun i hi => ?_, fun i hi => ?_⟩, q9⟩, hl, hc, by rw [hs, e]⟩
  · have hi' : i < cs.length := by omega
    rw [v5 i (by omega), hcv i hi']; simp [List.getD_eq_getElem?_getD, hi']
  · have hi' : i < cs.length := by omega
    simp only [List.getD_eq_getElem?_getD, List.getElem?_map, List.getElem?_eq_getElem hi', Option.map_some, Option.getD_some]
    exact fits_lo8 _
end StrChars.Road
namespace StrChars.Road
open Jvm Sem ClassFile Op Lib Jvm.Stand Jvm.Free Jvm.Free.XT
/-- WHAT COMES BACK, in the writer's own shape -/
def QV (Z : State) (x : Addr) (N : Int32) (bs : List Int32) (h : Heap) (n0 : Nat) (v : Option Value) (h' : Heap) (L : List Loc) : Prop := v = none ∧ RoadKit.Fr n0 L ∧ RoadKit.Keep h h' [x] ∧ RoadKit.Exa Z h' x ST ∧ RoadKit.Fld Z h' x ST "coder" "B" (.int 0) ∧
  ∃ (t : Addr) (kb : ClassId), n0 ≤ t ∧ h.size ≤ t ∧ ¬ t = x ∧ RoadKit.Fld Z h' x ST "value" "[B" (.ref t) ∧ RoadKit.Arv Z h' t kb .byte N (bs.map Value.int) (.int 0)
/-- **new String(chars) AT A CALL, FOR THE WRITER**: a char[] of n known ints, each 0 to 255 -/
theorem backV {p : Program} {l : Launch} {e : Env} {R : Room} {s : State} {args : Array Value} {below : List Frame} {len W : Nat} {Z : State} {a0 : Array Value} {h : Heap} (hZ : Z.Warmed39 s.vm) (hw : ∀ d ∈ words, d.before a0 Z = true) {kI : Nat} (wi : (Jvm.Cond.instantiable ST kI).before a0 Z = true)
    {x b : Addr} {kC : ClassId} {cs bs : List Int32} {d v0 c0 : Value} {z N : Int32} {n n0 : Nat} (hx0 : n0 ≤ x) (hh0 : n0 ≤ h.size) (E : RoadKit.Exa Z h x ST) (V : RoadKit.Fld Z h x ST "value" "[B" v0) (C : RoadKit.Fld Z h x ST "coder" "B" c0) (K : RoadKit.Arv Z h b kC .char N (cs.map Value.int) d) (S : RoadKit.Sta Z h ST "COMPACT_STRINGS" "Z" (.int z)) (hz : ¬ z = 0)
    (hn : cs.length = n) (hN : N = Int32.ofNat n) (l0 : 0 < n) (l2 : n ≤ 4000) (hp : ∀ c ∈ cs, ¬ c < 0 ∧ ¬ (255 : Int32) < c) (hb : bs = cs.map (fun c => c.toInt8.toInt32)) (hfr : 4 ≤ R.frames) (hlo : W + 65 ≤ R.locals) :
    Back l R p e below s args (⟨"java/lang/String", "<init>", "([C)V"⟩ : MethodName) len W (fun P a => a = #[.ref x, .ref b] ∧ P.U.heap = h ∧ P.cells + 1 ≤ R.cells ∧ P.slots + n ≤ R.slots)
      (fun P _ v B => ∃ L, QV Z x N bs h n0 v B.U.heap L ∧ B.locs = P.locs ++ L ∧ B.cells = P.cells + 1 ∧ B.slots = P.slots + n) := by
  subst hn hN hb
  refine Back.mono (backArv hZ hw wi E V C K S hz (n32 (by omega)) l0 (by omega) (fun c hc => (hp c hc).2) hfr hlo) (fun P a hp => hp) (fun P a v B hp hq => ?_)
  obtain ⟨L, ⟨q1, q2, q3, q4, q5, q6, q7, ⟨kb, v1, v2⟩, q9⟩, hl, hc, hs⟩ := hq
  exact ⟨L, ⟨q1, fun y hy => by rw [q2 y hy]; exact hx0, q3, q5, q7, h.size, kb, hh0, Nat.le_refl _, Nat.ne_of_gt E.lt, q6, by rw [List.map_map]; exact v2⟩, hl, hc, hs⟩
end StrChars.Road
namespace StrChars
open Jvm Sem ClassFile Op Lib Jvm.Stand Jvm.Free.XT Jvm.Free.ALB Jvm.Free.JM Jvm.Free
open Jvm.Lib.Cold (StaticIs)
def hi8 (x : Int32) : Int32 := lo8 (x >>> ((8 : Int32) &&& 31))
/-- what StringUTF16.getChar makes of two bytes -/
def pairCh (u v : Int32) : Int32 := (((u &&& 255) <<< ((0 : Int32) &&& 31)) ||| ((v &&& 255) <<< ((8 : Int32) &&& 31))).toUInt32.toUInt16.toUInt32.toInt32
theorem shr0 (c : Int32) : c >>> ((0 : Int32) &&& 31) = c := by
  have e : ((0 : Int32) &&& 31) = 0 := by decide
  rw [e]
  apply Int32.toBitVec_inj.mp
  rw [Int32.toBitVec_shiftRight]
  have e1 : ((0 : Int32).toBitVec.smod 32) = 0#32 := by decide
  rw [e1, BitVec.sshiftRight_eq']
  exact BitVec.sshiftRight_zero
theorem lo8_and (x : Int32) : (lo8 x &&& 255).toBitVec.toNat = x.toBitVec.toNat % 256 := by
  have h : (lo8 x).toBitVec = (x.toBitVec.signExtend 8).signExtend 32 := by rw [lo8, Int8.toBitVec_toInt32, Int32.toBitVec_toInt8]
  rw [Int32.toBitVec_and, BitVec.toNat_and, h]
  have e : ((x.toBitVec.signExtend 8).signExtend 32).toNat % 256 = x.toBitVec.toNat % 256 := by
    rw [BitVec.toNat_signExtend]
    have hlt := x.toBitVec.isLt
    simp only [BitVec.toNat_setWidth, BitVec.toNat_signExtend]
    split <;> split <;> omega
  rw [← e]
  exact Nat.and_two_pow_sub_one_eq_mod _ 8
theorem pair_says {c : Int32} (h0 : ¬ c < 0) (h1 : ¬ 65535 < c) : pairCh (lo8 c) (hi8 c) = c := by
  rw [Int32.lt_iff_toInt_lt] at h0 h1
  have e0 : (0 : Int32).toInt = 0 := rfl
  have e1 : (65535 : Int32).toInt = 65535 := rfl
  have hc : c.toInt = c.toBitVec.toNat := by
    have := c.toBitVec.isLt
    have e : c.toInt = c.toBitVec.toInt := rfl
    rw [e] at h0 h1
    rw [e]
    rw [BitVec.toInt_eq_toNat_cond] at h0 h1 ⊢
    split at h0 <;> split <;> omega
  have hn : c.toBitVec.toNat < 65536 := by omega
  have a1 := lo8_and c
  have a2 : (hi8 c &&& 255).toBitVec.toNat = c.toBitVec.toNat / 256 := by
    rw [hi8, lo8_and]
    have e : ((8 : Int32) &&& 31) = 8 := by decide
    rw [e, Int32.toBitVec_shiftRight]
    have e2 : ((8 : Int32).toBitVec.smod 32) = 8#32 := by decide
    rw [e2, BitVec.sshiftRight_eq', BitVec.toNat_sshiftRight_of_msb_false (by rw [BitVec.msb_eq_false_iff_two_mul_lt]; omega)]
    show c.toBitVec.toNat >>> 8 % 256 = _
    rw [Nat.shiftRight_eq_div_pow]
    omega
  unfold pairCh
  apply Int32.toBitVec_inj.mp
  apply BitVec.eq_of_toNat_eq
  have f0 : ((0 : Int32) &&& 31) = 0 := by decide
  have f8 : ((8 : Int32) &&& 31) = 8 := by decide
  rw [f0, f8]
  have g : (((lo8 c &&& 255) <<< (0 : Int32)) ||| ((hi8 c &&& 255) <<< (8 : Int32))).toBitVec.toNat = c.toBitVec.toNat := by
    rw [Int32.toBitVec_or, Int32.toBitVec_shiftLeft, Int32.toBitVec_shiftLeft]
    have s0 : ((0 : Int32).toBitVec.smod 32) = 0#32 := by decide
    have s8 : ((8 : Int32).toBitVec.smod 32) = 8#32 := by decide
    rw [s0, s8, BitVec.toNat_or]
    simp only [BitVec.shiftLeft_eq', BitVec.toNat_shiftLeft, a1, a2]
    show (c.toBitVec.toNat % 256) <<< 0 % 2 ^ 32 ||| (c.toBitVec.toNat / 256) <<< 8 % 2 ^ 32 = _
    rw [Nat.shiftLeft_zero, Nat.mod_eq_of_lt (show c.toBitVec.toNat % 256 < 2 ^ 32 by omega), Nat.mod_eq_of_lt (show (c.toBitVec.toNat / 256) <<< 8 < 2 ^ 32 by rw [Nat.shiftLeft_eq]; omega), Nat.or_comm, ← Nat.shiftLeft_add_eq_or_of_lt (by omega), Nat.shiftLeft_eq]
    omega
  show BitVec.toNat (((((lo8 c &&& 255) <<< (0 : Int32)) ||| ((hi8 c &&& 255) <<< (8 : Int32))).toBitVec.setWidth 16).setWidth 32) = _
  rw [BitVec.toNat_setWidth, BitVec.toNat_setWidth, g]
  omega
end StrChars
namespace StrChars
open Jvm Sem ClassFile Op Lib Jvm.Stand Jvm.Free.XT Jvm.Free.ALB Jvm.Free.JM Jvm.Free
open Jvm.Lib.Cold (StaticIs)
theorem shr1 {n : Nat} (h : 2 * n < 2 ^ 31) : Int32.ofNat (2 * n) >>> ((1 : Int32) &&& 31) = Int32.ofNat n := by
  have e : ((1 : Int32) &&& 31) = 1 := by decide
  rw [e]
  apply Int32.toBitVec_inj.mp
  rw [Int32.toBitVec_shiftRight]
  have e1 : ((1 : Int32).toBitVec.smod 32) = 1#32 := by decide
  have hm : (BitVec.ofNat 32 (2 * n)).toNat = 2 * n := by rw [BitVec.toNat_ofNat, Nat.mod_eq_of_lt (by omega)]
  rw [e1, BitVec.sshiftRight_eq']
  apply BitVec.eq_of_toNat_eq
  show ((BitVec.ofNat 32 (2 * n)).sshiftRight 1).toNat = (BitVec.ofNat 32 n).toNat
  rw [BitVec.toNat_sshiftRight_of_msb_false (by rw [BitVec.msb_eq_false_iff_two_mul_lt, hm]; omega), hm, BitVec.toNat_ofNat, Nat.shiftRight_eq_div_pow]
  omega
/-- charAt's cast of a byte read back -/
def chr8 (u : Int32) : Int32 := (u &&& 255).toUInt32.toUInt16.toUInt32.toInt32
theorem chr8_lo8 {c : Int32} (h0 : ¬ c < 0) (h1 : ¬ 255 < c) : chr8 (lo8 c) = c := by
  have t : ∀ k : Fin 256, (Int32.ofNat k.val).toUInt32.toUInt16.toUInt32.toInt32 = Int32.ofNat k.val := by decide +kernel
  unfold chr8
  rw [lo8_mask h0 h1]
  rw [Int32.lt_iff_toInt_lt] at h0 h1
  have e0 : (0 : Int32).toInt = 0 := rfl
  have e1 : (255 : Int32).toInt = 255 := rfl
  obtain ⟨k, hk⟩ : ∃ k : Nat, c.toInt = k := ⟨c.toInt.toNat, by omega⟩
  have hx : c = Int32.ofNat k := Int32.toInt_inj.mp (by rw [hk, Int32.toInt_ofNat_small (by omega)])
  rw [hx]
  exact t ⟨k, by omega⟩
theorem narrow_ch {c : Int32} (h0 : ¬ c < 0) (h1 : ¬ 65535 < c) : narrow .char (.int c) = .int c := by
  have q : narrow .char (.int (pairCh (lo8 c) (hi8 c))) = .int (pairCh (lo8 c) (hi8 c)) := narrow_c _
  rwa [pair_says h0 h1] at q
/-- the array's cell V codes the n chars f 0 .. f (n - 1) by the coder cd, as the JDK does: coder 1 just where some char is above 255 -/
def Cod (cd : Int32) (n : Nat) (f : Nat → Int32) (V : Cell) : Prop := (cd = 0 ∧ V.slots.size = n ∧ ∀ j, j < n → V.slots[j]? = some (.int (lo8 (f j))) ∧ ¬ 255 < f j) ∨ (cd = 1 ∧ V.slots.size = 2 * n ∧ (∀ j, j < n → V.slots[2 * j]? = some (.int (lo8 (f j))) ∧ V.slots[2 * j + 1]? = some (.int (hi8 (f j)))) ∧ ∃ j, j < n ∧ 255 < f j)
theorem Cod.cd {cd : Int32} {n : Nat} {f : Nat → Int32} {V : Cell} (h : Cod cd n f V) : cd = 0 ∨ cd = 1 := h.imp (fun q => q.1) fun q => q.1
theorem Cod.len {cd : Int32} {n : Nat} {f : Nat → Int32} {V : Cell} (h : Cod cd n f V) (hs : V.slots.size < 2 ^ 31) : Int32.ofNat V.slots.size >>> (cd &&& 31) = Int32.ofNat n := by
  rcases h with ⟨rfl, h, -⟩ | ⟨rfl, h, -⟩
  · rw [shr0, h]
  · rw [h, shr1 (by omega)]
/-- **x is a String of the n chars f 0 .. f (n - 1)**, Latin-1 or UTF-16; its array at t has the cell V -/
def Txt (x t : Addr) (V : Cell) (cd : Int32) (n : Nat) (f : Nat → Int32) (U : State) : Prop := Exact "java/lang/String" x U ∧ Has x "java/lang/String" "value" "[B" (.ref t) U ∧ Has x "java/lang/String" "coder" "B" (.int cd) U ∧ XT.Arr .byte t V U ∧ Cod cd n f V ∧ ∀ j, j < n → ¬ f j < 0 ∧ ¬ 65535 < f j
theorem Txt.mv {x t : Addr} {V : Cell} {cd : Int32} {n : Nat} {f : Nat → Int32} {U U' : State} (h : Txt x t V cd n f U) (hal : U.vm.Alike U'.vm) (hh : U'.heap = U.heap) : Txt x t V cd n f U' := ⟨h.1.mv hal hh, h.2.1.mv hal hh, h.2.2.1.mv hal hh, h.2.2.2.1.mv hal hh, h.2.2.2.2⟩
namespace Cdr
def yN : MethodName := ⟨"java/lang/String", "coder", "()B"⟩
abbrev yB : ByteArray := jdk_42_method_152_code
theorem d0 : decode yB 0 = .ok (.getstatic 38, 3) := by decide +kernel
theorem d3 : decode yB 3 = .ok (.ifCond (.eq) 10, 3) := by decide +kernel
theorem d6 : decode yB 6 = .ok (.aload_n 0, 1) := by decide +kernel
theorem d7 : decode yB 7 = .ok (.getfield 15, 3) := by decide +kernel
theorem d10 : decode yB 10 = .ok (.goto 4, 3) := by decide +kernel
theorem d14 : decode yB 14 = .ok (.ireturn, 1) := by decide +kernel
def site : List Cond := [.fieldLink "java/lang/String" 38 "java/lang/String" "COMPACT_STRINGS" "Z", .fieldLink "java/lang/String" 15 "java/lang/String" "coder" "B"]
def tab : Cond := tabOf yN yB 1 (some .byte) site
def P (x : Addr) (cd z : Int32) (args : Array Value) (s : State) : Prop := args = #[.ref x] ∧ Has x "java/lang/String" "coder" "B" (.int cd) s ∧ (cd = 0 ∨ cd = 1) ∧ StaticIs s "java/lang/String" "COMPACT_STRINGS" "Z" (.int z) ∧ ¬ z = 0
def E (cd : Int32) (r : Option Value) (s u : State) : Prop := XT.PureE (some (.int cd)) r s u
theorem law (l : Launch) (x : Addr) (cd z : Int32) : Law l yN 1 0 0 0 yB 1 (some .byte) site (P x cd z) (E cd) [] 0 0 := by
  refine Law.of_walk (plainFor_of_name (by decide +kernel)) (by decide +kernel) (by decide +kernel) (by decide) (fun _ _ h => by rw [h.1]; rfl) (fun _ U U' hal hh h => ⟨h.1, h.2.1.mv hal hh, h.2.2.1, h.2.2.2.1.there hal hh, h.2.2.2.2⟩) (fun r U U' V V' h1 hal h2 h => XT.PureE.mv r U U' V V' h1 hal h2 h) ?_
  intro p e s m args below meth c s₁ X0 hexec hbytes hml hret hlk hnm hown hh0 W hP
  obtain ⟨rfl, hx, hc, s1, hz⟩ := hP
  have c1 : Steps p.tables e below (s₁.setTop (entryFrame m #[.ref x] 1)) (s₁.setTop (mkF m 0 #[.val (.ref x)] [])) := entry rfl
  obtain ⟨T2, X2, q2, st2⟩ := X0.sget hexec hown (wk W (.fieldLink "java/lang/String" 38 "java/lang/String" "COMPACT_STRINGS" "Z")) s1 (fun _ _ h => by rw [hh0]; exact h) (g := (mkF m 0 #[.val (.ref x)] [])) rfl (hb hbytes d0)
  have hh2 := q2.trans hh0
  have c3 : Steps p.tables e below (s₁.setTop (entryFrame m #[.ref x] 1)) (T2.setTop (mkF m 7 #[.val (.ref x)] [.ref x])) := (c1.trans (st2 _ (Steps.refl _))).trans (by
    refine XS.ifNo X2.here hexec rfl (hb hbytes d3) rfl (i0_eq_f hz) ?_
    refine XS.aloadN X2.here hexec rfl (hb hbytes d6) rfl rfl ?_
    exact Steps.refl _)
  obtain ⟨T4, X4, q4, st4⟩ := X2.hget hexec hown (wk W (.fieldLink "java/lang/String" 15 "java/lang/String" "coder" "B")) (hx.mv X2.warmed.alike hh2) (g := (mkF m 7 #[.val (.ref x)] [.ref x])) rfl (rest := []) rfl (hb hbytes d7)
  have c5 : Steps p.tables e below (s₁.setTop (entryFrame m #[.ref x] 1)) (T4.setTop (mkF m 14 #[.val (.ref x)] [.int cd])) := (c3.trans (st4 _ (Steps.refl _))).trans (by
    refine XS.goto X4.here hexec rfl (pc0 := 10) rfl (hb hbytes d10) (by decide) rfl ?_
    exact Steps.refl _)
  exact ⟨T4, some (.int cd), _, _, _, X4, rfl, rfl, rfl, (fun h => by cases h), ⟨rfl, q4.trans hh2⟩, fun fs hl => c5.trans (X4.ireturnOut hexec hret (by rcases hc with rfl | rfl <;> rfl) (Or.inr (Or.inr (Or.inl rfl))) (hb hbytes d14) hl)⟩
end Cdr
namespace Len
def yN : MethodName := ⟨"java/lang/String", "length", "()I"⟩
abbrev yB : ByteArray := jdk_42_method_54_code
theorem d0 : decode yB 0 = .ok (.aload_n 0, 1) := by decide +kernel
theorem d1 : decode yB 1 = .ok (.getfield 9, 3) := by decide +kernel
theorem d4 : decode yB 4 = .ok (.arraylength, 1) := by decide +kernel
theorem d5 : decode yB 5 = .ok (.aload_n 0, 1) := by decide +kernel
theorem d6 : decode yB 6 = .ok (.invokevirtual 335, 3) := by decide +kernel
theorem d9 : decode yB 9 = .ok (.ishr, 1) := by decide +kernel
theorem d10 : decode yB 10 = .ok (.ireturn, 1) := by decide +kernel
def site : List Cond := [.fieldLink "java/lang/String" 9 "java/lang/String" "value" "[B", Cdr.tab] ++ virtW "java/lang/String" 335 "java/lang/String" Cdr.yN Cdr.yN
def tab : Cond := tabOf yN yB 1 (some .int) site
def P (x t : Addr) (V : Cell) (cd : Int32) (n : Nat) (f : Nat → Int32) (z : Int32) (args : Array Value) (s : State) : Prop := args = #[.ref x] ∧ Txt x t V cd n f s ∧ StaticIs s "java/lang/String" "COMPACT_STRINGS" "Z" (.int z) ∧ ¬ z = 0
def E (n : Nat) (r : Option Value) (s u : State) : Prop := XT.PureE (some (.int (Int32.ofNat n))) r s u
/-- length() of a String of n chars, in either coding -/
theorem law (l : Launch) (x t : Addr) (V : Cell) (cd : Int32) (n : Nat) (f : Nat → Int32) (z : Int32) : Law l yN 1 0 1 13 yB 1 (some .int) site (P x t V cd n f z) (E n) [] 0 0 := by
  refine Law.of_walk (plainFor_of_name (by decide +kernel)) (by decide +kernel) (by decide +kernel) (by decide) (fun _ _ h => by rw [h.1]; rfl) (fun _ U U' hal hh h => ⟨h.1, h.2.1.mv hal hh, h.2.2.1.there hal hh, h.2.2.2⟩) (fun r U U' V V' h1 hal h2 h => XT.PureE.mv r U U' V V' h1 hal h2 h) ?_
  intro p e s m args below meth c s₁ X0 hexec hbytes hml hret hlk hnm hown hh0 W hP
  obtain ⟨rfl, hx, s1, hz⟩ := hP
  have v31 := hx.2.2.2.1.2.2.2
  have c1 : Steps p.tables e below (s₁.setTop (entryFrame m #[.ref x] 1)) (s₁.setTop (mkF m 1 #[.val (.ref x)] [.ref x])) := Steps.trans (entry rfl) (by
    show Steps p.tables e below (s₁.setTop (mkF m 0 #[.val (.ref x)] [])) _
    refine XS.aloadN X0.here hexec rfl (hb hbytes d0) rfl rfl ?_
    exact Steps.refl _)
  obtain ⟨T2, X2, q2, st2⟩ := X0.hget hexec hown (wk W (.fieldLink "java/lang/String" 9 "java/lang/String" "value" "[B")) (hx.mv X0.warmed.alike hh0).2.1 (g := (mkF m 1 #[.val (.ref x)] [.ref x])) rfl (rest := []) rfl (hb hbytes d1)
  have hh2 := q2.trans hh0
  have hx2 := hx.mv X2.warmed.alike hh2
  have c3 : Steps p.tables e below (s₁.setTop (entryFrame m #[.ref x] 1)) (T2.setTop (mkF m 6 #[.val (.ref x)] [.ref x, .int (Int32.ofNat V.slots.size)])) := (c1.trans (st2 _ (Steps.refl _))).trans (by
    refine X2.alen hexec hx2.2.2.2.1 rfl rfl (hb hbytes d4) ?_
    refine XS.aloadN X2.here hexec rfl (hb hbytes d5) rfl rfl ?_
    exact Steps.refl _)
  obtain ⟨v4, T4, X4, E4, g4⟩ := X2.callV hexec (Cdr.law l x cd z) hown (wks W (virtW "java/lang/String" 335 "java/lang/String" Cdr.yN Cdr.yN)) rfl (by decide) (wk W Cdr.tab) (W := 1) (Nat.le_of_ble_eq_true rfl) (Nat.le_of_ble_eq_true rfl) (Nat.le_refl _) (Nat.le_refl _) (hx2.1.fc X2.warmed.alike) hx2.1.is (g := (mkF m 6 #[.val (.ref x)] [.ref x, .int (Int32.ofNat V.slots.size)])) rfl (by rw [hml]; rfl) c3 (argsL := []) (rest := [.int (Int32.ofNat V.slots.size)]) rfl rfl (by show 2 * 0 + (1 + 0) ≤ _; decide) (hb hbytes d6) (⟨rfl, hx2.2.2.1, hx.2.2.2.2.1.cd, s1.there X2.warmed.alike hh2, hz⟩)
  obtain ⟨rfl, q4⟩ := E4
  have c5 : Steps p.tables e below (s₁.setTop (entryFrame m #[.ref x] 1)) (T4.setTop (mkF m 10 #[.val (.ref x)] [.int (Int32.ofNat V.slots.size >>> (cd &&& 31))])) := Steps.trans g4 (by
    refine ishr X4.here hexec rfl (hb hbytes d9) rfl ?_
    exact Steps.refl _)
  rw [hx.2.2.2.2.1.len v31] at c5
  exact ⟨T4, some (.int (Int32.ofNat n)), _, _, _, X4, rfl, rfl, rfl, (fun h => by cases h), ⟨rfl, q4.trans hh2⟩, fun fs hl => c5.trans (X4.ireturnOut hexec hret rfl (Or.inl rfl) (hb hbytes d10) hl)⟩
theorem pays {l : Launch} {R : Room} {p : Program} {e : Env} {below : List Frame} {s : State} {sargs : Array Value} {len W : Nat} (x t : Addr) (V : Cell) (cd : Int32) (n : Nat) (f : Nat → Int32) (z : Int32) (htab : tab.before sargs s = true) (hfr : 2 ≤ R.frames) (hlo : W + 25 ≤ R.locals) :
    Back l R p e below s sargs yN len W (fun A₁ a₁ => A₁.cells + 0 ≤ R.cells ∧ A₁.slots + 0 ≤ R.slots ∧ P x t V cd n f z a₁ A₁.U) (fun A₁ _ v₁ B₁ => E n v₁ A₁.U B₁.U ∧ B₁.locs = A₁.locs ++ [] ∧ B₁.cells = A₁.cells + 0 ∧ B₁.slots = A₁.slots + 0) :=
  (law l x t V cd n f z).pays htab hfr (by omega)
end Len
namespace IsL
def yN : MethodName := ⟨"java/lang/String", "isLatin1", "()Z"⟩
abbrev yB : ByteArray := jdk_42_method_154_code
theorem d0 : decode yB 0 = .ok (.getstatic 38, 3) := by decide +kernel
theorem d3 : decode yB 3 = .ok (.ifCond (.eq) 14, 3) := by decide +kernel
theorem d6 : decode yB 6 = .ok (.aload_n 0, 1) := by decide +kernel
theorem d7 : decode yB 7 = .ok (.getfield 15, 3) := by decide +kernel
theorem d10 : decode yB 10 = .ok (.ifCond (.ne) 7, 3) := by decide +kernel
theorem d13 : decode yB 13 = .ok (.iconst 1, 1) := by decide +kernel
theorem d14 : decode yB 14 = .ok (.goto 4, 3) := by decide +kernel
theorem d17 : decode yB 17 = .ok (.iconst 0, 1) := by decide +kernel
theorem d18 : decode yB 18 = .ok (.ireturn, 1) := by decide +kernel
def site : List Cond := [.fieldLink "java/lang/String" 38 "java/lang/String" "COMPACT_STRINGS" "Z", .fieldLink "java/lang/String" 15 "java/lang/String" "coder" "B"]
def tab : Cond := tabOf yN yB 1 (some .boolean) site
def P (x : Addr) (cd z : Int32) (args : Array Value) (s : State) : Prop := args = #[.ref x] ∧ Has x "java/lang/String" "coder" "B" (.int cd) s ∧ (cd = 0 ∨ cd = 1) ∧ StaticIs s "java/lang/String" "COMPACT_STRINGS" "Z" (.int z) ∧ ¬ z = 0
def E (cd : Int32) (r : Option Value) (s u : State) : Prop := XT.PureE (some (.int (1 - cd))) r s u
theorem law (l : Launch) (x : Addr) (cd z : Int32) : Law l yN 1 0 0 0 yB 1 (some .boolean) site (P x cd z) (E cd) [] 0 0 := by
  refine Law.of_walk (plainFor_of_name (by decide +kernel)) (by decide +kernel) (by decide +kernel) (by decide) (fun _ _ h => by rw [h.1]; rfl) (fun _ U U' hal hh h => ⟨h.1, h.2.1.mv hal hh, h.2.2.1, h.2.2.2.1.there hal hh, h.2.2.2.2⟩) (fun r U U' V V' h1 hal h2 h => XT.PureE.mv r U U' V V' h1 hal h2 h) ?_
  intro p e s m args below meth c s₁ X0 hexec hbytes hml hret hlk hnm hown hh0 W hP
  obtain ⟨rfl, hx, hc, s1, hz⟩ := hP
  have c1 : Steps p.tables e below (s₁.setTop (entryFrame m #[.ref x] 1)) (s₁.setTop (mkF m 0 #[.val (.ref x)] [])) := entry rfl
  obtain ⟨T2, X2, q2, st2⟩ := X0.sget hexec hown (wk W (.fieldLink "java/lang/String" 38 "java/lang/String" "COMPACT_STRINGS" "Z")) s1 (fun _ _ h => by rw [hh0]; exact h) (g := (mkF m 0 #[.val (.ref x)] [])) rfl (hb hbytes d0)
  have hh2 := q2.trans hh0
  have c3 : Steps p.tables e below (s₁.setTop (entryFrame m #[.ref x] 1)) (T2.setTop (mkF m 7 #[.val (.ref x)] [.ref x])) := (c1.trans (st2 _ (Steps.refl _))).trans (by
    refine XS.ifNo X2.here hexec rfl (hb hbytes d3) rfl (i0_eq_f hz) ?_
    refine XS.aloadN X2.here hexec rfl (hb hbytes d6) rfl rfl ?_
    exact Steps.refl _)
  obtain ⟨T4, X4, q4, st4⟩ := X2.hget hexec hown (wk W (.fieldLink "java/lang/String" 15 "java/lang/String" "coder" "B")) (hx.mv X2.warmed.alike hh2) (g := (mkF m 7 #[.val (.ref x)] [.ref x])) rfl (rest := []) rfl (hb hbytes d7)
  have c5 : Steps p.tables e below (s₁.setTop (entryFrame m #[.ref x] 1)) (T4.setTop (mkF m 10 #[.val (.ref x)] [.int cd])) := c3.trans (st4 _ (Steps.refl _))
  have c6 : Steps p.tables e below (s₁.setTop (entryFrame m #[.ref x] 1)) (T4.setTop (mkF m 18 #[.val (.ref x)] [.int (1 - cd)])) := by
    rcases hc with rfl | rfl
    · exact c5.trans (by
        refine XS.ifNo X4.here hexec rfl (hb hbytes d10) rfl (i0_ne_f rfl) ?_
        refine iconstV X4.here hexec rfl 1 (hb hbytes d13) (by decide) ?_
        refine XS.goto X4.here hexec rfl (pc0 := 14) rfl (hb hbytes d14) (by decide) rfl ?_
        exact Steps.refl _)
    · exact c5.trans (by
        refine XS.ifYes X4.here hexec rfl (pc0 := 10) rfl (hb hbytes d10) rfl (i0_ne_t (by decide)) (by decide) rfl ?_
        refine iconstV X4.here hexec rfl 0 (hb hbytes d17) (by decide) ?_
        exact Steps.refl _)
  exact ⟨T4, some (.int (1 - cd)), _, _, _, X4, rfl, rfl, rfl, (fun h => by cases h), ⟨rfl, q4.trans hh2⟩, fun fs hl => c6.trans (X4.ireturnOut hexec hret (by rcases hc with rfl | rfl <;> rfl) (Or.inr (Or.inl rfl)) (hb hbytes d18) hl)⟩
end IsL
namespace LChA
def yN : MethodName := ⟨"java/lang/StringLatin1", "charAt", "([BI)C"⟩
abbrev yB : ByteArray := jdk_43_method_2_code
theorem d0 : decode yB 0 = .ok (.iload_n 1, 1) := by decide +kernel
theorem d1 : decode yB 1 = .ok (.aload_n 0, 1) := by decide +kernel
theorem d2 : decode yB 2 = .ok (.arraylength, 1) := by decide +kernel
theorem d3 : decode yB 3 = .ok (.invokestatic 9, 3) := by decide +kernel
theorem d6 : decode yB 6 = .ok (.aload_n 0, 1) := by decide +kernel
theorem d7 : decode yB 7 = .ok (.iload_n 1, 1) := by decide +kernel
theorem d8 : decode yB 8 = .ok (.baload, 1) := by decide +kernel
theorem d9 : decode yB 9 = .ok (.sipush 255, 3) := by decide +kernel
theorem d12 : decode yB 12 = .ok (.iand, 1) := by decide +kernel
theorem d13 : decode yB 13 = .ok (.i2c, 1) := by decide +kernel
theorem d14 : decode yB 14 = .ok (.ireturn, 1) := by decide +kernel
def site : List Cond := [JO.Str_checkIndex.tab] ++ staticW "java/lang/StringLatin1" 9 JO.Str_checkIndex.yN
def tab : Cond := tabOf yN yB 2 (some .char) site
def P (t : Addr) (V : Cell) (i : Nat) (u : Int32) (fm : Value) (args : Array Value) (s : State) : Prop := args = #[.ref t, .int (Int32.ofNat i)] ∧ XT.Arr .byte t V s ∧ V.slots[i]? = some (.int u) ∧ (StaticIs s "jdk/internal/util/Preconditions" "SIOOBE_FORMATTER" "Ljava/util/function/BiFunction;" fm ∧ fm.isRef = true)
def E (u : Int32) (r : Option Value) (s w : State) : Prop := XT.PureE (some (.int (chr8 u))) r s w
theorem law (l : Launch) (t : Addr) (V : Cell) (i : Nat) (u : Int32) (fm : Value) : Law l yN 2 2 2 27 yB 2 (some .char) site (P t V i u fm) (E u) [] 0 0 := by
  refine Law.of_walk (plainFor_of_name (by decide +kernel)) (by decide +kernel) (by decide +kernel) (by decide) (fun _ _ h => by rw [h.1]; rfl) (fun _ U U' hal hh h => ⟨h.1, h.2.1.mv hal hh, h.2.2.1, h.2.2.2.1.there hal hh, h.2.2.2.2⟩) (fun r U U' V V' h1 hal h2 h => XT.PureE.mv r U U' V V' h1 hal h2 h) ?_
  intro p e s m args below meth c s₁ X0 hexec hbytes hml hret hlk hnm hown hh0 W hP
  obtain ⟨rfl, hV, hu, s1, rf⟩ := hP
  have v31 := hV.2.2.2
  have hi : i < V.slots.size := (Array.getElem?_eq_some_iff.mp hu).1
  have c1 : Steps p.tables e below (s₁.setTop (entryFrame m #[.ref t, .int (Int32.ofNat i)] 2)) (s₁.setTop (mkF m 0 #[.val (.ref t), .val (.int (Int32.ofNat i))] [])) := entry rfl
  have c2 : Steps p.tables e below (s₁.setTop (entryFrame m #[.ref t, .int (Int32.ofNat i)] 2)) (s₁.setTop (mkF m 3 #[.val (.ref t), .val (.int (Int32.ofNat i))] [.int (Int32.ofNat V.slots.size), .int (Int32.ofNat i)])) := c1.trans (by
    refine XS.iloadN X0.here hexec rfl (hb hbytes d0) rfl ?_
    refine XS.aloadN X0.here hexec rfl (hb hbytes d1) rfl rfl ?_
    refine X0.alen hexec (hV.mv X0.warmed.alike hh0) rfl rfl (hb hbytes d2) ?_
    exact Steps.refl _)
  obtain ⟨v3, T3, X3, E3, g3⟩ := X0.callS hexec (JO.Str_checkIndex.law l (Int32.ofNat i) (Int32.ofNat V.slots.size) fm) hown (wks W (staticW "java/lang/StringLatin1" 9 JO.Str_checkIndex.yN)) (wk W JO.Str_checkIndex.tab) (W := 0) (Nat.le_of_ble_eq_true rfl) (Nat.le_of_ble_eq_true rfl) (Nat.le_refl _) (Nat.le_refl _) (g := (mkF m 3 #[.val (.ref t), .val (.int (Int32.ofNat i))] [.int (Int32.ofNat V.slots.size), .int (Int32.ofNat i)])) rfl (by rw [hml]; rfl) c2 (argsL := [.int (Int32.ofNat i), .int (Int32.ofNat V.slots.size)]) (rest := []) rfl rfl (by show 2 * 0 + 0 ≤ _; decide) (hb hbytes d3) (⟨rfl, rf, s1.there X0.warmed.alike hh0, Int32.ofNat_not_neg (by omega), lt32 v31 hi⟩)
  obtain ⟨rfl, q3⟩ := E3
  have hh3 := q3.trans hh0
  have c4 : Steps p.tables e below (s₁.setTop (entryFrame m #[.ref t, .int (Int32.ofNat i)] 2)) (T3.setTop (mkF m 14 #[.val (.ref t), .val (.int (Int32.ofNat i))] [.int (chr8 u)])) := Steps.trans g3 (by
    refine XS.aloadN X3.here hexec rfl (hb hbytes d6) rfl rfl ?_
    refine XS.iloadN X3.here hexec rfl (hb hbytes d7) rfl ?_
    refine X3.aget hexec (hV.mv X3.warmed.alike hh3) rfl hu rfl rfl (hb hbytes d8) ?_
    refine sipushV X3.here hexec rfl 255 (hb hbytes d9) (by decide) ?_
    refine XS.iand X3.here hexec rfl (hb hbytes d12) rfl ?_
    refine i2c X3.here hexec rfl (hb hbytes d13) rfl ?_
    exact Steps.refl _)
  exact ⟨T3, some (.int (chr8 u)), _, _, _, X3, rfl, rfl, rfl, (fun h => by cases h), ⟨rfl, hh3⟩, fun fs hl => c4.trans (X3.ireturnOut hexec hret (narrow_c _) (Or.inr (Or.inr (Or.inr (Or.inl rfl)))) (hb hbytes d14) hl)⟩
end LChA
end StrChars
namespace StrChars.Road
open Jvm Sem ClassFile Op Lib Jvm.Stand Jvm.Free Jvm.Free.XT
open Jvm.Lib.Cold (StaticIs)
theorem consq {a : Array Value} {s : State} {c : Jvm.Cond} {L : List Jvm.Cond} (h0 : c.before a s = true) (h : ∀ w ∈ L, w.before a s = true) : ∀ w ∈ c :: L, w.before a s = true := fun w hw => (List.mem_cons.mp hw).elim (fun e => e ▸ h0) (h w)
/-- the words of String.length(), either coding -/
abbrev wordsLen : List Jvm.Cond := [.code Len.yN Len.yB 1 (some .int), .initialized ST, .fieldLink ST 9 ST "value" "[B", .fieldLink ST 38 ST "COMPACT_STRINGS" "Z", .fieldLink ST 15 ST "coder" "B", .code Cdr.yN Cdr.yB 1 (some .byte), .methodLink ST 335 Cdr.yN, .declares Cdr.yN, .selects ST Cdr.yN Cdr.yN, .instanceMethod Cdr.yN]
theorem tabLen_of {a : Array Value} {s : State} (h : ∀ w ∈ wordsLen, w.before a s = true) : Len.tab.before a s = true := by
  have hc : Cdr.tab.before a s = true := unparts (wk h (.code Cdr.yN Cdr.yB 1 (some .byte))) (wks h (.initialized Cdr.yN.cls :: Cdr.site))
  have q := consq hc h
  exact unparts (wk q (.code Len.yN Len.yB 1 (some .int))) (wks q (.initialized Len.yN.cls :: Len.site))
theorem movedLen {Z s : State} {a0 args : Array Value} (hZ : Z.Warmed39 s.vm) (hw : ∀ d ∈ wordsLen, d.before a0 Z = true) : ∀ d ∈ wordsLen, d.before args s = true := fun d hd => by
  have q := hw d hd
  have t : ∀ d ∈ wordsLen, d = .arrayClass .byte ∨ (d.onTables && d.keepsFace) = true := by decide +kernel
  rcases t d hd with rfl | t
  · exact RoadKit.mvA hZ q
  · exact RoadKit.mv hZ q t
/-- the bytes of the chars cs, low before high -/
def wideBytes : List Int32 → List Value
  | [] => []
  | c :: cs => .int (lo8 c) :: .int (hi8 c) :: wideBytes cs
theorem wide_lo (d : Value) : ∀ (cs : List Int32) (j : Nat), j < cs.length → (wideBytes cs).getD (2 * j) d = .int (lo8 (cs.getD j 0))
  | [], j, h => absurd h (Nat.not_lt_zero j)
  | c :: cs, 0, _ => rfl
  | c :: cs, j + 1, h => by
    have q := wide_lo d cs j (by simpa using h)
    rw [show 2 * (j + 1) = 2 * j + 1 + 1 from by omega]
    simpa [wideBytes] using q
theorem wide_hi (d : Value) : ∀ (cs : List Int32) (j : Nat), j < cs.length → (wideBytes cs).getD (2 * j + 1) d = .int (hi8 (cs.getD j 0))
  | [], j, h => absurd h (Nat.not_lt_zero j)
  | c :: cs, 0, _ => rfl
  | c :: cs, j + 1, h => by
    have q := wide_hi d cs j (by simpa using h)
    rw [show 2 * (j + 1) + 1 = 2 * j + 1 + 1 + 1 from by omega]
    simpa [wideBytes] using q
theorem low_at (d : Value) (cs : List Int32) (j : Nat) (h : j < cs.length) : (cs.map fun c => Value.int (lo8 c)).getD j d = .int (lo8 (cs.getD j 0)) := by
  simp [List.getD_eq_getElem?_getD, h]
/-- an array of N2 bytes vs codes the chars cs by the coder cd -/
def CodA (cs : List Int32) (cd N2 : Int32) (vs : List Value) : Prop := (cd = 0 ∧ N2 = Int32.ofNat cs.length ∧ vs = (cs.map fun c => Value.int (lo8 c)) ∧ ∀ c ∈ cs, ¬ 255 < c) ∨ (cd = 1 ∧ N2 = Int32.ofNat (2 * cs.length) ∧ vs = wideBytes cs ∧ ∃ c ∈ cs, 255 < c)
theorem CodA.cod {cs : List Int32} {cd N2 : Int32} {vs : List Value} {V : Cell} (h : CodA cs cd N2 vs) (hn : 2 * cs.length < 2 ^ 31) (hs : V.slots.size = N2.toNatClampNeg) (hv : RoadKit.Has V vs (.int 0)) : Cod cd cs.length (fun j => cs.getD j 0) V := by
  rcases h with ⟨rfl, rfl, rfl, h⟩ | ⟨rfl, rfl, rfl, c, hc, hw⟩
  · rw [n32 (by omega)] at hs
    exact Or.inl ⟨rfl, hs, fun j hj => ⟨by rw [hv j (by omega), low_at _ _ _ hj], by
      have e : cs.getD j 0 = cs[j] := by simp [List.getD_eq_getElem?_getD, hj]
      show ¬ 255 < cs.getD j 0
      rw [e]; exact h _ (List.getElem_mem _)⟩⟩
  · rw [n32 (by omega)] at hs
    obtain ⟨j, hj, rfl⟩ := List.getElem_of_mem hc
    exact Or.inr ⟨rfl, hs, fun j hj => ⟨by rw [hv _ (by omega), wide_lo _ _ _ hj], by rw [hv _ (by omega), wide_hi _ _ _ hj]⟩, j, hj, by
      have e : cs.getD j 0 = cs[j] := by simp [List.getD_eq_getElem?_getD, hj]
      show 255 < cs.getD j 0
      rw [e]; exact hw⟩
/-- an object of exactly java/lang/String, its two fields found: as the laws ask it -/
theorem strObj {Z U : State} {a0 : Array Value} {kI : Nat} (wi : (Jvm.Cond.instantiable ST kI).before a0 Z = true) (al : Z.vm.Alike U.vm) {x : Addr} {v0 c0 : Value} (E : RoadKit.Exa Z U.heap x ST) (V : RoadKit.Fld Z U.heap x ST "value" "[B" v0) (C : RoadKit.Fld Z U.heap x ST "coder" "B" c0) :
    ∃ (D : Cell) (fV fC : Field), Blank ST x D U ∧ Found ST "value" "[B" fV U ∧ Found ST "coder" "B" fC U ∧ D.slots[fV.slot]? = some v0 ∧ D.slots[fC.slot]? = some c0 ∧ RoadKit.slotOf Z ST "value" "[B" = fV.slot ∧ RoadKit.slotOf Z ST "coder" "B" = fC.slot := by
  obtain ⟨D, cfV, kV, iV, fV, hD, gV, stV, knV, obV, asV, slV⟩ := V
  obtain ⟨D', cfC, kC, iC, fC, hD', gC, stC, -, -, asC, slC⟩ := C
  cases hD.symm.trans hD'
  obtain ⟨D2, kD, e1, e2, e3, e4, e5⟩ := E
  cases hD.symm.trans e1
  obtain ⟨c2, k2, i1, i2, i3, -⟩ := Cond.instantiable_spec wi
  cases e2.symm.trans i1
  cases e3.symm.trans i2
  obtain ⟨kU, u1, u2⟩ := al.2.2 _ _ e3
  exact ⟨D, fV, fC, ⟨hD, ⟨knV, fun q hq => by rw [hq] at obV; cases obV⟩, by rw [al.findClass]; exact e2, kU, u1, by rw [u2]; exact i3, by rw [u2]; exact e5 i3⟩, ⟨SBG.found_only al ⟨cfV, kV, iV, gV⟩, stV⟩, ⟨SBG.found_only al ⟨cfC, kC, iC, gC⟩, stC⟩, slV, slC, by simp [RoadKit.slotOf, gV], by simp [RoadKit.slotOf, gC]⟩
theorem sta_is {Z U : State} (al : Z.vm.Alike U.vm) {C n d : String} {v : Value} (S : RoadKit.Sta Z U.heap C n d v) : StaticIs U C n d v := by
  obtain ⟨cfS, iS, kS, fS, st, cS, t1, t2, t3, t4, t5, t6, t7⟩ := S
  exact StaticIs.there (s := { Z with heap := U.heap }) ⟨cfS, iS, kS, fS, st, cS, t1, t2, t3, t4, t5, (fun q => by rw [q] at t6; cases t6), t7⟩ al rfl
/-- **length() OF SUCH A STRING** -/
theorem lenW {p : Program} {l : Launch} {e : Env} {R : Room} {s : State} {args : Array Value} {below : List Frame} {len W : Nat} {Z : State} {a0 : Array Value} {h : Heap} (hZ : Z.Warmed39 s.vm) (hw : ∀ d ∈ wordsLen, d.before a0 Z = true) {kI : Nat} (wi : (Jvm.Cond.instantiable ST kI).before a0 Z = true)
    {x t : Addr} {kb : ClassId} {cs : List Int32} {cd N2 z : Int32} {vs : List Value} (E : RoadKit.Exa Z h x ST) (V : RoadKit.Fld Z h x ST "value" "[B" (.ref t)) (C : RoadKit.Fld Z h x ST "coder" "B" (.int cd)) (K : RoadKit.Arv Z h t kb .byte N2 vs (.int 0)) (hc : CodA cs cd N2 vs) (hb : ∀ c ∈ cs, ¬ c < 0 ∧ ¬ (65535 : Int32) < c)
    (S : RoadKit.Sta Z h ST "COMPACT_STRINGS" "Z" (.int z)) (hz : ¬ z = 0) (l2 : cs.length ≤ 4000) (hfr : 2 ≤ R.frames) (hlo : W + 25 ≤ R.locals) :
    Back l R p e below s args (⟨"java/lang/String", "length", "()I"⟩ : MethodName) len W (fun P a => a = #[.ref x] ∧ P.U.heap = h ∧ P.cells + 0 ≤ R.cells ∧ P.slots + 0 ≤ R.slots)
      (fun P _ v B => ∃ L, (v = some (.int (Int32.ofNat cs.length)) ∧ L = [] ∧ B.U.heap = h) ∧ B.locs = P.locs ++ L ∧ B.cells = P.cells + 0 ∧ B.slots = P.slots + 0) := by
  obtain ⟨A, K1, K2, K3, K4, K5, K6⟩ := K
  have hcod := hc.cod (by omega) K3 K5
  intro m meth c P g ig mk a X hg hsize hdg hW hn hp'
  obtain ⟨rfl, rfl, r1, r2⟩ := hp'
  have al : Z.vm.Alike P.U.vm := hZ.alike.trans X.warmed.alike
  obtain ⟨D, fV, fC, hB, F1, F2, g1, g2, -, -⟩ := strObj wi al E V C
  have hx : Txt x t A cd cs.length (fun j => cs.getD j 0) P.U := ⟨⟨_, hB.2.2.1, D, hB.1, rfl, by cases q : D.vm <;> first | rfl | exact absurd q (hB.2.1.2 _)⟩, Has.of hB F1 g1, Has.of hB F2 g2, ⟨K1.1, State.isArrayOf_alike al K1.2.1, K1.2.2, by rcases hcod with ⟨-, q, -⟩ | ⟨-, q, -⟩ <;> omega⟩, hcod, fun j hj => by
    have e : cs.getD j 0 = cs[j] := by simp [List.getD_eq_getElem?_getD, hj]
    show ¬ cs.getD j 0 < 0 ∧ ¬ 65535 < cs.getD j 0
    rw [e]; exact hb _ (List.getElem_mem _)⟩
  obtain ⟨v, B, X', ⟨⟨hv, hh⟩, hl, hk, hs⟩, st⟩ := Len.pays x t A cd cs.length (fun j => cs.getD j 0) z (tabLen_of (movedLen hZ hw)) hfr hlo m meth c P g ig mk _ X hg hsize hdg hW hn ⟨r1, r2, rfl, hx, sta_is al S, hz⟩
  exact ⟨v, B, X', ⟨[], ⟨hv, rfl, hh⟩, hl, hk, hs⟩, st⟩
end StrChars.Road
namespace StrChars.Road
open Jvm Sem ClassFile Op Lib Jvm.Stand Jvm.Free Jvm.Free.XT
open Jvm.Lib.Cold (StaticIs)
/-- the road's facts of a String, as the laws ask it -/
theorem txt_of {Z U : State} {a0 : Array Value} {kI : Nat} (wi : (Jvm.Cond.instantiable ST kI).before a0 Z = true) (al : Z.vm.Alike U.vm) {x t : Addr} {kb : ClassId} {cs : List Int32} {cd N2 : Int32} {vs : List Value} (E : RoadKit.Exa Z U.heap x ST) (V : RoadKit.Fld Z U.heap x ST "value" "[B" (.ref t)) (C : RoadKit.Fld Z U.heap x ST "coder" "B" (.int cd)) (K : RoadKit.Arv Z U.heap t kb .byte N2 vs (.int 0)) (hc : CodA cs cd N2 vs) (hb : ∀ c ∈ cs, ¬ c < 0 ∧ ¬ (65535 : Int32) < c) (l2 : cs.length ≤ 4000) :
    ∃ A, Txt x t A cd cs.length (fun j => cs.getD j 0) U := by
  obtain ⟨A, K1, K2, K3, K4, K5, K6⟩ := K
  have hcod := hc.cod (by omega) K3 K5
  obtain ⟨D, fV, fC, hB, F1, F2, g1, g2, -, -⟩ := strObj wi al E V C
  exact ⟨A, ⟨_, hB.2.2.1, D, hB.1, rfl, by cases q : D.vm <;> first | rfl | exact absurd q (hB.2.1.2 _)⟩, Has.of hB F1 g1, Has.of hB F2 g2, ⟨K1.1, State.isArrayOf_alike al K1.2.1, K1.2.2, by rcases hcod with ⟨-, q, -⟩ | ⟨-, q, -⟩ <;> omega⟩, hcod, fun j hj => by
    have e : cs.getD j 0 = cs[j] := by simp [List.getD_eq_getElem?_getD, hj]
    show ¬ cs.getD j 0 < 0 ∧ ¬ 65535 < cs.getD j 0
    rw [e]; exact hb _ (List.getElem_mem _)⟩
end StrChars.Road
namespace StrChars
open Jvm Sem ClassFile Op Lib Jvm.Stand Jvm.Free.XT Jvm.Free.ALB Jvm.Free.JM Jvm.Free
open Jvm.Lib.Cold (StaticIs)
namespace ChN
def yN : MethodName := ⟨"java/lang/String", "charAt", "(I)C"⟩
abbrev yB : ByteArray := jdk_42_method_56_code
theorem d0 : decode yB 0 = .ok (.aload_n 0, 1) := by decide +kernel
theorem d1 : decode yB 1 = .ok (.invokevirtual 492, 3) := by decide +kernel
theorem d4 : decode yB 4 = .ok (.ifCond (.eq) 12, 3) := by decide +kernel
theorem d7 : decode yB 7 = .ok (.aload_n 0, 1) := by decide +kernel
theorem d8 : decode yB 8 = .ok (.getfield 9, 3) := by decide +kernel
theorem d11 : decode yB 11 = .ok (.iload_n 1, 1) := by decide +kernel
theorem d12 : decode yB 12 = .ok (.invokestatic 495, 3) := by decide +kernel
theorem d15 : decode yB 15 = .ok (.ireturn, 1) := by decide +kernel
def site : List Cond := [.fieldLink "java/lang/String" 9 "java/lang/String" "value" "[B", IsL.tab, LChA.tab] ++ virtW "java/lang/String" 492 "java/lang/String" IsL.yN IsL.yN ++ staticW "java/lang/String" 495 LChA.yN
def tab : Cond := tabOf yN yB 2 (some .char) site
def P (x t : Addr) (V : Cell) (n : Nat) (f : Nat → Int32) (z : Int32) (fm : Value) (i : Nat) (args : Array Value) (s : State) : Prop := args = #[.ref x, .int (Int32.ofNat i)] ∧ Txt x t V 0 n f s ∧ i < n ∧ StaticIs s "java/lang/String" "COMPACT_STRINGS" "Z" (.int z) ∧ ¬ z = 0 ∧ StaticIs s "jdk/internal/util/Preconditions" "SIOOBE_FORMATTER" "Ljava/util/function/BiFunction;" fm ∧ fm.isRef = true
def E (f : Nat → Int32) (i : Nat) (r : Option Value) (s u : State) : Prop := XT.PureE (some (.int (f i))) r s u
/-- charAt(i) of a Latin-1 String of n chars, i < n: f i -/
theorem law (l : Launch) (x t : Addr) (V : Cell) (n : Nat) (f : Nat → Int32) (z : Int32) (fm : Value) (i : Nat) : Law l yN 2 1 3 40 yB 2 (some .char) site (P x t V n f z fm i) (E f i) [] 0 0 := by
  refine Law.of_walk (plainFor_of_name (by decide +kernel)) (by decide +kernel) (by decide +kernel) (by decide) (fun _ _ h => by rw [h.1]; rfl) (fun _ U U' hal hh h => ⟨h.1, h.2.1.mv hal hh, h.2.2.1, h.2.2.2.1.there hal hh, h.2.2.2.2.1, h.2.2.2.2.2.1.there hal hh, h.2.2.2.2.2.2⟩) (fun r U U' V V' h1 hal h2 h => XT.PureE.mv r U U' V V' h1 hal h2 h) ?_
  intro p e s m args below meth c s₁ X0 hexec hbytes hml hret hlk hnm hown hh0 W hP
  obtain ⟨rfl, hx, hi, s1, hz, s3, rf⟩ := hP
  have v31 := hx.2.2.2.1.2.2.2
  have hr := hx.2.2.2.2.2 i hi
  have hx0 := hx.mv X0.warmed.alike hh0
  have c1 : Steps p.tables e below (s₁.setTop (entryFrame m #[.ref x, .int (Int32.ofNat i)] 2)) (s₁.setTop (mkF m 1 #[.val (.ref x), .val (.int (Int32.ofNat i))] [.ref x])) := Steps.trans (entry rfl) (by
    show Steps p.tables e below (s₁.setTop (mkF m 0 #[.val (.ref x), .val (.int (Int32.ofNat i))] [])) _
    refine XS.aloadN X0.here hexec rfl (hb hbytes d0) rfl rfl ?_
    exact Steps.refl _)
  obtain ⟨v2, T2, X2, E2, g2⟩ := X0.callV hexec (IsL.law l x 0 z) hown (wks W (virtW "java/lang/String" 492 "java/lang/String" IsL.yN IsL.yN)) rfl (by decide) (wk W IsL.tab) (W := 0) (Nat.le_of_ble_eq_true rfl) (Nat.le_of_ble_eq_true rfl) (Nat.le_refl _) (Nat.le_refl _) (hx0.1.fc X0.warmed.alike) hx0.1.is (g := (mkF m 1 #[.val (.ref x), .val (.int (Int32.ofNat i))] [.ref x])) rfl (by rw [hml]; rfl) c1 (argsL := []) (rest := []) rfl rfl (by show 2 * 0 + 0 ≤ _; decide) (hb hbytes d1) (⟨rfl, hx0.2.2.1, hx.2.2.2.2.1.cd, s1.there X0.warmed.alike hh0, hz⟩)
  obtain ⟨rfl, q2⟩ := E2
  have hh2 := q2.trans hh0
  have hx2 := hx.mv X2.warmed.alike hh2
  obtain ⟨-, k1, k2⟩ | ⟨k0, -⟩ := hx.2.2.2.2.1
  · have c3 : Steps p.tables e below (s₁.setTop (entryFrame m #[.ref x, .int (Int32.ofNat i)] 2)) (T2.setTop (mkF m 8 #[.val (.ref x), .val (.int (Int32.ofNat i))] [.ref x])) := Steps.trans g2 (by
      refine XS.ifNo X2.here hexec rfl (hb hbytes d4) rfl (i0_eq_f (by decide)) ?_
      refine XS.aloadN X2.here hexec rfl (hb hbytes d7) rfl rfl ?_
      exact Steps.refl _)
    obtain ⟨T4, X4, q4, st4⟩ := X2.hget hexec hown (wk W (.fieldLink "java/lang/String" 9 "java/lang/String" "value" "[B")) hx2.2.1 (g := (mkF m 8 #[.val (.ref x), .val (.int (Int32.ofNat i))] [.ref x])) rfl (rest := []) rfl (hb hbytes d8)
    have hh4 := q4.trans hh2
    have c5 : Steps p.tables e below (s₁.setTop (entryFrame m #[.ref x, .int (Int32.ofNat i)] 2)) (T4.setTop (mkF m 12 #[.val (.ref x), .val (.int (Int32.ofNat i))] [.int (Int32.ofNat i), .ref t])) := (c3.trans (st4 _ (Steps.refl _))).trans (by
      refine XS.iloadN X4.here hexec rfl (hb hbytes d11) rfl ?_
      exact Steps.refl _)
    obtain ⟨v6, T6, X6, E6, g6⟩ := X4.callS hexec (LChA.law l t V i (lo8 (f i)) fm) hown (wks W (staticW "java/lang/String" 495 LChA.yN)) (wk W LChA.tab) (W := 0) (Nat.le_of_ble_eq_true rfl) (Nat.le_of_ble_eq_true rfl) (Nat.le_refl _) (Nat.le_refl _) (g := (mkF m 12 #[.val (.ref x), .val (.int (Int32.ofNat i))] [.int (Int32.ofNat i), .ref t])) rfl (by rw [hml]; rfl) c5 (argsL := [.ref t, .int (Int32.ofNat i)]) (rest := []) rfl rfl (by show 2 * 0 + 0 ≤ _; decide) (hb hbytes d12) (⟨rfl, hx.2.2.2.1.mv X4.warmed.alike hh4, (k2 i hi).1, s3.there X4.warmed.alike hh4, rf⟩)
    obtain ⟨rfl, q6⟩ := E6
    rw [chr8_lo8 hr.1 (k2 i hi).2] at g6
    exact ⟨T6, some (.int (f i)), _, _, _, X6, rfl, rfl, rfl, (fun h => by cases h), ⟨rfl, q6.trans hh4⟩, fun fs hl => Steps.trans g6 (X6.ireturnOut hexec hret (narrow_ch hr.1 hr.2) (Or.inr (Or.inr (Or.inr (Or.inl rfl)))) (hb hbytes d15) hl)⟩
  · exact absurd k0 (by decide)
theorem pays {l : Launch} {R : Room} {p : Program} {e : Env} {below : List Frame} {s : State} {sargs : Array Value} {len W : Nat} (x t : Addr) (V : Cell) (n : Nat) (f : Nat → Int32) (z : Int32) (fm : Value) (i : Nat) (htab : tab.before sargs s = true) (hfr : 4 ≤ R.frames) (hlo : W + 53 ≤ R.locals) :
    Back l R p e below s sargs yN len W (fun A₁ a₁ => A₁.cells + 0 ≤ R.cells ∧ A₁.slots + 0 ≤ R.slots ∧ P x t V n f z fm i a₁ A₁.U) (fun A₁ _ v₁ B₁ => E f i v₁ A₁.U B₁.U ∧ B₁.locs = A₁.locs ++ [] ∧ B₁.cells = A₁.cells + 0 ∧ B₁.slots = A₁.slots + 0) :=
  (law l x t V n f z fm i).pays htab hfr (by omega)
end ChN
end StrChars
namespace StrChars.Road
open Jvm Sem ClassFile Op Lib Jvm.Stand Jvm.Free Jvm.Free.XT
open Jvm.Lib.Cold (StaticIs)
/-- the words of String.charAt(int), the Latin-1 road alone -/
abbrev wordsChN : List Jvm.Cond := [.code ChN.yN ChN.yB 2 (some .char), .initialized ST, .fieldLink ST 9 ST "value" "[B", .fieldLink ST 38 ST "COMPACT_STRINGS" "Z", .fieldLink ST 15 ST "coder" "B", .code IsL.yN IsL.yB 1 (some .boolean), .methodLink ST 492 IsL.yN, .declares IsL.yN, .selects ST IsL.yN IsL.yN, .instanceMethod IsL.yN,
  .methodLink ST 495 LChA.yN, .static LChA.yN, .code LChA.yN LChA.yB 2 (some .char), .initialized "java/lang/StringLatin1", .methodLink "java/lang/StringLatin1" 9 JO.Str_checkIndex.yN, .static JO.Str_checkIndex.yN, .code JO.Str_checkIndex.yN JO.Str_checkIndex.yB 2 none,
  .fieldLink ST 1053 "jdk/internal/util/Preconditions" "SIOOBE_FORMATTER" "Ljava/util/function/BiFunction;", .methodLink ST 1059 JC.PreCheck.yN, .static JC.PreCheck.yN, .code JC.PreCheck.yN JC.PreCheck.yB 3 (some .int), .initialized "jdk/internal/util/Preconditions"]
theorem tabChN_of {a : Array Value} {s : State} (h : ∀ w ∈ wordsChN, w.before a s = true) : ChN.tab.before a s = true := by
  have hp : JC.PreCheck.tab.before a s = true := unparts (wk h (.code JC.PreCheck.yN JC.PreCheck.yB 3 (some .int))) (wks h (.initialized JC.PreCheck.yN.cls :: JC.PreCheck.site))
  have qk := consq hp h
  have hk : JO.Str_checkIndex.tab.before a s = true := unparts (wk qk (.code JO.Str_checkIndex.yN JO.Str_checkIndex.yB 2 none)) (wks qk (.initialized JO.Str_checkIndex.yN.cls :: JO.Str_checkIndex.site))
  have ql := consq hk h
  have hl : LChA.tab.before a s = true := unparts (wk ql (.code LChA.yN LChA.yB 2 (some .char))) (wks ql (.initialized LChA.yN.cls :: LChA.site))
  have hi : IsL.tab.before a s = true := unparts (wk h (.code IsL.yN IsL.yB 1 (some .boolean))) (wks h (.initialized IsL.yN.cls :: IsL.site))
  have q := consq hi (consq hl h)
  exact unparts (wk q (.code ChN.yN ChN.yB 2 (some .char))) (wks q (.initialized ChN.yN.cls :: ChN.site))
theorem movedChN {Z s : State} {a0 args : Array Value} (hZ : Z.Warmed39 s.vm) (hw : ∀ d ∈ wordsChN, d.before a0 Z = true) : ∀ d ∈ wordsChN, d.before args s = true := fun d hd => by
  have t : ∀ d ∈ wordsChN, (d.onTables && d.keepsFace) = true := by decide +kernel
  exact RoadKit.mv hZ (hw d hd) (t d hd)
/-- **charAt(i) OF A LATIN-1 STRING**, i < n: the char -/
theorem chN {p : Program} {l : Launch} {e : Env} {R : Room} {s : State} {args : Array Value} {below : List Frame} {len W : Nat} {Z : State} {a0 : Array Value} {h : Heap} (hZ : Z.Warmed39 s.vm) (hw : ∀ d ∈ wordsChN, d.before a0 Z = true) {kI : Nat} (wi : (Jvm.Cond.instantiable ST kI).before a0 Z = true)
    {x t : Addr} {kb : ClassId} {cs : List Int32} {N2 z : Int32} {vs : List Value} {fm : Value} {i : Nat} {j : Int32} (E : RoadKit.Exa Z h x ST) (V : RoadKit.Fld Z h x ST "value" "[B" (.ref t)) (C : RoadKit.Fld Z h x ST "coder" "B" (.int 0)) (K : RoadKit.Arv Z h t kb .byte N2 vs (.int 0)) (hc : CodA cs 0 N2 vs) (hb : ∀ c ∈ cs, ¬ c < 0 ∧ ¬ (65535 : Int32) < c)
    (S : RoadKit.Sta Z h ST "COMPACT_STRINGS" "Z" (.int z)) (hz : ¬ z = 0) (F : RoadKit.Sta Z h "jdk/internal/util/Preconditions" "SIOOBE_FORMATTER" "Ljava/util/function/BiFunction;" fm) (rf : fm.isRef = true) (l2 : cs.length ≤ 4000) (hi : i < cs.length) (hj : j = Int32.ofNat i) (hfr : 4 ≤ R.frames) (hlo : W + 53 ≤ R.locals) :
    Back l R p e below s args (⟨"java/lang/String", "charAt", "(I)C"⟩ : MethodName) len W (fun P a => a = #[.ref x, .int j] ∧ P.U.heap = h ∧ P.cells + 0 ≤ R.cells ∧ P.slots + 0 ≤ R.slots)
      (fun P _ v B => ∃ L, (v = some (.int (cs.getD i 0)) ∧ L = [] ∧ B.U.heap = h) ∧ B.locs = P.locs ++ L ∧ B.cells = P.cells + 0 ∧ B.slots = P.slots + 0) := by
  subst hj
  intro m meth c P g ig mk a X hg hsize hdg hW hn hp'
  obtain ⟨rfl, rfl, r1, r2⟩ := hp'
  have al : Z.vm.Alike P.U.vm := hZ.alike.trans X.warmed.alike
  obtain ⟨A, hx⟩ := txt_of wi al E V C K hc hb l2
  obtain ⟨v, B, X', ⟨⟨hv, hh⟩, hl, hk, hs⟩, st⟩ := ChN.pays x t A cs.length (fun j => cs.getD j 0) z fm i (tabChN_of (movedChN hZ hw)) hfr hlo m meth c P g ig mk _ X hg hsize hdg hW hn ⟨r1, r2, rfl, hx, hi, sta_is al S, hz, sta_is al F, rf⟩
  exact ⟨v, B, X', ⟨[], ⟨hv, rfl, hh⟩, hl, hk, hs⟩, st⟩
/-- what backV says of its String, as the contracts of this text ask it: cs's low bytes, coder 0 -/
theorem codOf {cs : List Int32} {n : Nat} (hn : cs.length = n) (hb : ∀ c ∈ cs, ¬ 255 < c) : CodA cs 0 (Int32.ofNat n) ((cs.map lo8).map Value.int) := Or.inl ⟨rfl, by rw [hn], by simp [List.map_map, Function.comp_def], hb⟩
end StrChars.Road
end Jvm.Pilot.@@N@@

namespace Jvm.Pilot.@@N@@
open Jvm Jvm.ClassFile Sem Op Lib Jvm.Free Jvm.Stand Jvm.LawKit Jvm.RoadKit Bundle Jvm.Pilot.@@N@@.Jvm.D
section OwnKit
/-- where a walk stands that may intern String constants: the library's Stand over the tables at hand, and what stays the same throughout; EL: the constants whose text is known -/
def On (l : Launch) (Z : State) (EL : List (String × Nat)) (p : Program) (e : Env) (R : Room) (s : State) (m : MethodId) (args : Array Value) (below : List Frame) (meth : Method) (c : Code) (y : MethodName) (code : ByteArray) (maxL : Nat) (ret : Option FieldType) (vm : Vm) (T : State) (h : Heap) (locs : List Loc) (cells slots : Nat) : Prop :=
  Stand p l e R (s.setVm vm) m args below meth c T locs cells slots ∧ (p.tables.exec = Jvm.exec ∧ c.code = code ∧ Z.Warmed39 vm ∧ vm.findClass y.cls = some m.cls ∧ meth.sig.returnType = ret ∧ meth.locks = false ∧ meth.name = y.name ∧ c.maxLocals = maxL) ∧ T.heap = h ∧ Fr Z.heap.size locs ∧ Ext Z.heap h ∧ (∃ k0, s.Since vm k0 ∧ k0 ≤ h.size) ∧ CHr Z EL s.vm s.heap vm h ∧ ∃ a1, EW Z a1 EL
/-- the run from here ends as F says -/
def Goes (p : Program) (e : Env) (below : List Frame) (F : State → Outcome → Prop) (T : State) (g : JFrame) : Prop :=
  ∃ s₂ o, Steps p.tables e below (T.setTop g) s₂ ∧ s₂.status = .running ∧ Ended s₂ below o ∧ F s₂ o
def FinQ (Z : State) (EL : List (String × Nat)) (s : State) (Q : Option Value → Heap → (Addr → Prop) → Prop) (rc rs : Nat) (s₂ : State) (o : Outcome) : Prop :=
  ∃ v L, o = .returned v ∧ (Q v s₂.heap (Safe Z EL s₂.vm s₂.heap) ∧ Fr Z.heap.size L ∧ Ext Z.heap s₂.heap) ∧ CHr Z EL s.vm s.heap s₂.vm s₂.heap ∧ ReturnedEndW s o s₂ L rc rs
/-- a method's contract: called with these arguments on this heap it returns, and Q holds; ss: places that are no constant's -/
def Con (l : Launch) (Z : State) (EL : List (String × Nat)) (y : MethodName) (code : ByteArray) (maxL : Nat) (ret : Option FieldType) (rm : Room) (as : Array Value) (h : Heap) (ss : List Addr) (Q : Option Value → Heap → (Addr → Prop) → Prop) : Prop :=
  (∃ a1, EW Z a1 EL) → Ext Z.heap h → ∀ ws : List Jvm.Cond, MetFree l y (head1 (Jvm.Cond.code y code maxL ret :: ws) rm) (fun a U => a = as ∧ Z.Warmed39 U.vm ∧ U.heap = h ∧ CHv Z EL U.vm h ∧ ∀ x ∈ ss, Safe Z EL U.vm h x) (fun _ _ _ _ _ => True) (fun _ U o U' => ∃ v L, o = .returned v ∧ (Q v U'.heap (Safe Z EL U'.vm U'.heap) ∧ Fr Z.heap.size L ∧ Ext Z.heap U'.heap) ∧ CHr Z EL U.vm U.heap U'.vm U'.heap ∧ ReturnedEndW U o U' L rm.cells rm.slots)
theorem Goes.step {p : Program} {e : Env} {below : List Frame} {F : State → Outcome → Prop} {T T' : State} {g g' : JFrame} (st : ∀ t, Steps p.tables e below (T'.setTop g') t → Steps p.tables e below (T.setTop g) t) (k : Goes p e below F T' g') : Goes p e below F T g := by
  obtain ⟨s₂, o, h1, h2⟩ := k
  exact ⟨s₂, o, st _ h1, h2⟩
theorem Goes.cast {p : Program} {e : Env} {below : List Frame} {F : State → Outcome → Prop} {T : State} {g g' : JFrame} (q : g = g') (k : Goes p e below F T g') : Goes p e below F T g := q ▸ k
theorem Goes.mono {p : Program} {e : Env} {below : List Frame} {F F' : State → Outcome → Prop} {T : State} {g : JFrame} (q : ∀ s o, F s o → F' s o) (k : Goes p e below F T g) : Goes p e below F' T g := by
  obtain ⟨s₂, o, h1, h2, h3, h4⟩ := k
  exact ⟨s₂, o, h1, h2, h3, q _ _ h4⟩
variable {l : Launch} {Z : State} {EL : List (String × Nat)} {p : Program} {e : Env} {R : Room} {s : State} {m : MethodId} {args : Array Value} {below : List Frame} {meth : Method} {c : Code} {y : MethodName} {code : ByteArray} {maxL : Nat} {ret : Option FieldType} {vm : Vm} {T : State} {h : Heap} {locs : List Loc} {cells slots : Nat} {F : State → Outcome → Prop} {pc : Nat} {L L' : Array Slot} {S : List Value} {a0 : Array Value} {ss : List Addr}
theorem Con.intro {rm : Room} {as : Array Value} {Q : Option Value → Heap → (Addr → Prop) → Prop} (hp : plainFor y = true)
    (body : ∀ (p : Program) (e : Env) (s : State) (m : MethodId) (below : List Frame) (meth : Method) (c : Code) (T : State), On l Z EL p e rm s m as below meth c y code maxL ret s.vm T h [] 0 0 → (∀ x ∈ ss, Safe Z EL s.vm h x) → Goes p e below (FinQ Z EL s Q rm.cells rm.slots) T (entryFrame m as maxL)) : Con l Z EL y code maxL ret rm as h ss Q := by
  intro hEW hE ws
  refine MetFree.of_bodySF hp hisR ?_
  intro p e s m args below meth c s₁ Bd hml0 hP hK
  obtain ⟨rfl, hZ, hh, hC, hs⟩ := hP
  have hnm := (name_of_methodNamed Bd.named Bd.method).1
  subst hh
  obtain ⟨s₂, o, k1, k2, k3, k4⟩ := body p e s m below meth c s₁ ⟨Stand.of_body Bd, ⟨Bd.exec, Bd.bytes, hZ, findClass_of_methodNamed Bd.named, Bd.returns, Bd.notSynchronized, hnm, hml0⟩, by rw [Bd.state]; rfl, Fr.nil _, hE, ⟨0, (State.WarmedH.refl s).since 0, Nat.zero_le _⟩, CHr.refl hC, hEW⟩ hs
  exact ⟨s₂, o, k1, k2, k3, k4⟩
theorem Con.mono {rm : Room} {as : Array Value} {Q Q' : Option Value → Heap → (Addr → Prop) → Prop} (hC : Con l Z EL y code maxL ret rm as h ss Q) (hq : ∀ v h' S, Q v h' S → Q' v h' S) : Con l Z EL y code maxL ret rm as h ss Q' := by
  intro hEW hE ws p e ha hc hk s m args below hf happ hP hK
  obtain ⟨n, o, h1, h2, h3, v, L, h4, ⟨h5, h6⟩, h7⟩ := hC hEW hE ws p e ha hc hk s m args below hf happ hP hK
  exact ⟨n, o, h1, h2, h3, v, L, h4, ⟨hq _ _ _ h5, h6⟩, h7⟩
theorem On.size (X : On l Z EL p e R s m args below meth c y code maxL ret vm T h locs cells slots) : Z.heap.size ≤ h.size := X.2.2.2.2.1.1
theorem On.ext (X : On l Z EL p e R s m args below meth c y code maxL ret vm T h locs cells slots) : Ext Z.heap h := X.2.2.2.2.1
theorem On.chv (X : On l Z EL p e R s m args below meth c y code maxL ret vm T h locs cells slots) : CHv Z EL vm h := X.2.2.2.2.2.2.1.1
theorem On.alike (X : On l Z EL p e R s m args below meth c y code maxL ret vm T h locs cells slots) : Z.vm.Alike vm := X.2.1.2.2.1.alike
theorem On.sta (X : On l Z EL p e R s m args below meth c y code maxL ret vm T h locs cells slots) {C n d : String} {v : Value} (S : Sta Z Z.heap C n d v) : Sta Z h C n d v := S.ext X.ext
theorem ext_wr {Z : State} {h h' : Heap} {a : Addr} {sl : Nat} {v : Value} (E : Ext Z.heap h) (W : Wr h h' a sl v) (q : Z.heap.size ≤ a) : Ext Z.heap h' := (Old.wr (Z := Z) (n0 := Z.heap.size) ⟨rfl, E⟩ W q).2
theorem ext_keep {Z : State} {h h' : Heap} {ws : List Addr} (E : Ext Z.heap h) (K : Keep h h' ws) (q : ∀ x ∈ ws, Z.heap.size ≤ x) : Ext Z.heap h' := (Old.keep (Z := Z) (n0 := Z.heap.size) ⟨rfl, E⟩ K q).2
theorem ext_trans {h h' h'' : Heap} (E : Ext h h') (E' : Ext h' h'') : Ext h h'' := ⟨Nat.le_trans E.1 E'.1, fun a c q => E'.2 a c (E.2 a c q)⟩
theorem keep_ext {h h' : Heap} (E : Ext h h') : Keep h h' [] := (Keep.refl h []).ext E
theorem ext_of_keep {h h' : Heap} (K : Keep h h' []) : Ext h h' := ⟨K.1, fun a c q => K.2.1 a c q nin0⟩
/-- the walk goes on at a later heap over the same tables -/
theorem On.later (X : On l Z EL p e R s m args below meth c y code maxL ret vm T h locs cells slots) {T' : State} {h' : Heap} {locs' : List Loc} {cells' slots' : Nat} (X' : Stand p l e R (s.setVm vm) m args below meth c T' locs' cells' slots') (e' : T'.heap = h') (N' : Fr Z.heap.size locs') (E' : Ext Z.heap h') (R' : CHr Z EL vm h vm h') : On l Z EL p e R s m args below meth c y code maxL ret vm T' h' locs' cells' slots' := by
  obtain ⟨X1, C1, e1, N1, E1, ⟨k0, s0, q0⟩, H1, hw⟩ := X
  exact ⟨X', C1, e', N', E', ⟨k0, s0, Nat.le_trans q0 R'.2.1⟩, H1.trans R', hw⟩
/-- .. or over later tables -/
theorem On.laterV (X : On l Z EL p e R s m args below meth c y code maxL ret vm T h locs cells slots) {vm' : Vm} {T' : State} {h' : Heap} {locs' : List Loc} {cells' slots' n : Nat} (X' : Stand p l e R ((s.setVm vm).setVm vm') m args below meth c T' locs' cells' slots') (S' : (s.setVm vm).Since vm' n) (hn : n = h'.size) (e' : T'.heap = h') (N' : Fr Z.heap.size locs') (E' : Ext Z.heap h') (R' : CHr Z EL vm h vm' h') : On l Z EL p e R s m args below meth c y code maxL ret vm' T' h' locs' cells' slots' := by
  obtain ⟨X1, C1, e1, N1, E1, ⟨k0, s0, q0⟩, H1, hw⟩ := X
  subst hn
  exact ⟨X', ⟨C1.1, C1.2.1, State.Warmed39.trans (t := s.setVm vm) C1.2.2.1 S'.1, (S'.1.alike.findClass _ _).trans C1.2.2.2.1, C1.2.2.2.2⟩, e', N', E', ⟨h'.size, s0.trans S' (Nat.le_trans q0 R'.2.1), Nat.le_refl _⟩, H1.trans R', hw⟩
theorem o_iload (X : On l Z EL p e R s m args below meth c y code maxL ret vm T h locs cells slots) {k : Nat} {v : Int32} {q : Nat} (hd : decode code pc = .ok (.iload k, 2)) (hl : L[k]? = some (.val (.int v))) (hp : pc + 2 = q) (K : Goes p e below F T (mkF m q L (.int v :: S))) : Goes p e below F T (mkF m pc L S) := by
  subst hp
  exact Goes.step (fun _ k => XS.iload X.1.here X.2.1.1 (g := mkF m pc L S) rfl (hb X.2.1.2.1 hd) hl k) K
theorem o_iloadN (X : On l Z EL p e R s m args below meth c y code maxL ret vm T h locs cells slots) {k : Fin 4} {v : Int32} {q : Nat} (hd : decode code pc = .ok (.iload_n k, 1)) (hl : L[k.val]? = some (.val (.int v))) (hp : pc + 1 = q) (K : Goes p e below F T (mkF m q L (.int v :: S))) : Goes p e below F T (mkF m pc L S) := by
  subst hp
  exact Goes.step (fun _ k => XS.iloadN X.1.here X.2.1.1 (g := mkF m pc L S) rfl (hb X.2.1.2.1 hd) hl k) K
theorem o_lload (X : On l Z EL p e R s m args below meth c y code maxL ret vm T h locs cells slots) {k : Nat} {v : Int64} {q : Nat} (hd : decode code pc = .ok (.lload k, 2)) (hl : L[k]? = some (.val (.long v))) (hp : pc + 2 = q) (K : Goes p e below F T (mkF m q L (.long v :: S))) : Goes p e below F T (mkF m pc L S) := by
  subst hp
  exact Goes.step (fun _ k => XS.lload X.1.here X.2.1.1 (g := mkF m pc L S) rfl (hb X.2.1.2.1 hd) hl k) K
theorem o_lloadN (X : On l Z EL p e R s m args below meth c y code maxL ret vm T h locs cells slots) {k : Fin 4} {v : Int64} {q : Nat} (hd : decode code pc = .ok (.lload_n k, 1)) (hl : L[k.val]? = some (.val (.long v))) (hp : pc + 1 = q) (K : Goes p e below F T (mkF m q L (.long v :: S))) : Goes p e below F T (mkF m pc L S) := by
  subst hp
  exact Goes.step (fun _ k => XS.lloadN X.1.here X.2.1.1 (g := mkF m pc L S) rfl (hb X.2.1.2.1 hd) hl k) K
theorem o_aload (X : On l Z EL p e R s m args below meth c y code maxL ret vm T h locs cells slots) {k : Nat} {v : Value} {q : Nat} (hd : decode code pc = .ok (.aload k, 2)) (hl : L[k]? = some (.val v)) (hv : v.isRef = true) (hp : pc + 2 = q) (K : Goes p e below F T (mkF m q L (v :: S))) : Goes p e below F T (mkF m pc L S) := by
  subst hp
  exact Goes.step (fun _ k => XS.aload X.1.here X.2.1.1 (g := mkF m pc L S) rfl (hb X.2.1.2.1 hd) hl hv k) K
theorem o_aloadN (X : On l Z EL p e R s m args below meth c y code maxL ret vm T h locs cells slots) {k : Fin 4} {v : Value} {q : Nat} (hd : decode code pc = .ok (.aload_n k, 1)) (hl : L[k.val]? = some (.val v)) (hv : v.isRef = true) (hp : pc + 1 = q) (K : Goes p e below F T (mkF m q L (v :: S))) : Goes p e below F T (mkF m pc L S) := by
  subst hp
  exact Goes.step (fun _ k => XS.aloadN X.1.here X.2.1.1 (g := mkF m pc L S) rfl (hb X.2.1.2.1 hd) hl hv k) K
theorem o_istore (X : On l Z EL p e R s m args below meth c y code maxL ret vm T h locs cells slots) {k : Nat} {x z : Int32} {q : Nat} (hd : decode code pc = .ok (.istore k, 2)) (hz : x = z) (hl : storeLocals L k (.int z) = some L') (hp : pc + 2 = q) (K : Goes p e below F T (mkF m q L' S)) : Goes p e below F T (mkF m pc L (.int x :: S)) := by
  subst hz hp
  exact Goes.step (fun _ k => XS.istore X.1.here X.2.1.1 (g := mkF m pc L (.int x :: S)) rfl (hb X.2.1.2.1 hd) rfl hl k) K
theorem o_istoreN (X : On l Z EL p e R s m args below meth c y code maxL ret vm T h locs cells slots) {k : Fin 4} {x z : Int32} {q : Nat} (hd : decode code pc = .ok (.istore_n k, 1)) (hz : x = z) (hl : storeLocals L k.val (.int z) = some L') (hp : pc + 1 = q) (K : Goes p e below F T (mkF m q L' S)) : Goes p e below F T (mkF m pc L (.int x :: S)) := by
  subst hz hp
  exact Goes.step (fun _ k => XS.istoreN X.1.here X.2.1.1 (g := mkF m pc L (.int x :: S)) rfl (hb X.2.1.2.1 hd) rfl hl k) K
theorem o_lstore (X : On l Z EL p e R s m args below meth c y code maxL ret vm T h locs cells slots) {k : Nat} {x z : Int64} {q : Nat} (hd : decode code pc = .ok (.lstore k, 2)) (hz : x = z) (hl : storeLocals L k (.long z) = some L') (hp : pc + 2 = q) (K : Goes p e below F T (mkF m q L' S)) : Goes p e below F T (mkF m pc L (.long x :: S)) := by
  subst hz hp
  exact Goes.step (fun _ k => XS.lstore X.1.here X.2.1.1 (g := mkF m pc L (.long x :: S)) rfl (hb X.2.1.2.1 hd) rfl hl k) K
theorem o_lstoreN (X : On l Z EL p e R s m args below meth c y code maxL ret vm T h locs cells slots) {k : Fin 4} {x z : Int64} {q : Nat} (hd : decode code pc = .ok (.lstore_n k, 1)) (hz : x = z) (hl : storeLocals L k.val (.long z) = some L') (hp : pc + 1 = q) (K : Goes p e below F T (mkF m q L' S)) : Goes p e below F T (mkF m pc L (.long x :: S)) := by
  subst hz hp
  exact Goes.step (fun _ k => XS.lstoreN X.1.here X.2.1.1 (g := mkF m pc L (.long x :: S)) rfl (hb X.2.1.2.1 hd) rfl hl k) K
theorem o_astore (X : On l Z EL p e R s m args below meth c y code maxL ret vm T h locs cells slots) {k : Nat} {x : Value} {q : Nat} (hd : decode code pc = .ok (.astore k, 2)) (hv : x.isRef = true) (hl : storeLocals L k x = some L') (hp : pc + 2 = q) (K : Goes p e below F T (mkF m q L' S)) : Goes p e below F T (mkF m pc L (x :: S)) := by
  subst hp
  exact Goes.step (fun _ k => XS.astore X.1.here X.2.1.1 (g := mkF m pc L (x :: S)) rfl (hb X.2.1.2.1 hd) rfl hv hl k) K
theorem o_astoreN (X : On l Z EL p e R s m args below meth c y code maxL ret vm T h locs cells slots) {k : Fin 4} {x : Value} {q : Nat} (hd : decode code pc = .ok (.astore_n k, 1)) (hv : x.isRef = true) (hl : storeLocals L k.val x = some L') (hp : pc + 1 = q) (K : Goes p e below F T (mkF m q L' S)) : Goes p e below F T (mkF m pc L (x :: S)) := by
  subst hp
  exact Goes.step (fun _ k => XS.astoreN X.1.here X.2.1.1 (g := mkF m pc L (x :: S)) rfl (hb X.2.1.2.1 hd) rfl hv hl k) K
theorem o_iconst (X : On l Z EL p e R s m args below meth c y code maxL ret vm T h locs cells slots) {i : Int} {w : Int32} {q : Nat} (hd : decode code pc = .ok (.iconst i, 1)) (hw : Int32.ofInt i = w) (hp : pc + 1 = q) (K : Goes p e below F T (mkF m q L (.int w :: S))) : Goes p e below F T (mkF m pc L S) := by
  subst hw hp
  exact Goes.step (fun _ k => XS.iconst X.1.here X.2.1.1 (g := mkF m pc L S) rfl (hb X.2.1.2.1 hd) k) K
theorem o_bipush (X : On l Z EL p e R s m args below meth c y code maxL ret vm T h locs cells slots) {i : Int} {w : Int32} {q : Nat} (hd : decode code pc = .ok (.bipush i, 2)) (hw : (Int8.ofInt i).toInt32 = w) (hp : pc + 2 = q) (K : Goes p e below F T (mkF m q L (.int w :: S))) : Goes p e below F T (mkF m pc L S) := by
  subst hw hp
  exact Goes.step (fun _ k => XS.bipush X.1.here X.2.1.1 (g := mkF m pc L S) rfl (hb X.2.1.2.1 hd) k) K
theorem o_sipush (X : On l Z EL p e R s m args below meth c y code maxL ret vm T h locs cells slots) {i : Int} {w : Int32} {q : Nat} (hd : decode code pc = .ok (.sipush i, 3)) (hw : (Int16.ofInt i).toInt32 = w) (hp : pc + 3 = q) (K : Goes p e below F T (mkF m q L (.int w :: S))) : Goes p e below F T (mkF m pc L S) := by
  subst hw hp
  exact Goes.step (fun _ k => XS.sipush X.1.here X.2.1.1 (g := mkF m pc L S) rfl (hb X.2.1.2.1 hd) k) K
theorem o_lconst (X : On l Z EL p e R s m args below meth c y code maxL ret vm T h locs cells slots) {i : Fin 2} {w : Int64} {q : Nat} (hd : decode code pc = .ok (.lconst i, 1)) (hw : Int64.ofNat i = w) (hp : pc + 1 = q) (K : Goes p e below F T (mkF m q L (.long w :: S))) : Goes p e below F T (mkF m pc L S) := by
  subst hw hp
  exact Goes.step (fun _ k => XS.lconst X.1.here X.2.1.1 (g := mkF m pc L S) rfl (hb X.2.1.2.1 hd) k) K
theorem o_null (X : On l Z EL p e R s m args below meth c y code maxL ret vm T h locs cells slots)  {q : Nat} (hd : decode code pc = .ok (.aconst_null, 1)) (hp : pc + 1 = q) (K : Goes p e below F T (mkF m q L (.null :: S))) : Goes p e below F T (mkF m pc L S) := by
  subst hp
  exact Goes.step (fun _ k => XS.aconstNull X.1.here X.2.1.1 (g := mkF m pc L S) rfl (hb X.2.1.2.1 hd)  k) K
theorem o_iadd (X : On l Z EL p e R s m args below meth c y code maxL ret vm T h locs cells slots) {x : Int32} {z : Int32} {w : Int32} {q : Nat} (hd : decode code pc = .ok (.iadd, 1)) (hw : x + z = w) (hp : pc + 1 = q) (K : Goes p e below F T (mkF m q L (.int w :: S))) : Goes p e below F T (mkF m pc L (.int z :: .int x :: S)) := by
  subst hw hp
  exact Goes.step (fun _ k => XS.iadd X.1.here X.2.1.1 (g := mkF m pc L (.int z :: .int x :: S)) rfl (hb X.2.1.2.1 hd) rfl  k) K
theorem o_isub (X : On l Z EL p e R s m args below meth c y code maxL ret vm T h locs cells slots) {x : Int32} {z : Int32} {w : Int32} {q : Nat} (hd : decode code pc = .ok (.isub, 1)) (hw : x - z = w) (hp : pc + 1 = q) (K : Goes p e below F T (mkF m q L (.int w :: S))) : Goes p e below F T (mkF m pc L (.int z :: .int x :: S)) := by
  subst hw hp
  exact Goes.step (fun _ k => XS.isub X.1.here X.2.1.1 (g := mkF m pc L (.int z :: .int x :: S)) rfl (hb X.2.1.2.1 hd) rfl  k) K
theorem o_imul (X : On l Z EL p e R s m args below meth c y code maxL ret vm T h locs cells slots) {x : Int32} {z : Int32} {w : Int32} {q : Nat} (hd : decode code pc = .ok (.imul, 1)) (hw : x * z = w) (hp : pc + 1 = q) (K : Goes p e below F T (mkF m q L (.int w :: S))) : Goes p e below F T (mkF m pc L (.int z :: .int x :: S)) := by
  subst hw hp
  exact Goes.step (fun _ k => XS.imul X.1.here X.2.1.1 (g := mkF m pc L (.int z :: .int x :: S)) rfl (hb X.2.1.2.1 hd) rfl  k) K
theorem o_iand (X : On l Z EL p e R s m args below meth c y code maxL ret vm T h locs cells slots) {x : Int32} {z : Int32} {w : Int32} {q : Nat} (hd : decode code pc = .ok (.iand, 1)) (hw : x &&& z = w) (hp : pc + 1 = q) (K : Goes p e below F T (mkF m q L (.int w :: S))) : Goes p e below F T (mkF m pc L (.int z :: .int x :: S)) := by
  subst hw hp
  exact Goes.step (fun _ k => XS.iand X.1.here X.2.1.1 (g := mkF m pc L (.int z :: .int x :: S)) rfl (hb X.2.1.2.1 hd) rfl  k) K
theorem o_ior (X : On l Z EL p e R s m args below meth c y code maxL ret vm T h locs cells slots) {x : Int32} {z : Int32} {w : Int32} {q : Nat} (hd : decode code pc = .ok (.ior, 1)) (hw : x ||| z = w) (hp : pc + 1 = q) (K : Goes p e below F T (mkF m q L (.int w :: S))) : Goes p e below F T (mkF m pc L (.int z :: .int x :: S)) := by
  subst hw hp
  exact Goes.step (fun _ k => XS.ior X.1.here X.2.1.1 (g := mkF m pc L (.int z :: .int x :: S)) rfl (hb X.2.1.2.1 hd) rfl  k) K
theorem o_ixor (X : On l Z EL p e R s m args below meth c y code maxL ret vm T h locs cells slots) {x : Int32} {z : Int32} {w : Int32} {q : Nat} (hd : decode code pc = .ok (.ixor, 1)) (hw : x ^^^ z = w) (hp : pc + 1 = q) (K : Goes p e below F T (mkF m q L (.int w :: S))) : Goes p e below F T (mkF m pc L (.int z :: .int x :: S)) := by
  subst hw hp
  exact Goes.step (fun _ k => XS.ixor X.1.here X.2.1.1 (g := mkF m pc L (.int z :: .int x :: S)) rfl (hb X.2.1.2.1 hd) rfl  k) K
theorem o_ishl (X : On l Z EL p e R s m args below meth c y code maxL ret vm T h locs cells slots) {x : Int32} {z : Int32} {w : Int32} {q : Nat} (hd : decode code pc = .ok (.ishl, 1)) (hw : x <<< (z &&& 31) = w) (hp : pc + 1 = q) (K : Goes p e below F T (mkF m q L (.int w :: S))) : Goes p e below F T (mkF m pc L (.int z :: .int x :: S)) := by
  subst hw hp
  exact Goes.step (fun _ k => XS.ishl X.1.here X.2.1.1 (g := mkF m pc L (.int z :: .int x :: S)) rfl (hb X.2.1.2.1 hd) rfl  k) K
theorem o_ishr (X : On l Z EL p e R s m args below meth c y code maxL ret vm T h locs cells slots) {x : Int32} {z : Int32} {w : Int32} {q : Nat} (hd : decode code pc = .ok (.ishr, 1)) (hw : x >>> (z &&& 31) = w) (hp : pc + 1 = q) (K : Goes p e below F T (mkF m q L (.int w :: S))) : Goes p e below F T (mkF m pc L (.int z :: .int x :: S)) := by
  subst hw hp
  exact Goes.step (fun _ k => XS.ishr X.1.here X.2.1.1 (g := mkF m pc L (.int z :: .int x :: S)) rfl (hb X.2.1.2.1 hd) rfl  k) K
theorem o_iushr (X : On l Z EL p e R s m args below meth c y code maxL ret vm T h locs cells slots) {x : Int32} {z : Int32} {w : Int32} {q : Nat} (hd : decode code pc = .ok (.iushr, 1)) (hw : (x.toUInt32 >>> (z &&& 31).toUInt32).toInt32 = w) (hp : pc + 1 = q) (K : Goes p e below F T (mkF m q L (.int w :: S))) : Goes p e below F T (mkF m pc L (.int z :: .int x :: S)) := by
  subst hw hp
  exact Goes.step (fun _ k => XS.iushr X.1.here X.2.1.1 (g := mkF m pc L (.int z :: .int x :: S)) rfl (hb X.2.1.2.1 hd) rfl  k) K
theorem o_ladd (X : On l Z EL p e R s m args below meth c y code maxL ret vm T h locs cells slots) {x : Int64} {z : Int64} {w : Int64} {q : Nat} (hd : decode code pc = .ok (.ladd, 1)) (hw : x + z = w) (hp : pc + 1 = q) (K : Goes p e below F T (mkF m q L (.long w :: S))) : Goes p e below F T (mkF m pc L (.long z :: .long x :: S)) := by
  subst hw hp
  exact Goes.step (fun _ k => XS.ladd X.1.here X.2.1.1 (g := mkF m pc L (.long z :: .long x :: S)) rfl (hb X.2.1.2.1 hd) rfl  k) K
theorem o_lsub (X : On l Z EL p e R s m args below meth c y code maxL ret vm T h locs cells slots) {x : Int64} {z : Int64} {w : Int64} {q : Nat} (hd : decode code pc = .ok (.lsub, 1)) (hw : x - z = w) (hp : pc + 1 = q) (K : Goes p e below F T (mkF m q L (.long w :: S))) : Goes p e below F T (mkF m pc L (.long z :: .long x :: S)) := by
  subst hw hp
  exact Goes.step (fun _ k => XS.lsub X.1.here X.2.1.1 (g := mkF m pc L (.long z :: .long x :: S)) rfl (hb X.2.1.2.1 hd) rfl  k) K
theorem o_lmul (X : On l Z EL p e R s m args below meth c y code maxL ret vm T h locs cells slots) {x : Int64} {z : Int64} {w : Int64} {q : Nat} (hd : decode code pc = .ok (.lmul, 1)) (hw : x * z = w) (hp : pc + 1 = q) (K : Goes p e below F T (mkF m q L (.long w :: S))) : Goes p e below F T (mkF m pc L (.long z :: .long x :: S)) := by
  subst hw hp
  exact Goes.step (fun _ k => XS.lmul X.1.here X.2.1.1 (g := mkF m pc L (.long z :: .long x :: S)) rfl (hb X.2.1.2.1 hd) rfl  k) K
theorem o_land (X : On l Z EL p e R s m args below meth c y code maxL ret vm T h locs cells slots) {x : Int64} {z : Int64} {w : Int64} {q : Nat} (hd : decode code pc = .ok (.land, 1)) (hw : x &&& z = w) (hp : pc + 1 = q) (K : Goes p e below F T (mkF m q L (.long w :: S))) : Goes p e below F T (mkF m pc L (.long z :: .long x :: S)) := by
  subst hw hp
  exact Goes.step (fun _ k => XS.land X.1.here X.2.1.1 (g := mkF m pc L (.long z :: .long x :: S)) rfl (hb X.2.1.2.1 hd) rfl  k) K
theorem o_lor (X : On l Z EL p e R s m args below meth c y code maxL ret vm T h locs cells slots) {x : Int64} {z : Int64} {w : Int64} {q : Nat} (hd : decode code pc = .ok (.lor, 1)) (hw : x ||| z = w) (hp : pc + 1 = q) (K : Goes p e below F T (mkF m q L (.long w :: S))) : Goes p e below F T (mkF m pc L (.long z :: .long x :: S)) := by
  subst hw hp
  exact Goes.step (fun _ k => XS.lor X.1.here X.2.1.1 (g := mkF m pc L (.long z :: .long x :: S)) rfl (hb X.2.1.2.1 hd) rfl  k) K
theorem o_lxor (X : On l Z EL p e R s m args below meth c y code maxL ret vm T h locs cells slots) {x : Int64} {z : Int64} {w : Int64} {q : Nat} (hd : decode code pc = .ok (.lxor, 1)) (hw : x ^^^ z = w) (hp : pc + 1 = q) (K : Goes p e below F T (mkF m q L (.long w :: S))) : Goes p e below F T (mkF m pc L (.long z :: .long x :: S)) := by
  subst hw hp
  exact Goes.step (fun _ k => XS.lxor X.1.here X.2.1.1 (g := mkF m pc L (.long z :: .long x :: S)) rfl (hb X.2.1.2.1 hd) rfl  k) K
theorem o_lshl (X : On l Z EL p e R s m args below meth c y code maxL ret vm T h locs cells slots) {x : Int64} {z : Int32} {w : Int64} {q : Nat} (hd : decode code pc = .ok (.lshl, 1)) (hw : x <<< (z &&& 0x3f).toInt64 = w) (hp : pc + 1 = q) (K : Goes p e below F T (mkF m q L (.long w :: S))) : Goes p e below F T (mkF m pc L (.int z :: .long x :: S)) := by
  subst hw hp
  exact Goes.step (fun _ k => XS.lshl X.1.here X.2.1.1 (g := mkF m pc L (.int z :: .long x :: S)) rfl (hb X.2.1.2.1 hd) rfl  k) K
theorem o_lshr (X : On l Z EL p e R s m args below meth c y code maxL ret vm T h locs cells slots) {x : Int64} {z : Int32} {w : Int64} {q : Nat} (hd : decode code pc = .ok (.lshr, 1)) (hw : x >>> (z &&& 0x3f).toInt64 = w) (hp : pc + 1 = q) (K : Goes p e below F T (mkF m q L (.long w :: S))) : Goes p e below F T (mkF m pc L (.int z :: .long x :: S)) := by
  subst hw hp
  exact Goes.step (fun _ k => XS.lshr X.1.here X.2.1.1 (g := mkF m pc L (.int z :: .long x :: S)) rfl (hb X.2.1.2.1 hd) rfl  k) K
theorem o_lushr (X : On l Z EL p e R s m args below meth c y code maxL ret vm T h locs cells slots) {x : Int64} {z : Int32} {w : Int64} {q : Nat} (hd : decode code pc = .ok (.lushr, 1)) (hw : (x.toUInt64 >>> (z &&& 0x3f).toInt64.toUInt64).toInt64 = w) (hp : pc + 1 = q) (K : Goes p e below F T (mkF m q L (.long w :: S))) : Goes p e below F T (mkF m pc L (.int z :: .long x :: S)) := by
  subst hw hp
  exact Goes.step (fun _ k => XS.lushr X.1.here X.2.1.1 (g := mkF m pc L (.int z :: .long x :: S)) rfl (hb X.2.1.2.1 hd) rfl  k) K
theorem o_idiv (X : On l Z EL p e R s m args below meth c y code maxL ret vm T h locs cells slots) {x : Int32} {z : Int32} {w : Int32} {q : Nat} (hd : decode code pc = .ok (.idiv, 1)) (hn : z ≠ 0) (hw : x / z = w) (hp : pc + 1 = q) (K : Goes p e below F T (mkF m q L (.int w :: S))) : Goes p e below F T (mkF m pc L (.int z :: .int x :: S)) := by
  subst hw hp
  exact Goes.step (fun _ k => XS.idiv X.1.here X.2.1.1 (g := mkF m pc L (.int z :: .int x :: S)) rfl (hb X.2.1.2.1 hd) rfl hn k) K
theorem o_irem (X : On l Z EL p e R s m args below meth c y code maxL ret vm T h locs cells slots) {x : Int32} {z : Int32} {w : Int32} {q : Nat} (hd : decode code pc = .ok (.irem, 1)) (hn : z ≠ 0) (hw : x % z = w) (hp : pc + 1 = q) (K : Goes p e below F T (mkF m q L (.int w :: S))) : Goes p e below F T (mkF m pc L (.int z :: .int x :: S)) := by
  subst hw hp
  exact Goes.step (fun _ k => iremM (g := mkF m pc L (.int z :: .int x :: S)) X.1 X.2.1.1 rfl (hb X.2.1.2.1 hd) rfl hn k) K
theorem o_lcmp (X : On l Z EL p e R s m args below meth c y code maxL ret vm T h locs cells slots) {x : Int64} {z : Int64} {w : Int32} {q : Nat} (hd : decode code pc = .ok (.lcmp, 1)) (hw : lcmpW x z = w) (hp : pc + 1 = q) (K : Goes p e below F T (mkF m q L (.int w :: S))) : Goes p e below F T (mkF m pc L (.long z :: .long x :: S)) := by
  subst hw hp
  exact Goes.step (fun _ k => XS.lcmp X.1.here X.2.1.1 (g := mkF m pc L (.long z :: .long x :: S)) rfl (hb X.2.1.2.1 hd) rfl  k) K
theorem o_ineg (X : On l Z EL p e R s m args below meth c y code maxL ret vm T h locs cells slots) {x : Int32} {w : Int32} {q : Nat} (hd : decode code pc = .ok (.ineg, 1)) (hw : -x = w) (hp : pc + 1 = q) (K : Goes p e below F T (mkF m q L (.int w :: S))) : Goes p e below F T (mkF m pc L (.int x :: S)) := by
  subst hw hp
  exact Goes.step (fun _ k => XS.ineg X.1.here X.2.1.1 (g := mkF m pc L (.int x :: S)) rfl (hb X.2.1.2.1 hd) rfl k) K
theorem o_lneg (X : On l Z EL p e R s m args below meth c y code maxL ret vm T h locs cells slots) {x : Int64} {w : Int64} {q : Nat} (hd : decode code pc = .ok (.lneg, 1)) (hw : -x = w) (hp : pc + 1 = q) (K : Goes p e below F T (mkF m q L (.long w :: S))) : Goes p e below F T (mkF m pc L (.long x :: S)) := by
  subst hw hp
  exact Goes.step (fun _ k => XS.lneg X.1.here X.2.1.1 (g := mkF m pc L (.long x :: S)) rfl (hb X.2.1.2.1 hd) rfl k) K
theorem o_i2l (X : On l Z EL p e R s m args below meth c y code maxL ret vm T h locs cells slots) {x : Int32} {w : Int64} {q : Nat} (hd : decode code pc = .ok (.i2l, 1)) (hw : x.toInt64 = w) (hp : pc + 1 = q) (K : Goes p e below F T (mkF m q L (.long w :: S))) : Goes p e below F T (mkF m pc L (.int x :: S)) := by
  subst hw hp
  exact Goes.step (fun _ k => XS.i2l X.1.here X.2.1.1 (g := mkF m pc L (.int x :: S)) rfl (hb X.2.1.2.1 hd) rfl k) K
theorem o_l2i (X : On l Z EL p e R s m args below meth c y code maxL ret vm T h locs cells slots) {x : Int64} {w : Int32} {q : Nat} (hd : decode code pc = .ok (.l2i, 1)) (hw : x.toInt32 = w) (hp : pc + 1 = q) (K : Goes p e below F T (mkF m q L (.int w :: S))) : Goes p e below F T (mkF m pc L (.long x :: S)) := by
  subst hw hp
  exact Goes.step (fun _ k => XS.l2i X.1.here X.2.1.1 (g := mkF m pc L (.long x :: S)) rfl (hb X.2.1.2.1 hd) rfl k) K
theorem o_i2b (X : On l Z EL p e R s m args below meth c y code maxL ret vm T h locs cells slots) {x : Int32} {w : Int32} {q : Nat} (hd : decode code pc = .ok (.i2b, 1)) (hw : x.toInt8.toInt32 = w) (hp : pc + 1 = q) (K : Goes p e below F T (mkF m q L (.int w :: S))) : Goes p e below F T (mkF m pc L (.int x :: S)) := by
  subst hw hp
  exact Goes.step (fun _ k => XS.i2b X.1.here X.2.1.1 (g := mkF m pc L (.int x :: S)) rfl (hb X.2.1.2.1 hd) rfl k) K
theorem o_i2c (X : On l Z EL p e R s m args below meth c y code maxL ret vm T h locs cells slots) {x : Int32} {w : Int32} {q : Nat} (hd : decode code pc = .ok (.i2c, 1)) (hw : x.toUInt32.toUInt16.toUInt32.toInt32 = w) (hp : pc + 1 = q) (K : Goes p e below F T (mkF m q L (.int w :: S))) : Goes p e below F T (mkF m pc L (.int x :: S)) := by
  subst hw hp
  exact Goes.step (fun _ k => XS.i2c X.1.here X.2.1.1 (g := mkF m pc L (.int x :: S)) rfl (hb X.2.1.2.1 hd) rfl k) K
theorem o_i2s (X : On l Z EL p e R s m args below meth c y code maxL ret vm T h locs cells slots) {x : Int32} {w : Int32} {q : Nat} (hd : decode code pc = .ok (.i2s, 1)) (hw : x.toInt16.toInt32 = w) (hp : pc + 1 = q) (K : Goes p e below F T (mkF m q L (.int w :: S))) : Goes p e below F T (mkF m pc L (.int x :: S)) := by
  subst hw hp
  exact Goes.step (fun _ k => XS.i2s X.1.here X.2.1.1 (g := mkF m pc L (.int x :: S)) rfl (hb X.2.1.2.1 hd) rfl k) K
theorem o_dup (X : On l Z EL p e R s m args below meth c y code maxL ret vm T h locs cells slots) {x : Value} {q : Nat} (hd : decode code pc = .ok (.dup, 1)) (hc : x.category = 1) (hp : pc + 1 = q) (K : Goes p e below F T (mkF m q L (x :: x :: S))) : Goes p e below F T (mkF m pc L (x :: S)) := by
  subst hp
  exact Goes.step (fun _ k => XS.dup X.1.here X.2.1.1 (g := mkF m pc L (x :: S)) rfl (hb X.2.1.2.1 hd) rfl hc k) K
theorem o_pop (X : On l Z EL p e R s m args below meth c y code maxL ret vm T h locs cells slots) {x : Value} {q : Nat} (hd : decode code pc = .ok (.pop, 1)) (hc : x.category = 1) (hp : pc + 1 = q) (K : Goes p e below F T (mkF m q L S)) : Goes p e below F T (mkF m pc L (x :: S)) := by
  subst hp
  exact Goes.step (fun _ k => XS.pop X.1.here X.2.1.1 (g := mkF m pc L (x :: S)) rfl (hb X.2.1.2.1 hd) rfl hc k) K
theorem o_dupX1 (X : On l Z EL p e R s m args below meth c y code maxL ret vm T h locs cells slots) {x z : Value} {q : Nat} (hd : decode code pc = .ok (.dup_x1, 1)) (hc : x.category = 1) (hc' : z.category = 1) (hp : pc + 1 = q) (K : Goes p e below F T (mkF m q L (x :: z :: x :: S))) : Goes p e below F T (mkF m pc L (x :: z :: S)) := by
  subst hp
  exact Goes.step (fun _ k => XS.dupX1 X.1.here X.2.1.1 (g := mkF m pc L (x :: z :: S)) rfl (hb X.2.1.2.1 hd) rfl hc hc' k) K
theorem o_dup2 (X : On l Z EL p e R s m args below meth c y code maxL ret vm T h locs cells slots) {x z : Value} {q : Nat} (hd : decode code pc = .ok (.dup2, 1)) (hc : x.category = 1) (hc' : z.category = 1) (hp : pc + 1 = q) (K : Goes p e below F T (mkF m q L (x :: z :: x :: z :: S))) : Goes p e below F T (mkF m pc L (x :: z :: S)) := by
  subst hp
  exact Goes.step (fun _ k => Jvm.Free.XT.dup2 X.1.here X.2.1.1 (g := mkF m pc L (x :: z :: S)) rfl (hb X.2.1.2.1 hd) rfl hc hc' k) K
theorem o_iinc (X : On l Z EL p e R s m args below meth c y code maxL ret vm T h locs cells slots) {k : Nat} {i : Int} {x z : Int32} {q : Nat} (hd : decode code pc = .ok (.iinc k i, 3)) (hl : L[k]? = some (.val (.int x))) (hz : x + Int32.ofInt i = z) (hl' : storeLocals L k (.int z) = some L') (hp : pc + 3 = q) (K : Goes p e below F T (mkF m q L' S)) : Goes p e below F T (mkF m pc L S) := by
  subst hz hp
  exact Goes.step (fun _ k => XS.iinc X.1.here X.2.1.1 (g := mkF m pc L S) rfl (hb X.2.1.2.1 hd) hl hl' k) K
theorem o_goto (X : On l Z EL p e R s m args below meth c y code maxL ret vm T h locs cells slots) {i : Int} {q : Nat} (hd : decode code pc = .ok (.goto i, 3)) (ho : 0 ≤ (pc : Int) + i) (hp : ((pc : Int) + i).toNat = q) (K : Goes p e below F T (mkF m q L S)) : Goes p e below F T (mkF m pc L S) := Goes.step (fun _ k => XS.goto X.1.here X.2.1.1 (g := mkF m pc L S) (pc0 := pc) rfl rfl (hb X.2.1.2.1 hd) ho hp k) K
theorem o_ifY (X : On l Z EL p e R s m args below meth c y code maxL ret vm T h locs cells slots) {cd : ClassFile.Cond} {i : Int} {x : Int32} {q : Nat} (hd : decode code pc = .ok (.ifCond cd i, 3)) (hc : if_icmp.holds cd x 0 = true) (ho : 0 ≤ (pc : Int) + i) (hp : ((pc : Int) + i).toNat = q) (K : Goes p e below F T (mkF m q L S)) : Goes p e below F T (mkF m pc L (.int x :: S)) := Goes.step (fun _ k => XS.ifYes X.1.here X.2.1.1 (g := mkF m pc L (.int x :: S)) rfl (pc0 := pc) rfl (hb X.2.1.2.1 hd) rfl ((if0 _ _).trans hc) ho hp k) K
theorem o_ifN (X : On l Z EL p e R s m args below meth c y code maxL ret vm T h locs cells slots) {cd : ClassFile.Cond} {i : Int} {x : Int32} {q : Nat} (hd : decode code pc = .ok (.ifCond cd i, 3)) (hc : if_icmp.holds cd x 0 = false) (hp : pc + 3 = q) (K : Goes p e below F T (mkF m q L S)) : Goes p e below F T (mkF m pc L (.int x :: S)) := by
  subst hp
  exact Goes.step (fun _ k => XS.ifNo X.1.here X.2.1.1 (g := mkF m pc L (.int x :: S)) rfl (hb X.2.1.2.1 hd) rfl ((if0 _ _).trans hc) k) K
theorem o_icmpY (X : On l Z EL p e R s m args below meth c y code maxL ret vm T h locs cells slots) {cd : ClassFile.Cond} {i : Int} {x z : Int32} {q : Nat} (hd : decode code pc = .ok (.if_icmp cd i, 3)) (hc : if_icmp.holds cd x z = true) (ho : 0 ≤ (pc : Int) + i) (hp : ((pc : Int) + i).toNat = q) (K : Goes p e below F T (mkF m q L S)) : Goes p e below F T (mkF m pc L (.int z :: .int x :: S)) := Goes.step (fun _ k => XS.icmpYes X.1.here X.2.1.1 (g := mkF m pc L (.int z :: .int x :: S)) rfl (pc0 := pc) rfl (hb X.2.1.2.1 hd) rfl hc ho hp k) K
theorem o_icmpN (X : On l Z EL p e R s m args below meth c y code maxL ret vm T h locs cells slots) {cd : ClassFile.Cond} {i : Int} {x z : Int32} {q : Nat} (hd : decode code pc = .ok (.if_icmp cd i, 3)) (hc : if_icmp.holds cd x z = false) (hp : pc + 3 = q) (K : Goes p e below F T (mkF m q L S)) : Goes p e below F T (mkF m pc L (.int z :: .int x :: S)) := by
  subst hp
  exact Goes.step (fun _ k => XS.icmpNo X.1.here X.2.1.1 (g := mkF m pc L (.int z :: .int x :: S)) rfl (hb X.2.1.2.1 hd) rfl hc k) K
theorem o_ifnullY (X : On l Z EL p e R s m args below meth c y code maxL ret vm T h locs cells slots) {i : Int} {q : Nat} (hd : decode code pc = .ok (.ifnull i, 3)) (ho : 0 ≤ (pc : Int) + i) (hp : ((pc : Int) + i).toNat = q) (K : Goes p e below F T (mkF m q L S)) : Goes p e below F T (mkF m pc L (.null :: S)) := Goes.step (fun _ k => XS.ifnullYes X.1.here X.2.1.1 (g := mkF m pc L (.null :: S)) rfl (pc0 := pc) rfl (hb X.2.1.2.1 hd) rfl ho hp k) K
theorem o_ifnullN (X : On l Z EL p e R s m args below meth c y code maxL ret vm T h locs cells slots) {i : Int} {q : Nat} {b : Addr} (hd : decode code pc = .ok (.ifnull i, 3)) (hp : pc + 3 = q) (K : Goes p e below F T (mkF m q L S)) : Goes p e below F T (mkF m pc L ((.ref b) :: S)) := by
  subst hp
  exact Goes.step (fun _ k => XS.ifnullNo X.1.here X.2.1.1 (g := mkF m pc L ((.ref b) :: S)) rfl (hb X.2.1.2.1 hd) rfl k) K
theorem o_ifnonnullY (X : On l Z EL p e R s m args below meth c y code maxL ret vm T h locs cells slots) {i : Int} {q : Nat} {b : Addr} (hd : decode code pc = .ok (.ifnonnull i, 3)) (ho : 0 ≤ (pc : Int) + i) (hp : ((pc : Int) + i).toNat = q) (K : Goes p e below F T (mkF m q L S)) : Goes p e below F T (mkF m pc L ((.ref b) :: S)) := Goes.step (fun _ k => XS.ifnonnullYes X.1.here X.2.1.1 (g := mkF m pc L ((.ref b) :: S)) rfl (pc0 := pc) rfl (hb X.2.1.2.1 hd) rfl ho hp k) K
theorem o_ifnonnullN (X : On l Z EL p e R s m args below meth c y code maxL ret vm T h locs cells slots) {i : Int} {q : Nat} (hd : decode code pc = .ok (.ifnonnull i, 3)) (hp : pc + 3 = q) (K : Goes p e below F T (mkF m q L S)) : Goes p e below F T (mkF m pc L (.null :: S)) := by
  subst hp
  exact Goes.step (fun _ k => XS.ifnonnullNo X.1.here X.2.1.1 (g := mkF m pc L (.null :: S)) rfl (hb X.2.1.2.1 hd) rfl k) K
theorem o_acmp (X : On l Z EL p e R s m args below meth c y code maxL ret vm T h locs cells slots) {cd : ACond} {i : Int} {x z : Value} {q : Nat} {same : Bool} (hd : decode code pc = .ok (.if_acmp cd i, 3)) (h1 : x.isRef = true) (h2 : z.isRef = true) (hq : decide (x = z) = same) (ho : 0 ≤ (pc : Int) + i) (hp : q = if acV cd same = true then ((pc : Int) + i).toNat else pc + 3) (K : Goes p e below F T (mkF m q L S)) : Goes p e below F T (mkF m pc L (z :: x :: S)) := Goes.step (fun _ k => Jvm.RoadKit.acmp (g := mkF m pc L (z :: x :: S)) X.1 X.2.1.1 rfl h1 h2 (pc0 := pc) rfl (hb X.2.1.2.1 hd) rfl hq ho hp k) K
theorem o_ldcI (X : On l Z EL p e R s m args below meth c y code maxL ret vm T h locs cells slots) {index : Nat} {v : Int32} {q : Nat} (w : (Jvm.Cond.constant y.cls index v).before a0 Z = true) (hd : decode code pc = .ok (.ldc index, 2)) (hp : pc + 2 = q) (K : Goes p e below F T (mkF m q L (.int v :: S))) : Goes p e below F T (mkF m pc L S) := by
  subst hp
  exact Goes.step (X.1.ldcInt X.2.1.1 X.2.1.2.2.2.1 (mvT (s := s.setVm vm) X.2.1.2.2.1 w) (g := mkF m pc L S) rfl (hb X.2.1.2.1 hd)) K
theorem o_ldcJ (X : On l Z EL p e R s m args below meth c y code maxL ret vm T h locs cells slots) {index : Nat} {v : Int64} {q : Nat} (w : (Jvm.Cond.constantLong y.cls index v).before a0 Z = true) (hd : decode code pc = .ok (.ldc2_w index, 3)) (hp : pc + 3 = q) (K : Goes p e below F T (mkF m q L (.long v :: S))) : Goes p e below F T (mkF m pc L S) := by
  subst hp
  exact Goes.step (X.1.ldc2Long X.2.1.1 X.2.1.2.2.2.1 (mvT (s := s.setVm vm) X.2.1.2.2.1 w) (g := mkF m pc L S) rfl (hb X.2.1.2.1 hd)) K
theorem o_ldcS (X : On l Z EL p e R s m args below meth c y code maxL ret vm T h locs cells slots) {text : String} {index q n : Nat} {vs : List Value} {z : Int32} (w : (Jvm.Cond.stringLink y.cls index text).before a0 Z = true) (wS : ∀ a ∈ Bundle.stringAtoms, a.before a0 Z = true) (hmem : (y.cls, index) ∈ EL) (ht : (∀ c ∈ text.toList, c.toNat < 256) ∧ text.toList.map (fun c => Value.int (Jvm.Lit.byteI c.toNat.toUInt16)) = vs) (hz : ¬ z < 0) (hl : z.toNatClampNeg = vs.length) (hd : decode code pc = .ok (.ldc index, 2)) (hn : 4 * text.toList.length ≤ n) (hbig : n ≤ 536870912) (hc : cells + 2 ≤ R.cells) (hl' : slots + (n + 4) ≤ R.slots) (hp : pc + 2 = q)
    (K : ∀ (vm' : Vm) (T' : State) (h' : Heap) (a b : Addr) (k : ClassId), On l Z EL p e R s m args below meth c y code maxL ret vm' T' h' locs (cells + 2) (slots + (n + 4)) → Ext h h' → CHr Z EL vm h vm' h' → Exa Z h' a "java/lang/String" → Fld Z h' a "java/lang/String" "coder" "B" (.int 0) → Fld Z h' a "java/lang/String" "value" "[B" (.ref b) → Arv Z h' b k .byte z vs (.int 0) → (∀ x, Safe Z EL vm' h' x → x ≠ a ∧ x ≠ b) → Goes p e below F T' (mkF m q L (.ref a :: S))) : Goes p e below F T (mkF m pc L S) := by
  subst hp
  obtain ⟨X1, C1, e1, N1, E1, ⟨k0, s0, q0⟩, H1, ⟨a1, hw⟩⟩ := X
  have hEL : EW Z a0 EL := fun p hp => by
    obtain ⟨t, q1, q2⟩ := hw p hp
    exact ⟨t, by simpa [Cond.before, Cond.holds, Cond.value] using q1, q2⟩
  obtain ⟨a, T', h', k1, b, k, X', e', E', S', q', hZ', ho', r1, r2, r3, r4, -, -, R', -, r5, st⟩ := ldcCH X1 C1.1 C1.2.2.1 C1.2.2.2.1 w wS e1 s0 q0 hEL hmem H1.1 ht hz hl (g := mkF m pc L S) rfl (hb C1.2.1 hd) hn hbig hc hl'
  exact Goes.step st (K T'.vm T' h' a b k ⟨X', ⟨C1.1, C1.2.1, hZ', ho', C1.2.2.2.2⟩, e', N1, ext_trans E1 E', ⟨k1, S', q'⟩, H1.trans R', ⟨a1, hw⟩⟩ E' R' r1 r2 r3 r4 r5)
theorem o_ldcO (X : On l Z EL p e R s m args below meth c y code maxL ret vm T h locs cells slots) {text : String} {index q n : Nat} (w : (Jvm.Cond.stringLink y.cls index text).before a0 Z = true) (wS : ∀ a ∈ Bundle.stringAtoms, a.before a0 Z = true) (hd : decode code pc = .ok (.ldc index, 2)) (hn : 4 * text.toList.length ≤ n) (hbig : n ≤ 536870912) (hc : cells + 2 ≤ R.cells) (hl' : slots + (n + 4) ≤ R.slots) (hp : pc + 2 = q)
    (K : ∀ (vm' : Vm) (T' : State) (h' : Heap) (a : Addr), On l Z EL p e R s m args below meth c y code maxL ret vm' T' h' locs (cells + 2) (slots + (n + 4)) → Ext h h' → CHr Z EL vm h vm' h' → Goes p e below F T' (mkF m q L (.ref a :: S))) : Goes p e below F T (mkF m pc L S) := by
  subst hp
  obtain ⟨X1, C1, e1, N1, E1, ⟨k0, s0, q0⟩, H1, ⟨a1, hw⟩⟩ := X
  have hEL : EW Z a0 EL := fun p hp => by
    obtain ⟨t, q1, q2⟩ := hw p hp
    exact ⟨t, by simpa [Cond.before, Cond.holds, Cond.value] using q1, q2⟩
  obtain ⟨a, T', h', k1, X', e', E', S', q', hZ', ho', R', -, st⟩ := ldcOH X1 C1.1 C1.2.2.1 C1.2.2.2.1 w wS e1 s0 q0 hEL H1.1 (g := mkF m pc L S) rfl (hb C1.2.1 hd) hn hbig hc hl'
  exact Goes.step st (K T'.vm T' h' a ⟨X', ⟨C1.1, C1.2.1, hZ', ho', C1.2.2.2.2⟩, e', N1, ext_trans E1 E', ⟨k1, S', q'⟩, H1.trans R', ⟨a1, hw⟩⟩ E' R')
theorem o_new (X : On l Z EL p e R s m args below meth c y code maxL ret vm T h locs cells slots) {C : String} {index n q : Nat} (w : (Jvm.Cond.classLink y.cls index C).before a0 Z = true) (wi : (Jvm.Cond.instantiable C n).before a0 Z = true) (wz : (Jvm.Cond.initialized C).before a0 Z = true) (hd : decode code pc = .ok (.new index, 3)) (hc : cells + 1 ≤ R.cells) (hl : slots + n ≤ R.slots) (hp : pc + 3 = q)
    (K : ∀ (T' : State) (h' : Heap) (a : Addr), a = h.size → On l Z EL p e R s m args below meth c y code maxL ret vm T' h' locs (cells + 1) (slots + n) → Ext h h' → CHr Z EL vm h vm h' → Safe Z EL vm h' a → Exa Z h' a C → (∀ {O nm d : String} {ty : FieldType}, Laid Z a0 C O nm d → parseFieldDescriptor d = some ty → Fld Z h' a O nm d (defaultValue ty)) → Z.heap.size ≤ a → Goes p e below F T' (mkF m q L (.ref a :: S))) : Goes p e below F T (mkF m pc L S) := by
  subst hp
  obtain ⟨T', h', X', e', E', A', D', -, st⟩ := newO X.1 X.2.1.1 (show Z.Warmed39 (s.setVm vm).vm from X.2.1.2.2.1) X.2.1.2.2.2.1 w wi wz X.2.2.1 (g := mkF m pc L S) rfl (hb X.2.1.2.1 hd) hc hl
  exact Goes.step st (K T' h' h.size rfl (X.later X' e' X.2.2.2.1 (ext_trans X.ext E') (CHr.ext E' X.chv)) E' (CHr.ext E' X.chv) (Safe.ext E' X.chv (Safe.new (Nat.le_refl _))) A' D' X.size)
theorem o_newarr (X : On l Z EL p e R s m args below meth c y code maxL ret vm T h locs cells slots) {aty : ArrayType} {n : Int32} {cap q : Nat} (N : Nat) (w : (Jvm.Cond.arrayClass (newarray.typeOf aty)).before a0 Z = true) (hd : decode code pc = .ok (.newarray aty, 2)) (hn : ¬ n < 0) (hcap : n.toNatClampNeg ≤ cap) (hb8 : cap * 8 ≤ 536870912) (hc : cells + 1 ≤ R.cells) (hl : slots + cap ≤ R.slots) (hp : pc + 2 = q)
    (K : ∀ (T' : State) (h' : Heap) (a : Addr) (k : ClassId), a = h.size → On l Z EL p e R s m args below meth c y code maxL ret vm T' h' locs (cells + 1) (slots + cap) → Ext h h' → CHr Z EL vm h vm h' → Safe Z EL vm h' a → Arv Z h' a k (newarray.typeOf aty) n (List.replicate N (defaultValue (newarray.typeOf aty))) (defaultValue (newarray.typeOf aty)) → Z.heap.size ≤ a → Goes p e below F T' (mkF m q L (.ref a :: S))) : Goes p e below F T (mkF m pc L (.int n :: S)) := by
  subst hp
  obtain ⟨T', h', k, X', e', E', A', st⟩ := newP X.1 X.2.1.1 (show Z.Warmed39 (s.setVm vm).vm from X.2.1.2.2.1) w X.2.2.1 (g := mkF m pc L (.int n :: S)) rfl (hb X.2.1.2.1 hd) rfl hn hcap hb8 hc hl
  exact Goes.step st (K T' h' h.size k rfl (X.later X' e' X.2.2.2.1 (ext_trans X.ext E') (CHr.ext E' X.chv)) E' (CHr.ext E' X.chv) (Safe.ext E' X.chv (Safe.new (Nat.le_refl _))) ((Arv.new A' hn).pad (pad_rep [] _ N)) X.size)
theorem o_getF (X : On l Z EL p e R s m args below meth c y code maxL ret vm T h locs cells slots) {R0 O n d host : String} {index q : Nat} {a : Addr} {v : Value} (Fx : Fld Z h a O n d v) (w : (Jvm.Cond.fieldLink y.cls index R0 n d).before a0 Z = true ∨ (Jvm.Cond.fieldLinkNest y.cls index R0 n d host).before a0 Z = true) (via : Via Z R0 O n d) (hd : decode code pc = .ok (.getfield index, 3)) (hp : pc + 3 = q)
    (K : ∀ T' : State, On l Z EL p e R s m args below meth c y code maxL ret vm T' h locs cells slots → Goes p e below F T' (mkF m q L (v :: S))) : Goes p e below F T (mkF m pc L (.ref a :: S)) := by
  subst hp
  obtain ⟨T', X', e', st⟩ := getF X.1 X.2.1.1 (show Z.Warmed39 (s.setVm vm).vm from X.2.1.2.2.1) X.2.1.2.2.2.1 w via X.2.2.1 Fx (g := mkF m pc L (.ref a :: S)) rfl rfl (hb X.2.1.2.1 hd)
  exact Goes.step st (K T' (X.later X' e' X.2.2.2.1 X.ext (CHr.refl X.chv)))
theorem o_getS (X : On l Z EL p e R s m args below meth c y code maxL ret vm T h locs cells slots) {R0 O n d host : String} {index q : Nat} {v : Value} (Fx : Sta Z Z.heap O n d v) (w : (Jvm.Cond.fieldLink y.cls index R0 n d).before a0 Z = true ∨ (Jvm.Cond.fieldLinkNest y.cls index R0 n d host).before a0 Z = true) (via : Via Z R0 O n d) (hd : decode code pc = .ok (.getstatic index, 3)) (hp : pc + 3 = q)
    (K : ∀ T' : State, On l Z EL p e R s m args below meth c y code maxL ret vm T' h locs cells slots → Goes p e below F T' (mkF m q L (v :: S))) : Goes p e below F T (mkF m pc L S) := by
  subst hp
  obtain ⟨T', X', e', st⟩ := getS2 X.1 X.2.1.1 (show Z.Warmed39 (s.setVm vm).vm from X.2.1.2.2.1) X.2.1.2.2.2.1 w via X.2.2.1 (Fx.ext X.ext) (g := mkF m pc L S) rfl (hb X.2.1.2.1 hd)
  exact Goes.step st (K T' (X.later X' e' X.2.2.2.1 X.ext (CHr.refl X.chv)))
theorem o_putF (X : On l Z EL p e R s m args below meth c y code maxL ret vm T h locs cells slots) {R0 O n d host C : String} {index kk q : Nat} {ty : FieldType} {a : Addr} {v old : Value} (Fx : Fld Z h a O n d old) (E : Exa Z h a C) (ha : Z.heap.size ≤ a) (hsf : Safe Z EL vm h a) (w : (Jvm.Cond.fieldLink y.cls index R0 n d).before a0 Z = true ∨ (Jvm.Cond.fieldLinkNest y.cls index R0 n d host).before a0 Z = true) (via : Via Z R0 O n d)
    (Lw : (Jvm.Cond.lays C O n d).before a0 Z = true ∨ ((Jvm.Cond.laysFinal C O n d).before a0 Z = true ∧ y.cls = O ∧ y.name = "<init>")) (wi : (Jvm.Cond.instantiable C kk).before a0 Z = true) (hty : parseFieldDescriptor d = some ty) (hn : narrow ty v = v) (hf : fits ty v = true) (hd : decode code pc = .ok (.putfield index, 3)) (hp : pc + 3 = q)
    (K : ∀ (T' : State) (h' : Heap) (locs' : List Loc), On l Z EL p e R s m args below meth c y code maxL ret vm T' h' locs' cells slots → Wr h h' a (Jvm.RoadKit.slotOf Z O n d) v → CHr Z EL vm h vm h' → Fld Z h' a O n d v → Goes p e below F T' (mkF m q L S)) : Goes p e below F T (mkF m pc L (v :: .ref a :: S)) := by
  subst hp
  obtain ⟨T', h', X', e', W', st⟩ := putF X.1 X.2.1.1 (show Z.Warmed39 (s.setVm vm).vm from X.2.1.2.2.1) X.2.1.2.2.2.1 w via X.2.2.1 Fx E (Lw.imp_right fun q => ⟨q.1, q.2.1, X.2.1.2.2.2.2.2.2.1.trans q.2.2⟩) wi hty hn hf (g := mkF m pc L (v :: .ref a :: S)) rfl rfl (hb X.2.1.2.1 hd)
  exact Goes.step st (K T' h' _ (X.later X' e' (Fr.snoc X' X.2.2.2.1 ha) (ext_wr X.ext W' ha) (CHr.wr W' hsf X.chv)) W' (CHr.wr W' hsf X.chv) (Fx.same W'))
theorem o_len (X : On l Z EL p e R s m args below meth c y code maxL ret vm T h locs cells slots) {a : Addr} {k : ClassId} {ty : FieldType} {n : Int32} {vs : List Value} {dv : Value} {q : Nat} (A : Arv Z h a k ty n vs dv) (hd : decode code pc = .ok (.arraylength, 1)) (hp : pc + 1 = q) (K : Goes p e below F T (mkF m q L (.int n :: S))) : Goes p e below F T (mkF m pc L (.ref a :: S)) := by
  subst hp
  obtain ⟨cl, Ar, -, Sz, Nn, -⟩ := A
  refine Goes.step (X.1.arraylength X.2.1.1 (by rw [X.2.2.1]; exact Ar.1) (State.isArrayOf_alike X.alike Ar.2.1) (g := mkF m pc L (.ref a :: S)) rfl rfl (hb X.2.1.2.1 hd)) ?_
  rw [len_of Sz Nn]
  exact K
theorem o_iaload (X : On l Z EL p e R s m args below meth c y code maxL ret vm T h locs cells slots) {a : Addr} {k : ClassId} {n j : Int32} {vs : List Value} {dv v : Value} {q : Nat} (A : Arv Z h a k .int n vs dv) (hj : ¬ j < 0 ∧ j < n) (hv : vs.getD j.toNatClampNeg dv = v) (hd : decode code pc = .ok (.iaload, 1)) (hp : pc + 1 = q) (K : Goes p e below F T (mkF m q L (v :: S))) : Goes p e below F T (mkF m pc L (.int j :: .ref a :: S)) := by
  subst hp
  obtain ⟨cl, Ar, -, Sz, Nn, H, -⟩ := A
  have hin := inb_of Sz hj
  exact Goes.step (X.1.iaload X.2.1.1 (j := j) (v := v) (by rw [X.2.2.1]; exact Ar.1) (State.isArrayOf_alike X.alike Ar.2.1) Ar.2.2 hin (H.at hin hv) (g := mkF m pc L (.int j :: .ref a :: S)) rfl rfl (hb X.2.1.2.1 hd)) K
theorem o_laload (X : On l Z EL p e R s m args below meth c y code maxL ret vm T h locs cells slots) {a : Addr} {k : ClassId} {n j : Int32} {vs : List Value} {dv v : Value} {q : Nat} (A : Arv Z h a k .long n vs dv) (hj : ¬ j < 0 ∧ j < n) (hv : vs.getD j.toNatClampNeg dv = v) (hd : decode code pc = .ok (.laload, 1)) (hp : pc + 1 = q) (K : Goes p e below F T (mkF m q L (v :: S))) : Goes p e below F T (mkF m pc L (.int j :: .ref a :: S)) := by
  subst hp
  obtain ⟨cl, Ar, -, Sz, Nn, H, -⟩ := A
  have hin := inb_of Sz hj
  exact Goes.step (X.1.laload X.2.1.1 (j := j) (v := v) (by rw [X.2.2.1]; exact Ar.1) (State.isArrayOf_alike X.alike Ar.2.1) Ar.2.2 hin (H.at hin hv) (g := mkF m pc L (.int j :: .ref a :: S)) rfl rfl (hb X.2.1.2.1 hd)) K
theorem o_caload (X : On l Z EL p e R s m args below meth c y code maxL ret vm T h locs cells slots) {a : Addr} {k : ClassId} {n j : Int32} {vs : List Value} {dv v : Value} {q : Nat} (A : Arv Z h a k .char n vs dv) (hj : ¬ j < 0 ∧ j < n) (hv : vs.getD j.toNatClampNeg dv = v) (hd : decode code pc = .ok (.caload, 1)) (hp : pc + 1 = q) (K : Goes p e below F T (mkF m q L (v :: S))) : Goes p e below F T (mkF m pc L (.int j :: .ref a :: S)) := by
  subst hp
  obtain ⟨cl, Ar, -, Sz, Nn, H, -⟩ := A
  have hin := inb_of Sz hj
  exact Goes.step (X.1.caload X.2.1.1 (j := j) (v := v) (by rw [X.2.2.1]; exact Ar.1) (State.isArrayOf_alike X.alike Ar.2.1) Ar.2.2 hin (H.at hin hv) (g := mkF m pc L (.int j :: .ref a :: S)) rfl rfl (hb X.2.1.2.1 hd)) K
theorem o_baload (X : On l Z EL p e R s m args below meth c y code maxL ret vm T h locs cells slots) {a : Addr} {k : ClassId} {n j : Int32} {vs : List Value} {dv v : Value} {q : Nat} (A : Arv Z h a k .byte n vs dv) (hj : ¬ j < 0 ∧ j < n) (hv : vs.getD j.toNatClampNeg dv = v) (hd : decode code pc = .ok (.baload, 1)) (hp : pc + 1 = q) (K : Goes p e below F T (mkF m q L (v :: S))) : Goes p e below F T (mkF m pc L (.int j :: .ref a :: S)) := by
  subst hp
  obtain ⟨cl, Ar, -, Sz, Nn, H, -⟩ := A
  have hin := inb_of Sz hj
  exact Goes.step (X.1.baloadBytes X.2.1.1 (j := j) (v := v) (by rw [X.2.2.1]; exact Ar.1) (State.isArrayOf_alike X.alike Ar.2.1) Ar.2.2 hin (H.at hin hv) (g := mkF m pc L (.int j :: .ref a :: S)) rfl rfl (hb X.2.1.2.1 hd)) K
theorem o_aaload (X : On l Z EL p e R s m args below meth c y code maxL ret vm T h locs cells slots) {a : Addr} {k : ClassId} {ty : FieldType} {n j : Int32} {vs : List Value} {dv v : Value} {q : Nat} (A : Arv Z h a k ty n vs dv) (hty : ty.isReference = true) (hj : ¬ j < 0 ∧ j < n) (hv : vs.getD j.toNatClampNeg dv = v) (hd : decode code pc = .ok (.aaload, 1)) (hp : pc + 1 = q) (K : Goes p e below F T (mkF m q L (v :: S))) : Goes p e below F T (mkF m pc L (.int j :: .ref a :: S)) := by
  subst hp
  obtain ⟨cl, Ar, -, Sz, Nn, H, -⟩ := A
  have hin := inb_of Sz hj
  exact Goes.step (X.1.aaload X.2.1.1 (j := j) (v := v) (by rw [X.2.2.1]; exact Ar.1) (State.isArrayOf_alike X.alike Ar.2.1) hty Ar.2.2 hin (H.at hin hv) (g := mkF m pc L (.int j :: .ref a :: S)) rfl rfl (hb X.2.1.2.1 hd)) K
theorem o_iastore (X : On l Z EL p e R s m args below meth c y code maxL ret vm T h locs cells slots) {a : Addr} {k : ClassId} {n j : Int32} {x : Int32} {v : Value} {vs : List Value} {dv : Value} {q : Nat} (i : Nat) (A : Arv Z h a k .int n vs dv) (ha : Z.heap.size ≤ a) (hsf : Safe Z EL vm h a) (hj : ¬ j < 0 ∧ j < n) (hi : j.toNatClampNeg = i) (hlt : i < vs.length) (hv : (.int x : Value) = v) (hd : decode code pc = .ok (.iastore, 1)) (hp : pc + 1 = q)
    (K : ∀ (T' : State) (h' : Heap) (locs' : List Loc), On l Z EL p e R s m args below meth c y code maxL ret vm T' h' locs' cells slots → Wr h h' a i v → CHr Z EL vm h vm h' → Arv Z h' a k .int n (vs.set i v) dv → Goes p e below F T' (mkF m q L S)) : Goes p e below F T (mkF m pc L (.int x :: .int j :: .ref a :: S)) := by
  subst hp hv
  obtain ⟨cl, Ar, q1, Sz, Nn, H, G⟩ := A
  obtain ⟨T', h', X', e', W', st⟩ := stI X.1 X.2.1.1 (show Z.Warmed39 (s.setVm vm).vm from X.2.1.2.2.1) X.2.2.1 Ar (j := j) (inb_of Sz hj) (g := mkF m pc L (.int x :: .int j :: .ref a :: S)) rfl rfl (hb X.2.1.2.1 hd)
  exact Goes.step st (K T' h' _ (X.later X' e' (Fr.snoc X' X.2.2.2.1 ha) (ext_wr X.ext W' ha) (CHr.wr W' hsf X.chv)) (hi ▸ W') (CHr.wr W' hsf X.chv) (Arv.set Ar q1 Sz Nn H G rfl W' i hi hlt))
theorem o_lastore (X : On l Z EL p e R s m args below meth c y code maxL ret vm T h locs cells slots) {a : Addr} {k : ClassId} {n j : Int32} {x : Int64} {v : Value} {vs : List Value} {dv : Value} {q : Nat} (i : Nat) (A : Arv Z h a k .long n vs dv) (ha : Z.heap.size ≤ a) (hsf : Safe Z EL vm h a) (hj : ¬ j < 0 ∧ j < n) (hi : j.toNatClampNeg = i) (hlt : i < vs.length) (hv : (.long x : Value) = v) (hd : decode code pc = .ok (.lastore, 1)) (hp : pc + 1 = q)
    (K : ∀ (T' : State) (h' : Heap) (locs' : List Loc), On l Z EL p e R s m args below meth c y code maxL ret vm T' h' locs' cells slots → Wr h h' a i v → CHr Z EL vm h vm h' → Arv Z h' a k .long n (vs.set i v) dv → Goes p e below F T' (mkF m q L S)) : Goes p e below F T (mkF m pc L (.long x :: .int j :: .ref a :: S)) := by
  subst hp hv
  obtain ⟨cl, Ar, q1, Sz, Nn, H, G⟩ := A
  obtain ⟨T', h', X', e', W', st⟩ := stJ X.1 X.2.1.1 (show Z.Warmed39 (s.setVm vm).vm from X.2.1.2.2.1) X.2.2.1 Ar (j := j) (inb_of Sz hj) (g := mkF m pc L (.long x :: .int j :: .ref a :: S)) rfl rfl (hb X.2.1.2.1 hd)
  exact Goes.step st (K T' h' _ (X.later X' e' (Fr.snoc X' X.2.2.2.1 ha) (ext_wr X.ext W' ha) (CHr.wr W' hsf X.chv)) (hi ▸ W') (CHr.wr W' hsf X.chv) (Arv.set Ar q1 Sz Nn H G rfl W' i hi hlt))
theorem o_castore (X : On l Z EL p e R s m args below meth c y code maxL ret vm T h locs cells slots) {a : Addr} {k : ClassId} {n j : Int32} {x : Int32} {v : Value} {vs : List Value} {dv : Value} {q : Nat} (i : Nat) (A : Arv Z h a k .char n vs dv) (ha : Z.heap.size ≤ a) (hsf : Safe Z EL vm h a) (hj : ¬ j < 0 ∧ j < n) (hi : j.toNatClampNeg = i) (hlt : i < vs.length) (hv : (.int (nar .char x) : Value) = v) (hd : decode code pc = .ok (.castore, 1)) (hp : pc + 1 = q)
    (K : ∀ (T' : State) (h' : Heap) (locs' : List Loc), On l Z EL p e R s m args below meth c y code maxL ret vm T' h' locs' cells slots → Wr h h' a i v → CHr Z EL vm h vm h' → Arv Z h' a k .char n (vs.set i v) dv → Goes p e below F T' (mkF m q L S)) : Goes p e below F T (mkF m pc L (.int x :: .int j :: .ref a :: S)) := by
  subst hp hv
  obtain ⟨cl, Ar, q1, Sz, Nn, H, G⟩ := A
  obtain ⟨T', h', X', e', W', st⟩ := stC X.1 X.2.1.1 (show Z.Warmed39 (s.setVm vm).vm from X.2.1.2.2.1) X.2.2.1 Ar (j := j) (inb_of Sz hj) (g := mkF m pc L (.int x :: .int j :: .ref a :: S)) rfl rfl (hb X.2.1.2.1 hd)
  exact Goes.step st (K T' h' _ (X.later X' e' (Fr.snoc X' X.2.2.2.1 ha) (ext_wr X.ext W' ha) (CHr.wr W' hsf X.chv)) (hi ▸ W') (CHr.wr W' hsf X.chv) (Arv.set Ar q1 Sz Nn H G (fits_nar_char x) W' i hi hlt))
theorem o_bastore (X : On l Z EL p e R s m args below meth c y code maxL ret vm T h locs cells slots) {a : Addr} {k : ClassId} {n j : Int32} {x : Int32} {v : Value} {vs : List Value} {dv : Value} {q : Nat} (i : Nat) (A : Arv Z h a k .byte n vs dv) (ha : Z.heap.size ≤ a) (hsf : Safe Z EL vm h a) (hj : ¬ j < 0 ∧ j < n) (hi : j.toNatClampNeg = i) (hlt : i < vs.length) (hv : (.int (nar .byte x) : Value) = v) (hd : decode code pc = .ok (.bastore, 1)) (hp : pc + 1 = q)
    (K : ∀ (T' : State) (h' : Heap) (locs' : List Loc), On l Z EL p e R s m args below meth c y code maxL ret vm T' h' locs' cells slots → Wr h h' a i v → CHr Z EL vm h vm h' → Arv Z h' a k .byte n (vs.set i v) dv → Goes p e below F T' (mkF m q L S)) : Goes p e below F T (mkF m pc L (.int x :: .int j :: .ref a :: S)) := by
  subst hp hv
  obtain ⟨cl, Ar, q1, Sz, Nn, H, G⟩ := A
  obtain ⟨T', h', X', e', W', st⟩ := stB X.1 X.2.1.1 (show Z.Warmed39 (s.setVm vm).vm from X.2.1.2.2.1) X.2.2.1 Ar (j := j) (inb_of Sz hj) (g := mkF m pc L (.int x :: .int j :: .ref a :: S)) rfl rfl (hb X.2.1.2.1 hd)
  exact Goes.step st (K T' h' _ (X.later X' e' (Fr.snoc X' X.2.2.2.1 ha) (ext_wr X.ext W' ha) (CHr.wr W' hsf X.chv)) (hi ▸ W') (CHr.wr W' hsf X.chv) (Arv.set Ar q1 Sz Nn H G (fits_nar_byte x) W' i hi hlt))
/-- the end of a walk -/
theorem fin_of (X : On l Z EL p e R s m args below meth c y code maxL ret vm T h locs cells slots) {Q : Option Value → Heap → (Addr → Prop) → Prop} {rc rs : Nat} {v : Option Value} (hv : ret = none → v = none) (hQ : ∀ Sf : Addr → Prop, (∀ x, x < h.size → Safe Z EL vm h x → Sf x) → Q v h Sf) (hc : cells ≤ rc) (hs : slots ≤ rs)
    (hr : ∀ fs, (∀ (f : JFrame) (acts : List Action), f.method = m → f.locked = none → f.entered = [] → (doReturn e (T.setTop f) acts v).1 = T.setFrames fs) → Steps p.tables e below (T.setTop (mkF m pc L S)) (T.setFrames fs)) : Goes p e below (FinQ Z EL s Q rc rs) T (mkF m pc L S) := by
  obtain ⟨X1, C1, e1, N1, E1, ⟨k0, s0, q0⟩, H1, ⟨a1, hw⟩⟩ := X
  obtain ⟨fs, h1, h2, h3, h4⟩ := X1.leaveW s0 (by rw [e1]; exact q0) (v := v) (fun q => hv (C1.2.2.2.2.1.symm.trans q)) C1.2.2.2.2.2.1
  have A := CHv.at X1 C1.2.2.1 hw H1.1
  obtain ⟨g1, g2, g3, g4⟩ := h4
  refine ⟨_, _, hr fs h1, h2, h3, v, locs, rfl, ⟨?_, N1, ?_⟩, ?_, g1, g2, g3, g4.mono hc hs⟩
  · show Q v T.heap (Safe Z EL T.vm T.heap)
    rw [e1]
    exact hQ _ fun x hx S => A.safe hx S
  · show Ext Z.heap T.heap
    rw [e1]; exact E1
  · show CHr Z EL s.vm s.heap T.vm T.heap
    rw [e1]; exact H1.trans A
theorem o_ret (X : On l Z EL p e R s m args below meth c y code maxL none vm T h locs cells slots) {Q : Option Value → Heap → (Addr → Prop) → Prop} {rc rs : Nat} (hd : decode code pc = .ok (.return_, 1)) (hQ : ∀ Sf : Addr → Prop, (∀ x, x < h.size → Safe Z EL vm h x → Sf x) → Q none h Sf) (hc : cells ≤ rc) (hs : slots ≤ rs) : Goes p e below (FinQ Z EL s Q rc rs) T (mkF m pc L []) :=
  fin_of X (fun _ => rfl) hQ hc hs (fun fs hr => X.1.returnOut X.2.1.1 X.2.1.2.2.2.2.1 (hb X.2.1.2.1 hd) hr)
theorem o_retI (X : On l Z EL p e R s m args below meth c y code maxL (some .int) vm T h locs cells slots) {Q : Option Value → Heap → (Addr → Prop) → Prop} {rc rs : Nat} {z : Int32} (hd : decode code pc = .ok (.ireturn, 1)) (hQ : ∀ Sf : Addr → Prop, (∀ x, x < h.size → Safe Z EL vm h x → Sf x) → Q (some (.int z)) h Sf) (hc : cells ≤ rc) (hs : slots ≤ rs) : Goes p e below (FinQ Z EL s Q rc rs) T (mkF m pc L (.int z :: S)) :=
  fin_of X (fun q => nomatch q) hQ hc hs (fun fs hr => retOut X.1 X.2.1.1 X.2.1.2.2.2.2.1 rfl (Or.inl ⟨rfl, Or.inl rfl, z, rfl⟩) (hb X.2.1.2.1 hd) hr)
theorem o_retN {t : FieldType} (X : On l Z EL p e R s m args below meth c y code maxL (some t) vm T h locs cells slots) {Q : Option Value → Heap → (Addr → Prop) → Prop} {rc rs : Nat} {z : Int32} (hd : decode code pc = .ok (.ireturn, 1)) (ht : t = .boolean ∨ t = .byte ∨ t = .char ∨ t = .short) (hQ : ∀ Sf : Addr → Prop, (∀ x, x < h.size → Safe Z EL vm h x → Sf x) → Q (some (.int (nar t z))) h Sf) (hc : cells ≤ rc) (hs : slots ≤ rs) : Goes p e below (FinQ Z EL s Q rc rs) T (mkF m pc L (.int z :: S)) :=
  fin_of X (fun q => nomatch q) hQ hc hs (fun fs hr => retN X.1 X.2.1.1 X.2.1.2.2.2.2.1 ht (hb X.2.1.2.1 hd) hr)
theorem o_retR {t : FieldType} (X : On l Z EL p e R s m args below meth c y code maxL (some t) vm T h locs cells slots) {Q : Option Value → Heap → (Addr → Prop) → Prop} {rc rs : Nat} {v : Value} (hd : decode code pc = .ok (.areturn, 1)) (ht : t.isReference = true) (hv : v.isRef = true) (hn : narrow t v = v) (hQ : ∀ Sf : Addr → Prop, (∀ x, x < h.size → Safe Z EL vm h x → Sf x) → Q (some v) h Sf) (hc : cells ≤ rc) (hs : slots ≤ rs) : Goes p e below (FinQ Z EL s Q rc rs) T (mkF m pc L (v :: S)) :=
  fin_of X (fun q => nomatch q) hQ hc hs (fun fs hr => retOut X.1 X.2.1.1 X.2.1.2.2.2.2.1 hn (Or.inr (Or.inr (Or.inr (Or.inr ⟨rfl, ht, hv⟩)))) (hb X.2.1.2.1 hd) hr)
theorem o_retJ (X : On l Z EL p e R s m args below meth c y code maxL (some .long) vm T h locs cells slots) {Q : Option Value → Heap → (Addr → Prop) → Prop} {rc rs : Nat} {z : Int64} (hd : decode code pc = .ok (.lreturn, 1)) (hQ : ∀ Sf : Addr → Prop, (∀ x, x < h.size → Safe Z EL vm h x → Sf x) → Q (some (.long z)) h Sf) (hc : cells ≤ rc) (hs : slots ≤ rs) : Goes p e below (FinQ Z EL s Q rc rs) T (mkF m pc L (.long z :: S)) :=
  fin_of X (fun q => nomatch q) hQ hc hs (fun fs hr => retOut X.1 X.2.1.1 X.2.1.2.2.2.2.1 rfl (Or.inr (Or.inl ⟨rfl, rfl, z, rfl⟩)) (hb X.2.1.2.1 hd) hr)
theorem o_initO (X : On l Z EL p e R s m args below meth c y code maxL ret vm T h locs cells slots) {idx q : Nat} {a : Addr} (w1 : (Jvm.Cond.methodLink y.cls idx Lib.objectInit).before a0 Z = true) (w2 : (Jvm.Cond.instanceMethod Lib.objectInit).before a0 Z = true) (w3 : (Jvm.Cond.code Lib.objectInit ⟨#[0xb1]⟩ 1 none).before a0 Z = true) (hd : decode code pc = .ok (.invokespecial idx, 3)) (hL : L.size = maxL) (hf : 1 ≤ R.frames) (hl : (S.map fun v => v.category).sum + 12 ≤ R.locals) (hp : pc + 3 = q)
    (K : ∀ T' : State, On l Z EL p e R s m args below meth c y code maxL ret vm T' h locs cells slots → Goes p e below F T' (mkF m q L S)) : Goes p e below F T (mkF m pc L (.ref a :: S)) := by
  subst hp
  obtain ⟨T', X', e', st⟩ := initO X.1 X.2.1.1 (show Z.Warmed39 (s.setVm vm).vm from X.2.1.2.2.1) X.2.1.2.2.2.1 w1 w2 w3 X.2.2.1 (g := mkF m pc L (.ref a :: S)) rfl (hL.trans X.2.1.2.2.2.2.2.2.2.symm) rfl (hb X.2.1.2.1 hd) hf (W := (S.map fun v => v.category).sum) (by show 2 * 0 + _ ≤ _; omega) hl
  exact Goes.step st (K T' (X.later X' e' X.2.2.2.1 X.ext (CHr.refl X.chv)))
/-- a contract as a BackS -/
theorem Con.back {y' : MethodName} {bytes : ByteArray} {maxL' : Nat} {ret' : Option FieldType} {rm : Room} {as : Array Value} {Q : Option Value → Heap → (Addr → Prop) → Prop} {len W : Nat} (X : On l Z EL p e R s m args below meth c y code maxL ret vm T h locs cells slots) (hC : Con l Z EL y' bytes maxL' ret' rm as h ss Q) (hss : ∀ x ∈ ss, x < h.size ∧ Safe Z EL vm h x) (w4 : (Jvm.Cond.code y' bytes maxL' ret').before a0 Z = true) (w3 : (Jvm.Cond.initialized y'.cls).before a0 Z = true) (hf : rm.frames + 1 ≤ R.frames) (hl : W + (maxL' + 11) + rm.locals ≤ R.locals) :
    BackS l R p e below (s.setVm vm) args y' len W (fun A b => b = as ∧ A.U.heap = h ∧ A.cells + rm.cells ≤ R.cells ∧ A.slots + rm.slots ≤ R.slots) (fun A _ v B => ∃ L, (Q v B.U.heap (Safe Z EL B.U.vm B.U.heap) ∧ Fr Z.heap.size L ∧ Ext Z.heap B.U.heap) ∧ B.locs = A.locs ++ L ∧ B.cells = A.cells + rm.cells ∧ B.slots = A.slots + rm.slots ∧ CHr Z EL vm h B.U.vm B.U.heap) := by
  obtain ⟨X1, C1, e1, N1, E1, ⟨k0, s0, q0⟩, H1, ⟨a1, hw⟩⟩ := X
  exact BackS.of_freeW (bytes := bytes) (maxL := maxL') (ret := ret') (E := fun _ first o t L k n => k = rm.cells ∧ n = rm.slots ∧ (∃ v, o = .returned v ∧ Q v t.heap (Safe Z EL t.vm t.heap) ∧ Fr Z.heap.size L ∧ Ext Z.heap t.heap) ∧ CHr Z EL first.vm first.heap t.vm t.heap) (hC ⟨a1, hw⟩ E1 []) hf hl
    (fun m meth c A a Y hp => have hU : Z.Warmed39 A.U.vm := wtrans (s := s.setVm vm) C1.2.2.1 Y.warmed
      ⟨by show (Cond.and _ .tt).before a A.U = true; rw [Cond.before_and, mv hU w4]; rfl, mv hU w4, mv hU w3, hp.2.2.1, hp.2.2.2⟩)
    (fun m meth c A a g mk Y hp => ⟨hp.1, wtrans (s := s.setVm vm) C1.2.2.1 Y.warmed, hp.2.1, (CHv.at Y C1.2.2.1 hw H1.1).1, fun x hx => (CHv.at Y C1.2.2.1 hw H1.1).safe (hss x hx).1 (hss x hx).2⟩) (fun _ _ _ _ _ _ _ _ _ => trivial)
    (fun _ _ _ _ ⟨v, L, h1, h2, h3, h4⟩ => ⟨L, _, _, h4, rfl, rfl, ⟨v, h1, h2⟩, h3⟩)
    (fun m meth c A a g mk v t L k n Y hp _ _ ⟨e1, e2, ⟨v', e3, e4⟩, e5⟩ => by
      cases e3; subst e1 e2
      refine ⟨L, e4, rfl, rfl, rfl, (CHv.at Y C1.2.2.1 hw H1.1).trans ?_⟩
      rw [← hp.2.1]; exact e5)
theorem o_spec (X : On l Z EL p e R s m args below meth c y code maxL ret vm T h locs cells slots) {y' : MethodName} {index q : Nat} {bytes : ByteArray} {maxL' : Nat} {rm : Room} {as : Array Value} {Q : Option Value → Heap → (Addr → Prop) → Prop} (argsL : List Value) {a : Addr} {rest : List Value} (hC : Con l Z EL y' bytes maxL' none rm as h ss Q) (hss : ∀ x ∈ ss, x < h.size ∧ Safe Z EL vm h x)
    (hy1 : y'.name = "<init>") (w1 : (Jvm.Cond.methodLink y.cls index y').before a0 Z = true) (w2 : (Jvm.Cond.instanceMethod y').before a0 Z = true) (w3 : (Jvm.Cond.code y' bytes maxL' none).before a0 Z = true) (w4 : (Jvm.Cond.initialized y'.cls).before a0 Z = true) (hy : y'.cls ≠ "java/lang/invoke/MethodHandle" ∧ y'.cls ≠ "java/lang/invoke/VarHandle")
    (hd : decode code pc = .ok (.invokespecial index, 3)) (has : (.ref a :: argsL).toArray = as) (hL : L.size = maxL) (hlen : ∀ sig, parseMethodDescriptor y'.desc = some sig → argsL.length = sig.parameters.length) (hS : S = argsL.reverse ++ .ref a :: rest) (hf : rm.frames + 1 ≤ R.frames) (hl : (rest.map fun v => v.category).sum + (maxL' + 11) + rm.locals ≤ R.locals) (hc : cells + rm.cells ≤ R.cells) (hs : slots + rm.slots ≤ R.slots) (hp : pc + 3 = q)
    (K : ∀ (v : Option Value) (vm' : Vm) (T' : State) (h' : Heap) (locs' : List Loc), On l Z EL p e R s m args below meth c y code maxL ret vm' T' h' locs' (cells + rm.cells) (slots + rm.slots) → CHr Z EL vm h vm' h' → Q v h' (Safe Z EL vm' h') → Goes p e below F T' (mkF m q L (v.toList ++ rest))) : Goes p e below F T (mkF m pc L S) := by
  subst hp hS has
  obtain ⟨v, vm1, ⟨T', L1, k1, n1⟩, -, X', S', g', ⟨Lc, hQ, e2, e3, e4, R'⟩, st⟩ := X.1.specialBackS X.2.1.1 hy1 X.2.1.2.2.2.1 (mvT (s := s.setVm vm) X.2.1.2.2.1 w1) (mvT (s := s.setVm vm) X.2.1.2.2.1 w2) (mvT (s := s.setVm vm) X.2.1.2.2.1 w3) hy (Con.back X hC hss w3 w4 hf hl) (g := mkF m pc L (argsL.reverse ++ .ref a :: rest)) rfl (hL.trans X.2.1.2.2.2.2.2.2.2.symm) (Steps.refl _) hlen rfl (by show 2 * 0 + _ ≤ _; omega) (hb X.2.1.2.1 hd) (fun _ _ => ⟨rfl, X.2.2.1, hc, hs⟩)
  dsimp only [Pt.U, Pt.locs, Pt.cells, Pt.slots] at X' S' g' hQ e2 e3 e4 R' st
  subst e2 e3 e4
  exact Goes.step (fun _ k => st.trans k) (K v T'.vm T' T'.heap _ (X.laterV X' S' rfl rfl (Fr.app X.2.2.2.1 hQ.2.1) hQ.2.2 R') R' hQ.1)
theorem o_virt (X : On l Z EL p e R s m args below meth c y code maxL ret vm T h locs cells slots) {C : String} {y' : MethodName} {index q : Nat} {bytes : ByteArray} {maxL' : Nat} {ret' : Option FieldType} {rm : Room} {as : Array Value} {Q : Option Value → Heap → (Addr → Prop) → Prop} (argsL : List Value) {a : Addr} {rest : List Value} (E : Exa Z h a C) (hC : Con l Z EL y' bytes maxL' ret' rm as h ss Q) (hss : ∀ x ∈ ss, x < h.size ∧ Safe Z EL vm h x)
    (w1 : (Jvm.Cond.methodLink y.cls index y').before a0 Z = true) (w2 : (Jvm.Cond.declares y').before a0 Z = true) (w3 : (Jvm.Cond.selects C y' y').before a0 Z = true) (w4 : (Jvm.Cond.instanceMethod y').before a0 Z = true) (w5 : (Jvm.Cond.code y' bytes maxL' ret').before a0 Z = true) (w6 : (Jvm.Cond.initialized y'.cls).before a0 Z = true) (hy : y'.cls ≠ "java/lang/invoke/MethodHandle" ∧ y'.cls ≠ "java/lang/invoke/VarHandle")
    (hd : decode code pc = .ok (.invokevirtual index, 3)) (has : (.ref a :: argsL).toArray = as) (hL : L.size = maxL) (hlen : ∀ sig, parseMethodDescriptor y'.desc = some sig → argsL.length = sig.parameters.length) (hS : S = argsL.reverse ++ .ref a :: rest) (hf : rm.frames + 1 ≤ R.frames) (hl : (rest.map fun v => v.category).sum + (maxL' + 11) + rm.locals ≤ R.locals) (hc : cells + rm.cells ≤ R.cells) (hs : slots + rm.slots ≤ R.slots) (hp : pc + 3 = q)
    (K : ∀ (v : Option Value) (vm' : Vm) (T' : State) (h' : Heap) (locs' : List Loc), On l Z EL p e R s m args below meth c y code maxL ret vm' T' h' locs' (cells + rm.cells) (slots + rm.slots) → CHr Z EL vm h vm' h' → Q v h' (Safe Z EL vm' h') → Goes p e below F T' (mkF m q L (v.toList ++ rest))) : Goes p e below F T (mkF m pc L S) := by
  subst hp hS has
  obtain ⟨cB, kB, q1, q2, q3⟩ := isOf (show Z.Warmed39 (s.setVm vm).vm from X.2.1.2.2.1) X.2.2.1 E
  obtain ⟨v, vm1, ⟨T', L1, k1, n1⟩, -, X', S', g', ⟨Lc, hQ, e2, e3, e4, R'⟩, st⟩ := X.1.virtualBackS X.2.1.1 (y := y') (z := y') X.2.1.2.2.2.1 (mvT (s := s.setVm vm) X.2.1.2.2.1 w1) (mvT (s := s.setVm vm) X.2.1.2.2.1 w2) (notFace_of_selects (args := #[]) (mvT (s := s.setVm vm) X.2.1.2.2.1 w3)) (mvT (s := s.setVm vm) X.2.1.2.2.1 w3) (mvT (s := s.setVm vm) X.2.1.2.2.1 w4) hy (Con.back X hC hss w5 w6 hf hl) q1 q3 (g := mkF m pc L (argsL.reverse ++ .ref a :: rest)) rfl (hL.trans X.2.1.2.2.2.2.2.2.2.symm) (Steps.refl _) hlen rfl (by show 2 * 0 + _ ≤ _; omega) (hb X.2.1.2.1 hd) (fun _ _ => ⟨rfl, X.2.2.1, hc, hs⟩)
  dsimp only [Pt.U, Pt.locs, Pt.cells, Pt.slots] at X' S' g' hQ e2 e3 e4 R' st
  subst e2 e3 e4
  exact Goes.step (fun _ k => st.trans k) (K v T'.vm T' T'.heap _ (X.laterV X' S' rfl rfl (Fr.app X.2.2.2.1 hQ.2.1) hQ.2.2 R') R' hQ.1)
theorem o_stat (X : On l Z EL p e R s m args below meth c y code maxL ret vm T h locs cells slots) {y' : MethodName} {index q : Nat} {bytes : ByteArray} {maxL' : Nat} {ret' : Option FieldType} {rm : Room} {as : Array Value} {Q : Option Value → Heap → (Addr → Prop) → Prop} (argsL : List Value) {rest : List Value} (hC : Con l Z EL y' bytes maxL' ret' rm as h ss Q) (hss : ∀ x ∈ ss, x < h.size ∧ Safe Z EL vm h x)
    (w1 : (Jvm.Cond.methodLink y.cls index y').before a0 Z = true) (w2 : (Jvm.Cond.static y').before a0 Z = true) (w3 : (Jvm.Cond.initialized y'.cls).before a0 Z = true) (w4 : (Jvm.Cond.code y' bytes maxL' ret').before a0 Z = true) (hy : y'.cls ≠ "java/lang/invoke/MethodHandle" ∧ y'.cls ≠ "java/lang/invoke/VarHandle")
    (hd : decode code pc = .ok (.invokestatic index, 3)) (has : argsL.toArray = as) (hL : L.size = maxL) (hlen : ∀ sig, parseMethodDescriptor y'.desc = some sig → argsL.length = sig.parameters.length) (hS : S = argsL.reverse ++ rest) (hf : rm.frames + 1 ≤ R.frames) (hl : (rest.map fun v => v.category).sum + (maxL' + 11) + rm.locals ≤ R.locals) (hc : cells + rm.cells ≤ R.cells) (hs : slots + rm.slots ≤ R.slots) (hp : pc + 3 = q)
    (K : ∀ (v : Option Value) (vm' : Vm) (T' : State) (h' : Heap) (locs' : List Loc), On l Z EL p e R s m args below meth c y code maxL ret vm' T' h' locs' (cells + rm.cells) (slots + rm.slots) → CHr Z EL vm h vm' h' → Q v h' (Safe Z EL vm' h') → Goes p e below F T' (mkF m q L (v.toList ++ rest))) : Goes p e below F T (mkF m pc L S) := by
  subst hp hS has
  obtain ⟨v, vm1, ⟨T', L1, k1, n1⟩, -, X', S', g', ⟨Lc, hQ, e2, e3, e4, R'⟩, st⟩ := callSS X.1 X.2.1.1 X.2.1.2.2.2.1 (mvT (s := s.setVm vm) X.2.1.2.2.1 w1) (mvT (s := s.setVm vm) X.2.1.2.2.1 w2) (mvT (s := s.setVm vm) X.2.1.2.2.1 w3) (mvT (s := s.setVm vm) X.2.1.2.2.1 w4) hy (Con.back X hC hss w4 w3 hf hl) (g := mkF m pc L (argsL.reverse ++ rest)) rfl (hL.trans X.2.1.2.2.2.2.2.2.2.symm) hlen rfl (by show 2 * 0 + _ ≤ _; omega) (hb X.2.1.2.1 hd) (fun _ _ => ⟨rfl, X.2.2.1, hc, hs⟩)
  dsimp only [Pt.U, Pt.locs, Pt.cells, Pt.slots] at X' S' g' hQ e2 e3 e4 R' st
  subst e2 e3 e4
  exact Goes.step (fun _ k => st.trans k) (K v T'.vm T' T'.heap _ (X.laterV X' S' rfl rfl (Fr.app X.2.2.2.1 hQ.2.1) hQ.2.2 R') R' hQ.1)
theorem o_specB (X : On l Z EL p e R s m args below meth c y code maxL ret vm T h locs cells slots) {y' : MethodName} {index W q : Nat} {bytes : ByteArray} {maxL' : Nat} {Q : Option Value → Heap → List Loc → Prop} {rc rs : Nat} {as : Array Value} {ws : List Addr} (argsL : List Value) {a : Addr} {rest : List Value}
    (hK : Back l R p e below (s.setVm vm) args y' 3 W (fun A b => b = as ∧ A.U.heap = h ∧ A.cells + rc ≤ R.cells ∧ A.slots + rs ≤ R.slots) (fun A _ v B => ∃ L, Q v B.U.heap L ∧ B.locs = A.locs ++ L ∧ B.cells = A.cells + rc ∧ B.slots = A.slots + rs))
    (hq : ∀ v h' L, Q v h' L → Fr Z.heap.size L ∧ Keep h h' ws) (hws : ∀ x ∈ ws, Z.heap.size ≤ x ∧ Safe Z EL vm h x)
    (hy1 : y'.name = "<init>") (w1 : (Jvm.Cond.methodLink y.cls index y').before a0 Z = true) (w2 : (Jvm.Cond.instanceMethod y').before a0 Z = true) (w3 : (Jvm.Cond.code y' bytes maxL' none).before a0 Z = true) (hy : y'.cls ≠ "java/lang/invoke/MethodHandle" ∧ y'.cls ≠ "java/lang/invoke/VarHandle")
    (hd : decode code pc = .ok (.invokespecial index, 3)) (has : (.ref a :: argsL).toArray = as) (hL : L.size = maxL) (hlen : ∀ sig, parseMethodDescriptor y'.desc = some sig → argsL.length = sig.parameters.length) (hS : S = argsL.reverse ++ .ref a :: rest) (hW : (rest.map fun v => v.category).sum ≤ W) (hc : cells + rc ≤ R.cells) (hs : slots + rs ≤ R.slots) (hp : pc + 3 = q)
    (K : ∀ (v : Option Value) (T' : State) (h' : Heap) (L' locs' : List Loc), On l Z EL p e R s m args below meth c y code maxL ret vm T' h' locs' (cells + rc) (slots + rs) → CHr Z EL vm h vm h' → Q v h' L' → Goes p e below F T' (mkF m q L (v.toList ++ rest))) : Goes p e below F T (mkF m pc L S) := by
  subst hp hS has
  obtain ⟨v, vm1, ⟨T', L1, k1, n1⟩, -, X', ⟨Lc, hQ, e2, e3, e4⟩, st⟩ := X.1.specialBack X.2.1.1 hy1 X.2.1.2.2.2.1 (mvT (s := s.setVm vm) X.2.1.2.2.1 w1) (mvT (s := s.setVm vm) X.2.1.2.2.1 w2) (mvT (s := s.setVm vm) X.2.1.2.2.1 w3) hy hK (g := mkF m pc L (argsL.reverse ++ .ref a :: rest)) rfl (hL.trans X.2.1.2.2.2.2.2.2.2.symm) (Steps.refl _) hlen rfl (by show 2 * 0 + _ ≤ _; omega) (hb X.2.1.2.1 hd) (fun _ _ => ⟨rfl, X.2.2.1, hc, hs⟩)
  dsimp only [Pt.U, Pt.locs, Pt.cells, Pt.slots] at X' hQ e2 e3 e4 st
  subst e2 e3 e4
  obtain ⟨f1, f2⟩ := hq _ _ _ hQ
  have R' : CHr Z EL vm h vm T'.heap := CHr.keep f2 (fun x hx => (hws x hx).2) X.chv
  exact Goes.step (fun _ k => st.trans k) (K v T' T'.heap Lc _ (X.later X' rfl (Fr.app X.2.2.2.1 f1) (ext_keep X.ext f2 fun x hx => (hws x hx).1) R') R' hQ)
theorem o_virtB (X : On l Z EL p e R s m args below meth c y code maxL ret vm T h locs cells slots) {C : String} {y' : MethodName} {index W q : Nat} {Q : Option Value → Heap → List Loc → Prop} {rc rs : Nat} {as : Array Value} {ws : List Addr} (argsL : List Value) {a : Addr} {rest : List Value} (E : Exa Z h a C)
    (hK : Back l R p e below (s.setVm vm) args y' 3 W (fun A b => b = as ∧ A.U.heap = h ∧ A.cells + rc ≤ R.cells ∧ A.slots + rs ≤ R.slots) (fun A _ v B => ∃ L, Q v B.U.heap L ∧ B.locs = A.locs ++ L ∧ B.cells = A.cells + rc ∧ B.slots = A.slots + rs))
    (hq : ∀ v h' L, Q v h' L → Fr Z.heap.size L ∧ Keep h h' ws) (hws : ∀ x ∈ ws, Z.heap.size ≤ x ∧ Safe Z EL vm h x)
    (w1 : (Jvm.Cond.methodLink y.cls index y').before a0 Z = true) (w2 : (Jvm.Cond.declares y').before a0 Z = true) (w3 : (Jvm.Cond.selects C y' y').before a0 Z = true) (w4 : (Jvm.Cond.instanceMethod y').before a0 Z = true) (hy : y'.cls ≠ "java/lang/invoke/MethodHandle" ∧ y'.cls ≠ "java/lang/invoke/VarHandle")
    (hd : decode code pc = .ok (.invokevirtual index, 3)) (has : (.ref a :: argsL).toArray = as) (hL : L.size = maxL) (hlen : ∀ sig, parseMethodDescriptor y'.desc = some sig → argsL.length = sig.parameters.length) (hS : S = argsL.reverse ++ .ref a :: rest) (hW : (rest.map fun v => v.category).sum ≤ W) (hc : cells + rc ≤ R.cells) (hs : slots + rs ≤ R.slots) (hp : pc + 3 = q)
    (K : ∀ (v : Option Value) (T' : State) (h' : Heap) (L' locs' : List Loc), On l Z EL p e R s m args below meth c y code maxL ret vm T' h' locs' (cells + rc) (slots + rs) → CHr Z EL vm h vm h' → Q v h' L' → Goes p e below F T' (mkF m q L (v.toList ++ rest))) : Goes p e below F T (mkF m pc L S) := by
  subst hp hS has
  obtain ⟨cB, kB, q1, q2, q3⟩ := isOf (show Z.Warmed39 (s.setVm vm).vm from X.2.1.2.2.1) X.2.2.1 E
  obtain ⟨v, vm1, ⟨T', L1, k1, n1⟩, -, X', ⟨Lc, hQ, e2, e3, e4⟩, st⟩ := X.1.virtualBack X.2.1.1 (y := y') (z := y') X.2.1.2.2.2.1 (mvT (s := s.setVm vm) X.2.1.2.2.1 w1) (mvT (s := s.setVm vm) X.2.1.2.2.1 w2) (notFace_of_selects (args := #[]) (mvT (s := s.setVm vm) X.2.1.2.2.1 w3)) (mvT (s := s.setVm vm) X.2.1.2.2.1 w3) (mvT (s := s.setVm vm) X.2.1.2.2.1 w4) hy hK q1 q3 (g := mkF m pc L (argsL.reverse ++ .ref a :: rest)) rfl (hL.trans X.2.1.2.2.2.2.2.2.2.symm) (Steps.refl _) hlen rfl (by show 2 * 0 + _ ≤ _; omega) (hb X.2.1.2.1 hd) (fun _ _ => ⟨rfl, X.2.2.1, hc, hs⟩)
  dsimp only [Pt.U, Pt.locs, Pt.cells, Pt.slots] at X' hQ e2 e3 e4 st
  subst e2 e3 e4
  obtain ⟨f1, f2⟩ := hq _ _ _ hQ
  have R' : CHr Z EL vm h vm T'.heap := CHr.keep f2 (fun x hx => (hws x hx).2) X.chv
  exact Goes.step (fun _ k => st.trans k) (K v T' T'.heap Lc _ (X.later X' rfl (Fr.app X.2.2.2.1 f1) (ext_keep X.ext f2 fun x hx => (hws x hx).1) R') R' hQ)
theorem o_statB (X : On l Z EL p e R s m args below meth c y code maxL ret vm T h locs cells slots) {y' : MethodName} {index W q : Nat} {bytes : ByteArray} {maxL' : Nat} {ret' : Option FieldType} {Q : Option Value → Heap → List Loc → Prop} {rc rs : Nat} {as : Array Value} {ws : List Addr} (argsL : List Value) {rest : List Value}
    (hK : Back l R p e below (s.setVm vm) args y' 3 W (fun A b => b = as ∧ A.U.heap = h ∧ A.cells + rc ≤ R.cells ∧ A.slots + rs ≤ R.slots) (fun A _ v B => ∃ L, Q v B.U.heap L ∧ B.locs = A.locs ++ L ∧ B.cells = A.cells + rc ∧ B.slots = A.slots + rs))
    (hq : ∀ v h' L, Q v h' L → Fr Z.heap.size L ∧ Keep h h' ws) (hws : ∀ x ∈ ws, Z.heap.size ≤ x ∧ Safe Z EL vm h x)
    (w1 : (Jvm.Cond.methodLink y.cls index y').before a0 Z = true) (w2 : (Jvm.Cond.static y').before a0 Z = true) (w3 : (Jvm.Cond.initialized y'.cls).before a0 Z = true) (w4 : (Jvm.Cond.code y' bytes maxL' ret').before a0 Z = true) (hy : y'.cls ≠ "java/lang/invoke/MethodHandle" ∧ y'.cls ≠ "java/lang/invoke/VarHandle")
    (hd : decode code pc = .ok (.invokestatic index, 3)) (has : argsL.toArray = as) (hL : L.size = maxL) (hlen : ∀ sig, parseMethodDescriptor y'.desc = some sig → argsL.length = sig.parameters.length) (hS : S = argsL.reverse ++ rest) (hW : (rest.map fun v => v.category).sum ≤ W) (hc : cells + rc ≤ R.cells) (hs : slots + rs ≤ R.slots) (hp : pc + 3 = q)
    (K : ∀ (v : Option Value) (T' : State) (h' : Heap) (L' locs' : List Loc), On l Z EL p e R s m args below meth c y code maxL ret vm T' h' locs' (cells + rc) (slots + rs) → CHr Z EL vm h vm h' → Q v h' L' → Goes p e below F T' (mkF m q L (v.toList ++ rest))) : Goes p e below F T (mkF m pc L S) := by
  subst hp hS has
  obtain ⟨v, vm1, ⟨T', L1, k1, n1⟩, -, X', ⟨Lc, hQ, e2, e3, e4⟩, st⟩ := Jvm.LawKit.callS X.1 X.2.1.1 X.2.1.2.2.2.1 (mvT (s := s.setVm vm) X.2.1.2.2.1 w1) (mvT (s := s.setVm vm) X.2.1.2.2.1 w2) (mvT (s := s.setVm vm) X.2.1.2.2.1 w3) (mvT (s := s.setVm vm) X.2.1.2.2.1 w4) hy hK (g := mkF m pc L (argsL.reverse ++ rest)) rfl (hL.trans X.2.1.2.2.2.2.2.2.2.symm) hlen rfl (by show 2 * 0 + _ ≤ _; omega) (hb X.2.1.2.1 hd) (fun _ _ => ⟨rfl, X.2.2.1, hc, hs⟩)
  dsimp only [Pt.U, Pt.locs, Pt.cells, Pt.slots] at X' hQ e2 e3 e4 st
  subst e2 e3 e4
  obtain ⟨f1, f2⟩ := hq _ _ _ hQ
  have R' : CHr Z EL vm h vm T'.heap := CHr.keep f2 (fun x hx => (hws x hx).2) X.chv
  exact Goes.step st (K v T' T'.heap Lc _ (X.later X' rfl (Fr.app X.2.2.2.1 f1) (ext_keep X.ext f2 fun x hx => (hws x hx).1) R') R' hQ)
end OwnKit
end Jvm.Pilot.@@N@@

namespace Jvm.Pilot.@@N@@
open Jvm Jvm.ClassFile Sem Op Lib Jvm.Free Jvm.Stand Jvm.LawKit Jvm.RoadKit Bundle Jvm.Pilot.@@N@@.Jvm.D
section OwnStr
/-- a Latin-1 String: the object a, its byte[] b, its chars cs -/
def LS (Z : State) (h : Heap) (a b : Addr) (kb : ClassId) (cs : List Int32) : Prop := Exa Z h a "java/lang/String" ∧ Fld Z h a "java/lang/String" "coder" "B" (.int 0) ∧ Fld Z h a "java/lang/String" "value" "[B" (.ref b) ∧ Arv Z h b kb .byte (Int32.ofNat cs.length) ((cs.map fun c => c.toInt8.toInt32).map Value.int) (.int 0) ∧ (∀ c ∈ cs, ¬ c < 0 ∧ ¬ (255 : Int32) < c) ∧ cs.length ≤ 4000
theorem LS.ext {Z : State} {h h' : Heap} {a b : Addr} {kb : ClassId} {cs : List Int32} (H : LS Z h a b kb cs) (E : Ext h h') : LS Z h' a b kb cs := ⟨H.1.ext E, H.2.1.ext E, H.2.2.1.ext E, H.2.2.2.1.ext E, H.2.2.2.2⟩
theorem LS.keep {Z : State} {h h' : Heap} {a b : Addr} {kb : ClassId} {cs : List Int32} {ws : List Addr} (H : LS Z h a b kb cs) (K : Keep h h' ws) (n1 : a ∉ ws) (n2 : b ∉ ws) : LS Z h' a b kb cs := ⟨H.1.keep K, H.2.1.keep K n1, H.2.2.1.keep K n1, H.2.2.2.1.keep K n2, H.2.2.2.2⟩
theorem LS.other {Z : State} {h h' : Heap} {a b x : Addr} {sl : Nat} {v : Value} {kb : ClassId} {cs : List Int32} (H : LS Z h a b kb cs) (W : Wr h h' x sl v) (n1 : a ≠ x) (n2 : b ≠ x) : LS Z h' a b kb cs := ⟨H.1.wr W, H.2.1.other W (Or.inl n1), H.2.2.1.other W (Or.inl n1), H.2.2.2.1.other W n2, H.2.2.2.2⟩
theorem LS.lt {Z : State} {h : Heap} {a b : Addr} {kb : ClassId} {cs : List Int32} (H : LS Z h a b kb cs) : a < h.size := H.1.lt
theorem LS.up {Z : State} {h : Heap} {a b : Addr} {kb : ClassId} {cs : List Int32} (H : LS Z h a b kb cs) : ∀ c ∈ cs, ¬ c < 0 ∧ ¬ (65535 : Int32) < c := fun c hc => ⟨(H.2.2.2.2.1 c hc).1, fun q => (H.2.2.2.2.1 c hc).2 (by rw [Int32.lt_iff_toInt_lt] at q ⊢; have e1 : (65535 : Int32).toInt = 65535 := rfl; have e2 : (255 : Int32).toInt = 255 := rfl; omega)⟩
variable {l : Launch} {Z : State} {EL : List (String × Nat)} {p : Program} {e : Env} {R : Room} {s : State} {m : MethodId} {args : Array Value} {below : List Frame} {meth : Method} {c : Code} {y : MethodName} {code : ByteArray} {maxL : Nat} {ret : Option FieldType} {vm : Vm} {T : State} {h : Heap} {locs : List Loc} {cells slots : Nat} {F : State → Outcome → Prop} {pc : Nat} {L L' : Array Slot} {S : List Value} {a0 : Array Value} {ss : List Addr}
theorem o_strlen (X : On l Z EL p e R s m args below meth c y code maxL ret vm T h locs cells slots) {a b : Addr} {kb : ClassId} {cs : List Int32} {z : Int32} {index q : Nat} (H : LS Z h a b kb cs) (O2 : Sta Z Z.heap "java/lang/String" "COMPACT_STRINGS" "Z" (.int z)) (P5 : ¬ z = 0) (hln : ∀ d ∈ StrChars.Road.wordsLen, d.before a0 Z = true) (wi : (Jvm.Cond.instantiable "java/lang/String" 4).before a0 Z = true)
    (w1 : (Jvm.Cond.methodLink y.cls index ⟨"java/lang/String", "length", "()I"⟩).before a0 Z = true) (w2 : (Jvm.Cond.declares ⟨"java/lang/String", "length", "()I"⟩).before a0 Z = true) (w3 : (Jvm.Cond.selects "java/lang/String" ⟨"java/lang/String", "length", "()I"⟩ ⟨"java/lang/String", "length", "()I"⟩).before a0 Z = true) (w4 : (Jvm.Cond.instanceMethod ⟨"java/lang/String", "length", "()I"⟩).before a0 Z = true)
    (hd : decode code pc = .ok (.invokevirtual index, 3)) (hL : L.size = maxL) (hf : 2 ≤ R.frames) (hlo : (S.map fun v => v.category).sum + 25 ≤ R.locals) (hc : cells ≤ R.cells) (hs : slots ≤ R.slots) (hp : pc + 3 = q)
    (K : ∀ (T' : State) (locs' : List Loc), On l Z EL p e R s m args below meth c y code maxL ret vm T' h locs' cells slots → Goes p e below F T' (mkF m q L (.int (Int32.ofNat cs.length) :: S))) : Goes p e below F T (mkF m pc L (.ref a :: S)) := by
  have hcd : StrChars.Road.CodA cs 0 (Int32.ofNat cs.length) ((cs.map fun c => c.toInt8.toInt32).map Value.int) := StrChars.Road.codOf rfl (fun c hc => (H.2.2.2.2.1 c hc).2)
  refine o_virtB X [] (rest := S) (ws := []) (Q := fun v h' L => v = some (.int (Int32.ofNat cs.length)) ∧ L = [] ∧ h' = h) H.1 (StrChars.Road.lenW (W := (S.map fun v => v.category).sum) (s := s.setVm vm) X.2.1.2.2.1 hln (kI := 4) wi H.1 H.2.2.1 H.2.1 H.2.2.2.1 hcd H.up (X.sta O2) P5 H.2.2.2.2.2 hf hlo) (fun v h' L q => ?_) all0 w1 w2 w3 w4 (by decide) hd rfl hL (fun sig q => ?_) rfl (Nat.le_refl _) hc hs hp (fun v T' h' L' locs' X' R' q => ?_)
  · obtain ⟨-, rfl, rfl⟩ := q
    exact ⟨Fr.nil _, Keep.refl _ _⟩
  · exact lenOf (by decide +kernel : parseMethodDescriptor "()I" = some ⟨[], some .int⟩) rfl sig q
  · obtain ⟨rfl, rfl, rfl⟩ := q
    exact K T' locs' X'
theorem o_charAt (X : On l Z EL p e R s m args below meth c y code maxL ret vm T h locs cells slots) {a b : Addr} {kb : ClassId} {cs : List Int32} {z j : Int32} {fm : Value} {index q i : Nat} (H : LS Z h a b kb cs) (O2 : Sta Z Z.heap "java/lang/String" "COMPACT_STRINGS" "Z" (.int z)) (P5 : ¬ z = 0) (O4 : Sta Z Z.heap "jdk/internal/util/Preconditions" "SIOOBE_FORMATTER" "Ljava/util/function/BiFunction;" fm) (rf : fm.isRef = true) (hch : ∀ d ∈ StrChars.Road.wordsChN, d.before a0 Z = true) (wi : (Jvm.Cond.instantiable "java/lang/String" 4).before a0 Z = true)
    (hi : i < cs.length) (hj : j = Int32.ofNat i)
    (w1 : (Jvm.Cond.methodLink y.cls index ⟨"java/lang/String", "charAt", "(I)C"⟩).before a0 Z = true) (w2 : (Jvm.Cond.declares ⟨"java/lang/String", "charAt", "(I)C"⟩).before a0 Z = true) (w3 : (Jvm.Cond.selects "java/lang/String" ⟨"java/lang/String", "charAt", "(I)C"⟩ ⟨"java/lang/String", "charAt", "(I)C"⟩).before a0 Z = true) (w4 : (Jvm.Cond.instanceMethod ⟨"java/lang/String", "charAt", "(I)C"⟩).before a0 Z = true)
    (hd : decode code pc = .ok (.invokevirtual index, 3)) (hL : L.size = maxL) (hf : 4 ≤ R.frames) (hlo : (S.map fun v => v.category).sum + 53 ≤ R.locals) (hc : cells ≤ R.cells) (hs : slots ≤ R.slots) (hp : pc + 3 = q)
    (K : ∀ (T' : State) (locs' : List Loc), On l Z EL p e R s m args below meth c y code maxL ret vm T' h locs' cells slots → Goes p e below F T' (mkF m q L (.int (cs.getD i 0) :: S))) : Goes p e below F T (mkF m pc L (.int j :: .ref a :: S)) := by
  have hcd : StrChars.Road.CodA cs 0 (Int32.ofNat cs.length) ((cs.map fun c => c.toInt8.toInt32).map Value.int) := StrChars.Road.codOf rfl (fun c hc => (H.2.2.2.2.1 c hc).2)
  refine o_virtB X [.int j] (rest := S) (ws := []) (Q := fun v h' L => v = some (.int (cs.getD i 0)) ∧ L = [] ∧ h' = h) H.1 (StrChars.Road.chN (W := (S.map fun v => v.category).sum) (s := s.setVm vm) X.2.1.2.2.1 hch (kI := 4) wi H.1 H.2.2.1 H.2.1 H.2.2.2.1 hcd H.up (X.sta O2) P5 (X.sta O4) rf H.2.2.2.2.2 hi hj hf hlo) (fun v h' L q => ?_) all0 w1 w2 w3 w4 (by decide) hd rfl hL (fun sig q => ?_) rfl (Nat.le_refl _) hc hs hp (fun v T' h' L' locs' X' R' q => ?_)
  · obtain ⟨-, rfl, rfl⟩ := q
    exact ⟨Fr.nil _, Keep.refl _ _⟩
  · exact lenOf (by decide +kernel : parseMethodDescriptor "(I)C" = some ⟨[.int], some .char⟩) rfl sig q
  · obtain ⟨rfl, rfl, rfl⟩ := q
    exact K T' locs' X'
/-- new String(char[]) -/
theorem o_newStr (X : On l Z EL p e R s m args below meth c y code maxL ret vm T h locs cells slots) {a ar : Addr} {kc : ClassId} {cs : List Int32} {z N : Int32} {dv : Value} {index q n : Nat} (E : Exa Z h a "java/lang/String") (V : Fld Z h a "java/lang/String" "value" "[B" .null) (C : Fld Z h a "java/lang/String" "coder" "B" (.int 0)) (A : Arv Z h ar kc .char N (cs.map Value.int) dv) (ha : Z.heap.size ≤ a) (hsf : Safe Z EL vm h a) (O2 : Sta Z Z.heap "java/lang/String" "COMPACT_STRINGS" "Z" (.int z)) (P5 : ¬ z = 0) (hws : ∀ d ∈ StrChars.Road.words, d.before a0 Z = true) (wi : (Jvm.Cond.instantiable "java/lang/String" 4).before a0 Z = true)
    (hn : cs.length = n) (hN : N = Int32.ofNat n) (l0 : 0 < n) (l2 : n ≤ 4000) (hlat : ∀ c ∈ cs, ¬ c < 0 ∧ ¬ (255 : Int32) < c)
    (w1 : (Jvm.Cond.methodLink y.cls index ⟨"java/lang/String", "<init>", "([C)V"⟩).before a0 Z = true) (w2 : (Jvm.Cond.instanceMethod ⟨"java/lang/String", "<init>", "([C)V"⟩).before a0 Z = true) {bytes : ByteArray} {maxL' : Nat} (w3 : (Jvm.Cond.code ⟨"java/lang/String", "<init>", "([C)V"⟩ bytes maxL' none).before a0 Z = true)
    (hd : decode code pc = .ok (.invokespecial index, 3)) (hL : L.size = maxL) (hf : 4 ≤ R.frames) (hlo : (S.map fun v => v.category).sum + 65 ≤ R.locals) (hc : cells + 1 ≤ R.cells) (hs : slots + n ≤ R.slots) (hp : pc + 3 = q)
    (K : ∀ (T' : State) (h' : Heap) (locs' : List Loc) (b : Addr) (kb : ClassId), On l Z EL p e R s m args below meth c y code maxL ret vm T' h' locs' (cells + 1) (slots + n) → Keep h h' [a] → CHr Z EL vm h vm h' → h.size ≤ b → LS Z h' a b kb cs → Goes p e below F T' (mkF m q L S)) : Goes p e below F T (mkF m pc L (.ref ar :: .ref a :: S)) := by
  refine o_specB X [.ref ar] (rest := S) (ws := [a]) (Q := fun v h' L => StrChars.Road.QV Z a N (cs.map fun c => c.toInt8.toInt32) h Z.heap.size v h' L) (StrChars.Road.backV (W := (S.map fun v => v.category).sum) (s := s.setVm vm) X.2.1.2.2.1 hws (kI := 4) wi ha X.size E V C A (X.sta O2) P5 hn hN l0 l2 hlat rfl hf hlo) (fun v h' L q => ⟨q.2.1, q.2.2.1⟩) (allS ⟨ha, hsf⟩ all0) rfl w1 w2 w3 (by decide) hd rfl hL (fun sig q => ?_) rfl (Nat.le_refl _) hc hs hp (fun v T' h' L' locs' X' R' q => ?_)
  · exact lenOf (by decide +kernel : parseMethodDescriptor "([C)V" = some ⟨[(.array .char)], none⟩) rfl sig q
  · obtain ⟨rfl, -, K', E', C', t, kb, -, g2, -, V', A'⟩ := q
    subst hn hN
    exact K T' h' locs' t kb X' K' R' g2 ⟨E', C', V', A', hlat, l2⟩
end OwnStr
end Jvm.Pilot.@@N@@

namespace Jvm.Pilot.@@N@@
open Jvm Jvm.ClassFile Sem Op Lib Jvm.Free Jvm.Stand Jvm.LawKit Jvm.RoadKit Bundle Jvm.Pilot.@@N@@.Jvm.D
def W (a0 : Array Value) (Z : State) : Prop := ∀ d ∈ tables_1, d.before a0 Z = true
def EL0 : List (String × Nat) := [("anchorlog/AnchorPattern", 44), ("java/lang/String", 7)]
theorem w0 {a0 : Array Value} {Z : State} (hw : W a0 Z) : (Jvm.Cond.constant "anchorlog/AnchorPatternNextAnchorPinLaw" (18 : Nat) (2147483647 : Int32)).before a0 Z = true := hw _ (List.mem_of_getElem? (i := 0) rfl)
theorem w1 {a0 : Array Value} {Z : State} (hw : W a0 Z) : (Jvm.Cond.arrayClass Jvm.ClassFile.FieldType.char).before a0 Z = true := hw _ (List.mem_of_getElem? (i := 1) rfl)
theorem w2 {a0 : Array Value} {Z : State} (hw : W a0 Z) : (Jvm.Cond.methodLink "anchorlog/AnchorPatternNextAnchorPinLaw" (19 : Nat) ({ cls := "anchorlog/AnchorPatternNextAnchorPinLaw", name := "ch", desc := "(JI)C" } : Jvm.MethodName)).before a0 Z = true := hw _ (List.mem_of_getElem? (i := 2) rfl)
theorem w3 {a0 : Array Value} {Z : State} (hw : W a0 Z) : (Jvm.Cond.static ({ cls := "anchorlog/AnchorPatternNextAnchorPinLaw", name := "ch", desc := "(JI)C" } : Jvm.MethodName)).before a0 Z = true := hw _ (List.mem_of_getElem? (i := 3) rfl)
theorem w4 {a0 : Array Value} {Z : State} (hw : W a0 Z) : (Jvm.Cond.initialized "anchorlog/AnchorPatternNextAnchorPinLaw").before a0 Z = true := hw _ (List.mem_of_getElem? (i := 4) rfl)
theorem w5 {a0 : Array Value} {Z : State} (hw : W a0 Z) : (Jvm.Cond.code ({ cls := "anchorlog/AnchorPatternNextAnchorPinLaw", name := "ch", desc := "(JI)C" } : Jvm.MethodName) method_2_code (6 : Nat) (Option.some Jvm.ClassFile.FieldType.char)).before a0 Z = true := hw _ (List.mem_of_getElem? (i := 5) rfl)
theorem w6 {a0 : Array Value} {Z : State} (hw : W a0 Z) : (Jvm.Cond.constantLong "anchorlog/AnchorPatternNextAnchorPinLaw" (7 : Nat) (1023 : Int64)).before a0 Z = true := hw _ (List.mem_of_getElem? (i := 6) rfl)
theorem w7 {a0 : Array Value} {Z : State} (hw : W a0 Z) : (Jvm.Cond.constantLong "anchorlog/AnchorPatternNextAnchorPinLaw" (9 : Nat) (3 : Int64)).before a0 Z = true := hw _ (List.mem_of_getElem? (i := 7) rfl)
theorem w8 {a0 : Array Value} {Z : State} (hw : W a0 Z) : (Jvm.Cond.constantLong "anchorlog/AnchorPatternNextAnchorPinLaw" (11 : Nat) (255 : Int64)).before a0 Z = true := hw _ (List.mem_of_getElem? (i := 8) rfl)
theorem w9 {a0 : Array Value} {Z : State} (hw : W a0 Z) : (Jvm.Cond.methodLink "anchorlog/AnchorPatternNextAnchorPinLaw" (25 : Nat) ({ cls := "anchorlog/AnchorPatternNextAnchorPinLaw", name := "make", desc := "(I[C)Ljava/lang/String;" } : Jvm.MethodName)).before a0 Z = true := hw _ (List.mem_of_getElem? (i := 9) rfl)
theorem w10 {a0 : Array Value} {Z : State} (hw : W a0 Z) : (Jvm.Cond.static ({ cls := "anchorlog/AnchorPatternNextAnchorPinLaw", name := "make", desc := "(I[C)Ljava/lang/String;" } : Jvm.MethodName)).before a0 Z = true := hw _ (List.mem_of_getElem? (i := 10) rfl)
theorem w11 {a0 : Array Value} {Z : State} (hw : W a0 Z) : (Jvm.Cond.code ({ cls := "anchorlog/AnchorPatternNextAnchorPinLaw", name := "make", desc := "(I[C)Ljava/lang/String;" } : Jvm.MethodName) method_4_code (2 : Nat) (Option.some (Jvm.ClassFile.FieldType.object "java/lang/String"))).before a0 Z = true := hw _ (List.mem_of_getElem? (i := 11) rfl)
theorem w12 {a0 : Array Value} {Z : State} (hw : W a0 Z) : (Jvm.Cond.classLink "anchorlog/AnchorPatternNextAnchorPinLaw" (13 : Nat) "java/lang/String").before a0 Z = true := hw _ (List.mem_of_getElem? (i := 12) rfl)
theorem w13 {a0 : Array Value} {Z : State} (hw : W a0 Z) : (Jvm.Cond.instantiable "java/lang/String" (4 : Nat)).before a0 Z = true := hw _ (List.mem_of_getElem? (i := 13) rfl)
theorem w14 {a0 : Array Value} {Z : State} (hw : W a0 Z) : (Jvm.Cond.initialized "java/lang/String").before a0 Z = true := hw _ (List.mem_of_getElem? (i := 14) rfl)
theorem w15 {a0 : Array Value} {Z : State} (hw : W a0 Z) : (Jvm.Cond.methodLink "anchorlog/AnchorPatternNextAnchorPinLaw" (15 : Nat) ({ cls := "java/lang/String", name := "<init>", desc := "([C)V" } : Jvm.MethodName)).before a0 Z = true := hw _ (List.mem_of_getElem? (i := 15) rfl)
theorem w16 {a0 : Array Value} {Z : State} (hw : W a0 Z) : (Jvm.Cond.instanceMethod ({ cls := "java/lang/String", name := "<init>", desc := "([C)V" } : Jvm.MethodName)).before a0 Z = true := hw _ (List.mem_of_getElem? (i := 16) rfl)
theorem w17 {a0 : Array Value} {Z : State} (hw : W a0 Z) : (Jvm.Cond.code ({ cls := "java/lang/String", name := "<init>", desc := "([C)V" } : Jvm.MethodName) jdk_42_method_3_code (2 : Nat) (Option.none : Option Jvm.ClassFile.FieldType)).before a0 Z = true := hw _ (List.mem_of_getElem? (i := 17) rfl)
theorem w18 {a0 : Array Value} {Z : State} (hw : W a0 Z) : (Jvm.Cond.methodLink "java/lang/String" (27 : Nat) ({ cls := "java/lang/String", name := "<init>", desc := "([CIILjava/lang/Void;)V" } : Jvm.MethodName)).before a0 Z = true := hw _ (List.mem_of_getElem? (i := 18) rfl)
theorem w19 {a0 : Array Value} {Z : State} (hw : W a0 Z) : (Jvm.Cond.instanceMethod ({ cls := "java/lang/String", name := "<init>", desc := "([CIILjava/lang/Void;)V" } : Jvm.MethodName)).before a0 Z = true := hw _ (List.mem_of_getElem? (i := 19) rfl)
theorem w21 {a0 : Array Value} {Z : State} (hw : W a0 Z) : (Jvm.Cond.code ({ cls := "java/lang/String", name := "<init>", desc := "([CIILjava/lang/Void;)V" } : Jvm.MethodName) jdk_42_method_149_code (6 : Nat) (Option.none : Option Jvm.ClassFile.FieldType)).before a0 Z = true := hw _ (List.mem_of_getElem? (i := 21) rfl)
theorem w22 {a0 : Array Value} {Z : State} (hw : W a0 Z) : (Jvm.Cond.methodLink "java/lang/String" (1 : Nat) ({ cls := "java/lang/Object", name := "<init>", desc := "()V" } : Jvm.MethodName)).before a0 Z = true := hw _ (List.mem_of_getElem? (i := 22) rfl)
theorem w23 {a0 : Array Value} {Z : State} (hw : W a0 Z) : (Jvm.Cond.instanceMethod ({ cls := "java/lang/Object", name := "<init>", desc := "()V" } : Jvm.MethodName)).before a0 Z = true := hw _ (List.mem_of_getElem? (i := 23) rfl)
theorem w24 {a0 : Array Value} {Z : State} (hw : W a0 Z) : (Jvm.Cond.code ({ cls := "java/lang/Object", name := "<init>", desc := "()V" } : Jvm.MethodName) object_method_1_code (1 : Nat) (Option.none : Option Jvm.ClassFile.FieldType)).before a0 Z = true := hw _ (List.mem_of_getElem? (i := 24) rfl)
theorem w25 {a0 : Array Value} {Z : State} (hw : W a0 Z) : (Jvm.Cond.fieldLink "java/lang/String" (38 : Nat) "java/lang/String" "COMPACT_STRINGS" "Z").before a0 Z = true := hw _ (List.mem_of_getElem? (i := 25) rfl)
theorem w30 {a0 : Array Value} {Z : State} (hw : W a0 Z) : (Jvm.Cond.arrayClass Jvm.ClassFile.FieldType.byte).before a0 Z = true := hw _ (List.mem_of_getElem? (i := 30) rfl)
theorem w37 {a0 : Array Value} {Z : State} (hw : W a0 Z) : (Jvm.Cond.fieldLink "java/lang/String" (15 : Nat) "java/lang/String" "coder" "B").before a0 Z = true := hw _ (List.mem_of_getElem? (i := 37) rfl)
theorem w38 {a0 : Array Value} {Z : State} (hw : W a0 Z) : (Jvm.Cond.laysFinal "java/lang/String" "java/lang/String" "coder" "B").before a0 Z = true := hw _ (List.mem_of_getElem? (i := 38) rfl)
theorem w39 {a0 : Array Value} {Z : State} (hw : W a0 Z) : (Jvm.Cond.fieldLink "java/lang/String" (9 : Nat) "java/lang/String" "value" "[B").before a0 Z = true := hw _ (List.mem_of_getElem? (i := 39) rfl)
theorem w40 {a0 : Array Value} {Z : State} (hw : W a0 Z) : (Jvm.Cond.laysFinal "java/lang/String" "java/lang/String" "value" "[B").before a0 Z = true := hw _ (List.mem_of_getElem? (i := 40) rfl)
theorem w41 {a0 : Array Value} {Z : State} (hw : W a0 Z) : (Jvm.Cond.methodLink "anchorlog/AnchorPatternNextAnchorPinLaw" (29 : Nat) ({ cls := "anchorlog/AnchorPatternNextAnchorPinLaw", name := "at", desc := "([CIII)Z" } : Jvm.MethodName)).before a0 Z = true := hw _ (List.mem_of_getElem? (i := 41) rfl)
theorem w42 {a0 : Array Value} {Z : State} (hw : W a0 Z) : (Jvm.Cond.static ({ cls := "anchorlog/AnchorPatternNextAnchorPinLaw", name := "at", desc := "([CIII)Z" } : Jvm.MethodName)).before a0 Z = true := hw _ (List.mem_of_getElem? (i := 42) rfl)
theorem w43 {a0 : Array Value} {Z : State} (hw : W a0 Z) : (Jvm.Cond.code ({ cls := "anchorlog/AnchorPatternNextAnchorPinLaw", name := "at", desc := "([CIII)Z" } : Jvm.MethodName) method_3_code (4 : Nat) (Option.some Jvm.ClassFile.FieldType.boolean)).before a0 Z = true := hw _ (List.mem_of_getElem? (i := 43) rfl)
theorem w44 {a0 : Array Value} {Z : State} (hw : W a0 Z) : (Jvm.Cond.methodLink "anchorlog/AnchorPatternNextAnchorPinLaw" (33 : Nat) ({ cls := "anchorlog/AnchorPattern", name := "nextAnchor", desc := "(Ljava/lang/String;I)I" } : Jvm.MethodName)).before a0 Z = true := hw _ (List.mem_of_getElem? (i := 44) rfl)
theorem w45 {a0 : Array Value} {Z : State} (hw : W a0 Z) : (Jvm.Cond.static ({ cls := "anchorlog/AnchorPattern", name := "nextAnchor", desc := "(Ljava/lang/String;I)I" } : Jvm.MethodName)).before a0 Z = true := hw _ (List.mem_of_getElem? (i := 45) rfl)
theorem w46 {a0 : Array Value} {Z : State} (hw : W a0 Z) : (Jvm.Cond.initialized "anchorlog/AnchorPattern").before a0 Z = true := hw _ (List.mem_of_getElem? (i := 46) rfl)
theorem w47 {a0 : Array Value} {Z : State} (hw : W a0 Z) : (Jvm.Cond.code ({ cls := "anchorlog/AnchorPattern", name := "nextAnchor", desc := "(Ljava/lang/String;I)I" } : Jvm.MethodName) prog_1_method_3_code (3 : Nat) (Option.some Jvm.ClassFile.FieldType.int)).before a0 Z = true := hw _ (List.mem_of_getElem? (i := 47) rfl)
theorem w48 {a0 : Array Value} {Z : State} (hw : W a0 Z) : (Jvm.Cond.methodLink "anchorlog/AnchorPattern" (56 : Nat) ({ cls := "java/lang/String", name := "indexOf", desc := "(II)I" } : Jvm.MethodName)).before a0 Z = true := hw _ (List.mem_of_getElem? (i := 48) rfl)
theorem w49 {a0 : Array Value} {Z : State} (hw : W a0 Z) : (Jvm.Cond.declares ({ cls := "java/lang/String", name := "indexOf", desc := "(II)I" } : Jvm.MethodName)).before a0 Z = true := hw _ (List.mem_of_getElem? (i := 49) rfl)
theorem w50 {a0 : Array Value} {Z : State} (hw : W a0 Z) : (Jvm.Cond.instanceMethod ({ cls := "java/lang/String", name := "indexOf", desc := "(II)I" } : Jvm.MethodName)).before a0 Z = true := hw _ (List.mem_of_getElem? (i := 50) rfl)
theorem w51 {a0 : Array Value} {Z : State} (hw : W a0 Z) : (Jvm.Cond.selects "java/lang/String" ({ cls := "java/lang/String", name := "indexOf", desc := "(II)I" } : Jvm.MethodName) ({ cls := "java/lang/String", name := "indexOf", desc := "(II)I" } : Jvm.MethodName)).before a0 Z = true := hw _ (List.mem_of_getElem? (i := 51) rfl)
theorem w52 {a0 : Array Value} {Z : State} (hw : W a0 Z) : (Jvm.Cond.code ({ cls := "java/lang/String", name := "indexOf", desc := "(II)I" } : Jvm.MethodName) jdk_42_method_80_code (3 : Nat) (Option.some Jvm.ClassFile.FieldType.int)).before a0 Z = true := hw _ (List.mem_of_getElem? (i := 52) rfl)
theorem w53 {a0 : Array Value} {Z : State} (hw : W a0 Z) : (Jvm.Cond.methodLink "java/lang/String" (492 : Nat) ({ cls := "java/lang/String", name := "isLatin1", desc := "()Z" } : Jvm.MethodName)).before a0 Z = true := hw _ (List.mem_of_getElem? (i := 53) rfl)
theorem w54 {a0 : Array Value} {Z : State} (hw : W a0 Z) : (Jvm.Cond.declares ({ cls := "java/lang/String", name := "isLatin1", desc := "()Z" } : Jvm.MethodName)).before a0 Z = true := hw _ (List.mem_of_getElem? (i := 54) rfl)
theorem w55 {a0 : Array Value} {Z : State} (hw : W a0 Z) : (Jvm.Cond.instanceMethod ({ cls := "java/lang/String", name := "isLatin1", desc := "()Z" } : Jvm.MethodName)).before a0 Z = true := hw _ (List.mem_of_getElem? (i := 55) rfl)
theorem w56 {a0 : Array Value} {Z : State} (hw : W a0 Z) : (Jvm.Cond.selects "java/lang/String" ({ cls := "java/lang/String", name := "isLatin1", desc := "()Z" } : Jvm.MethodName) ({ cls := "java/lang/String", name := "isLatin1", desc := "()Z" } : Jvm.MethodName)).before a0 Z = true := hw _ (List.mem_of_getElem? (i := 56) rfl)
theorem w57 {a0 : Array Value} {Z : State} (hw : W a0 Z) : (Jvm.Cond.code ({ cls := "java/lang/String", name := "isLatin1", desc := "()Z" } : Jvm.MethodName) jdk_42_method_154_code (1 : Nat) (Option.some Jvm.ClassFile.FieldType.boolean)).before a0 Z = true := hw _ (List.mem_of_getElem? (i := 57) rfl)
theorem w58 {a0 : Array Value} {Z : State} (hw : W a0 Z) : (Jvm.Cond.methodLink "java/lang/String" (505 : Nat) ({ cls := "java/lang/String", name := "length", desc := "()I" } : Jvm.MethodName)).before a0 Z = true := hw _ (List.mem_of_getElem? (i := 58) rfl)
theorem w59 {a0 : Array Value} {Z : State} (hw : W a0 Z) : (Jvm.Cond.declares ({ cls := "java/lang/String", name := "length", desc := "()I" } : Jvm.MethodName)).before a0 Z = true := hw _ (List.mem_of_getElem? (i := 59) rfl)
theorem w60 {a0 : Array Value} {Z : State} (hw : W a0 Z) : (Jvm.Cond.instanceMethod ({ cls := "java/lang/String", name := "length", desc := "()I" } : Jvm.MethodName)).before a0 Z = true := hw _ (List.mem_of_getElem? (i := 60) rfl)
theorem w61 {a0 : Array Value} {Z : State} (hw : W a0 Z) : (Jvm.Cond.selects "java/lang/String" ({ cls := "java/lang/String", name := "length", desc := "()I" } : Jvm.MethodName) ({ cls := "java/lang/String", name := "length", desc := "()I" } : Jvm.MethodName)).before a0 Z = true := hw _ (List.mem_of_getElem? (i := 61) rfl)
theorem w63 {a0 : Array Value} {Z : State} (hw : W a0 Z) : (Jvm.Cond.methodLink "java/lang/String" (335 : Nat) ({ cls := "java/lang/String", name := "coder", desc := "()B" } : Jvm.MethodName)).before a0 Z = true := hw _ (List.mem_of_getElem? (i := 63) rfl)
theorem w64 {a0 : Array Value} {Z : State} (hw : W a0 Z) : (Jvm.Cond.declares ({ cls := "java/lang/String", name := "coder", desc := "()B" } : Jvm.MethodName)).before a0 Z = true := hw _ (List.mem_of_getElem? (i := 64) rfl)
theorem w65 {a0 : Array Value} {Z : State} (hw : W a0 Z) : (Jvm.Cond.instanceMethod ({ cls := "java/lang/String", name := "coder", desc := "()B" } : Jvm.MethodName)).before a0 Z = true := hw _ (List.mem_of_getElem? (i := 65) rfl)
theorem w66 {a0 : Array Value} {Z : State} (hw : W a0 Z) : (Jvm.Cond.selects "java/lang/String" ({ cls := "java/lang/String", name := "coder", desc := "()B" } : Jvm.MethodName) ({ cls := "java/lang/String", name := "coder", desc := "()B" } : Jvm.MethodName)).before a0 Z = true := hw _ (List.mem_of_getElem? (i := 66) rfl)
theorem w67 {a0 : Array Value} {Z : State} (hw : W a0 Z) : (Jvm.Cond.code ({ cls := "java/lang/String", name := "coder", desc := "()B" } : Jvm.MethodName) jdk_42_method_152_code (1 : Nat) (Option.some Jvm.ClassFile.FieldType.byte)).before a0 Z = true := hw _ (List.mem_of_getElem? (i := 67) rfl)
theorem w68 {a0 : Array Value} {Z : State} (hw : W a0 Z) : (Jvm.Cond.methodLink "java/lang/String" (637 : Nat) ({ cls := "java/lang/StringLatin1", name := "indexOf", desc := "([BIII)I" } : Jvm.MethodName)).before a0 Z = true := hw _ (List.mem_of_getElem? (i := 68) rfl)
theorem w69 {a0 : Array Value} {Z : State} (hw : W a0 Z) : (Jvm.Cond.static ({ cls := "java/lang/StringLatin1", name := "indexOf", desc := "([BIII)I" } : Jvm.MethodName)).before a0 Z = true := hw _ (List.mem_of_getElem? (i := 69) rfl)
theorem w70 {a0 : Array Value} {Z : State} (hw : W a0 Z) : (Jvm.Cond.initialized "java/lang/StringLatin1").before a0 Z = true := hw _ (List.mem_of_getElem? (i := 70) rfl)
theorem w71 {a0 : Array Value} {Z : State} (hw : W a0 Z) : (Jvm.Cond.code ({ cls := "java/lang/StringLatin1", name := "indexOf", desc := "([BIII)I" } : Jvm.MethodName) jdk_43_method_22_code (4 : Nat) (Option.some Jvm.ClassFile.FieldType.int)).before a0 Z = true := hw _ (List.mem_of_getElem? (i := 71) rfl)
theorem w72 {a0 : Array Value} {Z : State} (hw : W a0 Z) : (Jvm.Cond.methodLink "java/lang/StringLatin1" (88 : Nat) ({ cls := "java/lang/StringLatin1", name := "canEncode", desc := "(I)Z" } : Jvm.MethodName)).before a0 Z = true := hw _ (List.mem_of_getElem? (i := 72) rfl)
theorem w73 {a0 : Array Value} {Z : State} (hw : W a0 Z) : (Jvm.Cond.static ({ cls := "java/lang/StringLatin1", name := "canEncode", desc := "(I)Z" } : Jvm.MethodName)).before a0 Z = true := hw _ (List.mem_of_getElem? (i := 73) rfl)
theorem w74 {a0 : Array Value} {Z : State} (hw : W a0 Z) : (Jvm.Cond.code ({ cls := "java/lang/StringLatin1", name := "canEncode", desc := "(I)Z" } : Jvm.MethodName) jdk_43_method_4_code (1 : Nat) (Option.some Jvm.ClassFile.FieldType.boolean)).before a0 Z = true := hw _ (List.mem_of_getElem? (i := 74) rfl)
theorem w75 {a0 : Array Value} {Z : State} (hw : W a0 Z) : (Jvm.Cond.methodLink "java/lang/StringLatin1" (92 : Nat) ({ cls := "java/lang/Math", name := "max", desc := "(II)I" } : Jvm.MethodName)).before a0 Z = true := hw _ (List.mem_of_getElem? (i := 75) rfl)
theorem w76 {a0 : Array Value} {Z : State} (hw : W a0 Z) : (Jvm.Cond.static ({ cls := "java/lang/Math", name := "max", desc := "(II)I" } : Jvm.MethodName)).before a0 Z = true := hw _ (List.mem_of_getElem? (i := 76) rfl)
theorem w77 {a0 : Array Value} {Z : State} (hw : W a0 Z) : (Jvm.Cond.initialized "java/lang/Math").before a0 Z = true := hw _ (List.mem_of_getElem? (i := 77) rfl)
theorem w78 {a0 : Array Value} {Z : State} (hw : W a0 Z) : (Jvm.Cond.code ({ cls := "java/lang/Math", name := "max", desc := "(II)I" } : Jvm.MethodName) jdk_29_method_65_code (2 : Nat) (Option.some Jvm.ClassFile.FieldType.int)).before a0 Z = true := hw _ (List.mem_of_getElem? (i := 78) rfl)
theorem w79 {a0 : Array Value} {Z : State} (hw : W a0 Z) : (Jvm.Cond.methodLink "java/lang/StringLatin1" (38 : Nat) ({ cls := "java/lang/Math", name := "min", desc := "(II)I" } : Jvm.MethodName)).before a0 Z = true := hw _ (List.mem_of_getElem? (i := 79) rfl)
theorem w80 {a0 : Array Value} {Z : State} (hw : W a0 Z) : (Jvm.Cond.static ({ cls := "java/lang/Math", name := "min", desc := "(II)I" } : Jvm.MethodName)).before a0 Z = true := hw _ (List.mem_of_getElem? (i := 80) rfl)
theorem w81 {a0 : Array Value} {Z : State} (hw : W a0 Z) : (Jvm.Cond.code ({ cls := "java/lang/Math", name := "min", desc := "(II)I" } : Jvm.MethodName) jdk_29_method_69_code (2 : Nat) (Option.some Jvm.ClassFile.FieldType.int)).before a0 Z = true := hw _ (List.mem_of_getElem? (i := 81) rfl)
theorem w82 {a0 : Array Value} {Z : State} (hw : W a0 Z) : (Jvm.Cond.methodLink "java/lang/StringLatin1" (95 : Nat) ({ cls := "java/lang/StringLatin1", name := "indexOfChar", desc := "([BIII)I" } : Jvm.MethodName)).before a0 Z = true := hw _ (List.mem_of_getElem? (i := 82) rfl)
theorem w83 {a0 : Array Value} {Z : State} (hw : W a0 Z) : (Jvm.Cond.static ({ cls := "java/lang/StringLatin1", name := "indexOfChar", desc := "([BIII)I" } : Jvm.MethodName)).before a0 Z = true := hw _ (List.mem_of_getElem? (i := 83) rfl)
theorem w84 {a0 : Array Value} {Z : State} (hw : W a0 Z) : (Jvm.Cond.code ({ cls := "java/lang/StringLatin1", name := "indexOfChar", desc := "([BIII)I" } : Jvm.MethodName) jdk_43_method_23_code (6 : Nat) (Option.some Jvm.ClassFile.FieldType.int)).before a0 Z = true := hw _ (List.mem_of_getElem? (i := 84) rfl)
theorem w85 {a0 : Array Value} {Z : State} (hw : W a0 Z) : (Jvm.Cond.methodLink "anchorlog/AnchorPattern" (12 : Nat) ({ cls := "java/lang/String", name := "length", desc := "()I" } : Jvm.MethodName)).before a0 Z = true := hw _ (List.mem_of_getElem? (i := 85) rfl)
theorem w86 {a0 : Array Value} {Z : State} (hw : W a0 Z) : (Jvm.Cond.stringLink "java/lang/String" (7 : Nat) "").before a0 Z = true := hw _ (List.mem_of_getElem? (i := 86) rfl)
theorem w89 {a0 : Array Value} {Z : State} (hw : W a0 Z) : (Jvm.Cond.methodLink "anchorlog/AnchorPattern" (60 : Nat) ({ cls := "java/lang/String", name := "charAt", desc := "(I)C" } : Jvm.MethodName)).before a0 Z = true := hw _ (List.mem_of_getElem? (i := 89) rfl)
theorem w90 {a0 : Array Value} {Z : State} (hw : W a0 Z) : (Jvm.Cond.declares ({ cls := "java/lang/String", name := "charAt", desc := "(I)C" } : Jvm.MethodName)).before a0 Z = true := hw _ (List.mem_of_getElem? (i := 90) rfl)
theorem w91 {a0 : Array Value} {Z : State} (hw : W a0 Z) : (Jvm.Cond.instanceMethod ({ cls := "java/lang/String", name := "charAt", desc := "(I)C" } : Jvm.MethodName)).before a0 Z = true := hw _ (List.mem_of_getElem? (i := 91) rfl)
theorem w92 {a0 : Array Value} {Z : State} (hw : W a0 Z) : (Jvm.Cond.selects "java/lang/String" ({ cls := "java/lang/String", name := "charAt", desc := "(I)C" } : Jvm.MethodName) ({ cls := "java/lang/String", name := "charAt", desc := "(I)C" } : Jvm.MethodName)).before a0 Z = true := hw _ (List.mem_of_getElem? (i := 92) rfl)
theorem w105 {a0 : Array Value} {Z : State} (hw : W a0 Z) : (Jvm.Cond.stringLink "anchorlog/AnchorPattern" (44 : Nat) "{}").before a0 Z = true := hw _ (List.mem_of_getElem? (i := 105) rfl)
theorem w106 {a0 : Array Value} {Z : State} (hw : W a0 Z) : (Jvm.Cond.methodLink "anchorlog/AnchorPattern" (64 : Nat) ({ cls := "java/lang/String", name := "indexOf", desc := "(Ljava/lang/String;I)I" } : Jvm.MethodName)).before a0 Z = true := hw _ (List.mem_of_getElem? (i := 106) rfl)
theorem w107 {a0 : Array Value} {Z : State} (hw : W a0 Z) : (Jvm.Cond.declares ({ cls := "java/lang/String", name := "indexOf", desc := "(Ljava/lang/String;I)I" } : Jvm.MethodName)).before a0 Z = true := hw _ (List.mem_of_getElem? (i := 107) rfl)
theorem w108 {a0 : Array Value} {Z : State} (hw : W a0 Z) : (Jvm.Cond.instanceMethod ({ cls := "java/lang/String", name := "indexOf", desc := "(Ljava/lang/String;I)I" } : Jvm.MethodName)).before a0 Z = true := hw _ (List.mem_of_getElem? (i := 108) rfl)
theorem w109 {a0 : Array Value} {Z : State} (hw : W a0 Z) : (Jvm.Cond.selects "java/lang/String" ({ cls := "java/lang/String", name := "indexOf", desc := "(Ljava/lang/String;I)I" } : Jvm.MethodName) ({ cls := "java/lang/String", name := "indexOf", desc := "(Ljava/lang/String;I)I" } : Jvm.MethodName)).before a0 Z = true := hw _ (List.mem_of_getElem? (i := 109) rfl)
theorem w110 {a0 : Array Value} {Z : State} (hw : W a0 Z) : (Jvm.Cond.code ({ cls := "java/lang/String", name := "indexOf", desc := "(Ljava/lang/String;I)I" } : Jvm.MethodName) jdk_42_method_85_code (3 : Nat) (Option.some Jvm.ClassFile.FieldType.int)).before a0 Z = true := hw _ (List.mem_of_getElem? (i := 110) rfl)
theorem w111 {a0 : Array Value} {Z : State} (hw : W a0 Z) : (Jvm.Cond.methodLink "java/lang/String" (653 : Nat) ({ cls := "java/lang/String", name := "indexOf", desc := "([BBILjava/lang/String;I)I" } : Jvm.MethodName)).before a0 Z = true := hw _ (List.mem_of_getElem? (i := 111) rfl)
theorem w112 {a0 : Array Value} {Z : State} (hw : W a0 Z) : (Jvm.Cond.static ({ cls := "java/lang/String", name := "indexOf", desc := "([BBILjava/lang/String;I)I" } : Jvm.MethodName)).before a0 Z = true := hw _ (List.mem_of_getElem? (i := 112) rfl)
theorem w113 {a0 : Array Value} {Z : State} (hw : W a0 Z) : (Jvm.Cond.code ({ cls := "java/lang/String", name := "indexOf", desc := "([BBILjava/lang/String;I)I" } : Jvm.MethodName) jdk_42_method_87_code (8 : Nat) (Option.some Jvm.ClassFile.FieldType.int)).before a0 Z = true := hw _ (List.mem_of_getElem? (i := 113) rfl)
theorem w114 {a0 : Array Value} {Z : State} (hw : W a0 Z) : (Jvm.Cond.methodLink "java/lang/String" (659 : Nat) ({ cls := "java/lang/Math", name := "clamp", desc := "(JII)I" } : Jvm.MethodName)).before a0 Z = true := hw _ (List.mem_of_getElem? (i := 114) rfl)
theorem w115 {a0 : Array Value} {Z : State} (hw : W a0 Z) : (Jvm.Cond.static ({ cls := "java/lang/Math", name := "clamp", desc := "(JII)I" } : Jvm.MethodName)).before a0 Z = true := hw _ (List.mem_of_getElem? (i := 115) rfl)
theorem w116 {a0 : Array Value} {Z : State} (hw : W a0 Z) : (Jvm.Cond.code ({ cls := "java/lang/Math", name := "clamp", desc := "(JII)I" } : Jvm.MethodName) jdk_29_method_73_code (4 : Nat) (Option.some Jvm.ClassFile.FieldType.int)).before a0 Z = true := hw _ (List.mem_of_getElem? (i := 116) rfl)
theorem w117 {a0 : Array Value} {Z : State} (hw : W a0 Z) : (Jvm.Cond.methodLink "java/lang/Math" (196 : Nat) ({ cls := "java/lang/Math", name := "max", desc := "(JJ)J" } : Jvm.MethodName)).before a0 Z = true := hw _ (List.mem_of_getElem? (i := 117) rfl)
theorem w118 {a0 : Array Value} {Z : State} (hw : W a0 Z) : (Jvm.Cond.static ({ cls := "java/lang/Math", name := "max", desc := "(JJ)J" } : Jvm.MethodName)).before a0 Z = true := hw _ (List.mem_of_getElem? (i := 118) rfl)
theorem w119 {a0 : Array Value} {Z : State} (hw : W a0 Z) : (Jvm.Cond.code ({ cls := "java/lang/Math", name := "max", desc := "(JJ)J" } : Jvm.MethodName) jdk_29_method_66_code (4 : Nat) (Option.some Jvm.ClassFile.FieldType.long)).before a0 Z = true := hw _ (List.mem_of_getElem? (i := 119) rfl)
theorem w120 {a0 : Array Value} {Z : State} (hw : W a0 Z) : (Jvm.Cond.methodLink "java/lang/Math" (199 : Nat) ({ cls := "java/lang/Math", name := "min", desc := "(JJ)J" } : Jvm.MethodName)).before a0 Z = true := hw _ (List.mem_of_getElem? (i := 120) rfl)
theorem w121 {a0 : Array Value} {Z : State} (hw : W a0 Z) : (Jvm.Cond.static ({ cls := "java/lang/Math", name := "min", desc := "(JJ)J" } : Jvm.MethodName)).before a0 Z = true := hw _ (List.mem_of_getElem? (i := 121) rfl)
theorem w122 {a0 : Array Value} {Z : State} (hw : W a0 Z) : (Jvm.Cond.code ({ cls := "java/lang/Math", name := "min", desc := "(JJ)J" } : Jvm.MethodName) jdk_29_method_70_code (4 : Nat) (Option.some Jvm.ClassFile.FieldType.long)).before a0 Z = true := hw _ (List.mem_of_getElem? (i := 122) rfl)
theorem w123 {a0 : Array Value} {Z : State} (hw : W a0 Z) : (Jvm.Cond.methodLink "java/lang/String" (665 : Nat) ({ cls := "java/lang/StringLatin1", name := "indexOf", desc := "([BI[BII)I" } : Jvm.MethodName)).before a0 Z = true := hw _ (List.mem_of_getElem? (i := 123) rfl)
theorem w124 {a0 : Array Value} {Z : State} (hw : W a0 Z) : (Jvm.Cond.static ({ cls := "java/lang/StringLatin1", name := "indexOf", desc := "([BI[BII)I" } : Jvm.MethodName)).before a0 Z = true := hw _ (List.mem_of_getElem? (i := 124) rfl)
theorem w125 {a0 : Array Value} {Z : State} (hw : W a0 Z) : (Jvm.Cond.code ({ cls := "java/lang/StringLatin1", name := "indexOf", desc := "([BI[BII)I" } : Jvm.MethodName) jdk_43_method_25_code (11 : Nat) (Option.some Jvm.ClassFile.FieldType.int)).before a0 Z = true := hw _ (List.mem_of_getElem? (i := 125) rfl)
theorem d_jdk_42_method_149_0 : decode jdk_42_method_149_code 0 = .ok (.aload_n 0, 1) := by decide +kernel
theorem d_jdk_42_method_149_1 : decode jdk_42_method_149_code 1 = .ok (.invokespecial 1, 3) := by decide +kernel
theorem d_jdk_42_method_149_4 : decode jdk_42_method_149_code 4 = .ok (.iload_n 3, 1) := by decide +kernel
theorem d_jdk_42_method_149_5 : decode jdk_42_method_149_code 5 = .ok (.ifCond .ne 22, 3) := by decide +kernel
theorem d_jdk_42_method_149_8 : decode jdk_42_method_149_code 8 = .ok (.aload_n 0, 1) := by decide +kernel
theorem d_jdk_42_method_149_9 : decode jdk_42_method_149_code 9 = .ok (.ldc 7, 2) := by decide +kernel
theorem d_jdk_42_method_149_11 : decode jdk_42_method_149_code 11 = .ok (.getfield 9, 3) := by decide +kernel
theorem d_jdk_42_method_149_14 : decode jdk_42_method_149_code 14 = .ok (.putfield 9, 3) := by decide +kernel
theorem d_jdk_42_method_149_17 : decode jdk_42_method_149_code 17 = .ok (.aload_n 0, 1) := by decide +kernel
theorem d_jdk_42_method_149_18 : decode jdk_42_method_149_code 18 = .ok (.ldc 7, 2) := by decide +kernel
theorem d_jdk_42_method_149_20 : decode jdk_42_method_149_code 20 = .ok (.getfield 15, 3) := by decide +kernel
theorem d_jdk_42_method_149_23 : decode jdk_42_method_149_code 23 = .ok (.putfield 15, 3) := by decide +kernel
theorem d_jdk_42_method_149_26 : decode jdk_42_method_149_code 26 = .ok (.return_, 1) := by decide +kernel
theorem d_jdk_42_method_3_0 : decode jdk_42_method_3_code 0 = .ok (.aload_n 0, 1) := by decide +kernel
theorem d_jdk_42_method_3_1 : decode jdk_42_method_3_code 1 = .ok (.aload_n 1, 1) := by decide +kernel
theorem d_jdk_42_method_3_2 : decode jdk_42_method_3_code 2 = .ok (.iconst 0, 1) := by decide +kernel
theorem d_jdk_42_method_3_3 : decode jdk_42_method_3_code 3 = .ok (.aload_n 1, 1) := by decide +kernel
theorem d_jdk_42_method_3_4 : decode jdk_42_method_3_code 4 = .ok (.arraylength, 1) := by decide +kernel
theorem d_jdk_42_method_3_5 : decode jdk_42_method_3_code 5 = .ok (.aconst_null, 1) := by decide +kernel
theorem d_jdk_42_method_3_6 : decode jdk_42_method_3_code 6 = .ok (.invokespecial 27, 3) := by decide +kernel
theorem d_jdk_42_method_3_9 : decode jdk_42_method_3_code 9 = .ok (.return_, 1) := by decide +kernel
theorem d_jdk_42_method_154_0 : decode jdk_42_method_154_code 0 = .ok (.getstatic 38, 3) := by decide +kernel
theorem d_jdk_42_method_154_3 : decode jdk_42_method_154_code 3 = .ok (.ifCond .eq 14, 3) := by decide +kernel
theorem d_jdk_42_method_154_6 : decode jdk_42_method_154_code 6 = .ok (.aload_n 0, 1) := by decide +kernel
theorem d_jdk_42_method_154_7 : decode jdk_42_method_154_code 7 = .ok (.getfield 15, 3) := by decide +kernel
theorem d_jdk_42_method_154_10 : decode jdk_42_method_154_code 10 = .ok (.ifCond .ne 7, 3) := by decide +kernel
theorem d_jdk_42_method_154_13 : decode jdk_42_method_154_code 13 = .ok (.iconst 1, 1) := by decide +kernel
theorem d_jdk_42_method_154_14 : decode jdk_42_method_154_code 14 = .ok (.goto 4, 3) := by decide +kernel
theorem d_jdk_42_method_154_18 : decode jdk_42_method_154_code 18 = .ok (.ireturn, 1) := by decide +kernel
theorem d_jdk_42_method_152_0 : decode jdk_42_method_152_code 0 = .ok (.getstatic 38, 3) := by decide +kernel
theorem d_jdk_42_method_152_3 : decode jdk_42_method_152_code 3 = .ok (.ifCond .eq 10, 3) := by decide +kernel
theorem d_jdk_42_method_152_6 : decode jdk_42_method_152_code 6 = .ok (.aload_n 0, 1) := by decide +kernel
theorem d_jdk_42_method_152_7 : decode jdk_42_method_152_code 7 = .ok (.getfield 15, 3) := by decide +kernel
theorem d_jdk_42_method_152_10 : decode jdk_42_method_152_code 10 = .ok (.goto 4, 3) := by decide +kernel
theorem d_jdk_42_method_152_14 : decode jdk_42_method_152_code 14 = .ok (.ireturn, 1) := by decide +kernel
theorem d_jdk_29_method_65_0 : decode jdk_29_method_65_code 0 = .ok (.iload_n 0, 1) := by decide +kernel
theorem d_jdk_29_method_65_1 : decode jdk_29_method_65_code 1 = .ok (.iload_n 1, 1) := by decide +kernel
theorem d_jdk_29_method_65_2 : decode jdk_29_method_65_code 2 = .ok (.if_icmp .lt 7, 3) := by decide +kernel
theorem d_jdk_29_method_65_9 : decode jdk_29_method_65_code 9 = .ok (.iload_n 1, 1) := by decide +kernel
theorem d_jdk_29_method_65_10 : decode jdk_29_method_65_code 10 = .ok (.ireturn, 1) := by decide +kernel
theorem d_jdk_29_method_65_5 : decode jdk_29_method_65_code 5 = .ok (.iload_n 0, 1) := by decide +kernel
theorem d_jdk_29_method_65_6 : decode jdk_29_method_65_code 6 = .ok (.goto 4, 3) := by decide +kernel
theorem d_jdk_29_method_69_0 : decode jdk_29_method_69_code 0 = .ok (.iload_n 0, 1) := by decide +kernel
theorem d_jdk_29_method_69_1 : decode jdk_29_method_69_code 1 = .ok (.iload_n 1, 1) := by decide +kernel
theorem d_jdk_29_method_69_2 : decode jdk_29_method_69_code 2 = .ok (.if_icmp .gt 7, 3) := by decide +kernel
theorem d_jdk_29_method_69_9 : decode jdk_29_method_69_code 9 = .ok (.iload_n 1, 1) := by decide +kernel
theorem d_jdk_29_method_69_10 : decode jdk_29_method_69_code 10 = .ok (.ireturn, 1) := by decide +kernel
theorem d_jdk_29_method_69_5 : decode jdk_29_method_69_code 5 = .ok (.iload_n 0, 1) := by decide +kernel
theorem d_jdk_29_method_69_6 : decode jdk_29_method_69_code 6 = .ok (.goto 4, 3) := by decide +kernel
theorem d_jdk_29_method_66_0 : decode jdk_29_method_66_code 0 = .ok (.lload_n 0, 1) := by decide +kernel
theorem d_jdk_29_method_66_1 : decode jdk_29_method_66_code 1 = .ok (.lload_n 2, 1) := by decide +kernel
theorem d_jdk_29_method_66_2 : decode jdk_29_method_66_code 2 = .ok (.lcmp, 1) := by decide +kernel
theorem d_jdk_29_method_66_3 : decode jdk_29_method_66_code 3 = .ok (.ifCond .lt 7, 3) := by decide +kernel
theorem d_jdk_29_method_66_10 : decode jdk_29_method_66_code 10 = .ok (.lload_n 2, 1) := by decide +kernel
theorem d_jdk_29_method_66_11 : decode jdk_29_method_66_code 11 = .ok (.lreturn, 1) := by decide +kernel
theorem d_jdk_29_method_66_6 : decode jdk_29_method_66_code 6 = .ok (.lload_n 0, 1) := by decide +kernel
theorem d_jdk_29_method_66_7 : decode jdk_29_method_66_code 7 = .ok (.goto 4, 3) := by decide +kernel
theorem d_jdk_29_method_70_0 : decode jdk_29_method_70_code 0 = .ok (.lload_n 0, 1) := by decide +kernel
theorem d_jdk_29_method_70_1 : decode jdk_29_method_70_code 1 = .ok (.lload_n 2, 1) := by decide +kernel
theorem d_jdk_29_method_70_2 : decode jdk_29_method_70_code 2 = .ok (.lcmp, 1) := by decide +kernel
theorem d_jdk_29_method_70_3 : decode jdk_29_method_70_code 3 = .ok (.ifCond .gt 7, 3) := by decide +kernel
theorem d_jdk_29_method_70_10 : decode jdk_29_method_70_code 10 = .ok (.lload_n 2, 1) := by decide +kernel
theorem d_jdk_29_method_70_11 : decode jdk_29_method_70_code 11 = .ok (.lreturn, 1) := by decide +kernel
theorem d_jdk_29_method_70_6 : decode jdk_29_method_70_code 6 = .ok (.lload_n 0, 1) := by decide +kernel
theorem d_jdk_29_method_70_7 : decode jdk_29_method_70_code 7 = .ok (.goto 4, 3) := by decide +kernel
theorem d_jdk_43_method_4_0 : decode jdk_43_method_4_code 0 = .ok (.iload_n 0, 1) := by decide +kernel
theorem d_jdk_43_method_4_1 : decode jdk_43_method_4_code 1 = .ok (.ifCond .lt 14, 3) := by decide +kernel
theorem d_jdk_43_method_4_4 : decode jdk_43_method_4_code 4 = .ok (.iload_n 0, 1) := by decide +kernel
theorem d_jdk_43_method_4_5 : decode jdk_43_method_4_code 5 = .ok (.sipush 255, 3) := by decide +kernel
theorem d_jdk_43_method_4_8 : decode jdk_43_method_4_code 8 = .ok (.if_icmp .gt 7, 3) := by decide +kernel
theorem d_jdk_43_method_4_11 : decode jdk_43_method_4_code 11 = .ok (.iconst 1, 1) := by decide +kernel
theorem d_jdk_43_method_4_12 : decode jdk_43_method_4_code 12 = .ok (.goto 4, 3) := by decide +kernel
theorem d_jdk_43_method_4_16 : decode jdk_43_method_4_code 16 = .ok (.ireturn, 1) := by decide +kernel
theorem d_jdk_43_method_23_0 : decode jdk_43_method_23_code 0 = .ok (.iload_n 1, 1) := by decide +kernel
theorem d_jdk_43_method_23_1 : decode jdk_43_method_23_code 1 = .ok (.i2b, 1) := by decide +kernel
theorem d_jdk_43_method_23_2 : decode jdk_43_method_23_code 2 = .ok (.istore 4, 2) := by decide +kernel
theorem d_jdk_43_method_23_4 : decode jdk_43_method_23_code 4 = .ok (.iload_n 2, 1) := by decide +kernel
theorem d_jdk_43_method_23_5 : decode jdk_43_method_23_code 5 = .ok (.istore 5, 2) := by decide +kernel
theorem d_jdk_43_method_23_7 : decode jdk_43_method_23_code 7 = .ok (.iload 5, 2) := by decide +kernel
theorem d_jdk_43_method_23_9 : decode jdk_43_method_23_code 9 = .ok (.iload_n 3, 1) := by decide +kernel
theorem d_jdk_43_method_23_10 : decode jdk_43_method_23_code 10 = .ok (.if_icmp .ge 21, 3) := by decide +kernel
theorem d_jdk_43_method_23_31 : decode jdk_43_method_23_code 31 = .ok (.iconst (-1), 1) := by decide +kernel
theorem d_jdk_43_method_23_32 : decode jdk_43_method_23_code 32 = .ok (.ireturn, 1) := by decide +kernel
theorem d_jdk_43_method_23_13 : decode jdk_43_method_23_code 13 = .ok (.aload_n 0, 1) := by decide +kernel
theorem d_jdk_43_method_23_14 : decode jdk_43_method_23_code 14 = .ok (.iload 5, 2) := by decide +kernel
theorem d_jdk_43_method_23_16 : decode jdk_43_method_23_code 16 = .ok (.baload, 1) := by decide +kernel
theorem d_jdk_43_method_23_17 : decode jdk_43_method_23_code 17 = .ok (.iload 4, 2) := by decide +kernel
theorem d_jdk_43_method_23_19 : decode jdk_43_method_23_code 19 = .ok (.if_icmp .ne 6, 3) := by decide +kernel
theorem d_jdk_43_method_23_22 : decode jdk_43_method_23_code 22 = .ok (.iload 5, 2) := by decide +kernel
theorem d_jdk_43_method_23_24 : decode jdk_43_method_23_code 24 = .ok (.ireturn, 1) := by decide +kernel
theorem d_jdk_43_method_23_25 : decode jdk_43_method_23_code 25 = .ok (.iinc 5 1, 3) := by decide +kernel
theorem d_jdk_43_method_23_28 : decode jdk_43_method_23_code 28 = .ok (.goto (-21), 3) := by decide +kernel
theorem d_jdk_43_method_22_0 : decode jdk_43_method_22_code 0 = .ok (.iload_n 1, 1) := by decide +kernel
theorem d_jdk_43_method_22_1 : decode jdk_43_method_22_code 1 = .ok (.invokestatic 88, 3) := by decide +kernel
theorem d_jdk_43_method_22_4 : decode jdk_43_method_22_code 4 = .ok (.ifCond .ne 5, 3) := by decide +kernel
theorem d_jdk_43_method_22_9 : decode jdk_43_method_22_code 9 = .ok (.iload_n 2, 1) := by decide +kernel
theorem d_jdk_43_method_22_10 : decode jdk_43_method_22_code 10 = .ok (.iconst 0, 1) := by decide +kernel
theorem d_jdk_43_method_22_11 : decode jdk_43_method_22_code 11 = .ok (.invokestatic 92, 3) := by decide +kernel
theorem d_jdk_43_method_22_14 : decode jdk_43_method_22_code 14 = .ok (.istore_n 2, 1) := by decide +kernel
theorem d_jdk_43_method_22_15 : decode jdk_43_method_22_code 15 = .ok (.iload_n 3, 1) := by decide +kernel
theorem d_jdk_43_method_22_16 : decode jdk_43_method_22_code 16 = .ok (.aload_n 0, 1) := by decide +kernel
theorem d_jdk_43_method_22_17 : decode jdk_43_method_22_code 17 = .ok (.arraylength, 1) := by decide +kernel
theorem d_jdk_43_method_22_18 : decode jdk_43_method_22_code 18 = .ok (.invokestatic 38, 3) := by decide +kernel
theorem d_jdk_43_method_22_21 : decode jdk_43_method_22_code 21 = .ok (.istore_n 3, 1) := by decide +kernel
theorem d_jdk_43_method_22_22 : decode jdk_43_method_22_code 22 = .ok (.iload_n 2, 1) := by decide +kernel
theorem d_jdk_43_method_22_23 : decode jdk_43_method_22_code 23 = .ok (.iload_n 3, 1) := by decide +kernel
theorem d_jdk_43_method_22_24 : decode jdk_43_method_22_code 24 = .ok (.if_icmp .lt 5, 3) := by decide +kernel
theorem d_jdk_43_method_22_29 : decode jdk_43_method_22_code 29 = .ok (.aload_n 0, 1) := by decide +kernel
theorem d_jdk_43_method_22_30 : decode jdk_43_method_22_code 30 = .ok (.iload_n 1, 1) := by decide +kernel
theorem d_jdk_43_method_22_31 : decode jdk_43_method_22_code 31 = .ok (.iload_n 2, 1) := by decide +kernel
theorem d_jdk_43_method_22_32 : decode jdk_43_method_22_code 32 = .ok (.iload_n 3, 1) := by decide +kernel
theorem d_jdk_43_method_22_33 : decode jdk_43_method_22_code 33 = .ok (.invokestatic 95, 3) := by decide +kernel
theorem d_jdk_43_method_22_36 : decode jdk_43_method_22_code 36 = .ok (.ireturn, 1) := by decide +kernel
theorem d_jdk_43_method_22_27 : decode jdk_43_method_22_code 27 = .ok (.iconst (-1), 1) := by decide +kernel
theorem d_jdk_43_method_22_28 : decode jdk_43_method_22_code 28 = .ok (.ireturn, 1) := by decide +kernel
theorem d_jdk_42_method_80_0 : decode jdk_42_method_80_code 0 = .ok (.aload_n 0, 1) := by decide +kernel
theorem d_jdk_42_method_80_1 : decode jdk_42_method_80_code 1 = .ok (.invokevirtual 492, 3) := by decide +kernel
theorem d_jdk_42_method_80_4 : decode jdk_42_method_80_code 4 = .ok (.ifCond .eq 19, 3) := by decide +kernel
theorem d_jdk_42_method_80_7 : decode jdk_42_method_80_code 7 = .ok (.aload_n 0, 1) := by decide +kernel
theorem d_jdk_42_method_80_8 : decode jdk_42_method_80_code 8 = .ok (.getfield 9, 3) := by decide +kernel
theorem d_jdk_42_method_80_11 : decode jdk_42_method_80_code 11 = .ok (.iload_n 1, 1) := by decide +kernel
theorem d_jdk_42_method_80_12 : decode jdk_42_method_80_code 12 = .ok (.iload_n 2, 1) := by decide +kernel
theorem d_jdk_42_method_80_13 : decode jdk_42_method_80_code 13 = .ok (.aload_n 0, 1) := by decide +kernel
theorem d_jdk_42_method_80_14 : decode jdk_42_method_80_code 14 = .ok (.invokevirtual 505, 3) := by decide +kernel
theorem d_jdk_42_method_80_17 : decode jdk_42_method_80_code 17 = .ok (.invokestatic 637, 3) := by decide +kernel
theorem d_jdk_42_method_80_20 : decode jdk_42_method_80_code 20 = .ok (.goto 16, 3) := by decide +kernel
theorem d_jdk_42_method_80_36 : decode jdk_42_method_80_code 36 = .ok (.ireturn, 1) := by decide +kernel
theorem d_jdk_29_method_73_0 : decode jdk_29_method_73_code 0 = .ok (.iload_n 2, 1) := by decide +kernel
theorem d_jdk_29_method_73_1 : decode jdk_29_method_73_code 1 = .ok (.iload_n 3, 1) := by decide +kernel
theorem d_jdk_29_method_73_2 : decode jdk_29_method_73_code 2 = .ok (.if_icmp .le 34, 3) := by decide +kernel
theorem d_jdk_29_method_73_36 : decode jdk_29_method_73_code 36 = .ok (.iload_n 3, 1) := by decide +kernel
theorem d_jdk_29_method_73_37 : decode jdk_29_method_73_code 37 = .ok (.i2l, 1) := by decide +kernel
theorem d_jdk_29_method_73_38 : decode jdk_29_method_73_code 38 = .ok (.lload_n 0, 1) := by decide +kernel
theorem d_jdk_29_method_73_39 : decode jdk_29_method_73_code 39 = .ok (.iload_n 2, 1) := by decide +kernel
theorem d_jdk_29_method_73_40 : decode jdk_29_method_73_code 40 = .ok (.i2l, 1) := by decide +kernel
theorem d_jdk_29_method_73_41 : decode jdk_29_method_73_code 41 = .ok (.invokestatic 196, 3) := by decide +kernel
theorem d_jdk_29_method_73_44 : decode jdk_29_method_73_code 44 = .ok (.invokestatic 199, 3) := by decide +kernel
theorem d_jdk_29_method_73_47 : decode jdk_29_method_73_code 47 = .ok (.l2i, 1) := by decide +kernel
theorem d_jdk_29_method_73_48 : decode jdk_29_method_73_code 48 = .ok (.ireturn, 1) := by decide +kernel
theorem d_jdk_43_method_25_0 : decode jdk_43_method_25_code 0 = .ok (.aload_n 2, 1) := by decide +kernel
theorem d_jdk_43_method_25_1 : decode jdk_43_method_25_code 1 = .ok (.iconst 0, 1) := by decide +kernel
theorem d_jdk_43_method_25_2 : decode jdk_43_method_25_code 2 = .ok (.baload, 1) := by decide +kernel
theorem d_jdk_43_method_25_3 : decode jdk_43_method_25_code 3 = .ok (.istore 5, 2) := by decide +kernel
theorem d_jdk_43_method_25_5 : decode jdk_43_method_25_code 5 = .ok (.iload_n 1, 1) := by decide +kernel
theorem d_jdk_43_method_25_6 : decode jdk_43_method_25_code 6 = .ok (.iload_n 3, 1) := by decide +kernel
theorem d_jdk_43_method_25_7 : decode jdk_43_method_25_code 7 = .ok (.isub, 1) := by decide +kernel
theorem d_jdk_43_method_25_8 : decode jdk_43_method_25_code 8 = .ok (.istore 6, 2) := by decide +kernel
theorem d_jdk_43_method_25_10 : decode jdk_43_method_25_code 10 = .ok (.iload 4, 2) := by decide +kernel
theorem d_jdk_43_method_25_12 : decode jdk_43_method_25_code 12 = .ok (.istore 7, 2) := by decide +kernel
theorem d_jdk_43_method_25_52 : decode jdk_43_method_25_code 52 = .ok (.iload 7, 2) := by decide +kernel
theorem d_jdk_43_method_25_54 : decode jdk_43_method_25_code 54 = .ok (.iload 6, 2) := by decide +kernel
theorem d_jdk_43_method_25_56 : decode jdk_43_method_25_code 56 = .ok (.if_icmp .gt 57, 3) := by decide +kernel
theorem d_jdk_43_method_25_59 : decode jdk_43_method_25_code 59 = .ok (.iload 7, 2) := by decide +kernel
theorem d_jdk_43_method_25_61 : decode jdk_43_method_25_code 61 = .ok (.iconst 1, 1) := by decide +kernel
theorem d_jdk_43_method_25_62 : decode jdk_43_method_25_code 62 = .ok (.iadd, 1) := by decide +kernel
theorem d_jdk_43_method_25_63 : decode jdk_43_method_25_code 63 = .ok (.istore 8, 2) := by decide +kernel
theorem d_jdk_43_method_25_65 : decode jdk_43_method_25_code 65 = .ok (.iload 8, 2) := by decide +kernel
theorem d_jdk_43_method_25_67 : decode jdk_43_method_25_code 67 = .ok (.iload_n 3, 1) := by decide +kernel
theorem d_jdk_43_method_25_68 : decode jdk_43_method_25_code 68 = .ok (.iadd, 1) := by decide +kernel
theorem d_jdk_43_method_25_69 : decode jdk_43_method_25_code 69 = .ok (.iconst 1, 1) := by decide +kernel
theorem d_jdk_43_method_25_70 : decode jdk_43_method_25_code 70 = .ok (.isub, 1) := by decide +kernel
theorem d_jdk_43_method_25_71 : decode jdk_43_method_25_code 71 = .ok (.istore 9, 2) := by decide +kernel
theorem d_jdk_43_method_25_73 : decode jdk_43_method_25_code 73 = .ok (.iconst 1, 1) := by decide +kernel
theorem d_jdk_43_method_25_74 : decode jdk_43_method_25_code 74 = .ok (.istore 10, 2) := by decide +kernel
theorem d_jdk_43_method_25_76 : decode jdk_43_method_25_code 76 = .ok (.iload 8, 2) := by decide +kernel
theorem d_jdk_43_method_25_78 : decode jdk_43_method_25_code 78 = .ok (.iload 9, 2) := by decide +kernel
theorem d_jdk_43_method_25_80 : decode jdk_43_method_25_code 80 = .ok (.if_icmp .ge 23, 3) := by decide +kernel
theorem d_jdk_43_method_25_83 : decode jdk_43_method_25_code 83 = .ok (.aload_n 0, 1) := by decide +kernel
theorem d_jdk_43_method_25_84 : decode jdk_43_method_25_code 84 = .ok (.iload 8, 2) := by decide +kernel
theorem d_jdk_43_method_25_86 : decode jdk_43_method_25_code 86 = .ok (.baload, 1) := by decide +kernel
theorem d_jdk_43_method_25_87 : decode jdk_43_method_25_code 87 = .ok (.aload_n 2, 1) := by decide +kernel
theorem d_jdk_43_method_25_88 : decode jdk_43_method_25_code 88 = .ok (.iload 10, 2) := by decide +kernel
theorem d_jdk_43_method_25_90 : decode jdk_43_method_25_code 90 = .ok (.baload, 1) := by decide +kernel
theorem d_jdk_43_method_25_91 : decode jdk_43_method_25_code 91 = .ok (.if_icmp .ne 12, 3) := by decide +kernel
theorem d_jdk_43_method_25_94 : decode jdk_43_method_25_code 94 = .ok (.iinc 8 1, 3) := by decide +kernel
theorem d_jdk_43_method_25_97 : decode jdk_43_method_25_code 97 = .ok (.iinc 10 1, 3) := by decide +kernel
theorem d_jdk_43_method_25_100 : decode jdk_43_method_25_code 100 = .ok (.goto (-24), 3) := by decide +kernel
theorem d_jdk_43_method_25_103 : decode jdk_43_method_25_code 103 = .ok (.iload 8, 2) := by decide +kernel
theorem d_jdk_43_method_25_105 : decode jdk_43_method_25_code 105 = .ok (.iload 9, 2) := by decide +kernel
theorem d_jdk_43_method_25_107 : decode jdk_43_method_25_code 107 = .ok (.if_icmp .ne 6, 3) := by decide +kernel
theorem d_jdk_43_method_25_110 : decode jdk_43_method_25_code 110 = .ok (.iload 7, 2) := by decide +kernel
theorem d_jdk_43_method_25_112 : decode jdk_43_method_25_code 112 = .ok (.ireturn, 1) := by decide +kernel
theorem d_jdk_43_method_25_113 : decode jdk_43_method_25_code 113 = .ok (.iinc 7 1, 3) := by decide +kernel
theorem d_jdk_43_method_25_116 : decode jdk_43_method_25_code 116 = .ok (.goto (-102), 3) := by decide +kernel
theorem d_jdk_43_method_25_14 : decode jdk_43_method_25_code 14 = .ok (.iload 7, 2) := by decide +kernel
theorem d_jdk_43_method_25_16 : decode jdk_43_method_25_code 16 = .ok (.iload 6, 2) := by decide +kernel
theorem d_jdk_43_method_25_18 : decode jdk_43_method_25_code 18 = .ok (.if_icmp .gt 101, 3) := by decide +kernel
theorem d_jdk_43_method_25_119 : decode jdk_43_method_25_code 119 = .ok (.iconst (-1), 1) := by decide +kernel
theorem d_jdk_43_method_25_120 : decode jdk_43_method_25_code 120 = .ok (.ireturn, 1) := by decide +kernel
theorem d_jdk_43_method_25_30 : decode jdk_43_method_25_code 30 = .ok (.iinc 7 1, 3) := by decide +kernel
theorem d_jdk_43_method_25_33 : decode jdk_43_method_25_code 33 = .ok (.iload 7, 2) := by decide +kernel
theorem d_jdk_43_method_25_35 : decode jdk_43_method_25_code 35 = .ok (.iload 6, 2) := by decide +kernel
theorem d_jdk_43_method_25_37 : decode jdk_43_method_25_code 37 = .ok (.if_icmp .gt 15, 3) := by decide +kernel
theorem d_jdk_43_method_25_40 : decode jdk_43_method_25_code 40 = .ok (.aload_n 0, 1) := by decide +kernel
theorem d_jdk_43_method_25_41 : decode jdk_43_method_25_code 41 = .ok (.iload 7, 2) := by decide +kernel
theorem d_jdk_43_method_25_43 : decode jdk_43_method_25_code 43 = .ok (.baload, 1) := by decide +kernel
theorem d_jdk_43_method_25_44 : decode jdk_43_method_25_code 44 = .ok (.iload 5, 2) := by decide +kernel
theorem d_jdk_43_method_25_46 : decode jdk_43_method_25_code 46 = .ok (.if_icmp .eq 6, 3) := by decide +kernel
theorem d_jdk_43_method_25_49 : decode jdk_43_method_25_code 49 = .ok (.goto (-19), 3) := by decide +kernel
theorem d_jdk_43_method_25_21 : decode jdk_43_method_25_code 21 = .ok (.aload_n 0, 1) := by decide +kernel
theorem d_jdk_43_method_25_22 : decode jdk_43_method_25_code 22 = .ok (.iload 7, 2) := by decide +kernel
theorem d_jdk_43_method_25_24 : decode jdk_43_method_25_code 24 = .ok (.baload, 1) := by decide +kernel
theorem d_jdk_43_method_25_25 : decode jdk_43_method_25_code 25 = .ok (.iload 5, 2) := by decide +kernel
theorem d_jdk_43_method_25_27 : decode jdk_43_method_25_code 27 = .ok (.if_icmp .eq 25, 3) := by decide +kernel
theorem d_jdk_42_method_87_0 : decode jdk_42_method_87_code 0 = .ok (.iload 4, 2) := by decide +kernel
theorem d_jdk_42_method_87_2 : decode jdk_42_method_87_code 2 = .ok (.i2l, 1) := by decide +kernel
theorem d_jdk_42_method_87_3 : decode jdk_42_method_87_code 3 = .ok (.iconst 0, 1) := by decide +kernel
theorem d_jdk_42_method_87_4 : decode jdk_42_method_87_code 4 = .ok (.iload_n 2, 1) := by decide +kernel
theorem d_jdk_42_method_87_5 : decode jdk_42_method_87_code 5 = .ok (.invokestatic 659, 3) := by decide +kernel
theorem d_jdk_42_method_87_8 : decode jdk_42_method_87_code 8 = .ok (.istore 4, 2) := by decide +kernel
theorem d_jdk_42_method_87_10 : decode jdk_42_method_87_code 10 = .ok (.aload_n 3, 1) := by decide +kernel
theorem d_jdk_42_method_87_11 : decode jdk_42_method_87_code 11 = .ok (.invokevirtual 505, 3) := by decide +kernel
theorem d_jdk_42_method_87_14 : decode jdk_42_method_87_code 14 = .ok (.istore 5, 2) := by decide +kernel
theorem d_jdk_42_method_87_16 : decode jdk_42_method_87_code 16 = .ok (.iload 5, 2) := by decide +kernel
theorem d_jdk_42_method_87_18 : decode jdk_42_method_87_code 18 = .ok (.iload_n 2, 1) := by decide +kernel
theorem d_jdk_42_method_87_19 : decode jdk_42_method_87_code 19 = .ok (.iload 4, 2) := by decide +kernel
theorem d_jdk_42_method_87_21 : decode jdk_42_method_87_code 21 = .ok (.isub, 1) := by decide +kernel
theorem d_jdk_42_method_87_22 : decode jdk_42_method_87_code 22 = .ok (.if_icmp .le 5, 3) := by decide +kernel
theorem d_jdk_42_method_87_25 : decode jdk_42_method_87_code 25 = .ok (.iconst (-1), 1) := by decide +kernel
theorem d_jdk_42_method_87_26 : decode jdk_42_method_87_code 26 = .ok (.ireturn, 1) := by decide +kernel
theorem d_jdk_42_method_87_27 : decode jdk_42_method_87_code 27 = .ok (.iload 5, 2) := by decide +kernel
theorem d_jdk_42_method_87_29 : decode jdk_42_method_87_code 29 = .ok (.ifCond .ne 6, 3) := by decide +kernel
theorem d_jdk_42_method_87_35 : decode jdk_42_method_87_code 35 = .ok (.aload_n 3, 1) := by decide +kernel
theorem d_jdk_42_method_87_36 : decode jdk_42_method_87_code 36 = .ok (.getfield 9, 3) := by decide +kernel
theorem d_jdk_42_method_87_39 : decode jdk_42_method_87_code 39 = .ok (.astore 6, 2) := by decide +kernel
theorem d_jdk_42_method_87_41 : decode jdk_42_method_87_code 41 = .ok (.aload_n 3, 1) := by decide +kernel
theorem d_jdk_42_method_87_42 : decode jdk_42_method_87_code 42 = .ok (.invokevirtual 335, 3) := by decide +kernel
theorem d_jdk_42_method_87_45 : decode jdk_42_method_87_code 45 = .ok (.istore 7, 2) := by decide +kernel
theorem d_jdk_42_method_87_47 : decode jdk_42_method_87_code 47 = .ok (.iload_n 1, 1) := by decide +kernel
theorem d_jdk_42_method_87_48 : decode jdk_42_method_87_code 48 = .ok (.iload 7, 2) := by decide +kernel
theorem d_jdk_42_method_87_50 : decode jdk_42_method_87_code 50 = .ok (.if_icmp .ne 33, 3) := by decide +kernel
theorem d_jdk_42_method_87_53 : decode jdk_42_method_87_code 53 = .ok (.iload_n 1, 1) := by decide +kernel
theorem d_jdk_42_method_87_54 : decode jdk_42_method_87_code 54 = .ok (.ifCond .ne 17, 3) := by decide +kernel
theorem d_jdk_42_method_87_57 : decode jdk_42_method_87_code 57 = .ok (.aload_n 0, 1) := by decide +kernel
theorem d_jdk_42_method_87_58 : decode jdk_42_method_87_code 58 = .ok (.iload_n 2, 1) := by decide +kernel
theorem d_jdk_42_method_87_59 : decode jdk_42_method_87_code 59 = .ok (.aload 6, 2) := by decide +kernel
theorem d_jdk_42_method_87_61 : decode jdk_42_method_87_code 61 = .ok (.iload 5, 2) := by decide +kernel
theorem d_jdk_42_method_87_63 : decode jdk_42_method_87_code 63 = .ok (.iload 4, 2) := by decide +kernel
theorem d_jdk_42_method_87_65 : decode jdk_42_method_87_code 65 = .ok (.invokestatic 665, 3) := by decide +kernel
theorem d_jdk_42_method_87_68 : decode jdk_42_method_87_code 68 = .ok (.goto 14, 3) := by decide +kernel
theorem d_jdk_42_method_87_82 : decode jdk_42_method_87_code 82 = .ok (.ireturn, 1) := by decide +kernel
theorem d_jdk_42_method_85_0 : decode jdk_42_method_85_code 0 = .ok (.aload_n 0, 1) := by decide +kernel
theorem d_jdk_42_method_85_1 : decode jdk_42_method_85_code 1 = .ok (.getfield 9, 3) := by decide +kernel
theorem d_jdk_42_method_85_4 : decode jdk_42_method_85_code 4 = .ok (.aload_n 0, 1) := by decide +kernel
theorem d_jdk_42_method_85_5 : decode jdk_42_method_85_code 5 = .ok (.invokevirtual 335, 3) := by decide +kernel
theorem d_jdk_42_method_85_8 : decode jdk_42_method_85_code 8 = .ok (.aload_n 0, 1) := by decide +kernel
theorem d_jdk_42_method_85_9 : decode jdk_42_method_85_code 9 = .ok (.invokevirtual 505, 3) := by decide +kernel
theorem d_jdk_42_method_85_12 : decode jdk_42_method_85_code 12 = .ok (.aload_n 1, 1) := by decide +kernel
theorem d_jdk_42_method_85_13 : decode jdk_42_method_85_code 13 = .ok (.iload_n 2, 1) := by decide +kernel
theorem d_jdk_42_method_85_14 : decode jdk_42_method_85_code 14 = .ok (.invokestatic 653, 3) := by decide +kernel
theorem d_jdk_42_method_85_17 : decode jdk_42_method_85_code 17 = .ok (.ireturn, 1) := by decide +kernel
theorem d_prog_1_method_3_0 : decode prog_1_method_3_code 0 = .ok (.aload_n 0, 1) := by decide +kernel
theorem d_prog_1_method_3_1 : decode prog_1_method_3_code 1 = .ok (.bipush 123, 2) := by decide +kernel
theorem d_prog_1_method_3_3 : decode prog_1_method_3_code 3 = .ok (.iload_n 1, 1) := by decide +kernel
theorem d_prog_1_method_3_4 : decode prog_1_method_3_code 4 = .ok (.invokevirtual 56, 3) := by decide +kernel
theorem d_prog_1_method_3_7 : decode prog_1_method_3_code 7 = .ok (.istore_n 2, 1) := by decide +kernel
theorem d_prog_1_method_3_8 : decode prog_1_method_3_code 8 = .ok (.iload_n 2, 1) := by decide +kernel
theorem d_prog_1_method_3_9 : decode prog_1_method_3_code 9 = .ok (.ifCond .lt 13, 3) := by decide +kernel
theorem d_prog_1_method_3_22 : decode prog_1_method_3_code 22 = .ok (.iconst (-1), 1) := by decide +kernel
theorem d_prog_1_method_3_23 : decode prog_1_method_3_code 23 = .ok (.ireturn, 1) := by decide +kernel
theorem d_prog_1_method_3_12 : decode prog_1_method_3_code 12 = .ok (.iload_n 2, 1) := by decide +kernel
theorem d_prog_1_method_3_13 : decode prog_1_method_3_code 13 = .ok (.aload_n 0, 1) := by decide +kernel
theorem d_prog_1_method_3_14 : decode prog_1_method_3_code 14 = .ok (.invokevirtual 12, 3) := by decide +kernel
theorem d_prog_1_method_3_17 : decode prog_1_method_3_code 17 = .ok (.iconst 1, 1) := by decide +kernel
theorem d_prog_1_method_3_18 : decode prog_1_method_3_code 18 = .ok (.isub, 1) := by decide +kernel
theorem d_prog_1_method_3_19 : decode prog_1_method_3_code 19 = .ok (.if_icmp .ne 5, 3) := by decide +kernel
theorem d_prog_1_method_3_24 : decode prog_1_method_3_code 24 = .ok (.aload_n 0, 1) := by decide +kernel
theorem d_prog_1_method_3_25 : decode prog_1_method_3_code 25 = .ok (.iload_n 2, 1) := by decide +kernel
theorem d_prog_1_method_3_26 : decode prog_1_method_3_code 26 = .ok (.iconst 1, 1) := by decide +kernel
theorem d_prog_1_method_3_27 : decode prog_1_method_3_code 27 = .ok (.iadd, 1) := by decide +kernel
theorem d_prog_1_method_3_28 : decode prog_1_method_3_code 28 = .ok (.invokevirtual 60, 3) := by decide +kernel
theorem d_prog_1_method_3_31 : decode prog_1_method_3_code 31 = .ok (.bipush 125, 2) := by decide +kernel
theorem d_prog_1_method_3_33 : decode prog_1_method_3_code 33 = .ok (.if_icmp .ne 7, 3) := by decide +kernel
theorem d_prog_1_method_3_36 : decode prog_1_method_3_code 36 = .ok (.iload_n 2, 1) := by decide +kernel
theorem d_prog_1_method_3_37 : decode prog_1_method_3_code 37 = .ok (.goto 12, 3) := by decide +kernel
theorem d_prog_1_method_3_49 : decode prog_1_method_3_code 49 = .ok (.ireturn, 1) := by decide +kernel
theorem d_prog_1_method_3_40 : decode prog_1_method_3_code 40 = .ok (.aload_n 0, 1) := by decide +kernel
theorem d_prog_1_method_3_41 : decode prog_1_method_3_code 41 = .ok (.ldc 44, 2) := by decide +kernel
theorem d_prog_1_method_3_43 : decode prog_1_method_3_code 43 = .ok (.iload_n 2, 1) := by decide +kernel
theorem d_prog_1_method_3_44 : decode prog_1_method_3_code 44 = .ok (.iconst 1, 1) := by decide +kernel
theorem d_prog_1_method_3_45 : decode prog_1_method_3_code 45 = .ok (.iadd, 1) := by decide +kernel
theorem d_prog_1_method_3_46 : decode prog_1_method_3_code 46 = .ok (.invokevirtual 64, 3) := by decide +kernel
theorem d_method_2_0 : decode method_2_code 0 = .ok (.lload_n 0, 1) := by decide +kernel
theorem d_method_2_1 : decode method_2_code 1 = .ok (.bipush 10, 2) := by decide +kernel
theorem d_method_2_3 : decode method_2_code 3 = .ok (.iload_n 2, 1) := by decide +kernel
theorem d_method_2_4 : decode method_2_code 4 = .ok (.imul, 1) := by decide +kernel
theorem d_method_2_5 : decode method_2_code 5 = .ok (.lushr, 1) := by decide +kernel
theorem d_method_2_6 : decode method_2_code 6 = .ok (.ldc2_w 7, 3) := by decide +kernel
theorem d_method_2_9 : decode method_2_code 9 = .ok (.land, 1) := by decide +kernel
theorem d_method_2_10 : decode method_2_code 10 = .ok (.lstore_n 3, 1) := by decide +kernel
theorem d_method_2_11 : decode method_2_code 11 = .ok (.lload_n 3, 1) := by decide +kernel
theorem d_method_2_12 : decode method_2_code 12 = .ok (.ldc2_w 9, 3) := by decide +kernel
theorem d_method_2_15 : decode method_2_code 15 = .ok (.land, 1) := by decide +kernel
theorem d_method_2_16 : decode method_2_code 16 = .ok (.l2i, 1) := by decide +kernel
theorem d_method_2_17 : decode method_2_code 17 = .ok (.istore 5, 2) := by decide +kernel
theorem d_method_2_19 : decode method_2_code 19 = .ok (.iload 5, 2) := by decide +kernel
theorem d_method_2_21 : decode method_2_code 21 = .ok (.ifCond .ne 6, 3) := by decide +kernel
theorem d_method_2_24 : decode method_2_code 24 = .ok (.bipush 123, 2) := by decide +kernel
theorem d_method_2_26 : decode method_2_code 26 = .ok (.ireturn, 1) := by decide +kernel
theorem d_method_2_27 : decode method_2_code 27 = .ok (.iload 5, 2) := by decide +kernel
theorem d_method_2_29 : decode method_2_code 29 = .ok (.iconst 1, 1) := by decide +kernel
theorem d_method_2_30 : decode method_2_code 30 = .ok (.if_icmp .ne 6, 3) := by decide +kernel
theorem d_method_2_33 : decode method_2_code 33 = .ok (.bipush 125, 2) := by decide +kernel
theorem d_method_2_35 : decode method_2_code 35 = .ok (.ireturn, 1) := by decide +kernel
theorem d_method_2_36 : decode method_2_code 36 = .ok (.lload_n 3, 1) := by decide +kernel
theorem d_method_2_37 : decode method_2_code 37 = .ok (.iconst 2, 1) := by decide +kernel
theorem d_method_2_38 : decode method_2_code 38 = .ok (.lushr, 1) := by decide +kernel
theorem d_method_2_39 : decode method_2_code 39 = .ok (.ldc2_w 11, 3) := by decide +kernel
theorem d_method_2_42 : decode method_2_code 42 = .ok (.land, 1) := by decide +kernel
theorem d_method_2_43 : decode method_2_code 43 = .ok (.l2i, 1) := by decide +kernel
theorem d_method_2_44 : decode method_2_code 44 = .ok (.i2c, 1) := by decide +kernel
theorem d_method_2_45 : decode method_2_code 45 = .ok (.ireturn, 1) := by decide +kernel
theorem d_method_3_0 : decode method_3_code 0 = .ok (.iload_n 3, 1) := by decide +kernel
theorem d_method_3_1 : decode method_3_code 1 = .ok (.iconst 1, 1) := by decide +kernel
theorem d_method_3_2 : decode method_3_code 2 = .ok (.iadd, 1) := by decide +kernel
theorem d_method_3_3 : decode method_3_code 3 = .ok (.iload_n 1, 1) := by decide +kernel
theorem d_method_3_4 : decode method_3_code 4 = .ok (.if_icmp .ge 30, 3) := by decide +kernel
theorem d_method_3_7 : decode method_3_code 7 = .ok (.iload_n 3, 1) := by decide +kernel
theorem d_method_3_8 : decode method_3_code 8 = .ok (.iload_n 2, 1) := by decide +kernel
theorem d_method_3_9 : decode method_3_code 9 = .ok (.if_icmp .lt 25, 3) := by decide +kernel
theorem d_method_3_34 : decode method_3_code 34 = .ok (.iconst 0, 1) := by decide +kernel
theorem d_method_3_35 : decode method_3_code 35 = .ok (.ireturn, 1) := by decide +kernel
theorem d_method_3_12 : decode method_3_code 12 = .ok (.aload_n 0, 1) := by decide +kernel
theorem d_method_3_13 : decode method_3_code 13 = .ok (.iload_n 3, 1) := by decide +kernel
theorem d_method_3_14 : decode method_3_code 14 = .ok (.caload, 1) := by decide +kernel
theorem d_method_3_15 : decode method_3_code 15 = .ok (.bipush 123, 2) := by decide +kernel
theorem d_method_3_17 : decode method_3_code 17 = .ok (.if_icmp .ne 17, 3) := by decide +kernel
theorem d_method_3_20 : decode method_3_code 20 = .ok (.aload_n 0, 1) := by decide +kernel
theorem d_method_3_21 : decode method_3_code 21 = .ok (.iload_n 3, 1) := by decide +kernel
theorem d_method_3_22 : decode method_3_code 22 = .ok (.iconst 1, 1) := by decide +kernel
theorem d_method_3_23 : decode method_3_code 23 = .ok (.iadd, 1) := by decide +kernel
theorem d_method_3_24 : decode method_3_code 24 = .ok (.caload, 1) := by decide +kernel
theorem d_method_3_25 : decode method_3_code 25 = .ok (.bipush 125, 2) := by decide +kernel
theorem d_method_3_27 : decode method_3_code 27 = .ok (.if_icmp .ne 7, 3) := by decide +kernel
theorem d_method_3_30 : decode method_3_code 30 = .ok (.iconst 1, 1) := by decide +kernel
theorem d_method_3_31 : decode method_3_code 31 = .ok (.goto 4, 3) := by decide +kernel
theorem d_method_4_0 : decode method_4_code 0 = .ok (.iload_n 0, 1) := by decide +kernel
theorem d_method_4_1 : decode method_4_code 1 = .ok (.ifCond .ne 14, 3) := by decide +kernel
theorem d_method_4_4 : decode method_4_code 4 = .ok (.new 13, 3) := by decide +kernel
theorem d_method_4_7 : decode method_4_code 7 = .ok (.dup, 1) := by decide +kernel
theorem d_method_4_8 : decode method_4_code 8 = .ok (.iconst 0, 1) := by decide +kernel
theorem d_method_4_9 : decode method_4_code 9 = .ok (.newarray .char, 2) := by decide +kernel
theorem d_method_4_11 : decode method_4_code 11 = .ok (.invokespecial 15, 3) := by decide +kernel
theorem d_method_4_14 : decode method_4_code 14 = .ok (.areturn, 1) := by decide +kernel
theorem d_method_4_15 : decode method_4_code 15 = .ok (.iload_n 0, 1) := by decide +kernel
theorem d_method_4_16 : decode method_4_code 16 = .ok (.iconst 1, 1) := by decide +kernel
theorem d_method_4_17 : decode method_4_code 17 = .ok (.if_icmp .ne 20, 3) := by decide +kernel
theorem d_method_4_20 : decode method_4_code 20 = .ok (.new 13, 3) := by decide +kernel
theorem d_method_4_23 : decode method_4_code 23 = .ok (.dup, 1) := by decide +kernel
theorem d_method_4_24 : decode method_4_code 24 = .ok (.iconst 1, 1) := by decide +kernel
theorem d_method_4_25 : decode method_4_code 25 = .ok (.newarray .char, 2) := by decide +kernel
theorem d_method_4_27 : decode method_4_code 27 = .ok (.dup, 1) := by decide +kernel
theorem d_method_4_28 : decode method_4_code 28 = .ok (.iconst 0, 1) := by decide +kernel
theorem d_method_4_29 : decode method_4_code 29 = .ok (.aload_n 1, 1) := by decide +kernel
theorem d_method_4_30 : decode method_4_code 30 = .ok (.iconst 0, 1) := by decide +kernel
theorem d_method_4_31 : decode method_4_code 31 = .ok (.caload, 1) := by decide +kernel
theorem d_method_4_32 : decode method_4_code 32 = .ok (.castore, 1) := by decide +kernel
theorem d_method_4_33 : decode method_4_code 33 = .ok (.invokespecial 15, 3) := by decide +kernel
theorem d_method_4_36 : decode method_4_code 36 = .ok (.areturn, 1) := by decide +kernel
theorem d_method_4_37 : decode method_4_code 37 = .ok (.iload_n 0, 1) := by decide +kernel
theorem d_method_4_38 : decode method_4_code 38 = .ok (.iconst 2, 1) := by decide +kernel
theorem d_method_4_39 : decode method_4_code 39 = .ok (.if_icmp .ne 26, 3) := by decide +kernel
theorem d_method_4_42 : decode method_4_code 42 = .ok (.new 13, 3) := by decide +kernel
theorem d_method_4_45 : decode method_4_code 45 = .ok (.dup, 1) := by decide +kernel
theorem d_method_4_46 : decode method_4_code 46 = .ok (.iconst 2, 1) := by decide +kernel
theorem d_method_4_47 : decode method_4_code 47 = .ok (.newarray .char, 2) := by decide +kernel
theorem d_method_4_49 : decode method_4_code 49 = .ok (.dup, 1) := by decide +kernel
theorem d_method_4_50 : decode method_4_code 50 = .ok (.iconst 0, 1) := by decide +kernel
theorem d_method_4_51 : decode method_4_code 51 = .ok (.aload_n 1, 1) := by decide +kernel
theorem d_method_4_52 : decode method_4_code 52 = .ok (.iconst 0, 1) := by decide +kernel
theorem d_method_4_53 : decode method_4_code 53 = .ok (.caload, 1) := by decide +kernel
theorem d_method_4_54 : decode method_4_code 54 = .ok (.castore, 1) := by decide +kernel
theorem d_method_4_55 : decode method_4_code 55 = .ok (.dup, 1) := by decide +kernel
theorem d_method_4_56 : decode method_4_code 56 = .ok (.iconst 1, 1) := by decide +kernel
theorem d_method_4_57 : decode method_4_code 57 = .ok (.aload_n 1, 1) := by decide +kernel
theorem d_method_4_58 : decode method_4_code 58 = .ok (.iconst 1, 1) := by decide +kernel
theorem d_method_4_59 : decode method_4_code 59 = .ok (.caload, 1) := by decide +kernel
theorem d_method_4_60 : decode method_4_code 60 = .ok (.castore, 1) := by decide +kernel
theorem d_method_4_61 : decode method_4_code 61 = .ok (.invokespecial 15, 3) := by decide +kernel
theorem d_method_4_64 : decode method_4_code 64 = .ok (.areturn, 1) := by decide +kernel
theorem d_method_4_65 : decode method_4_code 65 = .ok (.iload_n 0, 1) := by decide +kernel
theorem d_method_4_66 : decode method_4_code 66 = .ok (.iconst 3, 1) := by decide +kernel
theorem d_method_4_67 : decode method_4_code 67 = .ok (.if_icmp .ne 32, 3) := by decide +kernel
theorem d_method_4_70 : decode method_4_code 70 = .ok (.new 13, 3) := by decide +kernel
theorem d_method_4_73 : decode method_4_code 73 = .ok (.dup, 1) := by decide +kernel
theorem d_method_4_74 : decode method_4_code 74 = .ok (.iconst 3, 1) := by decide +kernel
theorem d_method_4_75 : decode method_4_code 75 = .ok (.newarray .char, 2) := by decide +kernel
theorem d_method_4_77 : decode method_4_code 77 = .ok (.dup, 1) := by decide +kernel
theorem d_method_4_78 : decode method_4_code 78 = .ok (.iconst 0, 1) := by decide +kernel
theorem d_method_4_79 : decode method_4_code 79 = .ok (.aload_n 1, 1) := by decide +kernel
theorem d_method_4_80 : decode method_4_code 80 = .ok (.iconst 0, 1) := by decide +kernel
theorem d_method_4_81 : decode method_4_code 81 = .ok (.caload, 1) := by decide +kernel
theorem d_method_4_82 : decode method_4_code 82 = .ok (.castore, 1) := by decide +kernel
theorem d_method_4_83 : decode method_4_code 83 = .ok (.dup, 1) := by decide +kernel
theorem d_method_4_84 : decode method_4_code 84 = .ok (.iconst 1, 1) := by decide +kernel
theorem d_method_4_85 : decode method_4_code 85 = .ok (.aload_n 1, 1) := by decide +kernel
theorem d_method_4_86 : decode method_4_code 86 = .ok (.iconst 1, 1) := by decide +kernel
theorem d_method_4_87 : decode method_4_code 87 = .ok (.caload, 1) := by decide +kernel
theorem d_method_4_88 : decode method_4_code 88 = .ok (.castore, 1) := by decide +kernel
theorem d_method_4_89 : decode method_4_code 89 = .ok (.dup, 1) := by decide +kernel
theorem d_method_4_90 : decode method_4_code 90 = .ok (.iconst 2, 1) := by decide +kernel
theorem d_method_4_91 : decode method_4_code 91 = .ok (.aload_n 1, 1) := by decide +kernel
theorem d_method_4_92 : decode method_4_code 92 = .ok (.iconst 2, 1) := by decide +kernel
theorem d_method_4_93 : decode method_4_code 93 = .ok (.caload, 1) := by decide +kernel
theorem d_method_4_94 : decode method_4_code 94 = .ok (.castore, 1) := by decide +kernel
theorem d_method_4_95 : decode method_4_code 95 = .ok (.invokespecial 15, 3) := by decide +kernel
theorem d_method_4_98 : decode method_4_code 98 = .ok (.areturn, 1) := by decide +kernel
theorem d_method_4_99 : decode method_4_code 99 = .ok (.iload_n 0, 1) := by decide +kernel
theorem d_method_4_100 : decode method_4_code 100 = .ok (.iconst 4, 1) := by decide +kernel
theorem d_method_4_101 : decode method_4_code 101 = .ok (.if_icmp .ne 38, 3) := by decide +kernel
theorem d_method_4_104 : decode method_4_code 104 = .ok (.new 13, 3) := by decide +kernel
theorem d_method_4_107 : decode method_4_code 107 = .ok (.dup, 1) := by decide +kernel
theorem d_method_4_108 : decode method_4_code 108 = .ok (.iconst 4, 1) := by decide +kernel
theorem d_method_4_109 : decode method_4_code 109 = .ok (.newarray .char, 2) := by decide +kernel
theorem d_method_4_111 : decode method_4_code 111 = .ok (.dup, 1) := by decide +kernel
theorem d_method_4_112 : decode method_4_code 112 = .ok (.iconst 0, 1) := by decide +kernel
theorem d_method_4_113 : decode method_4_code 113 = .ok (.aload_n 1, 1) := by decide +kernel
theorem d_method_4_114 : decode method_4_code 114 = .ok (.iconst 0, 1) := by decide +kernel
theorem d_method_4_115 : decode method_4_code 115 = .ok (.caload, 1) := by decide +kernel
theorem d_method_4_116 : decode method_4_code 116 = .ok (.castore, 1) := by decide +kernel
theorem d_method_4_117 : decode method_4_code 117 = .ok (.dup, 1) := by decide +kernel
theorem d_method_4_118 : decode method_4_code 118 = .ok (.iconst 1, 1) := by decide +kernel
theorem d_method_4_119 : decode method_4_code 119 = .ok (.aload_n 1, 1) := by decide +kernel
theorem d_method_4_120 : decode method_4_code 120 = .ok (.iconst 1, 1) := by decide +kernel
theorem d_method_4_121 : decode method_4_code 121 = .ok (.caload, 1) := by decide +kernel
theorem d_method_4_122 : decode method_4_code 122 = .ok (.castore, 1) := by decide +kernel
theorem d_method_4_123 : decode method_4_code 123 = .ok (.dup, 1) := by decide +kernel
theorem d_method_4_124 : decode method_4_code 124 = .ok (.iconst 2, 1) := by decide +kernel
theorem d_method_4_125 : decode method_4_code 125 = .ok (.aload_n 1, 1) := by decide +kernel
theorem d_method_4_126 : decode method_4_code 126 = .ok (.iconst 2, 1) := by decide +kernel
theorem d_method_4_127 : decode method_4_code 127 = .ok (.caload, 1) := by decide +kernel
theorem d_method_4_128 : decode method_4_code 128 = .ok (.castore, 1) := by decide +kernel
theorem d_method_4_129 : decode method_4_code 129 = .ok (.dup, 1) := by decide +kernel
theorem d_method_4_130 : decode method_4_code 130 = .ok (.iconst 3, 1) := by decide +kernel
theorem d_method_4_131 : decode method_4_code 131 = .ok (.aload_n 1, 1) := by decide +kernel
theorem d_method_4_132 : decode method_4_code 132 = .ok (.iconst 3, 1) := by decide +kernel
theorem d_method_4_133 : decode method_4_code 133 = .ok (.caload, 1) := by decide +kernel
theorem d_method_4_134 : decode method_4_code 134 = .ok (.castore, 1) := by decide +kernel
theorem d_method_4_135 : decode method_4_code 135 = .ok (.invokespecial 15, 3) := by decide +kernel
theorem d_method_4_138 : decode method_4_code 138 = .ok (.areturn, 1) := by decide +kernel
theorem d_method_4_139 : decode method_4_code 139 = .ok (.new 13, 3) := by decide +kernel
theorem d_method_4_142 : decode method_4_code 142 = .ok (.dup, 1) := by decide +kernel
theorem d_method_4_143 : decode method_4_code 143 = .ok (.iconst 5, 1) := by decide +kernel
theorem d_method_4_144 : decode method_4_code 144 = .ok (.newarray .char, 2) := by decide +kernel
theorem d_method_4_146 : decode method_4_code 146 = .ok (.dup, 1) := by decide +kernel
theorem d_method_4_147 : decode method_4_code 147 = .ok (.iconst 0, 1) := by decide +kernel
theorem d_method_4_148 : decode method_4_code 148 = .ok (.aload_n 1, 1) := by decide +kernel
theorem d_method_4_149 : decode method_4_code 149 = .ok (.iconst 0, 1) := by decide +kernel
theorem d_method_4_150 : decode method_4_code 150 = .ok (.caload, 1) := by decide +kernel
theorem d_method_4_151 : decode method_4_code 151 = .ok (.castore, 1) := by decide +kernel
theorem d_method_4_152 : decode method_4_code 152 = .ok (.dup, 1) := by decide +kernel
theorem d_method_4_153 : decode method_4_code 153 = .ok (.iconst 1, 1) := by decide +kernel
theorem d_method_4_154 : decode method_4_code 154 = .ok (.aload_n 1, 1) := by decide +kernel
theorem d_method_4_155 : decode method_4_code 155 = .ok (.iconst 1, 1) := by decide +kernel
theorem d_method_4_156 : decode method_4_code 156 = .ok (.caload, 1) := by decide +kernel
theorem d_method_4_157 : decode method_4_code 157 = .ok (.castore, 1) := by decide +kernel
theorem d_method_4_158 : decode method_4_code 158 = .ok (.dup, 1) := by decide +kernel
theorem d_method_4_159 : decode method_4_code 159 = .ok (.iconst 2, 1) := by decide +kernel
theorem d_method_4_160 : decode method_4_code 160 = .ok (.aload_n 1, 1) := by decide +kernel
theorem d_method_4_161 : decode method_4_code 161 = .ok (.iconst 2, 1) := by decide +kernel
theorem d_method_4_162 : decode method_4_code 162 = .ok (.caload, 1) := by decide +kernel
theorem d_method_4_163 : decode method_4_code 163 = .ok (.castore, 1) := by decide +kernel
theorem d_method_4_164 : decode method_4_code 164 = .ok (.dup, 1) := by decide +kernel
theorem d_method_4_165 : decode method_4_code 165 = .ok (.iconst 3, 1) := by decide +kernel
theorem d_method_4_166 : decode method_4_code 166 = .ok (.aload_n 1, 1) := by decide +kernel
theorem d_method_4_167 : decode method_4_code 167 = .ok (.iconst 3, 1) := by decide +kernel
theorem d_method_4_168 : decode method_4_code 168 = .ok (.caload, 1) := by decide +kernel
theorem d_method_4_169 : decode method_4_code 169 = .ok (.castore, 1) := by decide +kernel
theorem d_method_4_170 : decode method_4_code 170 = .ok (.dup, 1) := by decide +kernel
theorem d_method_4_171 : decode method_4_code 171 = .ok (.iconst 4, 1) := by decide +kernel
theorem d_method_4_172 : decode method_4_code 172 = .ok (.aload_n 1, 1) := by decide +kernel
theorem d_method_4_173 : decode method_4_code 173 = .ok (.iconst 4, 1) := by decide +kernel
theorem d_method_4_174 : decode method_4_code 174 = .ok (.caload, 1) := by decide +kernel
theorem d_method_4_175 : decode method_4_code 175 = .ok (.castore, 1) := by decide +kernel
theorem d_method_4_176 : decode method_4_code 176 = .ok (.invokespecial 15, 3) := by decide +kernel
theorem d_method_4_179 : decode method_4_code 179 = .ok (.areturn, 1) := by decide +kernel
theorem pd0 : parseMethodDescriptor "([CIILjava/lang/Void;)V" = some ⟨[(.array .char), .int, .int, (.object "java/lang/Void")], none⟩ := by decide +kernel
theorem pd1 : parseMethodDescriptor "(I)Z" = some ⟨[.int], some .boolean⟩ := by decide +kernel
theorem pd2 : parseMethodDescriptor "(II)I" = some ⟨[.int, .int], some .int⟩ := by decide +kernel
theorem pd3 : parseMethodDescriptor "([BIII)I" = some ⟨[(.array .byte), .int, .int, .int], some .int⟩ := by decide +kernel
theorem pd4 : parseMethodDescriptor "()Z" = some ⟨[], some .boolean⟩ := by decide +kernel
theorem pd5 : parseMethodDescriptor "(JJ)J" = some ⟨[.long, .long], some .long⟩ := by decide +kernel
theorem pd6 : parseMethodDescriptor "(JII)I" = some ⟨[.long, .int, .int], some .int⟩ := by decide +kernel
theorem pd7 : parseMethodDescriptor "()B" = some ⟨[], some .byte⟩ := by decide +kernel
theorem pd8 : parseMethodDescriptor "([BI[BII)I" = some ⟨[(.array .byte), .int, (.array .byte), .int, .int], some .int⟩ := by decide +kernel
theorem pd9 : parseMethodDescriptor "([BBILjava/lang/String;I)I" = some ⟨[(.array .byte), .byte, .int, (.object "java/lang/String"), .int], some .int⟩ := by decide +kernel
theorem pd10 : parseMethodDescriptor "(Ljava/lang/String;I)I" = some ⟨[(.object "java/lang/String"), .int], some .int⟩ := by decide +kernel
theorem pd11 : parseMethodDescriptor "([C)V" = some ⟨[(.array .char)], none⟩ := by decide +kernel
theorem pd12 : parseMethodDescriptor "(JI)C" = some ⟨[.long, .int], some .char⟩ := by decide +kernel
theorem pd13 : parseMethodDescriptor "(I[C)Ljava/lang/String;" = some ⟨[.int, (.array .char)], some (.object "java/lang/String")⟩ := by decide +kernel
theorem pd14 : parseMethodDescriptor "([CIII)Z" = some ⟨[(.array .char), .int, .int, .int], some .boolean⟩ := by decide +kernel
/-- small naturals as ints -/
theorem n_toInt {n : Nat} (h : n < 2147483648) : (Int32.ofNat n).toInt = n := Int32.toInt_ofNat_small (by omega)
theorem n_nat {n : Nat} (h : n < 2147483648) : (Int32.ofNat n).toNatClampNeg = n := by
  rw [Int32.toNatClampNeg, n_toInt h]; rfl
theorem n_add (a b : Nat) : Int32.ofNat a + Int32.ofNat b = Int32.ofNat (a + b) := (Int32.ofNat_add a b).symm
theorem n_sub {a b : Nat} (h : b ≤ a) : Int32.ofNat a - Int32.ofNat b = Int32.ofNat (a - b) := by
  have e := n_add (a - b) b
  rw [Nat.sub_add_cancel h] at e
  rw [← e, Int32.add_sub_cancel]
theorem n_lt {a b : Nat} (ha : a < 2147483648) (hb : b < 2147483648) : Int32.ofNat a < Int32.ofNat b ↔ a < b := by
  rw [Int32.lt_iff_toInt_lt, n_toInt ha, n_toInt hb]; omega
theorem n_eq {a b : Nat} (ha : a < 2147483648) (hb : b < 2147483648) : Int32.ofNat a = Int32.ofNat b ↔ a = b := by
  rw [← Int32.toInt_inj, n_toInt ha, n_toInt hb]; omega
theorem n_in {i n : Nat} (hi : i < n) (hn : n < 2147483648) : ¬ Int32.ofNat i < 0 ∧ Int32.ofNat i < Int32.ofNat n :=
  ⟨fun q => by rw [show (0 : Int32) = Int32.ofNat 0 from rfl, n_lt (by omega) (by omega)] at q; omega, (n_lt (by omega) hn).mpr hi⟩
theorem n_neg {i : Nat} (h : i < 2147483648) : ¬ Int32.ofNat i < 0 := fun q => by
  rw [show (0 : Int32) = Int32.ofNat 0 from rfl, n_lt h (by omega)] at q; omega
theorem n_get {cs : List Int32} {f : Int32 → Int32} {d : Value} {i : Nat} (h : i < cs.length) (hs : cs.length < 2147483648) : ((cs.map f).map Value.int).getD (Int32.ofNat i).toNatClampNeg d = .int (f (cs.getD i 0)) := by
  rw [n_nat (by omega)]
  simp [List.getD_eq_getElem?_getD, h]
theorem n_of {x : Int32} (h : ¬ x < 0) : ∃ n : Nat, n < 2147483648 ∧ x = Int32.ofNat n := by
  rw [Int32.lt_iff_toInt_lt] at h
  have e0 : (0 : Int32).toInt = 0 := rfl
  have b := x.toInt_lt
  refine ⟨x.toInt.toNat, by omega, ?_⟩
  rw [← Int32.toInt_inj, n_toInt (by omega)]
  omega
theorem n_shr0 (x : Int32) : x >>> ((0 : Int32) &&& 31) = x := by
  have e : ((0 : Int32) &&& 31) = 0 := by decide
  rw [e]
  apply Int32.toBitVec_inj.mp
  rw [Int32.toBitVec_shiftRight]
  have e1 : ((0 : Int32).toBitVec.smod 32) = 0#32 := by decide
  rw [e1, BitVec.sshiftRight_eq']
  exact BitVec.sshiftRight_zero
theorem hwns {a0 : Array Value} {Z : State} (hw : W a0 Z) : ∀ d ∈ StrChars.Road.words, d.before a0 Z = true := fun d hd => hw d ((by decide +kernel : ∀ d ∈ StrChars.Road.words, d ∈ tables_1) d hd)
theorem hwln {a0 : Array Value} {Z : State} (hw : W a0 Z) : ∀ d ∈ StrChars.Road.wordsLen, d.before a0 Z = true := fun d hd => hw d ((by decide +kernel : ∀ d ∈ StrChars.Road.wordsLen, d ∈ tables_1) d hd)
theorem hwch {a0 : Array Value} {Z : State} (hw : W a0 Z) : ∀ d ∈ StrChars.Road.wordsChN, d.before a0 Z = true := fun d hd => hw d ((by decide +kernel : ∀ d ∈ StrChars.Road.wordsChN, d ∈ tables_1) d hd)
theorem wS0 {a0 : Array Value} {Z : State} (hw : W a0 Z) : ∀ d ∈ Bundle.stringAtoms, d.before a0 Z = true := fun d hd => hw d ((by decide +kernel : ∀ d ∈ Bundle.stringAtoms, d ∈ tables_1) d hd)
/-- r is the first place from i on, below n, at which P holds; -1 where there is none -/
def Fst (P : Nat → Prop) (i n : Nat) (r : Int32) : Prop := (r = -1 ∧ ∀ j, i ≤ j → j < n → ¬ P j) ∨ ∃ j, i ≤ j ∧ j < n ∧ P j ∧ r = Int32.ofNat j ∧ ∀ j', i ≤ j' → j' < j → ¬ P j'
def PA (cs : List Int32) (j : Nat) : Prop := j + 1 < cs.length ∧ cs.getD j 0 = 123 ∧ cs.getD (j + 1) 0 = 125
theorem own_uniq {P : Nat → Prop} {i n : Nat} {r e : Int32} (H : Fst P i n r) (G : Fst P i n e) : r = e := by
  rcases H with ⟨rfl, h⟩ | ⟨j, h1, h2, h3, rfl, h4⟩ <;> rcases G with ⟨rfl, g⟩ | ⟨j', g1, g2, g3, rfl, g4⟩
  · rfl
  · exact absurd g3 (h j' g1 g2)
  · exact absurd h3 (g j h1 h2)
  · rcases Nat.lt_trichotomy j j' with q | q | q
    · exact absurd h3 (g4 j h1 q)
    · rw [q]
    · exact absurd g3 (h4 j' g1 q)
theorem own_b8 {cs : List Int32} {i : Nat} {k : Int32} (hlat : ∀ c ∈ cs, ¬ c < 0 ∧ ¬ (255 : Int32) < c) (k0 : ¬ k < 0) (k1 : ¬ (127 : Int32) < k) : (cs.getD i 0).toInt8.toInt32 = k ↔ cs.getD i 0 = k := by
  have hr : ¬ cs.getD i 0 < 0 ∧ ¬ (255 : Int32) < cs.getD i 0 := by
    by_cases h : i < cs.length
    · have e : cs.getD i 0 = cs[i] := by simp [List.getD_eq_getElem?_getD, h]
      rw [e]; exact hlat _ (List.getElem_mem h)
    · have e : cs.getD i 0 = 0 := by simp [List.getD_eq_getElem?_getD, List.getElem?_eq_none (Nat.le_of_not_lt h)]
      rw [e]; decide
  obtain ⟨h1, h2⟩ := hr
  have m := c_i2b (cs.getD i 0)
  rw [Int32.lt_iff_toInt_lt] at h1 h2 k0 k1
  have e0 : (0 : Int32).toInt = 0 := rfl
  have e1 : (255 : Int32).toInt = 255 := rfl
  have e2 : (127 : Int32).toInt = 127 := rfl
  rw [← Int32.toInt_inj, ← Int32.toInt_inj]
  omega
theorem own_clamp {fr f1 : Int32} (h : (if fr < 0 then (0 : Int32) else fr) = f1) : ∃ f2 : Nat, f2 < 2147483648 ∧ f1 = Int32.ofNat f2 ∧ f2 = fr.toNatClampNeg := by
  by_cases q : fr < 0
  · rw [if_pos q] at h
    subst h
    refine ⟨0, by omega, rfl, ?_⟩
    rw [Int32.lt_iff_toInt_lt] at q
    have e0 : (0 : Int32).toInt = 0 := rfl
    rw [Int32.toNatClampNeg]; omega
  · rw [if_neg q] at h
    subst h
    obtain ⟨n, h1, rfl⟩ := n_of q
    exact ⟨n, h1, rfl, (n_nat h1).symm⟩
theorem own_clampJ {x : Int64} {n f : Nat} (hf : f ≤ n) (hx : x = (Int32.ofNat f).toInt64) (hn : n ≤ 4000 := by assumption) : (if (if x < (0 : Int64) then (0 : Int64) else x) < (Int32.ofNat n).toInt64 then (if x < (0 : Int64) then (0 : Int64) else x) else (Int32.ofNat n).toInt64).toInt32 = Int32.ofNat f := by
  subst hx
  have a := c_i2l (Int32.ofNat f)
  have b := c_i2l (Int32.ofNat n)
  rw [n_toInt (by omega)] at a b
  have e0 : (0 : Int64).toInt = 0 := rfl
  have q : ¬ (Int32.ofNat f).toInt64 < (0 : Int64) := by rw [Int64.lt_iff_toInt_lt]; omega
  rw [if_neg q]
  have back : ∀ k : Nat, (Int32.ofNat k).toInt64.toInt32 = Int32.ofNat k := fun k => Int32.toInt32_toInt64 _
  split
  · exact back f
  · rename_i h
    rw [Int64.lt_iff_toInt_lt] at h
    have : f = n := by omega
    rw [this]; exact back n
theorem own_2a {cs : List Int32} {f : Nat} (hN : cs.length ≤ 4000) (hf : f ≤ cs.length) (h : ¬ (Int32.ofNat (cs.length - f) < (2 : Int32))) : 2 ≤ cs.length := by
  rw [show (2 : Int32) = Int32.ofNat 2 from rfl, n_lt (by omega) (by omega)] at h; omega
theorem own_2b {cs : List Int32} {f : Nat} (hN : cs.length ≤ 4000) (hf : f ≤ cs.length) (h : ¬ (Int32.ofNat (cs.length - f) < (2 : Int32))) : f ≤ cs.length - 1 := by
  rw [show (2 : Int32) = Int32.ofNat 2 from rfl, n_lt (by omega) (by omega)] at h; omega
theorem own_2c {cs : List Int32} {f j : Nat} (hN : cs.length ≤ 4000) (hf : f ≤ cs.length) (h : Int32.ofNat (cs.length - f) < (2 : Int32)) (a : f ≤ j) : ¬ j + 1 < cs.length := by
  rw [show (2 : Int32) = Int32.ofNat 2 from rfl, n_lt (by omega) (by omega)] at h; omega
theorem own_last {cs : List Int32} {f j : Nat} (h4 : ∀ j', f ≤ j' → j' < j → ¬ cs.getD j' 0 = 123) (h : j = cs.length - 1) : ∀ k, f ≤ k → k < cs.length → ¬ PA cs k := by
  intro k a b q
  have := q.1
  exact h4 k a (by omega) q.2.1
theorem own_more {cs : List Int32} {f j : Nat} {r : Int32} (H : Fst (PA cs) (j + 1) cs.length r) (h4 : ∀ j', f ≤ j' → j' < j → ¬ cs.getD j' 0 = 123) (h : ¬ cs.getD (j + 1) 0 = 125) (hfj : f ≤ j := by assumption) : Fst (PA cs) f cs.length r := by
  have low : ∀ k, f ≤ k → k < j + 1 → ¬ PA cs k := fun k a b q => by
    rcases Nat.lt_or_ge k j with c | c
    · exact h4 k a c q.2.1
    · obtain rfl : k = j := by omega
      exact h q.2.2
  rcases H with ⟨rfl, g⟩ | ⟨k, g1, g2, g3, rfl, g4⟩
  · refine Or.inl ⟨rfl, fun k a b => ?_⟩
    rcases Nat.lt_or_ge k (j + 1) with c | c
    · exact low k a c
    · exact g k c b
  · refine Or.inr ⟨k, by omega, g2, g3, rfl, fun i a b => ?_⟩
    rcases Nat.lt_or_ge i (j + 1) with c | c
    · exact low i a c
    · exact g4 i c b
theorem own_chr (x : Int64) : ¬ nar .char ((x &&& (255 : Int64)).toInt32.toUInt32.toUInt16.toUInt32.toInt32) < 0 ∧ ¬ (255 : Int32) < nar .char ((x &&& (255 : Int64)).toInt32.toUInt32.toUInt16.toUInt32.toInt32) := by
  have m := c_maskL x 255 8 (by decide) (by decide)
  have a := c_l2i (x &&& 255)
  have a1 := (x &&& (255 : Int64)).toInt32.toInt_lt
  have a2 := (x &&& (255 : Int64)).toInt32.le_toInt
  have b := c_i2c ((x &&& (255 : Int64)).toInt32)
  have d := c_i2c ((x &&& (255 : Int64)).toInt32.toUInt32.toUInt16.toUInt32.toInt32)
  have e0 : (0 : Int32).toInt = 0 := rfl
  have e1 : (255 : Int32).toInt = 255 := rfl
  rw [Int32.lt_iff_toInt_lt, Int32.lt_iff_toInt_lt]
  show ¬ ((((x &&& (255 : Int64)).toInt32.toUInt32.toUInt16.toUInt32.toInt32).toUInt32.toUInt16.toUInt32.toInt32).toInt < _) ∧ ¬ (_ < (((x &&& (255 : Int64)).toInt32.toUInt32.toUInt16.toUInt32.toInt32).toUInt32.toUInt16.toUInt32.toInt32).toInt)
  omega
theorem own_nar {x : Int32} (h : ¬ x < 0 ∧ ¬ (255 : Int32) < x) : nar .char x = x := by
  obtain ⟨h1, h2⟩ := h
  have b := c_i2c x
  rw [Int32.lt_iff_toInt_lt] at h1 h2
  have e0 : (0 : Int32).toInt = 0 := rfl
  have e1 : (255 : Int32).toInt = 255 := rfl
  rw [← Int32.toInt_inj]
  show (x.toUInt32.toUInt16.toUInt32.toInt32).toInt = _
  omega
theorem own_n6 {x n : Int32} (h : ((x &&& (2147483647 : Int32)) % (6 : Int32)) = n) : n = 0 ∨ n = 1 ∨ n = 2 ∨ n = 3 ∨ n = 4 ∨ n = 5 := by
  have m := c_mask x 2147483647 31 (by decide) (by decide)
  have r := (c_irem (x &&& 2147483647) 6 6 rfl).1 (by omega)
  rw [h] at r
  have e0 : (0 : Int32).toInt = 0 := rfl
  have e1 : (1 : Int32).toInt = 1 := rfl
  have e2 : (2 : Int32).toInt = 2 := rfl
  have e3 : (3 : Int32).toInt = 3 := rfl
  have e4 : (4 : Int32).toInt = 4 := rfl
  have e5 : (5 : Int32).toInt = 5 := rfl
  rw [← Int32.toInt_inj, ← Int32.toInt_inj, ← Int32.toInt_inj, ← Int32.toInt_inj, ← Int32.toInt_inj, ← Int32.toInt_inj]
  omega
theorem own_ge {fr k : Int32} {j : Nat} (h : fr.toNatClampNeg ≤ j) (hj : j < 2147483648) (hk : Int32.ofNat j = k) : ¬ k < fr := by
  subst hk
  rw [Int32.lt_iff_toInt_lt, n_toInt hj]
  rw [Int32.toNatClampNeg] at h
  omega
theorem own_le {fr k : Int32} {j : Nat} (h : ¬ k < fr) (hj : j < 2147483648) (hk : Int32.ofNat j = k) : fr.toNatClampNeg ≤ j := by
  subst hk
  rw [Int32.lt_iff_toInt_lt, n_toInt hj] at h
  rw [Int32.toNatClampNeg]
  omega
theorem own_all1 {c0 : Int32} (h0 : ¬ c0 < 0 ∧ ¬ (255 : Int32) < c0) : ∀ x ∈ ([c0] : List Int32), ¬ x < 0 ∧ ¬ (255 : Int32) < x := by
  intro x hx
  simp only [List.mem_cons, List.not_mem_nil, or_false] at hx
  rcases hx with rfl
  · exact h0
theorem own_all2 {c0 c1 : Int32} (h0 : ¬ c0 < 0 ∧ ¬ (255 : Int32) < c0) (h1 : ¬ c1 < 0 ∧ ¬ (255 : Int32) < c1) : ∀ x ∈ ([c0, c1] : List Int32), ¬ x < 0 ∧ ¬ (255 : Int32) < x := by
  intro x hx
  simp only [List.mem_cons, List.not_mem_nil, or_false] at hx
  rcases hx with rfl | rfl
  · exact h0
  · exact h1
theorem own_all3 {c0 c1 c2 : Int32} (h0 : ¬ c0 < 0 ∧ ¬ (255 : Int32) < c0) (h1 : ¬ c1 < 0 ∧ ¬ (255 : Int32) < c1) (h2 : ¬ c2 < 0 ∧ ¬ (255 : Int32) < c2) : ∀ x ∈ ([c0, c1, c2] : List Int32), ¬ x < 0 ∧ ¬ (255 : Int32) < x := by
  intro x hx
  simp only [List.mem_cons, List.not_mem_nil, or_false] at hx
  rcases hx with rfl | rfl | rfl
  · exact h0
  · exact h1
  · exact h2
theorem own_all4 {c0 c1 c2 c3 : Int32} (h0 : ¬ c0 < 0 ∧ ¬ (255 : Int32) < c0) (h1 : ¬ c1 < 0 ∧ ¬ (255 : Int32) < c1) (h2 : ¬ c2 < 0 ∧ ¬ (255 : Int32) < c2) (h3 : ¬ c3 < 0 ∧ ¬ (255 : Int32) < c3) : ∀ x ∈ ([c0, c1, c2, c3] : List Int32), ¬ x < 0 ∧ ¬ (255 : Int32) < x := by
  intro x hx
  simp only [List.mem_cons, List.not_mem_nil, or_false] at hx
  rcases hx with rfl | rfl | rfl | rfl
  · exact h0
  · exact h1
  · exact h2
  · exact h3
theorem own_all5 {c0 c1 c2 c3 c4 : Int32} (h0 : ¬ c0 < 0 ∧ ¬ (255 : Int32) < c0) (h1 : ¬ c1 < 0 ∧ ¬ (255 : Int32) < c1) (h2 : ¬ c2 < 0 ∧ ¬ (255 : Int32) < c2) (h3 : ¬ c3 < 0 ∧ ¬ (255 : Int32) < c3) (h4 : ¬ c4 < 0 ∧ ¬ (255 : Int32) < c4) : ∀ x ∈ ([c0, c1, c2, c3, c4] : List Int32), ¬ x < 0 ∧ ¬ (255 : Int32) < x := by
  intro x hx
  simp only [List.mem_cons, List.not_mem_nil, or_false] at hx
  rcases hx with rfl | rfl | rfl | rfl | rfl
  · exact h0
  · exact h1
  · exact h2
  · exact h3
  · exact h4
theorem own_exp0_0 {fr c0 c1 : Int32} (ha0 : ((1 : Int32) < (0 : Int32) ∧ ¬ ((0 : Int32) < fr) ∧ c0 = 123 ∧ c1 = 125)) : Fst (PA ([] : List Int32)) fr.toNatClampNeg ([] : List Int32).length (0 : Int32) := by
  exact absurd ha0.1 (by decide)
theorem own_exp1_0 {fr c0 c1 c2 : Int32} (ha0 : ¬ ((1 : Int32) < (0 : Int32) ∧ ¬ ((0 : Int32) < fr) ∧ c0 = 123 ∧ c1 = 125)) (ha1 : ((2 : Int32) < (0 : Int32) ∧ ¬ ((1 : Int32) < fr) ∧ c1 = 123 ∧ c2 = 125)) : Fst (PA ([] : List Int32)) fr.toNatClampNeg ([] : List Int32).length (1 : Int32) := by
  exact absurd ha1.1 (by decide)
theorem own_exp2_0 {fr c0 c1 c2 c3 : Int32} (ha0 : ¬ ((1 : Int32) < (0 : Int32) ∧ ¬ ((0 : Int32) < fr) ∧ c0 = 123 ∧ c1 = 125)) (ha1 : ¬ ((2 : Int32) < (0 : Int32) ∧ ¬ ((1 : Int32) < fr) ∧ c1 = 123 ∧ c2 = 125)) (ha2 : ((3 : Int32) < (0 : Int32) ∧ ¬ ((2 : Int32) < fr) ∧ c2 = 123 ∧ c3 = 125)) : Fst (PA ([] : List Int32)) fr.toNatClampNeg ([] : List Int32).length (2 : Int32) := by
  exact absurd ha2.1 (by decide)
theorem own_exp3_0 {fr c0 c1 c2 c3 c4 : Int32} (ha0 : ¬ ((1 : Int32) < (0 : Int32) ∧ ¬ ((0 : Int32) < fr) ∧ c0 = 123 ∧ c1 = 125)) (ha1 : ¬ ((2 : Int32) < (0 : Int32) ∧ ¬ ((1 : Int32) < fr) ∧ c1 = 123 ∧ c2 = 125)) (ha2 : ¬ ((3 : Int32) < (0 : Int32) ∧ ¬ ((2 : Int32) < fr) ∧ c2 = 123 ∧ c3 = 125)) (ha3 : ((4 : Int32) < (0 : Int32) ∧ ¬ ((3 : Int32) < fr) ∧ c3 = 123 ∧ c4 = 125)) : Fst (PA ([] : List Int32)) fr.toNatClampNeg ([] : List Int32).length (3 : Int32) := by
  exact absurd ha3.1 (by decide)
theorem own_expm_0 {fr c0 c1 c2 c3 c4 : Int32} (ha0 : ¬ ((1 : Int32) < (0 : Int32) ∧ ¬ ((0 : Int32) < fr) ∧ c0 = 123 ∧ c1 = 125)) (ha1 : ¬ ((2 : Int32) < (0 : Int32) ∧ ¬ ((1 : Int32) < fr) ∧ c1 = 123 ∧ c2 = 125)) (ha2 : ¬ ((3 : Int32) < (0 : Int32) ∧ ¬ ((2 : Int32) < fr) ∧ c2 = 123 ∧ c3 = 125)) (ha3 : ¬ ((4 : Int32) < (0 : Int32) ∧ ¬ ((3 : Int32) < fr) ∧ c3 = 123 ∧ c4 = 125)) : Fst (PA ([] : List Int32)) fr.toNatClampNeg ([] : List Int32).length (-1 : Int32) := by
  have key : ∀ j, fr.toNatClampNeg ≤ j → j < 0 → ¬ PA ([] : List Int32) j := by
    intro j h1 h2 q
    omega
  exact Or.inl ⟨rfl, fun j a b q => by
    have := q.1
    simp only [List.length_cons, List.length_nil] at this b
    exact key j a (by omega) q⟩
theorem own_exp0_1 {fr c0 c1 : Int32} (ha0 : ((1 : Int32) < (1 : Int32) ∧ ¬ ((0 : Int32) < fr) ∧ c0 = 123 ∧ c1 = 125)) : Fst (PA ([c0] : List Int32)) fr.toNatClampNeg ([c0] : List Int32).length (0 : Int32) := by
  exact absurd ha0.1 (by decide)
theorem own_exp1_1 {fr c0 c1 c2 : Int32} (ha0 : ¬ ((1 : Int32) < (1 : Int32) ∧ ¬ ((0 : Int32) < fr) ∧ c0 = 123 ∧ c1 = 125)) (ha1 : ((2 : Int32) < (1 : Int32) ∧ ¬ ((1 : Int32) < fr) ∧ c1 = 123 ∧ c2 = 125)) : Fst (PA ([c0] : List Int32)) fr.toNatClampNeg ([c0] : List Int32).length (1 : Int32) := by
  exact absurd ha1.1 (by decide)
theorem own_exp2_1 {fr c0 c1 c2 c3 : Int32} (ha0 : ¬ ((1 : Int32) < (1 : Int32) ∧ ¬ ((0 : Int32) < fr) ∧ c0 = 123 ∧ c1 = 125)) (ha1 : ¬ ((2 : Int32) < (1 : Int32) ∧ ¬ ((1 : Int32) < fr) ∧ c1 = 123 ∧ c2 = 125)) (ha2 : ((3 : Int32) < (1 : Int32) ∧ ¬ ((2 : Int32) < fr) ∧ c2 = 123 ∧ c3 = 125)) : Fst (PA ([c0] : List Int32)) fr.toNatClampNeg ([c0] : List Int32).length (2 : Int32) := by
  exact absurd ha2.1 (by decide)
theorem own_exp3_1 {fr c0 c1 c2 c3 c4 : Int32} (ha0 : ¬ ((1 : Int32) < (1 : Int32) ∧ ¬ ((0 : Int32) < fr) ∧ c0 = 123 ∧ c1 = 125)) (ha1 : ¬ ((2 : Int32) < (1 : Int32) ∧ ¬ ((1 : Int32) < fr) ∧ c1 = 123 ∧ c2 = 125)) (ha2 : ¬ ((3 : Int32) < (1 : Int32) ∧ ¬ ((2 : Int32) < fr) ∧ c2 = 123 ∧ c3 = 125)) (ha3 : ((4 : Int32) < (1 : Int32) ∧ ¬ ((3 : Int32) < fr) ∧ c3 = 123 ∧ c4 = 125)) : Fst (PA ([c0] : List Int32)) fr.toNatClampNeg ([c0] : List Int32).length (3 : Int32) := by
  exact absurd ha3.1 (by decide)
theorem own_expm_1 {fr c0 c1 c2 c3 c4 : Int32} (ha0 : ¬ ((1 : Int32) < (1 : Int32) ∧ ¬ ((0 : Int32) < fr) ∧ c0 = 123 ∧ c1 = 125)) (ha1 : ¬ ((2 : Int32) < (1 : Int32) ∧ ¬ ((1 : Int32) < fr) ∧ c1 = 123 ∧ c2 = 125)) (ha2 : ¬ ((3 : Int32) < (1 : Int32) ∧ ¬ ((2 : Int32) < fr) ∧ c2 = 123 ∧ c3 = 125)) (ha3 : ¬ ((4 : Int32) < (1 : Int32) ∧ ¬ ((3 : Int32) < fr) ∧ c3 = 123 ∧ c4 = 125)) : Fst (PA ([c0] : List Int32)) fr.toNatClampNeg ([c0] : List Int32).length (-1 : Int32) := by
  have key : ∀ j, fr.toNatClampNeg ≤ j → j < 0 → ¬ PA ([c0] : List Int32) j := by
    intro j h1 h2 q
    omega
  exact Or.inl ⟨rfl, fun j a b q => by
    have := q.1
    simp only [List.length_cons, List.length_nil] at this b
    exact key j a (by omega) q⟩
theorem own_exp0_2 {fr c0 c1 : Int32} (ha0 : ((1 : Int32) < (2 : Int32) ∧ ¬ ((0 : Int32) < fr) ∧ c0 = 123 ∧ c1 = 125)) : Fst (PA ([c0, c1] : List Int32)) fr.toNatClampNeg ([c0, c1] : List Int32).length (0 : Int32) := by
  have key : ∀ j, fr.toNatClampNeg ≤ j → j < 0 → ¬ PA ([c0, c1] : List Int32) j := by
    intro j h1 h2 q
    omega
  exact Or.inr ⟨0, own_le ha0.2.1 (by decide) rfl, by simp, ⟨by simp, ha0.2.2.1, ha0.2.2.2⟩, rfl, key⟩
theorem own_exp1_2 {fr c0 c1 c2 : Int32} (ha0 : ¬ ((1 : Int32) < (2 : Int32) ∧ ¬ ((0 : Int32) < fr) ∧ c0 = 123 ∧ c1 = 125)) (ha1 : ((2 : Int32) < (2 : Int32) ∧ ¬ ((1 : Int32) < fr) ∧ c1 = 123 ∧ c2 = 125)) : Fst (PA ([c0, c1] : List Int32)) fr.toNatClampNeg ([c0, c1] : List Int32).length (1 : Int32) := by
  exact absurd ha1.1 (by decide)
theorem own_exp2_2 {fr c0 c1 c2 c3 : Int32} (ha0 : ¬ ((1 : Int32) < (2 : Int32) ∧ ¬ ((0 : Int32) < fr) ∧ c0 = 123 ∧ c1 = 125)) (ha1 : ¬ ((2 : Int32) < (2 : Int32) ∧ ¬ ((1 : Int32) < fr) ∧ c1 = 123 ∧ c2 = 125)) (ha2 : ((3 : Int32) < (2 : Int32) ∧ ¬ ((2 : Int32) < fr) ∧ c2 = 123 ∧ c3 = 125)) : Fst (PA ([c0, c1] : List Int32)) fr.toNatClampNeg ([c0, c1] : List Int32).length (2 : Int32) := by
  exact absurd ha2.1 (by decide)
theorem own_exp3_2 {fr c0 c1 c2 c3 c4 : Int32} (ha0 : ¬ ((1 : Int32) < (2 : Int32) ∧ ¬ ((0 : Int32) < fr) ∧ c0 = 123 ∧ c1 = 125)) (ha1 : ¬ ((2 : Int32) < (2 : Int32) ∧ ¬ ((1 : Int32) < fr) ∧ c1 = 123 ∧ c2 = 125)) (ha2 : ¬ ((3 : Int32) < (2 : Int32) ∧ ¬ ((2 : Int32) < fr) ∧ c2 = 123 ∧ c3 = 125)) (ha3 : ((4 : Int32) < (2 : Int32) ∧ ¬ ((3 : Int32) < fr) ∧ c3 = 123 ∧ c4 = 125)) : Fst (PA ([c0, c1] : List Int32)) fr.toNatClampNeg ([c0, c1] : List Int32).length (3 : Int32) := by
  exact absurd ha3.1 (by decide)
theorem own_expm_2 {fr c0 c1 c2 c3 c4 : Int32} (ha0 : ¬ ((1 : Int32) < (2 : Int32) ∧ ¬ ((0 : Int32) < fr) ∧ c0 = 123 ∧ c1 = 125)) (ha1 : ¬ ((2 : Int32) < (2 : Int32) ∧ ¬ ((1 : Int32) < fr) ∧ c1 = 123 ∧ c2 = 125)) (ha2 : ¬ ((3 : Int32) < (2 : Int32) ∧ ¬ ((2 : Int32) < fr) ∧ c2 = 123 ∧ c3 = 125)) (ha3 : ¬ ((4 : Int32) < (2 : Int32) ∧ ¬ ((3 : Int32) < fr) ∧ c3 = 123 ∧ c4 = 125)) : Fst (PA ([c0, c1] : List Int32)) fr.toNatClampNeg ([c0, c1] : List Int32).length (-1 : Int32) := by
  have key : ∀ j, fr.toNatClampNeg ≤ j → j < 1 → ¬ PA ([c0, c1] : List Int32) j := by
    intro j h1 h2 q
    have hj : j = 0 := by omega
    rcases hj with rfl
    · exact ha0 ⟨by decide, own_ge h1 (by decide) rfl, q.2.1, q.2.2⟩
  exact Or.inl ⟨rfl, fun j a b q => by
    have := q.1
    simp only [List.length_cons, List.length_nil] at this b
    exact key j a (by omega) q⟩
theorem own_exp0_3 {fr c0 c1 c2 : Int32} (ha0 : ((1 : Int32) < (3 : Int32) ∧ ¬ ((0 : Int32) < fr) ∧ c0 = 123 ∧ c1 = 125)) : Fst (PA ([c0, c1, c2] : List Int32)) fr.toNatClampNeg ([c0, c1, c2] : List Int32).length (0 : Int32) := by
  have key : ∀ j, fr.toNatClampNeg ≤ j → j < 0 → ¬ PA ([c0, c1, c2] : List Int32) j := by
    intro j h1 h2 q
    omega
  exact Or.inr ⟨0, own_le ha0.2.1 (by decide) rfl, by simp, ⟨by simp, ha0.2.2.1, ha0.2.2.2⟩, rfl, key⟩
theorem own_exp1_3 {fr c0 c1 c2 : Int32} (ha0 : ¬ ((1 : Int32) < (3 : Int32) ∧ ¬ ((0 : Int32) < fr) ∧ c0 = 123 ∧ c1 = 125)) (ha1 : ((2 : Int32) < (3 : Int32) ∧ ¬ ((1 : Int32) < fr) ∧ c1 = 123 ∧ c2 = 125)) : Fst (PA ([c0, c1, c2] : List Int32)) fr.toNatClampNeg ([c0, c1, c2] : List Int32).length (1 : Int32) := by
  have key : ∀ j, fr.toNatClampNeg ≤ j → j < 1 → ¬ PA ([c0, c1, c2] : List Int32) j := by
    intro j h1 h2 q
    have hj : j = 0 := by omega
    rcases hj with rfl
    · exact ha0 ⟨by decide, own_ge h1 (by decide) rfl, q.2.1, q.2.2⟩
  exact Or.inr ⟨1, own_le ha1.2.1 (by decide) rfl, by simp, ⟨by simp, ha1.2.2.1, ha1.2.2.2⟩, rfl, key⟩
theorem own_exp2_3 {fr c0 c1 c2 c3 : Int32} (ha0 : ¬ ((1 : Int32) < (3 : Int32) ∧ ¬ ((0 : Int32) < fr) ∧ c0 = 123 ∧ c1 = 125)) (ha1 : ¬ ((2 : Int32) < (3 : Int32) ∧ ¬ ((1 : Int32) < fr) ∧ c1 = 123 ∧ c2 = 125)) (ha2 : ((3 : Int32) < (3 : Int32) ∧ ¬ ((2 : Int32) < fr) ∧ c2 = 123 ∧ c3 = 125)) : Fst (PA ([c0, c1, c2] : List Int32)) fr.toNatClampNeg ([c0, c1, c2] : List Int32).length (2 : Int32) := by
  exact absurd ha2.1 (by decide)
theorem own_exp3_3 {fr c0 c1 c2 c3 c4 : Int32} (ha0 : ¬ ((1 : Int32) < (3 : Int32) ∧ ¬ ((0 : Int32) < fr) ∧ c0 = 123 ∧ c1 = 125)) (ha1 : ¬ ((2 : Int32) < (3 : Int32) ∧ ¬ ((1 : Int32) < fr) ∧ c1 = 123 ∧ c2 = 125)) (ha2 : ¬ ((3 : Int32) < (3 : Int32) ∧ ¬ ((2 : Int32) < fr) ∧ c2 = 123 ∧ c3 = 125)) (ha3 : ((4 : Int32) < (3 : Int32) ∧ ¬ ((3 : Int32) < fr) ∧ c3 = 123 ∧ c4 = 125)) : Fst (PA ([c0, c1, c2] : List Int32)) fr.toNatClampNeg ([c0, c1, c2] : List Int32).length (3 : Int32) := by
  exact absurd ha3.1 (by decide)
theorem own_expm_3 {fr c0 c1 c2 c3 c4 : Int32} (ha0 : ¬ ((1 : Int32) < (3 : Int32) ∧ ¬ ((0 : Int32) < fr) ∧ c0 = 123 ∧ c1 = 125)) (ha1 : ¬ ((2 : Int32) < (3 : Int32) ∧ ¬ ((1 : Int32) < fr) ∧ c1 = 123 ∧ c2 = 125)) (ha2 : ¬ ((3 : Int32) < (3 : Int32) ∧ ¬ ((2 : Int32) < fr) ∧ c2 = 123 ∧ c3 = 125)) (ha3 : ¬ ((4 : Int32) < (3 : Int32) ∧ ¬ ((3 : Int32) < fr) ∧ c3 = 123 ∧ c4 = 125)) : Fst (PA ([c0, c1, c2] : List Int32)) fr.toNatClampNeg ([c0, c1, c2] : List Int32).length (-1 : Int32) := by
  have key : ∀ j, fr.toNatClampNeg ≤ j → j < 2 → ¬ PA ([c0, c1, c2] : List Int32) j := by
    intro j h1 h2 q
    have hj : j = 0 ∨ j = 1 := by omega
    rcases hj with rfl | rfl
    · exact ha0 ⟨by decide, own_ge h1 (by decide) rfl, q.2.1, q.2.2⟩
    · exact ha1 ⟨by decide, own_ge h1 (by decide) rfl, q.2.1, q.2.2⟩
  exact Or.inl ⟨rfl, fun j a b q => by
    have := q.1
    simp only [List.length_cons, List.length_nil] at this b
    exact key j a (by omega) q⟩
theorem own_exp0_4 {fr c0 c1 c2 c3 : Int32} (ha0 : ((1 : Int32) < (4 : Int32) ∧ ¬ ((0 : Int32) < fr) ∧ c0 = 123 ∧ c1 = 125)) : Fst (PA ([c0, c1, c2, c3] : List Int32)) fr.toNatClampNeg ([c0, c1, c2, c3] : List Int32).length (0 : Int32) := by
  have key : ∀ j, fr.toNatClampNeg ≤ j → j < 0 → ¬ PA ([c0, c1, c2, c3] : List Int32) j := by
    intro j h1 h2 q
    omega
  exact Or.inr ⟨0, own_le ha0.2.1 (by decide) rfl, by simp, ⟨by simp, ha0.2.2.1, ha0.2.2.2⟩, rfl, key⟩
theorem own_exp1_4 {fr c0 c1 c2 c3 : Int32} (ha0 : ¬ ((1 : Int32) < (4 : Int32) ∧ ¬ ((0 : Int32) < fr) ∧ c0 = 123 ∧ c1 = 125)) (ha1 : ((2 : Int32) < (4 : Int32) ∧ ¬ ((1 : Int32) < fr) ∧ c1 = 123 ∧ c2 = 125)) : Fst (PA ([c0, c1, c2, c3] : List Int32)) fr.toNatClampNeg ([c0, c1, c2, c3] : List Int32).length (1 : Int32) := by
  have key : ∀ j, fr.toNatClampNeg ≤ j → j < 1 → ¬ PA ([c0, c1, c2, c3] : List Int32) j := by
    intro j h1 h2 q
    have hj : j = 0 := by omega
    rcases hj with rfl
    · exact ha0 ⟨by decide, own_ge h1 (by decide) rfl, q.2.1, q.2.2⟩
  exact Or.inr ⟨1, own_le ha1.2.1 (by decide) rfl, by simp, ⟨by simp, ha1.2.2.1, ha1.2.2.2⟩, rfl, key⟩
theorem own_exp2_4 {fr c0 c1 c2 c3 : Int32} (ha0 : ¬ ((1 : Int32) < (4 : Int32) ∧ ¬ ((0 : Int32) < fr) ∧ c0 = 123 ∧ c1 = 125)) (ha1 : ¬ ((2 : Int32) < (4 : Int32) ∧ ¬ ((1 : Int32) < fr) ∧ c1 = 123 ∧ c2 = 125)) (ha2 : ((3 : Int32) < (4 : Int32) ∧ ¬ ((2 : Int32) < fr) ∧ c2 = 123 ∧ c3 = 125)) : Fst (PA ([c0, c1, c2, c3] : List Int32)) fr.toNatClampNeg ([c0, c1, c2, c3] : List Int32).length (2 : Int32) := by
  have key : ∀ j, fr.toNatClampNeg ≤ j → j < 2 → ¬ PA ([c0, c1, c2, c3] : List Int32) j := by
    intro j h1 h2 q
    have hj : j = 0 ∨ j = 1 := by omega
    rcases hj with rfl | rfl
    · exact ha0 ⟨by decide, own_ge h1 (by decide) rfl, q.2.1, q.2.2⟩
    · exact ha1 ⟨by decide, own_ge h1 (by decide) rfl, q.2.1, q.2.2⟩
  exact Or.inr ⟨2, own_le ha2.2.1 (by decide) rfl, by simp, ⟨by simp, ha2.2.2.1, ha2.2.2.2⟩, rfl, key⟩
theorem own_exp3_4 {fr c0 c1 c2 c3 c4 : Int32} (ha0 : ¬ ((1 : Int32) < (4 : Int32) ∧ ¬ ((0 : Int32) < fr) ∧ c0 = 123 ∧ c1 = 125)) (ha1 : ¬ ((2 : Int32) < (4 : Int32) ∧ ¬ ((1 : Int32) < fr) ∧ c1 = 123 ∧ c2 = 125)) (ha2 : ¬ ((3 : Int32) < (4 : Int32) ∧ ¬ ((2 : Int32) < fr) ∧ c2 = 123 ∧ c3 = 125)) (ha3 : ((4 : Int32) < (4 : Int32) ∧ ¬ ((3 : Int32) < fr) ∧ c3 = 123 ∧ c4 = 125)) : Fst (PA ([c0, c1, c2, c3] : List Int32)) fr.toNatClampNeg ([c0, c1, c2, c3] : List Int32).length (3 : Int32) := by
  exact absurd ha3.1 (by decide)
theorem own_expm_4 {fr c0 c1 c2 c3 c4 : Int32} (ha0 : ¬ ((1 : Int32) < (4 : Int32) ∧ ¬ ((0 : Int32) < fr) ∧ c0 = 123 ∧ c1 = 125)) (ha1 : ¬ ((2 : Int32) < (4 : Int32) ∧ ¬ ((1 : Int32) < fr) ∧ c1 = 123 ∧ c2 = 125)) (ha2 : ¬ ((3 : Int32) < (4 : Int32) ∧ ¬ ((2 : Int32) < fr) ∧ c2 = 123 ∧ c3 = 125)) (ha3 : ¬ ((4 : Int32) < (4 : Int32) ∧ ¬ ((3 : Int32) < fr) ∧ c3 = 123 ∧ c4 = 125)) : Fst (PA ([c0, c1, c2, c3] : List Int32)) fr.toNatClampNeg ([c0, c1, c2, c3] : List Int32).length (-1 : Int32) := by
  have key : ∀ j, fr.toNatClampNeg ≤ j → j < 3 → ¬ PA ([c0, c1, c2, c3] : List Int32) j := by
    intro j h1 h2 q
    have hj : j = 0 ∨ j = 1 ∨ j = 2 := by omega
    rcases hj with rfl | rfl | rfl
    · exact ha0 ⟨by decide, own_ge h1 (by decide) rfl, q.2.1, q.2.2⟩
    · exact ha1 ⟨by decide, own_ge h1 (by decide) rfl, q.2.1, q.2.2⟩
    · exact ha2 ⟨by decide, own_ge h1 (by decide) rfl, q.2.1, q.2.2⟩
  exact Or.inl ⟨rfl, fun j a b q => by
    have := q.1
    simp only [List.length_cons, List.length_nil] at this b
    exact key j a (by omega) q⟩
theorem own_exp0_5 {fr c0 c1 c2 c3 c4 : Int32} (ha0 : ((1 : Int32) < (5 : Int32) ∧ ¬ ((0 : Int32) < fr) ∧ c0 = 123 ∧ c1 = 125)) : Fst (PA ([c0, c1, c2, c3, c4] : List Int32)) fr.toNatClampNeg ([c0, c1, c2, c3, c4] : List Int32).length (0 : Int32) := by
  have key : ∀ j, fr.toNatClampNeg ≤ j → j < 0 → ¬ PA ([c0, c1, c2, c3, c4] : List Int32) j := by
    intro j h1 h2 q
    omega
  exact Or.inr ⟨0, own_le ha0.2.1 (by decide) rfl, by simp, ⟨by simp, ha0.2.2.1, ha0.2.2.2⟩, rfl, key⟩
theorem own_exp1_5 {fr c0 c1 c2 c3 c4 : Int32} (ha0 : ¬ ((1 : Int32) < (5 : Int32) ∧ ¬ ((0 : Int32) < fr) ∧ c0 = 123 ∧ c1 = 125)) (ha1 : ((2 : Int32) < (5 : Int32) ∧ ¬ ((1 : Int32) < fr) ∧ c1 = 123 ∧ c2 = 125)) : Fst (PA ([c0, c1, c2, c3, c4] : List Int32)) fr.toNatClampNeg ([c0, c1, c2, c3, c4] : List Int32).length (1 : Int32) := by
  have key : ∀ j, fr.toNatClampNeg ≤ j → j < 1 → ¬ PA ([c0, c1, c2, c3, c4] : List Int32) j := by
    intro j h1 h2 q
    have hj : j = 0 := by omega
    rcases hj with rfl
    · exact ha0 ⟨by decide, own_ge h1 (by decide) rfl, q.2.1, q.2.2⟩
  exact Or.inr ⟨1, own_le ha1.2.1 (by decide) rfl, by simp, ⟨by simp, ha1.2.2.1, ha1.2.2.2⟩, rfl, key⟩
theorem own_exp2_5 {fr c0 c1 c2 c3 c4 : Int32} (ha0 : ¬ ((1 : Int32) < (5 : Int32) ∧ ¬ ((0 : Int32) < fr) ∧ c0 = 123 ∧ c1 = 125)) (ha1 : ¬ ((2 : Int32) < (5 : Int32) ∧ ¬ ((1 : Int32) < fr) ∧ c1 = 123 ∧ c2 = 125)) (ha2 : ((3 : Int32) < (5 : Int32) ∧ ¬ ((2 : Int32) < fr) ∧ c2 = 123 ∧ c3 = 125)) : Fst (PA ([c0, c1, c2, c3, c4] : List Int32)) fr.toNatClampNeg ([c0, c1, c2, c3, c4] : List Int32).length (2 : Int32) := by
  have key : ∀ j, fr.toNatClampNeg ≤ j → j < 2 → ¬ PA ([c0, c1, c2, c3, c4] : List Int32) j := by
    intro j h1 h2 q
    have hj : j = 0 ∨ j = 1 := by omega
    rcases hj with rfl | rfl
    · exact ha0 ⟨by decide, own_ge h1 (by decide) rfl, q.2.1, q.2.2⟩
    · exact ha1 ⟨by decide, own_ge h1 (by decide) rfl, q.2.1, q.2.2⟩
  exact Or.inr ⟨2, own_le ha2.2.1 (by decide) rfl, by simp, ⟨by simp, ha2.2.2.1, ha2.2.2.2⟩, rfl, key⟩
theorem own_exp3_5 {fr c0 c1 c2 c3 c4 : Int32} (ha0 : ¬ ((1 : Int32) < (5 : Int32) ∧ ¬ ((0 : Int32) < fr) ∧ c0 = 123 ∧ c1 = 125)) (ha1 : ¬ ((2 : Int32) < (5 : Int32) ∧ ¬ ((1 : Int32) < fr) ∧ c1 = 123 ∧ c2 = 125)) (ha2 : ¬ ((3 : Int32) < (5 : Int32) ∧ ¬ ((2 : Int32) < fr) ∧ c2 = 123 ∧ c3 = 125)) (ha3 : ((4 : Int32) < (5 : Int32) ∧ ¬ ((3 : Int32) < fr) ∧ c3 = 123 ∧ c4 = 125)) : Fst (PA ([c0, c1, c2, c3, c4] : List Int32)) fr.toNatClampNeg ([c0, c1, c2, c3, c4] : List Int32).length (3 : Int32) := by
  have key : ∀ j, fr.toNatClampNeg ≤ j → j < 3 → ¬ PA ([c0, c1, c2, c3, c4] : List Int32) j := by
    intro j h1 h2 q
    have hj : j = 0 ∨ j = 1 ∨ j = 2 := by omega
    rcases hj with rfl | rfl | rfl
    · exact ha0 ⟨by decide, own_ge h1 (by decide) rfl, q.2.1, q.2.2⟩
    · exact ha1 ⟨by decide, own_ge h1 (by decide) rfl, q.2.1, q.2.2⟩
    · exact ha2 ⟨by decide, own_ge h1 (by decide) rfl, q.2.1, q.2.2⟩
  exact Or.inr ⟨3, own_le ha3.2.1 (by decide) rfl, by simp, ⟨by simp, ha3.2.2.1, ha3.2.2.2⟩, rfl, key⟩
theorem own_expm_5 {fr c0 c1 c2 c3 c4 : Int32} (ha0 : ¬ ((1 : Int32) < (5 : Int32) ∧ ¬ ((0 : Int32) < fr) ∧ c0 = 123 ∧ c1 = 125)) (ha1 : ¬ ((2 : Int32) < (5 : Int32) ∧ ¬ ((1 : Int32) < fr) ∧ c1 = 123 ∧ c2 = 125)) (ha2 : ¬ ((3 : Int32) < (5 : Int32) ∧ ¬ ((2 : Int32) < fr) ∧ c2 = 123 ∧ c3 = 125)) (ha3 : ¬ ((4 : Int32) < (5 : Int32) ∧ ¬ ((3 : Int32) < fr) ∧ c3 = 123 ∧ c4 = 125)) : Fst (PA ([c0, c1, c2, c3, c4] : List Int32)) fr.toNatClampNeg ([c0, c1, c2, c3, c4] : List Int32).length (-1 : Int32) := by
  have key : ∀ j, fr.toNatClampNeg ≤ j → j < 4 → ¬ PA ([c0, c1, c2, c3, c4] : List Int32) j := by
    intro j h1 h2 q
    have hj : j = 0 ∨ j = 1 ∨ j = 2 ∨ j = 3 := by omega
    rcases hj with rfl | rfl | rfl | rfl
    · exact ha0 ⟨by decide, own_ge h1 (by decide) rfl, q.2.1, q.2.2⟩
    · exact ha1 ⟨by decide, own_ge h1 (by decide) rfl, q.2.1, q.2.2⟩
    · exact ha2 ⟨by decide, own_ge h1 (by decide) rfl, q.2.1, q.2.2⟩
    · exact ha3 ⟨by decide, own_ge h1 (by decide) rfl, q.2.1, q.2.2⟩
  exact Or.inl ⟨rfl, fun j a b q => by
    have := q.1
    simp only [List.length_cons, List.length_nil] at this b
    exact key j a (by omega) q⟩

set_option maxRecDepth 65536 in
set_option maxHeartbeats 40000000 in
theorem c_strE4 {l : Launch} {Z : State} {a0 : Array Value} (hw : W a0 Z) (a ar : Addr) (h0 : Heap) (E : Exa Z h0 a "java/lang/String") (ga : Z.heap.size ≤ a) (Fv : Fld Z h0 a "java/lang/String" "value" "[B" .null) (Fc : Fld Z h0 a "java/lang/String" "coder" "B" (.int (0 : Int32))) :
    Con l Z EL0 (⟨"java/lang/String", "<init>", "([CIILjava/lang/Void;)V"⟩ : MethodName) jdk_42_method_149_code 6 none ({ frames := 1, cells := 4, slots := 8, locals := 12 } : Room) #[(.ref a), (.ref ar), (.int (0 : Int32)), (.int (0 : Int32)), .null] h0 [a] (fun v h' Sf => v = none ∧ Keep h0 h' [a] ∧ ∃ (b : Addr) (kb : ClassId), LS Z h' a b kb []) := by
  have hpn : plainName "java/lang/String" = true := by first | (simp [plainName, overriddenIn]; done) | decide +kernel
  refine Con.intro (plainFor_of_name hpn) ?_
  intro p e s m below meth c T X hss
  have S_a := hss a (by simp)
  refine Goes.cast (g' := mkF m 0 #[.val (.ref a), .val (.ref ar), .val (.int (0 : Int32)), .val (.int (0 : Int32)), .val .null, .unset] []) (by first | (simp [entryFrame, mkF, argsToLocals, Value.category]; done) | rfl) ?_
  refine o_aloadN X d_jdk_42_method_149_0 rfl rfl (q := 1) rfl ?_
  refine o_initO X (w22 hw) (w23 hw) (w24 hw) d_jdk_42_method_149_1 rfl (by decide) (Nat.le_of_ble_eq_true rfl) (q := 4) rfl ?_
  intro T1 X1
  refine o_iloadN X1 d_jdk_42_method_149_4 rfl (q := 5) rfl ?_
  refine o_ifN X1 d_jdk_42_method_149_5 (by decide) (q := 8) rfl ?_
  refine o_aloadN X1 d_jdk_42_method_149_8 rfl rfl (q := 9) rfl ?_
  refine o_ldcS X1 (n := 0) (vs := []) (z := 0) (w86 hw) (wS0 hw) (List.mem_of_getElem? (i := 1) rfl) ⟨by decide, by decide⟩ (by decide) (by decide) d_jdk_42_method_149_9 (by decide) (by decide) (by decide) (by decide) (q := 11) rfl ?_
  intro vm2 T2 h2 a2 b2 k2 X2 E2 R2 A2 Fc2 Fv2 V2 ne2
  refine o_getF X2 Fv2 (host := "") (Or.inl (w39 hw)) Via.refl d_jdk_42_method_149_11 (q := 14) rfl ?_
  intro T3 X3
  have f4 := (Fv.ext E2)
  have f5 := (E.ext E2)
  have f7 := (CHr.safe R2 (E.lt) S_a)
  refine o_putF X3 f4 f5 ga f7 (host := "") (Or.inl (w39 hw)) Via.refl (Or.inr ⟨(w40 hw), rfl, rfl⟩) (w13 hw) (ty := (.array .byte)) (by decide) rfl rfl d_jdk_42_method_149_14 (q := 17) rfl ?_
  intro T6 h6 l6 X6 W6 R6 F6
  refine o_aloadN X6 d_jdk_42_method_149_17 rfl rfl (q := 18) rfl ?_
  refine o_ldcS X6 (n := 0) (vs := []) (z := 0) (w86 hw) (wS0 hw) (List.mem_of_getElem? (i := 1) rfl) ⟨by decide, by decide⟩ (by decide) (by decide) d_jdk_42_method_149_18 (by decide) (by decide) (by decide) (by decide) (q := 20) rfl ?_
  intro vm8 T8 h8 a8 b8 k8 X8 E8 R8 A8 Fc8 Fv8 V8 ne8
  refine o_getF X8 Fc8 (host := "") (Or.inl (w37 hw)) Via.refl d_jdk_42_method_149_20 (q := 23) rfl ?_
  intro T9 X9
  have f10 := (((Fc.ext E2).other W6 (Or.inr (slot_ne (Or.inr (w38 hw)) (Or.inr (w40 hw)) (by decide) (t := .byte) (t' := (.array .byte)) (by decide) (by decide)))).ext E8)
  have f11 := ((f5.wr W6).ext E8)
  have f13 := (CHr.safe R8 (F6.lt) (CHr.safe R6 (f5.lt) f7))
  refine o_putF X9 f10 f11 ga f13 (host := "") (Or.inl (w37 hw)) Via.refl (Or.inr ⟨(w38 hw), rfl, rfl⟩) (w13 hw) (ty := .byte) (by decide) (by decide) (by decide) d_jdk_42_method_149_23 (q := 26) rfl ?_
  intro T12 h12 l12 X12 W12 R12 F12
  have k14 := Keep.ext (Keep.refl h0 [a]) E2
  have k15 := Keep.wr k14 W6 (Or.inl (by simp))
  have k16 := Keep.ext k15 E8
  have k17 := Keep.wr k16 W12 (Or.inl (by simp))
  have f18 := (f11.wr W12)
  have f19 := ((F6.ext E8).other W12 (Or.inr (slot_ne (Or.inr (w40 hw)) (Or.inr (w38 hw)) (by decide) (t := (.array .byte)) (t' := .byte) (by decide) (by decide))))
  have f20 := (((V2.other W6 (Ne.symm (ne2 _ f7).2)).ext E8).other W12 (Ne.symm (ne2 _ f7).2))
  exact o_ret X12 d_jdk_42_method_149_26 (fun Sf hSf => ⟨rfl, k17, b2, k2, f18, F12, f19, f20, (fun c hc => nomatch hc), by decide⟩) (by decide) (by decide)
set_option maxRecDepth 65536 in
set_option maxHeartbeats 40000000 in
theorem c_strE {l : Launch} {Z : State} {a0 : Array Value} (hw : W a0 Z) (a ar : Addr) (h0 : Heap) (E : Exa Z h0 a "java/lang/String") (ga : Z.heap.size ≤ a) (Fv : Fld Z h0 a "java/lang/String" "value" "[B" .null) (Fc : Fld Z h0 a "java/lang/String" "coder" "B" (.int (0 : Int32))) {kc : ClassId} (Vb : Arv Z h0 ar kc .char (0 : Int32) [] (.int (0 : Int32))) :
    Con l Z EL0 (⟨"java/lang/String", "<init>", "([C)V"⟩ : MethodName) jdk_42_method_3_code 2 none ({ frames := 2, cells := 4, slots := 8, locals := 29 } : Room) #[(.ref a), (.ref ar)] h0 [a] (fun v h' Sf => v = none ∧ Keep h0 h' [a] ∧ ∃ (b : Addr) (kb : ClassId), LS Z h' a b kb []) := by
  have hpn : plainName "java/lang/String" = true := by first | (simp [plainName, overriddenIn]; done) | decide +kernel
  refine Con.intro (plainFor_of_name hpn) ?_
  intro p e s m below meth c T X hss
  have S_a := hss a (by simp)
  refine Goes.cast (g' := mkF m 0 #[.val (.ref a), .val (.ref ar)] []) (by first | (simp [entryFrame, mkF, argsToLocals, Value.category]; done) | rfl) ?_
  refine o_aloadN X d_jdk_42_method_3_0 rfl rfl (q := 1) rfl ?_
  refine o_aloadN X d_jdk_42_method_3_1 rfl rfl (q := 2) rfl ?_
  refine o_iconst X d_jdk_42_method_3_2 (w := 0) rfl (q := 3) rfl ?_
  refine o_aloadN X d_jdk_42_method_3_3 rfl rfl (q := 4) rfl ?_
  refine o_len X Vb d_jdk_42_method_3_4 (q := 5) rfl ?_
  refine o_null X d_jdk_42_method_3_5 (q := 6) rfl ?_
  refine o_spec X [(.ref ar), (.int (0 : Int32)), (.int (0 : Int32)), .null] (y' := (⟨"java/lang/String", "<init>", "([CIILjava/lang/Void;)V"⟩ : MethodName)) (c_strE4 hw a ar _ E ga Fv Fc) (allS ⟨E.lt, S_a⟩ all0) rfl (w18 hw) (w19 hw) (w21 hw) (w14 hw) (by decide) d_jdk_42_method_3_6 (rest := []) rfl rfl (lenOf pd0 rfl) rfl (by decide) (Nat.le_of_ble_eq_true rfl) (by decide) (by decide) (q := 9) rfl ?_
  intro v1 vm1 T1 h1 l1 X1 R1 q1
  obtain ⟨rfl, K1, b1, kb1, L1⟩ := q1
  show Goes p e below _ T1 (mkF m 9 #[.val (.ref a), .val (.ref ar)] [])
  have k2 := Keep.trans (Keep.refl h0 [a]) K1 (allS (Or.inl (by simp)) all0)
  exact o_ret X1 d_jdk_42_method_3_9 (fun Sf hSf => ⟨rfl, k2, b1, kb1, L1⟩) (by decide) (by decide)
set_option maxRecDepth 65536 in
set_option maxHeartbeats 40000000 in
theorem c_isLatin1 {l : Launch} {Z : State} {a0 : Array Value} (hw : W a0 Z) (a b : Addr) (kb : ClassId) (cs : List Int32) (h0 : Heap) (zc : Int32) (O2 : Sta Z Z.heap "java/lang/String" "COMPACT_STRINGS" "Z" (.int zc)) (P5 : ¬ zc = 0) (L : LS Z h0 a b kb cs) :
    Con l Z EL0 (⟨"java/lang/String", "isLatin1", "()Z"⟩ : MethodName) jdk_42_method_154_code 1 (some .boolean) ({ frames := 0, cells := 0, slots := 0, locals := 0 } : Room) #[(.ref a)] h0 [] (fun v h' Sf => v = some (.int (1 : Int32)) ∧ h' = h0) := by
  have hpn : plainName "java/lang/String" = true := by first | (simp [plainName, overriddenIn]; done) | decide +kernel
  refine Con.intro (plainFor_of_name hpn) ?_
  intro p e s m below meth c T X hss
  refine Goes.cast (g' := mkF m 0 #[.val (.ref a)] []) (by first | (simp [entryFrame, mkF, argsToLocals, Value.category]; done) | rfl) ?_
  refine o_getS X O2 (host := "") (Or.inl (w25 hw)) Via.refl d_jdk_42_method_154_0 (q := 3) rfl ?_
  intro T1 X1
  refine o_ifN X1 d_jdk_42_method_154_3 (feq P5).1 (q := 6) rfl ?_
  refine o_aloadN X1 d_jdk_42_method_154_6 rfl rfl (q := 7) rfl ?_
  refine o_getF X1 L.2.1 (host := "") (Or.inl (w37 hw)) Via.refl d_jdk_42_method_154_7 (q := 10) rfl ?_
  intro T2 X2
  refine o_ifN X2 d_jdk_42_method_154_10 (by decide) (q := 13) rfl ?_
  refine o_iconst X2 d_jdk_42_method_154_13 (w := 1) rfl (q := 14) rfl ?_
  refine o_goto X2 d_jdk_42_method_154_14 (by decide) (q := 18) (by decide) ?_
  exact o_retN X2 d_jdk_42_method_154_18 (by simp) (fun Sf hSf => ⟨rfl, rfl⟩) (by decide) (by decide)
set_option maxRecDepth 65536 in
set_option maxHeartbeats 40000000 in
theorem c_coder {l : Launch} {Z : State} {a0 : Array Value} (hw : W a0 Z) (a b : Addr) (kb : ClassId) (cs : List Int32) (h0 : Heap) (zc : Int32) (O2 : Sta Z Z.heap "java/lang/String" "COMPACT_STRINGS" "Z" (.int zc)) (P5 : ¬ zc = 0) (L : LS Z h0 a b kb cs) :
    Con l Z EL0 (⟨"java/lang/String", "coder", "()B"⟩ : MethodName) jdk_42_method_152_code 1 (some .byte) ({ frames := 0, cells := 0, slots := 0, locals := 0 } : Room) #[(.ref a)] h0 [] (fun v h' Sf => v = some (.int (0 : Int32)) ∧ h' = h0) := by
  have hpn : plainName "java/lang/String" = true := by first | (simp [plainName, overriddenIn]; done) | decide +kernel
  refine Con.intro (plainFor_of_name hpn) ?_
  intro p e s m below meth c T X hss
  refine Goes.cast (g' := mkF m 0 #[.val (.ref a)] []) (by first | (simp [entryFrame, mkF, argsToLocals, Value.category]; done) | rfl) ?_
  refine o_getS X O2 (host := "") (Or.inl (w25 hw)) Via.refl d_jdk_42_method_152_0 (q := 3) rfl ?_
  intro T1 X1
  refine o_ifN X1 d_jdk_42_method_152_3 (feq P5).1 (q := 6) rfl ?_
  refine o_aloadN X1 d_jdk_42_method_152_6 rfl rfl (q := 7) rfl ?_
  refine o_getF X1 L.2.1 (host := "") (Or.inl (w37 hw)) Via.refl d_jdk_42_method_152_7 (q := 10) rfl ?_
  intro T2 X2
  refine o_goto X2 d_jdk_42_method_152_10 (by decide) (q := 14) (by decide) ?_
  exact o_retN X2 d_jdk_42_method_152_14 (by simp) (fun Sf hSf => ⟨rfl, rfl⟩) (by decide) (by decide)
set_option maxRecDepth 65536 in
set_option maxHeartbeats 40000000 in
theorem c_maxI {l : Launch} {Z : State} {a0 : Array Value} (hw : W a0 Z) (x z : Int32) (h0 : Heap)  :
    Con l Z EL0 (⟨"java/lang/Math", "max", "(II)I"⟩ : MethodName) jdk_29_method_65_code 2 (some .int) ({ frames := 0, cells := 0, slots := 0, locals := 0 } : Room) #[(.int x), (.int z)] h0 [] (fun v h' Sf => v = some (.int (if x < z then z else x)) ∧ h' = h0) := by
  refine Con.intro (Jvm.Free.JP.mathPlain rfl (by decide +kernel)) ?_
  intro p e s m below meth c T X hss
  refine Goes.cast (g' := mkF m 0 #[.val (.int x), .val (.int z)] []) (by first | (simp [entryFrame, mkF, argsToLocals, Value.category]; done) | rfl) ?_
  refine o_iloadN X d_jdk_29_method_65_0 rfl (q := 1) rfl ?_
  refine o_iloadN X d_jdk_29_method_65_1 rfl (q := 2) rfl ?_
  by_cases hc2 : x < z
  · refine o_icmpY X d_jdk_29_method_65_2 (tlt hc2).1 (by decide) (q := 9) (by decide) ?_
    refine o_iloadN X d_jdk_29_method_65_9 rfl (q := 10) rfl ?_
    exact o_retI X d_jdk_29_method_65_10 (fun Sf hSf => ⟨by rw [if_pos hc2], rfl⟩) (by decide) (by decide)
  · refine o_icmpN X d_jdk_29_method_65_2 (flt hc2).1 (q := 5) rfl ?_
    refine o_iloadN X d_jdk_29_method_65_5 rfl (q := 6) rfl ?_
    refine o_goto X d_jdk_29_method_65_6 (by decide) (q := 10) (by decide) ?_
    exact o_retI X d_jdk_29_method_65_10 (fun Sf hSf => ⟨by rw [if_neg hc2], rfl⟩) (by decide) (by decide)
set_option maxRecDepth 65536 in
set_option maxHeartbeats 40000000 in
theorem c_minI {l : Launch} {Z : State} {a0 : Array Value} (hw : W a0 Z) (x z : Int32) (h0 : Heap)  :
    Con l Z EL0 (⟨"java/lang/Math", "min", "(II)I"⟩ : MethodName) jdk_29_method_69_code 2 (some .int) ({ frames := 0, cells := 0, slots := 0, locals := 0 } : Room) #[(.int x), (.int z)] h0 [] (fun v h' Sf => v = some (.int (if z < x then z else x)) ∧ h' = h0) := by
  refine Con.intro (Jvm.Free.JP.mathPlain rfl (by decide +kernel)) ?_
  intro p e s m below meth c T X hss
  refine Goes.cast (g' := mkF m 0 #[.val (.int x), .val (.int z)] []) (by first | (simp [entryFrame, mkF, argsToLocals, Value.category]; done) | rfl) ?_
  refine o_iloadN X d_jdk_29_method_69_0 rfl (q := 1) rfl ?_
  refine o_iloadN X d_jdk_29_method_69_1 rfl (q := 2) rfl ?_
  by_cases hc2 : z < x
  · refine o_icmpY X d_jdk_29_method_69_2 (tlt hc2).2.2.1 (by decide) (q := 9) (by decide) ?_
    refine o_iloadN X d_jdk_29_method_69_9 rfl (q := 10) rfl ?_
    exact o_retI X d_jdk_29_method_69_10 (fun Sf hSf => ⟨by rw [if_pos hc2], rfl⟩) (by decide) (by decide)
  · refine o_icmpN X d_jdk_29_method_69_2 (flt hc2).2.2.1 (q := 5) rfl ?_
    refine o_iloadN X d_jdk_29_method_69_5 rfl (q := 6) rfl ?_
    refine o_goto X d_jdk_29_method_69_6 (by decide) (q := 10) (by decide) ?_
    exact o_retI X d_jdk_29_method_69_10 (fun Sf hSf => ⟨by rw [if_neg hc2], rfl⟩) (by decide) (by decide)
set_option maxRecDepth 65536 in
set_option maxHeartbeats 40000000 in
theorem c_maxJ {l : Launch} {Z : State} {a0 : Array Value} (hw : W a0 Z) (x z : Int64) (h0 : Heap)  :
    Con l Z EL0 (⟨"java/lang/Math", "max", "(JJ)J"⟩ : MethodName) jdk_29_method_66_code 4 (some .long) ({ frames := 0, cells := 0, slots := 0, locals := 0 } : Room) #[(.long x), (.long z)] h0 [] (fun v h' Sf => v = some (.long (if x < z then z else x)) ∧ h' = h0) := by
  refine Con.intro (Jvm.Free.JP.mathPlain rfl (by decide +kernel)) ?_
  intro p e s m below meth c T X hss
  refine Goes.cast (g' := mkF m 0 #[.val (.long x), .second, .val (.long z), .second] []) (by first | (simp [entryFrame, mkF, argsToLocals, Value.category]; done) | rfl) ?_
  refine o_lloadN X d_jdk_29_method_66_0 rfl (q := 1) rfl ?_
  refine o_lloadN X d_jdk_29_method_66_1 rfl (q := 2) rfl ?_
  refine o_lcmp X d_jdk_29_method_66_2 (w := (lcmpW x z)) rfl (q := 3) rfl ?_
  by_cases hc3 : (lcmpW x z) < (0 : Int32)
  · refine o_ifY X d_jdk_29_method_66_3 (tlt hc3).1 (by decide) (q := 10) (by decide) ?_
    refine o_lloadN X d_jdk_29_method_66_10 rfl (q := 11) rfl ?_
    exact o_retJ X d_jdk_29_method_66_11 (fun Sf hSf => ⟨by rw [if_pos ((lw_lt _ _).mp hc3)], rfl⟩) (by decide) (by decide)
  · refine o_ifN X d_jdk_29_method_66_3 (flt hc3).1 (q := 6) rfl ?_
    refine o_lloadN X d_jdk_29_method_66_6 rfl (q := 7) rfl ?_
    refine o_goto X d_jdk_29_method_66_7 (by decide) (q := 11) (by decide) ?_
    exact o_retJ X d_jdk_29_method_66_11 (fun Sf hSf => ⟨by rw [if_neg (fun q => hc3 ((lw_lt _ _).mpr q))], rfl⟩) (by decide) (by decide)
set_option maxRecDepth 65536 in
set_option maxHeartbeats 40000000 in
theorem c_minJ {l : Launch} {Z : State} {a0 : Array Value} (hw : W a0 Z) (x z : Int64) (h0 : Heap)  :
    Con l Z EL0 (⟨"java/lang/Math", "min", "(JJ)J"⟩ : MethodName) jdk_29_method_70_code 4 (some .long) ({ frames := 0, cells := 0, slots := 0, locals := 0 } : Room) #[(.long x), (.long z)] h0 [] (fun v h' Sf => v = some (.long (if z < x then z else x)) ∧ h' = h0) := by
  refine Con.intro (Jvm.Free.JP.mathPlain rfl (by decide +kernel)) ?_
  intro p e s m below meth c T X hss
  refine Goes.cast (g' := mkF m 0 #[.val (.long x), .second, .val (.long z), .second] []) (by first | (simp [entryFrame, mkF, argsToLocals, Value.category]; done) | rfl) ?_
  refine o_lloadN X d_jdk_29_method_70_0 rfl (q := 1) rfl ?_
  refine o_lloadN X d_jdk_29_method_70_1 rfl (q := 2) rfl ?_
  refine o_lcmp X d_jdk_29_method_70_2 (w := (lcmpW x z)) rfl (q := 3) rfl ?_
  by_cases hc3 : (0 : Int32) < (lcmpW x z)
  · refine o_ifY X d_jdk_29_method_70_3 (tlt hc3).2.2.1 (by decide) (q := 10) (by decide) ?_
    refine o_lloadN X d_jdk_29_method_70_10 rfl (q := 11) rfl ?_
    exact o_retJ X d_jdk_29_method_70_11 (fun Sf hSf => ⟨by rw [if_pos ((lw_gt _ _).mp hc3)], rfl⟩) (by decide) (by decide)
  · refine o_ifN X d_jdk_29_method_70_3 (flt hc3).2.2.1 (q := 6) rfl ?_
    refine o_lloadN X d_jdk_29_method_70_6 rfl (q := 7) rfl ?_
    refine o_goto X d_jdk_29_method_70_7 (by decide) (q := 11) (by decide) ?_
    exact o_retJ X d_jdk_29_method_70_11 (fun Sf hSf => ⟨by rw [if_neg (fun q => hc3 ((lw_gt _ _).mpr q))], rfl⟩) (by decide) (by decide)
set_option maxRecDepth 65536 in
set_option maxHeartbeats 40000000 in
theorem c_canI {l : Launch} {Z : State} {a0 : Array Value} (hw : W a0 Z) (h0 : Heap)  :
    Con l Z EL0 (⟨"java/lang/StringLatin1", "canEncode", "(I)Z"⟩ : MethodName) jdk_43_method_4_code 1 (some .boolean) ({ frames := 0, cells := 0, slots := 0, locals := 0 } : Room) #[(.int (123 : Int32))] h0 [] (fun v h' Sf => v = some (.int 1) ∧ h' = h0) := by
  have hpn : plainName "java/lang/StringLatin1" = true := by first | (simp [plainName, overriddenIn]; done) | decide +kernel
  refine Con.intro (plainFor_of_name hpn) ?_
  intro p e s m below meth c T X hss
  refine Goes.cast (g' := mkF m 0 #[.val (.int (123 : Int32))] []) (by first | (simp [entryFrame, mkF, argsToLocals, Value.category]; done) | rfl) ?_
  refine o_iloadN X d_jdk_43_method_4_0 rfl (q := 1) rfl ?_
  refine o_ifN X d_jdk_43_method_4_1 (by decide) (q := 4) rfl ?_
  refine o_iloadN X d_jdk_43_method_4_4 rfl (q := 5) rfl ?_
  refine o_sipush X d_jdk_43_method_4_5 (w := 255) rfl (q := 8) rfl ?_
  refine o_icmpN X d_jdk_43_method_4_8 (by decide) (q := 11) rfl ?_
  refine o_iconst X d_jdk_43_method_4_11 (w := 1) rfl (q := 12) rfl ?_
  refine o_goto X d_jdk_43_method_4_12 (by decide) (q := 16) (by decide) ?_
  exact o_retN X d_jdk_43_method_4_16 (by simp) (fun Sf hSf => ⟨rfl, rfl⟩) (by decide) (by decide)
set_option maxRecDepth 65536 in
set_option maxHeartbeats 40000000 in
theorem c_idxChar {l : Launch} {Z : State} {a0 : Array Value} (hw : W a0 Z) (b : Addr) (kb : ClassId) (cs : List Int32) (i0 n : Nat) (h0 : Heap) (Vb : Arv Z h0 b kb .byte (Int32.ofNat cs.length) ((cs.map fun c => c.toInt8.toInt32).map Value.int) (.int 0)) (hN : cs.length ≤ 4000) (hlat : ∀ c ∈ cs, ¬ c < 0 ∧ ¬ (255 : Int32) < c) (hi0 : i0 ≤ n) (hn : n ≤ cs.length) :
    Con l Z EL0 (⟨"java/lang/StringLatin1", "indexOfChar", "([BIII)I"⟩ : MethodName) jdk_43_method_23_code 6 (some .int) ({ frames := 0, cells := 0, slots := 0, locals := 0 } : Room) #[(.ref b), (.int (123 : Int32)), (.int (Int32.ofNat i0)), (.int (Int32.ofNat n))] h0 [] (fun v h' Sf => ∃ r, v = some (.int r) ∧ h' = h0 ∧ Fst (fun j => cs.getD j 0 = 123) i0 n r) := by
  have hpn : plainName "java/lang/StringLatin1" = true := by first | (simp [plainName, overriddenIn]; done) | decide +kernel
  refine Con.intro (plainFor_of_name hpn) ?_
  intro p e s m below meth c T X hss
  refine Goes.cast (g' := mkF m 0 #[.val (.ref b), .val (.int (123 : Int32)), .val (.int (Int32.ofNat i0)), .val (.int (Int32.ofNat n)), .unset, .unset] []) (by first | (simp [entryFrame, mkF, argsToLocals, Value.category]; done) | rfl) ?_
  refine o_iloadN X d_jdk_43_method_23_0 rfl (q := 1) rfl ?_
  refine o_i2b X d_jdk_43_method_23_1 (w := (123 : Int32)) (by decide) (q := 2) rfl ?_
  refine o_istore X d_jdk_43_method_23_2 rfl (L' := #[.val (.ref b), .val (.int (123 : Int32)), .val (.int (Int32.ofNat i0)), .val (.int (Int32.ofNat n)), .val (.int (123 : Int32)), .unset]) rfl (q := 4) rfl ?_
  refine o_iloadN X d_jdk_43_method_23_4 rfl (q := 5) rfl ?_
  refine o_istore X d_jdk_43_method_23_5 rfl (L' := #[.val (.ref b), .val (.int (123 : Int32)), .val (.int (Int32.ofNat i0)), .val (.int (Int32.ofNat n)), .val (.int (123 : Int32)), .val (.int (Int32.ofNat i0))]) rfl (q := 7) rfl ?_
  have loop : ∀ (k i : Nat), i + k = n → i0 ≤ i → (∀ j, i0 ≤ j → j < i → ¬ cs.getD j 0 = 123) → Goes p e below (FinQ Z EL0 s (fun v h' Sf => ∃ r, v = some (.int r) ∧ h' = h0 ∧ Fst (fun j => cs.getD j 0 = 123) i0 n r) (({ frames := 0, cells := 0, slots := 0, locals := 0 } : Room)).cells (({ frames := 0, cells := 0, slots := 0, locals := 0 } : Room)).slots) T (mkF m 7 #[.val (.ref b), .val (.int (123 : Int32)), .val (.int (Int32.ofNat i0)), .val (.int (Int32.ofNat n)), .val (.int (123 : Int32)), .val (.int (Int32.ofNat i))] []) := by
    intro k
    induction k with
    | zero =>
      intro i hi h0 hb
      refine o_iload X d_jdk_43_method_23_7 rfl (q := 9) rfl ?_
      refine o_iloadN X d_jdk_43_method_23_9 rfl (q := 10) rfl ?_
      refine o_icmpY X d_jdk_43_method_23_10 (flt (fun q => absurd ((n_lt (by omega) (by omega)).mp q) (by omega))).2.1 (by decide) (q := 31) (by decide) ?_
      refine o_iconst X d_jdk_43_method_23_31 (w := -1) rfl (q := 32) rfl ?_
      exact o_retI X d_jdk_43_method_23_32 (fun Sf hSf => ⟨_, rfl, rfl, Or.inl ⟨rfl, fun j a b => hb j a (by omega)⟩⟩) (by decide) (by decide)
    | succ k ih =>
      intro i hi h0 hb
      refine o_iload X d_jdk_43_method_23_7 rfl (q := 9) rfl ?_
      refine o_iloadN X d_jdk_43_method_23_9 rfl (q := 10) rfl ?_
      refine o_icmpN X d_jdk_43_method_23_10 (tlt ((n_lt (by omega) (by omega)).mpr (by omega))).2.1 (q := 13) rfl ?_
      refine o_aloadN X d_jdk_43_method_23_13 rfl rfl (q := 14) rfl ?_
      refine o_iload X d_jdk_43_method_23_14 rfl (q := 16) rfl ?_
      refine o_baload X Vb (n_in (by omega) (by omega)) (v := .int (cs.getD i 0).toInt8.toInt32) (n_get (by omega) (by omega)) d_jdk_43_method_23_16 (q := 17) rfl ?_
      refine o_iload X d_jdk_43_method_23_17 rfl (q := 19) rfl ?_
      by_cases hc19 : (cs.getD i 0).toInt8.toInt32 = (123 : Int32)
      · refine o_icmpN X d_jdk_43_method_23_19 (teq hc19).2 (q := 22) rfl ?_
        refine o_iload X d_jdk_43_method_23_22 rfl (q := 24) rfl ?_
        exact o_retI X d_jdk_43_method_23_24 (fun Sf hSf => ⟨_, rfl, rfl, Or.inr ⟨i, h0, by omega, (own_b8 hlat (by decide) (by decide)).mp hc19, rfl, hb⟩⟩) (by decide) (by decide)
      · refine o_icmpY X d_jdk_43_method_23_19 (feq hc19).2 (by decide) (q := 25) (by decide) ?_
        refine o_iinc X d_jdk_43_method_23_25 rfl (z := (Int32.ofNat (i + 1))) (n_add _ _) (L' := #[.val (.ref b), .val (.int (123 : Int32)), .val (.int (Int32.ofNat i0)), .val (.int (Int32.ofNat n)), .val (.int (123 : Int32)), .val (.int (Int32.ofNat (i + 1)))]) rfl (q := 28) rfl ?_
        refine o_goto X d_jdk_43_method_23_28 (by decide) (q := 7) (by decide) ?_
        exact ih (i + 1) (by omega) (by omega) (fun j a b => by rcases Nat.lt_or_ge j i with q | q; exact hb j a q; obtain rfl : j = i := (by omega); exact fun q => hc19 ((own_b8 hlat (by decide) (by decide)).mpr q))
  exact loop (n - i0) i0 (by omega) (Nat.le_refl _) (fun j a b => absurd a (by omega))
set_option maxRecDepth 65536 in
set_option maxHeartbeats 40000000 in
theorem c_idxL {l : Launch} {Z : State} {a0 : Array Value} (hw : W a0 Z) (b : Addr) (kb : ClassId) (cs : List Int32) (fr : Int32) (h0 : Heap) (Vb : Arv Z h0 b kb .byte (Int32.ofNat cs.length) ((cs.map fun c => c.toInt8.toInt32).map Value.int) (.int 0)) (hN : cs.length ≤ 4000) (hlat : ∀ c ∈ cs, ¬ c < 0 ∧ ¬ (255 : Int32) < c) :
    Con l Z EL0 (⟨"java/lang/StringLatin1", "indexOf", "([BIII)I"⟩ : MethodName) jdk_43_method_22_code 4 (some .int) ({ frames := 1, cells := 0, slots := 0, locals := 17 } : Room) #[(.ref b), (.int (123 : Int32)), (.int fr), (.int (Int32.ofNat cs.length))] h0 [] (fun v h' Sf => ∃ r, v = some (.int r) ∧ h' = h0 ∧ Fst (fun j => cs.getD j 0 = 123) fr.toNatClampNeg cs.length r) := by
  have hpn : plainName "java/lang/StringLatin1" = true := by first | (simp [plainName, overriddenIn]; done) | decide +kernel
  refine Con.intro (plainFor_of_name hpn) ?_
  intro p e s m below meth c T X hss
  refine Goes.cast (g' := mkF m 0 #[.val (.ref b), .val (.int (123 : Int32)), .val (.int fr), .val (.int (Int32.ofNat cs.length))] []) (by first | (simp [entryFrame, mkF, argsToLocals, Value.category]; done) | rfl) ?_
  refine o_iloadN X d_jdk_43_method_22_0 rfl (q := 1) rfl ?_
  refine o_stat X [(.int (123 : Int32))] (y' := (⟨"java/lang/StringLatin1", "canEncode", "(I)Z"⟩ : MethodName)) (c_canI hw _) all0 (w72 hw) (w73 hw) (w70 hw) (w74 hw) (by decide) d_jdk_43_method_22_1 (rest := []) rfl rfl (lenOf pd1 rfl) rfl (by decide) (Nat.le_of_ble_eq_true rfl) (by decide) (by decide) (q := 4) rfl ?_
  intro v1 vm1 T1 h1 l1 X1 R1 q1
  obtain ⟨rfl, e1⟩ := q1
  have e1 := e1.symm
  subst e1
  show Goes p e below _ T1 (mkF m 4 #[.val (.ref b), .val (.int (123 : Int32)), .val (.int fr), .val (.int (Int32.ofNat cs.length))] [(.int (1 : Int32))])
  refine o_ifY X1 d_jdk_43_method_22_4 (by decide) (by decide) (q := 9) (by decide) ?_
  refine o_iloadN X1 d_jdk_43_method_22_9 rfl (q := 10) rfl ?_
  refine o_iconst X1 d_jdk_43_method_22_10 (w := 0) rfl (q := 11) rfl ?_
  refine o_stat X1 [(.int fr), (.int (0 : Int32))] (y' := (⟨"java/lang/Math", "max", "(II)I"⟩ : MethodName)) (c_maxI hw fr 0 _) all0 (w75 hw) (w76 hw) (w77 hw) (w78 hw) (by decide) d_jdk_43_method_22_11 (rest := []) rfl rfl (lenOf pd2 rfl) rfl (by decide) (Nat.le_of_ble_eq_true rfl) (by decide) (by decide) (q := 14) rfl ?_
  intro v2 vm2 T2 h2 l2 X2 R2 q2
  obtain ⟨rfl, e2⟩ := q2
  have e2 := e2.symm
  subst e2
  show Goes p e below _ T2 (mkF m 14 #[.val (.ref b), .val (.int (123 : Int32)), .val (.int fr), .val (.int (Int32.ofNat cs.length))] [(.int (if fr < 0 then (0 : Int32) else fr))])
  obtain ⟨f1, h_f1⟩ : ∃ z : Int32, (if fr < 0 then (0 : Int32) else fr) = z := ⟨_, rfl⟩
  refine o_istoreN X2 d_jdk_43_method_22_14 h_f1 (L' := #[.val (.ref b), .val (.int (123 : Int32)), .val (.int f1), .val (.int (Int32.ofNat cs.length))]) rfl (q := 15) rfl ?_
  refine o_iloadN X2 d_jdk_43_method_22_15 rfl (q := 16) rfl ?_
  refine o_aloadN X2 d_jdk_43_method_22_16 rfl rfl (q := 17) rfl ?_
  have f3 := Vb
  refine o_len X2 f3 d_jdk_43_method_22_17 (q := 18) rfl ?_
  refine o_stat X2 [(.int (Int32.ofNat cs.length)), (.int (Int32.ofNat cs.length))] (y' := (⟨"java/lang/Math", "min", "(II)I"⟩ : MethodName)) (c_minI hw (Int32.ofNat cs.length) (Int32.ofNat cs.length) _) all0 (w79 hw) (w80 hw) (w77 hw) (w81 hw) (by decide) d_jdk_43_method_22_18 (rest := []) rfl rfl (lenOf pd2 rfl) rfl (by decide) (Nat.le_of_ble_eq_true rfl) (by decide) (by decide) (q := 21) rfl ?_
  intro v4 vm4 T4 h4 l4 X4 R4 q4
  obtain ⟨rfl, e4⟩ := q4
  have e4 := e4.symm
  subst e4
  show Goes p e below _ T4 (mkF m 21 #[.val (.ref b), .val (.int (123 : Int32)), .val (.int f1), .val (.int (Int32.ofNat cs.length))] [(.int (if (Int32.ofNat cs.length) < (Int32.ofNat cs.length) then (Int32.ofNat cs.length) else (Int32.ofNat cs.length)))])
  rw [ite_self]
  refine o_istoreN X4 d_jdk_43_method_22_21 rfl (L' := #[.val (.ref b), .val (.int (123 : Int32)), .val (.int f1), .val (.int (Int32.ofNat cs.length))]) rfl (q := 22) rfl ?_
  obtain ⟨f2, hf2, hf3, hf4⟩ := own_clamp h_f1
  subst hf3
  refine o_iloadN X4 d_jdk_43_method_22_22 rfl (q := 23) rfl ?_
  refine o_iloadN X4 d_jdk_43_method_22_23 rfl (q := 24) rfl ?_
  by_cases hc24 : (Int32.ofNat f2) < (Int32.ofNat cs.length)
  · refine o_icmpY X4 d_jdk_43_method_22_24 (tlt hc24).1 (by decide) (q := 29) (by decide) ?_
    refine o_aloadN X4 d_jdk_43_method_22_29 rfl rfl (q := 30) rfl ?_
    refine o_iloadN X4 d_jdk_43_method_22_30 rfl (q := 31) rfl ?_
    refine o_iloadN X4 d_jdk_43_method_22_31 rfl (q := 32) rfl ?_
    refine o_iloadN X4 d_jdk_43_method_22_32 rfl (q := 33) rfl ?_
    have f5 := f3
    refine o_stat X4 [(.ref b), (.int (123 : Int32)), (.int (Int32.ofNat f2)), (.int (Int32.ofNat cs.length))] (y' := (⟨"java/lang/StringLatin1", "indexOfChar", "([BIII)I"⟩ : MethodName)) (c_idxChar hw b kb cs f2 cs.length _ f5 hN hlat (Nat.le_of_lt ((n_lt (by omega) (by omega)).mp hc24)) (Nat.le_refl _)) all0 (w82 hw) (w83 hw) (w70 hw) (w84 hw) (by decide) d_jdk_43_method_22_33 (rest := []) rfl rfl (lenOf pd3 rfl) rfl (by decide) (Nat.le_of_ble_eq_true rfl) (by decide) (by decide) (q := 36) rfl ?_
    intro v6 vm6 T6 h6 l6 X6 R6 q6
    obtain ⟨r6, rfl, e6, q6⟩ := q6
    have e6 := e6.symm
    subst e6
    show Goes p e below _ T6 (mkF m 36 #[.val (.ref b), .val (.int (123 : Int32)), .val (.int (Int32.ofNat f2)), .val (.int (Int32.ofNat cs.length))] [(.int r6)])
    exact o_retI X6 d_jdk_43_method_22_36 (fun Sf hSf => ⟨_, rfl, rfl, hf4 ▸ q6⟩) (by decide) (by decide)
  · refine o_icmpN X4 d_jdk_43_method_22_24 (flt hc24).1 (q := 27) rfl ?_
    refine o_iconst X4 d_jdk_43_method_22_27 (w := -1) rfl (q := 28) rfl ?_
    exact o_retI X4 d_jdk_43_method_22_28 (fun Sf hSf => ⟨_, rfl, rfl, Or.inl ⟨rfl, fun j a b => absurd b (by have : ¬ f2 < cs.length := fun q => hc24 ((n_lt (by omega) (by omega)).mpr q); omega)⟩⟩) (by decide) (by decide)
set_option maxRecDepth 65536 in
set_option maxHeartbeats 40000000 in
theorem c_idxII {l : Launch} {Z : State} {a0 : Array Value} (hw : W a0 Z) (a b : Addr) (kb : ClassId) (cs : List Int32) (fr : Int32) (h0 : Heap) (zc : Int32) (O2 : Sta Z Z.heap "java/lang/String" "COMPACT_STRINGS" "Z" (.int zc)) (P5 : ¬ zc = 0) (L : LS Z h0 a b kb cs) :
    Con l Z EL0 (⟨"java/lang/String", "indexOf", "(II)I"⟩ : MethodName) jdk_42_method_80_code 3 (some .int) ({ frames := 2, cells := 0, slots := 0, locals := 40 } : Room) #[(.ref a), (.int (123 : Int32)), (.int fr)] h0 [] (fun v h' Sf => ∃ r, v = some (.int r) ∧ h' = h0 ∧ Fst (fun j => cs.getD j 0 = 123) fr.toNatClampNeg cs.length r) := by
  have hpn : plainName "java/lang/String" = true := by first | (simp [plainName, overriddenIn]; done) | decide +kernel
  refine Con.intro (plainFor_of_name hpn) ?_
  intro p e s m below meth c T X hss
  refine Goes.cast (g' := mkF m 0 #[.val (.ref a), .val (.int (123 : Int32)), .val (.int fr)] []) (by first | (simp [entryFrame, mkF, argsToLocals, Value.category]; done) | rfl) ?_
  refine o_aloadN X d_jdk_42_method_80_0 rfl rfl (q := 1) rfl ?_
  refine o_virt X [] (y' := (⟨"java/lang/String", "isLatin1", "()Z"⟩ : MethodName)) L.1 (c_isLatin1 hw a b kb cs _ zc O2 P5 L) all0 (w53 hw) (w54 hw) (w56 hw) (w55 hw) (w57 hw) (w14 hw) (by decide) d_jdk_42_method_80_1 (rest := []) rfl rfl (lenOf pd4 rfl) rfl (by decide) (Nat.le_of_ble_eq_true rfl) (by decide) (by decide) (q := 4) rfl ?_
  intro v1 vm1 T1 h1 l1 X1 R1 q1
  obtain ⟨rfl, e1⟩ := q1
  have e1 := e1.symm
  subst e1
  show Goes p e below _ T1 (mkF m 4 #[.val (.ref a), .val (.int (123 : Int32)), .val (.int fr)] [(.int (1 : Int32))])
  refine o_ifN X1 d_jdk_42_method_80_4 (by decide) (q := 7) rfl ?_
  refine o_aloadN X1 d_jdk_42_method_80_7 rfl rfl (q := 8) rfl ?_
  have f2 := L
  refine o_getF X1 f2.2.2.1 (host := "") (Or.inl (w39 hw)) Via.refl d_jdk_42_method_80_8 (q := 11) rfl ?_
  intro T3 X3
  refine o_iloadN X3 d_jdk_42_method_80_11 rfl (q := 12) rfl ?_
  refine o_iloadN X3 d_jdk_42_method_80_12 rfl (q := 13) rfl ?_
  refine o_aloadN X3 d_jdk_42_method_80_13 rfl rfl (q := 14) rfl ?_
  refine o_strlen X3 f2 O2 P5 (hwln hw) (w13 hw) (w58 hw) (w59 hw) (w61 hw) (w60 hw) d_jdk_42_method_80_14 rfl (by decide) (Nat.le_of_ble_eq_true rfl) (by decide) (by decide) (q := 17) rfl ?_
  intro T4 l4 X4
  refine o_stat X4 [(.ref b), (.int (123 : Int32)), (.int fr), (.int (Int32.ofNat cs.length))] (y' := (⟨"java/lang/StringLatin1", "indexOf", "([BIII)I"⟩ : MethodName)) (c_idxL hw b kb cs fr _ f2.2.2.2.1 L.2.2.2.2.2 L.2.2.2.2.1) all0 (w68 hw) (w69 hw) (w70 hw) (w71 hw) (by decide) d_jdk_42_method_80_17 (rest := []) rfl rfl (lenOf pd3 rfl) rfl (by decide) (Nat.le_of_ble_eq_true rfl) (by decide) (by decide) (q := 20) rfl ?_
  intro v5 vm5 T5 h5 l5 X5 R5 q5
  obtain ⟨r5, rfl, e5, q5⟩ := q5
  have e5 := e5.symm
  subst e5
  show Goes p e below _ T5 (mkF m 20 #[.val (.ref a), .val (.int (123 : Int32)), .val (.int fr)] [(.int r5)])
  refine o_goto X5 d_jdk_42_method_80_20 (by decide) (q := 36) (by decide) ?_
  exact o_retI X5 d_jdk_42_method_80_36 (fun Sf hSf => ⟨_, rfl, rfl, q5⟩) (by decide) (by decide)
set_option maxRecDepth 65536 in
set_option maxHeartbeats 40000000 in
theorem c_clamp {l : Launch} {Z : State} {a0 : Array Value} (hw : W a0 Z) (x : Int64) (n f : Nat) (h0 : Heap) (hn : n ≤ 4000) (hf : f ≤ n) (hx : x = (Int32.ofNat f).toInt64) :
    Con l Z EL0 (⟨"java/lang/Math", "clamp", "(JII)I"⟩ : MethodName) jdk_29_method_73_code 4 (some .int) ({ frames := 1, cells := 0, slots := 0, locals := 17 } : Room) #[(.long x), (.int (0 : Int32)), (.int (Int32.ofNat n))] h0 [] (fun v h' Sf => v = some (.int (Int32.ofNat f)) ∧ h' = h0) := by
  refine Con.intro (Jvm.Free.JP.mathPlain rfl (by decide +kernel)) ?_
  intro p e s m below meth c T X hss
  refine Goes.cast (g' := mkF m 0 #[.val (.long x), .second, .val (.int (0 : Int32)), .val (.int (Int32.ofNat n))] []) (by first | (simp [entryFrame, mkF, argsToLocals, Value.category]; done) | rfl) ?_
  refine o_iloadN X d_jdk_29_method_73_0 rfl (q := 1) rfl ?_
  refine o_iloadN X d_jdk_29_method_73_1 rfl (q := 2) rfl ?_
  refine o_icmpY X d_jdk_29_method_73_2 (flt (n_neg (by omega))).2.2.2 (by decide) (q := 36) (by decide) ?_
  refine o_iloadN X d_jdk_29_method_73_36 rfl (q := 37) rfl ?_
  refine o_i2l X d_jdk_29_method_73_37 (w := ((Int32.ofNat n).toInt64)) rfl (q := 38) rfl ?_
  refine o_lloadN X d_jdk_29_method_73_38 rfl (q := 39) rfl ?_
  refine o_iloadN X d_jdk_29_method_73_39 rfl (q := 40) rfl ?_
  refine o_i2l X d_jdk_29_method_73_40 (w := (0 : Int64)) (by decide) (q := 41) rfl ?_
  refine o_stat X [(.long x), (.long (0 : Int64))] (y' := (⟨"java/lang/Math", "max", "(JJ)J"⟩ : MethodName)) (c_maxJ hw x (0 : Int64) _) all0 (w117 hw) (w118 hw) (w77 hw) (w119 hw) (by decide) d_jdk_29_method_73_41 (rest := [(.long ((Int32.ofNat n).toInt64))]) rfl rfl (lenOf pd5 rfl) rfl (by decide) (Nat.le_of_ble_eq_true rfl) (by decide) (by decide) (q := 44) rfl ?_
  intro v1 vm1 T1 h1 l1 X1 R1 q1
  obtain ⟨rfl, e1⟩ := q1
  have e1 := e1.symm
  subst e1
  show Goes p e below _ T1 (mkF m 44 #[.val (.long x), .second, .val (.int (0 : Int32)), .val (.int (Int32.ofNat n))] [(.long (if x < (0 : Int64) then (0 : Int64) else x)), (.long ((Int32.ofNat n).toInt64))])
  refine o_stat X1 [(.long ((Int32.ofNat n).toInt64)), (.long (if x < (0 : Int64) then (0 : Int64) else x))] (y' := (⟨"java/lang/Math", "min", "(JJ)J"⟩ : MethodName)) (c_minJ hw (Int32.ofNat n).toInt64 (if x < (0 : Int64) then (0 : Int64) else x) _) all0 (w120 hw) (w121 hw) (w77 hw) (w122 hw) (by decide) d_jdk_29_method_73_44 (rest := []) rfl rfl (lenOf pd5 rfl) rfl (by decide) (Nat.le_of_ble_eq_true rfl) (by decide) (by decide) (q := 47) rfl ?_
  intro v2 vm2 T2 h2 l2 X2 R2 q2
  obtain ⟨rfl, e2⟩ := q2
  have e2 := e2.symm
  subst e2
  show Goes p e below _ T2 (mkF m 47 #[.val (.long x), .second, .val (.int (0 : Int32)), .val (.int (Int32.ofNat n))] [(.long (if (if x < (0 : Int64) then (0 : Int64) else x) < (Int32.ofNat n).toInt64 then (if x < (0 : Int64) then (0 : Int64) else x) else (Int32.ofNat n).toInt64))])
  refine o_l2i X2 d_jdk_29_method_73_47 (w := ((if (if x < (0 : Int64) then (0 : Int64) else x) < (Int32.ofNat n).toInt64 then (if x < (0 : Int64) then (0 : Int64) else x) else (Int32.ofNat n).toInt64).toInt32)) rfl (q := 48) rfl ?_
  exact o_retI X2 d_jdk_29_method_73_48 (fun Sf hSf => ⟨by rw [own_clampJ hf hx], rfl⟩) (by decide) (by decide)
set_option maxRecDepth 65536 in
set_option maxHeartbeats 40000000 in
theorem c_idxS {l : Launch} {Z : State} {a0 : Array Value} (hw : W a0 Z) (b t : Addr) (kb kt : ClassId) (cs : List Int32) (f : Nat) (h0 : Heap) (Vb : Arv Z h0 b kb .byte (Int32.ofNat cs.length) ((cs.map fun c => c.toInt8.toInt32).map Value.int) (.int 0)) (Vt : Arv Z h0 t kt .byte (2 : Int32) [(.int (123 : Int32)), (.int (125 : Int32))] (.int (0 : Int32))) (hN : cs.length ≤ 4000) (hlat : ∀ c ∈ cs, ¬ c < 0 ∧ ¬ (255 : Int32) < c) (h2 : 2 ≤ cs.length) (hf : f ≤ cs.length - 1) :
    Con l Z EL0 (⟨"java/lang/StringLatin1", "indexOf", "([BI[BII)I"⟩ : MethodName) jdk_43_method_25_code 11 (some .int) ({ frames := 0, cells := 0, slots := 0, locals := 0 } : Room) #[(.ref b), (.int (Int32.ofNat cs.length)), (.ref t), (.int (2 : Int32)), (.int (Int32.ofNat f))] h0 [] (fun v h' Sf => ∃ r, v = some (.int r) ∧ h' = h0 ∧ Fst (PA cs) f cs.length r) := by
  have hpn : plainName "java/lang/StringLatin1" = true := by first | (simp [plainName, overriddenIn]; done) | decide +kernel
  refine Con.intro (plainFor_of_name hpn) ?_
  intro p e s m below meth c T X hss
  refine Goes.cast (g' := mkF m 0 #[.val (.ref b), .val (.int (Int32.ofNat cs.length)), .val (.ref t), .val (.int (2 : Int32)), .val (.int (Int32.ofNat f)), .unset, .unset, .unset, .unset, .unset, .unset] []) (by first | (simp [entryFrame, mkF, argsToLocals, Value.category]; done) | rfl) ?_
  refine o_aloadN X d_jdk_43_method_25_0 rfl rfl (q := 1) rfl ?_
  refine o_iconst X d_jdk_43_method_25_1 (w := 0) rfl (q := 2) rfl ?_
  refine o_baload X Vt (by decide) (v := (.int (123 : Int32))) rfl d_jdk_43_method_25_2 (q := 3) rfl ?_
  refine o_istore X d_jdk_43_method_25_3 rfl (L' := #[.val (.ref b), .val (.int (Int32.ofNat cs.length)), .val (.ref t), .val (.int (2 : Int32)), .val (.int (Int32.ofNat f)), .val (.int (123 : Int32)), .unset, .unset, .unset, .unset, .unset]) rfl (q := 5) rfl ?_
  refine o_iloadN X d_jdk_43_method_25_5 rfl (q := 6) rfl ?_
  refine o_iloadN X d_jdk_43_method_25_6 rfl (q := 7) rfl ?_
  refine o_isub X d_jdk_43_method_25_7 (w := (Int32.ofNat (cs.length - 2))) (n_sub (b := 2) h2) (q := 8) rfl ?_
  refine o_istore X d_jdk_43_method_25_8 rfl (L' := #[.val (.ref b), .val (.int (Int32.ofNat cs.length)), .val (.ref t), .val (.int (2 : Int32)), .val (.int (Int32.ofNat f)), .val (.int (123 : Int32)), .val (.int (Int32.ofNat (cs.length - 2))), .unset, .unset, .unset, .unset]) rfl (q := 10) rfl ?_
  refine o_iload X d_jdk_43_method_25_10 rfl (q := 12) rfl ?_
  refine o_istore X d_jdk_43_method_25_12 rfl (L' := #[.val (.ref b), .val (.int (Int32.ofNat cs.length)), .val (.ref t), .val (.int (2 : Int32)), .val (.int (Int32.ofNat f)), .val (.int (123 : Int32)), .val (.int (Int32.ofNat (cs.length - 2))), .val (.int (Int32.ofNat f)), .unset, .unset, .unset]) rfl (q := 14) rfl ?_
  have seg : ∀ i, i + 1 < cs.length → f ≤ i → (∀ j, f ≤ j → j < i → ¬ PA cs j) → cs.getD i 0 = 123 → (¬ PA cs i → ∀ (s8 s9 s10 : Slot), One s8 → One s9 → One s10 → Goes p e below (FinQ Z EL0 s (fun v h' Sf => ∃ r, v = some (.int r) ∧ h' = h0 ∧ Fst (PA cs) f cs.length r) (({ frames := 0, cells := 0, slots := 0, locals := 0 } : Room)).cells (({ frames := 0, cells := 0, slots := 0, locals := 0 } : Room)).slots) T (mkF m 14 #[.val (.ref b), .val (.int (Int32.ofNat cs.length)), .val (.ref t), .val (.int (2 : Int32)), .val (.int (Int32.ofNat f)), .val (.int (123 : Int32)), .val (.int (Int32.ofNat (cs.length - 2))), .val (.int (Int32.ofNat (i + 1))), s8, s9, s10] [])) → ∀ (s8 s9 s10 : Slot), One s8 → One s9 → One s10 → Goes p e below (FinQ Z EL0 s (fun v h' Sf => ∃ r, v = some (.int r) ∧ h' = h0 ∧ Fst (PA cs) f cs.length r) (({ frames := 0, cells := 0, slots := 0, locals := 0 } : Room)).cells (({ frames := 0, cells := 0, slots := 0, locals := 0 } : Room)).slots) T (mkF m 52 #[.val (.ref b), .val (.int (Int32.ofNat cs.length)), .val (.ref t), .val (.int (2 : Int32)), .val (.int (Int32.ofNat f)), .val (.int (123 : Int32)), .val (.int (Int32.ofNat (cs.length - 2))), .val (.int (Int32.ofNat i)), s8, s9, s10] []) := by
    intro i hi hf hb he hn s8 s9 s10 o8 o9 o10
    refine o_iload X d_jdk_43_method_25_52 rfl (q := 54) rfl ?_
    refine o_iload X d_jdk_43_method_25_54 rfl (q := 56) rfl ?_
    refine o_icmpN X d_jdk_43_method_25_56 (flt (fun q => absurd ((n_lt (by omega) (by omega)).mp q) (by omega))).2.2.1 (q := 59) rfl ?_
    refine o_iload X d_jdk_43_method_25_59 rfl (q := 61) rfl ?_
    refine o_iconst X d_jdk_43_method_25_61 (w := 1) rfl (q := 62) rfl ?_
    refine o_iadd X d_jdk_43_method_25_62 (w := (Int32.ofNat (i + 1))) (n_add _ _) (q := 63) rfl ?_
    refine o_istore X d_jdk_43_method_25_63 rfl (L' := #[.val (.ref b), .val (.int (Int32.ofNat cs.length)), .val (.ref t), .val (.int (2 : Int32)), .val (.int (Int32.ofNat f)), .val (.int (123 : Int32)), .val (.int (Int32.ofNat (cs.length - 2))), .val (.int (Int32.ofNat i)), .val (.int (Int32.ofNat (i + 1))), s9, s10]) (Jvm.Free.XS.store1 rfl o8 rfl) (q := 65) rfl ?_
    refine o_iload X d_jdk_43_method_25_65 rfl (q := 67) rfl ?_
    refine o_iloadN X d_jdk_43_method_25_67 rfl (q := 68) rfl ?_
    refine o_iadd X d_jdk_43_method_25_68 (w := (Int32.ofNat (i + 3))) (n_add _ _) (q := 69) rfl ?_
    refine o_iconst X d_jdk_43_method_25_69 (w := 1) rfl (q := 70) rfl ?_
    refine o_isub X d_jdk_43_method_25_70 (w := (Int32.ofNat (i + 2))) (n_sub (b := 1) (by omega)) (q := 71) rfl ?_
    refine o_istore X d_jdk_43_method_25_71 rfl (L' := #[.val (.ref b), .val (.int (Int32.ofNat cs.length)), .val (.ref t), .val (.int (2 : Int32)), .val (.int (Int32.ofNat f)), .val (.int (123 : Int32)), .val (.int (Int32.ofNat (cs.length - 2))), .val (.int (Int32.ofNat i)), .val (.int (Int32.ofNat (i + 1))), .val (.int (Int32.ofNat (i + 2))), s10]) (Jvm.Free.XS.store1 rfl o9 rfl) (q := 73) rfl ?_
    refine o_iconst X d_jdk_43_method_25_73 (w := 1) rfl (q := 74) rfl ?_
    refine o_istore X d_jdk_43_method_25_74 rfl (L' := #[.val (.ref b), .val (.int (Int32.ofNat cs.length)), .val (.ref t), .val (.int (2 : Int32)), .val (.int (Int32.ofNat f)), .val (.int (123 : Int32)), .val (.int (Int32.ofNat (cs.length - 2))), .val (.int (Int32.ofNat i)), .val (.int (Int32.ofNat (i + 1))), .val (.int (Int32.ofNat (i + 2))), .val (.int (1 : Int32))]) (Jvm.Free.XS.store1 rfl o10 rfl) (q := 76) rfl ?_
    refine o_iload X d_jdk_43_method_25_76 rfl (q := 78) rfl ?_
    refine o_iload X d_jdk_43_method_25_78 rfl (q := 80) rfl ?_
    refine o_icmpN X d_jdk_43_method_25_80 (tlt ((n_lt (by omega) (by omega)).mpr (by omega))).2.1 (q := 83) rfl ?_
    refine o_aloadN X d_jdk_43_method_25_83 rfl rfl (q := 84) rfl ?_
    refine o_iload X d_jdk_43_method_25_84 rfl (q := 86) rfl ?_
    refine o_baload X Vb (n_in (by omega) (by omega)) (v := .int (cs.getD (i + 1) 0).toInt8.toInt32) (n_get (by omega) (by omega)) d_jdk_43_method_25_86 (q := 87) rfl ?_
    refine o_aloadN X d_jdk_43_method_25_87 rfl rfl (q := 88) rfl ?_
    refine o_iload X d_jdk_43_method_25_88 rfl (q := 90) rfl ?_
    refine o_baload X Vt (by decide) (v := (.int (125 : Int32))) rfl d_jdk_43_method_25_90 (q := 91) rfl ?_
    by_cases hc91 : (cs.getD (i + 1) 0).toInt8.toInt32 = (125 : Int32)
    · refine o_icmpN X d_jdk_43_method_25_91 (teq hc91).2 (q := 94) rfl ?_
      refine o_iinc X d_jdk_43_method_25_94 rfl (z := (Int32.ofNat ((i + 1) + 1))) (n_add _ _) (L' := #[.val (.ref b), .val (.int (Int32.ofNat cs.length)), .val (.ref t), .val (.int (2 : Int32)), .val (.int (Int32.ofNat f)), .val (.int (123 : Int32)), .val (.int (Int32.ofNat (cs.length - 2))), .val (.int (Int32.ofNat i)), .val (.int (Int32.ofNat ((i + 1) + 1))), .val (.int (Int32.ofNat (i + 2))), .val (.int (1 : Int32))]) rfl (q := 97) rfl ?_
      refine o_iinc X d_jdk_43_method_25_97 rfl (z := (2 : Int32)) (by decide) (L' := #[.val (.ref b), .val (.int (Int32.ofNat cs.length)), .val (.ref t), .val (.int (2 : Int32)), .val (.int (Int32.ofNat f)), .val (.int (123 : Int32)), .val (.int (Int32.ofNat (cs.length - 2))), .val (.int (Int32.ofNat i)), .val (.int (Int32.ofNat ((i + 1) + 1))), .val (.int (Int32.ofNat (i + 2))), .val (.int (2 : Int32))]) rfl (q := 100) rfl ?_
      refine o_goto X d_jdk_43_method_25_100 (by decide) (q := 76) (by decide) ?_
      refine o_iload X d_jdk_43_method_25_76 rfl (q := 78) rfl ?_
      refine o_iload X d_jdk_43_method_25_78 rfl (q := 80) rfl ?_
      refine o_icmpY X d_jdk_43_method_25_80 (flt (fun q => absurd ((n_lt (by omega) (by omega)).mp q) (by omega))).2.1 (by decide) (q := 103) (by decide) ?_
      refine o_iload X d_jdk_43_method_25_103 rfl (q := 105) rfl ?_
      refine o_iload X d_jdk_43_method_25_105 rfl (q := 107) rfl ?_
      refine o_icmpN X d_jdk_43_method_25_107 (teq rfl).2 (q := 110) rfl ?_
      refine o_iload X d_jdk_43_method_25_110 rfl (q := 112) rfl ?_
      exact o_retI X d_jdk_43_method_25_112 (fun Sf hSf => ⟨_, rfl, rfl, Or.inr ⟨i, hf, by omega, ⟨hi, he, (own_b8 hlat (by decide) (by decide)).mp hc91⟩, rfl, hb⟩⟩) (by decide) (by decide)
    · refine o_icmpY X d_jdk_43_method_25_91 (feq hc91).2 (by decide) (q := 103) (by decide) ?_
      refine o_iload X d_jdk_43_method_25_103 rfl (q := 105) rfl ?_
      refine o_iload X d_jdk_43_method_25_105 rfl (q := 107) rfl ?_
      refine o_icmpY X d_jdk_43_method_25_107 (feq (fun q => absurd ((n_eq (by omega) (by omega)).mp q) (by omega))).2 (by decide) (q := 113) (by decide) ?_
      refine o_iinc X d_jdk_43_method_25_113 rfl (z := (Int32.ofNat (i + 1))) (n_add _ _) (L' := #[.val (.ref b), .val (.int (Int32.ofNat cs.length)), .val (.ref t), .val (.int (2 : Int32)), .val (.int (Int32.ofNat f)), .val (.int (123 : Int32)), .val (.int (Int32.ofNat (cs.length - 2))), .val (.int (Int32.ofNat (i + 1))), .val (.int (Int32.ofNat (i + 1))), .val (.int (Int32.ofNat (i + 2))), .val (.int (1 : Int32))]) rfl (q := 116) rfl ?_
      refine o_goto X d_jdk_43_method_25_116 (by decide) (q := 14) (by decide) ?_
      exact hn (fun q => hc91 ((own_b8 hlat (by decide) (by decide)).mpr q.2.2)) _ _ _ (One.val rfl) (One.val rfl) (One.val rfl)
  have key : ∀ (n k : Nat), k ≤ n → (∀ (s8 s9 s10 : Slot), One s8 → One s9 → One s10 → ∀ i, i + k = cs.length - 1 → f ≤ i → (∀ j, f ≤ j → j < i → ¬ PA cs j) → Goes p e below (FinQ Z EL0 s (fun v h' Sf => ∃ r, v = some (.int r) ∧ h' = h0 ∧ Fst (PA cs) f cs.length r) (({ frames := 0, cells := 0, slots := 0, locals := 0 } : Room)).cells (({ frames := 0, cells := 0, slots := 0, locals := 0 } : Room)).slots) T (mkF m 14 #[.val (.ref b), .val (.int (Int32.ofNat cs.length)), .val (.ref t), .val (.int (2 : Int32)), .val (.int (Int32.ofNat f)), .val (.int (123 : Int32)), .val (.int (Int32.ofNat (cs.length - 2))), .val (.int (Int32.ofNat i)), s8, s9, s10] [])) ∧ (∀ (s8 s9 s10 : Slot), One s8 → One s9 → One s10 → ∀ i, i + k = cs.length - 1 → 0 < k → f ≤ i → (∀ j, f ≤ j → j < i → ¬ PA cs j) → ¬ (cs.getD i 0) = 123 → Goes p e below (FinQ Z EL0 s (fun v h' Sf => ∃ r, v = some (.int r) ∧ h' = h0 ∧ Fst (PA cs) f cs.length r) (({ frames := 0, cells := 0, slots := 0, locals := 0 } : Room)).cells (({ frames := 0, cells := 0, slots := 0, locals := 0 } : Room)).slots) T (mkF m 30 #[.val (.ref b), .val (.int (Int32.ofNat cs.length)), .val (.ref t), .val (.int (2 : Int32)), .val (.int (Int32.ofNat f)), .val (.int (123 : Int32)), .val (.int (Int32.ofNat (cs.length - 2))), .val (.int (Int32.ofNat i)), s8, s9, s10] [])) := by
    intro n
    induction n with
    | zero =>
      intro k hk
      obtain rfl : k = 0 := (by omega)
      refine ⟨fun s8 s9 s10 o8 o9 o10 i hi hf hb => ?_, fun s8 s9 s10 o8 o9 o10 i hi h0 => absurd h0 (by omega)⟩
      refine o_iload X d_jdk_43_method_25_14 rfl (q := 16) rfl ?_
      refine o_iload X d_jdk_43_method_25_16 rfl (q := 18) rfl ?_
      refine o_icmpY X d_jdk_43_method_25_18 (tlt ((n_lt (by omega) (by omega)).mpr (by omega))).2.2.1 (by decide) (q := 119) (by decide) ?_
      refine o_iconst X d_jdk_43_method_25_119 (w := -1) rfl (q := 120) rfl ?_
      exact o_retI X d_jdk_43_method_25_120 (fun Sf hSf => ⟨_, rfl, rfl, Or.inl ⟨rfl, fun j a b q => (by have := q.1; exact hb j a (by omega) q)⟩⟩) (by decide) (by decide)
    | succ n ih =>
      have bb : ∀ k, k ≤ n → ∀ (s8 s9 s10 : Slot), One s8 → One s9 → One s10 → ∀ i, i + (k + 1) = cs.length - 1 → f ≤ i → (∀ j, f ≤ j → j < i → ¬ PA cs j) → ¬ (cs.getD i 0) = 123 → Goes p e below (FinQ Z EL0 s (fun v h' Sf => ∃ r, v = some (.int r) ∧ h' = h0 ∧ Fst (PA cs) f cs.length r) (({ frames := 0, cells := 0, slots := 0, locals := 0 } : Room)).cells (({ frames := 0, cells := 0, slots := 0, locals := 0 } : Room)).slots) T (mkF m 30 #[.val (.ref b), .val (.int (Int32.ofNat cs.length)), .val (.ref t), .val (.int (2 : Int32)), .val (.int (Int32.ofNat f)), .val (.int (123 : Int32)), .val (.int (Int32.ofNat (cs.length - 2))), .val (.int (Int32.ofNat i)), s8, s9, s10] []) := by
        intro k hk s8 s9 s10 o8 o9 o10 i hi hf hb hne
        have hb2 : ∀ j, f ≤ j → j < i + 1 → ¬ PA cs j := (fun j a b => by rcases Nat.lt_or_ge j i with q | q; exact hb j a q; obtain rfl : j = i := (by omega); exact fun q => hne q.2.1)
        cases k with
        | zero =>
          refine o_iinc X d_jdk_43_method_25_30 rfl (z := (Int32.ofNat (i + 1))) (n_add _ _) (L' := #[.val (.ref b), .val (.int (Int32.ofNat cs.length)), .val (.ref t), .val (.int (2 : Int32)), .val (.int (Int32.ofNat f)), .val (.int (123 : Int32)), .val (.int (Int32.ofNat (cs.length - 2))), .val (.int (Int32.ofNat (i + 1))), s8, s9, s10]) rfl (q := 33) rfl ?_
          refine o_iload X d_jdk_43_method_25_33 rfl (q := 35) rfl ?_
          refine o_iload X d_jdk_43_method_25_35 rfl (q := 37) rfl ?_
          refine o_icmpY X d_jdk_43_method_25_37 (tlt ((n_lt (by omega) (by omega)).mpr (by omega))).2.2.1 (by decide) (q := 52) (by decide) ?_
          refine o_iload X d_jdk_43_method_25_52 rfl (q := 54) rfl ?_
          refine o_iload X d_jdk_43_method_25_54 rfl (q := 56) rfl ?_
          refine o_icmpY X d_jdk_43_method_25_56 (tlt ((n_lt (by omega) (by omega)).mpr (by omega))).2.2.1 (by decide) (q := 113) (by decide) ?_
          refine o_iinc X d_jdk_43_method_25_113 rfl (z := (Int32.ofNat ((i + 1) + 1))) (n_add _ _) (L' := #[.val (.ref b), .val (.int (Int32.ofNat cs.length)), .val (.ref t), .val (.int (2 : Int32)), .val (.int (Int32.ofNat f)), .val (.int (123 : Int32)), .val (.int (Int32.ofNat (cs.length - 2))), .val (.int (Int32.ofNat ((i + 1) + 1))), s8, s9, s10]) rfl (q := 116) rfl ?_
          refine o_goto X d_jdk_43_method_25_116 (by decide) (q := 14) (by decide) ?_
          refine o_iload X d_jdk_43_method_25_14 rfl (q := 16) rfl ?_
          refine o_iload X d_jdk_43_method_25_16 rfl (q := 18) rfl ?_
          refine o_icmpY X d_jdk_43_method_25_18 (tlt ((n_lt (by omega) (by omega)).mpr (by omega))).2.2.1 (by decide) (q := 119) (by decide) ?_
          refine o_iconst X d_jdk_43_method_25_119 (w := -1) rfl (q := 120) rfl ?_
          exact o_retI X d_jdk_43_method_25_120 (fun Sf hSf => ⟨_, rfl, rfl, Or.inl ⟨rfl, fun j a b q => (by have := q.1; exact hb2 j a (by omega) q)⟩⟩) (by decide) (by decide)
        | succ k =>
          refine o_iinc X d_jdk_43_method_25_30 rfl (z := (Int32.ofNat (i + 1))) (n_add _ _) (L' := #[.val (.ref b), .val (.int (Int32.ofNat cs.length)), .val (.ref t), .val (.int (2 : Int32)), .val (.int (Int32.ofNat f)), .val (.int (123 : Int32)), .val (.int (Int32.ofNat (cs.length - 2))), .val (.int (Int32.ofNat (i + 1))), s8, s9, s10]) rfl (q := 33) rfl ?_
          refine o_iload X d_jdk_43_method_25_33 rfl (q := 35) rfl ?_
          refine o_iload X d_jdk_43_method_25_35 rfl (q := 37) rfl ?_
          refine o_icmpN X d_jdk_43_method_25_37 (flt (fun q => absurd ((n_lt (by omega) (by omega)).mp q) (by omega))).2.2.1 (q := 40) rfl ?_
          refine o_aloadN X d_jdk_43_method_25_40 rfl rfl (q := 41) rfl ?_
          refine o_iload X d_jdk_43_method_25_41 rfl (q := 43) rfl ?_
          refine o_baload X Vb (n_in (by omega) (by omega)) (v := .int (cs.getD (i + 1) 0).toInt8.toInt32) (n_get (by omega) (by omega)) d_jdk_43_method_25_43 (q := 44) rfl ?_
          refine o_iload X d_jdk_43_method_25_44 rfl (q := 46) rfl ?_
          by_cases hc46 : (cs.getD (i + 1) 0).toInt8.toInt32 = (123 : Int32)
          · refine o_icmpY X d_jdk_43_method_25_46 (teq hc46).1 (by decide) (q := 52) (by decide) ?_
            exact seg (i + 1) (by omega) (by omega) hb2 ((own_b8 hlat (by decide) (by decide)).mp hc46) (fun hn t8 t9 t10 p8 p9 p10 => (ih k (by omega)).1 t8 t9 t10 p8 p9 p10 (i + 1 + 1) (by omega) (by omega) (fun j a b => by rcases Nat.lt_or_ge j (i + 1) with q | q; exact hb2 j a q; obtain rfl : j = i + 1 := (by omega); exact hn)) _ _ _ o8 o9 o10
          · refine o_icmpN X d_jdk_43_method_25_46 (feq hc46).1 (q := 49) rfl ?_
            refine o_goto X d_jdk_43_method_25_49 (by decide) (q := 30) (by decide) ?_
            exact (ih (k + 1) (by omega)).2 s8 s9 s10 o8 o9 o10 (i + 1) (by omega) (by omega) (by omega) hb2 (fun q => hc46 ((own_b8 hlat (by decide) (by decide)).mpr q))
      intro k hk
      refine ⟨fun s8 s9 s10 o8 o9 o10 i hi hf hb => ?_, fun s8 s9 s10 o8 o9 o10 i hi h0 hf hb hne => ?_⟩
      · cases k with
        | zero =>
          refine o_iload X d_jdk_43_method_25_14 rfl (q := 16) rfl ?_
          refine o_iload X d_jdk_43_method_25_16 rfl (q := 18) rfl ?_
          refine o_icmpY X d_jdk_43_method_25_18 (tlt ((n_lt (by omega) (by omega)).mpr (by omega))).2.2.1 (by decide) (q := 119) (by decide) ?_
          refine o_iconst X d_jdk_43_method_25_119 (w := -1) rfl (q := 120) rfl ?_
          exact o_retI X d_jdk_43_method_25_120 (fun Sf hSf => ⟨_, rfl, rfl, Or.inl ⟨rfl, fun j a b q => (by have := q.1; exact hb j a (by omega) q)⟩⟩) (by decide) (by decide)
        | succ k =>
          refine o_iload X d_jdk_43_method_25_14 rfl (q := 16) rfl ?_
          refine o_iload X d_jdk_43_method_25_16 rfl (q := 18) rfl ?_
          refine o_icmpN X d_jdk_43_method_25_18 (flt (fun q => absurd ((n_lt (by omega) (by omega)).mp q) (by omega))).2.2.1 (q := 21) rfl ?_
          refine o_aloadN X d_jdk_43_method_25_21 rfl rfl (q := 22) rfl ?_
          refine o_iload X d_jdk_43_method_25_22 rfl (q := 24) rfl ?_
          refine o_baload X Vb (n_in (by omega) (by omega)) (v := .int (cs.getD i 0).toInt8.toInt32) (n_get (by omega) (by omega)) d_jdk_43_method_25_24 (q := 25) rfl ?_
          refine o_iload X d_jdk_43_method_25_25 rfl (q := 27) rfl ?_
          by_cases hc27 : (cs.getD i 0).toInt8.toInt32 = (123 : Int32)
          · refine o_icmpY X d_jdk_43_method_25_27 (teq hc27).1 (by decide) (q := 52) (by decide) ?_
            exact seg i (by omega) hf hb ((own_b8 hlat (by decide) (by decide)).mp hc27) (fun hn t8 t9 t10 p8 p9 p10 => (ih k (by omega)).1 t8 t9 t10 p8 p9 p10 (i + 1) (by omega) (by omega) (fun j a b => by rcases Nat.lt_or_ge j i with q | q; exact hb j a q; obtain rfl : j = i := (by omega); exact hn)) _ _ _ o8 o9 o10
          · refine o_icmpN X d_jdk_43_method_25_27 (feq hc27).1 (q := 30) rfl ?_
            exact bb k (by omega) s8 s9 s10 o8 o9 o10 i (by omega) hf hb (fun q => hc27 ((own_b8 hlat (by decide) (by decide)).mpr q))
      · obtain ⟨k, rfl⟩ : ∃ k', k = k' + 1 := ⟨k - 1, by omega⟩
        exact bb k (by omega) s8 s9 s10 o8 o9 o10 i hi hf hb hne
  rcases Nat.lt_or_ge (cs.length - 1) f with hf1 | hf1
  · exact absurd hf1 (by omega)
  exact (key (cs.length - 1 - f) (cs.length - 1 - f) (Nat.le_refl _)).1 _ _ _ One.u One.u One.u f (by omega) (Nat.le_refl _) (fun j a b => absurd a (by omega))
set_option maxRecDepth 65536 in
set_option maxHeartbeats 40000000 in
theorem c_idxT {l : Launch} {Z : State} {a0 : Array Value} (hw : W a0 Z) (b a2 b2 : Addr) (kb kb2 : ClassId) (cs : List Int32) (f : Nat) (h0 : Heap) (zc : Int32) (O2 : Sta Z Z.heap "java/lang/String" "COMPACT_STRINGS" "Z" (.int zc)) (P5 : ¬ zc = 0) (Vb : Arv Z h0 b kb .byte (Int32.ofNat cs.length) ((cs.map fun c => c.toInt8.toInt32).map Value.int) (.int 0)) (L2 : LS Z h0 a2 b2 kb2 [123, 125]) (hN : cs.length ≤ 4000) (hlat : ∀ c ∈ cs, ¬ c < 0 ∧ ¬ (255 : Int32) < c) (hf : f ≤ cs.length) :
    Con l Z EL0 (⟨"java/lang/String", "indexOf", "([BBILjava/lang/String;I)I"⟩ : MethodName) jdk_42_method_87_code 8 (some .int) ({ frames := 2, cells := 0, slots := 0, locals := 40 } : Room) #[(.ref b), (.int (0 : Int32)), (.int (Int32.ofNat cs.length)), (.ref a2), (.int (Int32.ofNat f))] h0 [] (fun v h' Sf => ∃ r, v = some (.int r) ∧ h' = h0 ∧ Fst (PA cs) f cs.length r) := by
  have hpn : plainName "java/lang/String" = true := by first | (simp [plainName, overriddenIn]; done) | decide +kernel
  refine Con.intro (plainFor_of_name hpn) ?_
  intro p e s m below meth c T X hss
  refine Goes.cast (g' := mkF m 0 #[.val (.ref b), .val (.int (0 : Int32)), .val (.int (Int32.ofNat cs.length)), .val (.ref a2), .val (.int (Int32.ofNat f)), .unset, .unset, .unset] []) (by first | (simp [entryFrame, mkF, argsToLocals, Value.category]; done) | rfl) ?_
  refine o_iload X d_jdk_42_method_87_0 rfl (q := 2) rfl ?_
  refine o_i2l X d_jdk_42_method_87_2 (w := ((Int32.ofNat f).toInt64)) rfl (q := 3) rfl ?_
  refine o_iconst X d_jdk_42_method_87_3 (w := 0) rfl (q := 4) rfl ?_
  refine o_iloadN X d_jdk_42_method_87_4 rfl (q := 5) rfl ?_
  refine o_stat X [(.long ((Int32.ofNat f).toInt64)), (.int (0 : Int32)), (.int (Int32.ofNat cs.length))] (y' := (⟨"java/lang/Math", "clamp", "(JII)I"⟩ : MethodName)) (c_clamp hw (Int32.ofNat f).toInt64 cs.length f _ hN (by omega) rfl) all0 (w114 hw) (w115 hw) (w77 hw) (w116 hw) (by decide) d_jdk_42_method_87_5 (rest := []) rfl rfl (lenOf pd6 rfl) rfl (by decide) (Nat.le_of_ble_eq_true rfl) (by decide) (by decide) (q := 8) rfl ?_
  intro v1 vm1 T1 h1 l1 X1 R1 q1
  obtain ⟨rfl, e1⟩ := q1
  have e1 := e1.symm
  subst e1
  show Goes p e below _ T1 (mkF m 8 #[.val (.ref b), .val (.int (0 : Int32)), .val (.int (Int32.ofNat cs.length)), .val (.ref a2), .val (.int (Int32.ofNat f)), .unset, .unset, .unset] [(.int (Int32.ofNat f))])
  refine o_istore X1 d_jdk_42_method_87_8 rfl (L' := #[.val (.ref b), .val (.int (0 : Int32)), .val (.int (Int32.ofNat cs.length)), .val (.ref a2), .val (.int (Int32.ofNat f)), .unset, .unset, .unset]) rfl (q := 10) rfl ?_
  refine o_aloadN X1 d_jdk_42_method_87_10 rfl rfl (q := 11) rfl ?_
  have f2 := L2
  refine o_strlen X1 f2 O2 P5 (hwln hw) (w13 hw) (w58 hw) (w59 hw) (w61 hw) (w60 hw) d_jdk_42_method_87_11 rfl (by decide) (Nat.le_of_ble_eq_true rfl) (by decide) (by decide) (q := 14) rfl ?_
  intro T3 l3 X3
  show Goes p e below _ T3 (mkF m 14 #[.val (.ref b), .val (.int (0 : Int32)), .val (.int (Int32.ofNat cs.length)), .val (.ref a2), .val (.int (Int32.ofNat f)), .unset, .unset, .unset] [(.int (2 : Int32))])
  refine o_istore X3 d_jdk_42_method_87_14 rfl (L' := #[.val (.ref b), .val (.int (0 : Int32)), .val (.int (Int32.ofNat cs.length)), .val (.ref a2), .val (.int (Int32.ofNat f)), .val (.int (2 : Int32)), .unset, .unset]) rfl (q := 16) rfl ?_
  refine o_iload X3 d_jdk_42_method_87_16 rfl (q := 18) rfl ?_
  refine o_iloadN X3 d_jdk_42_method_87_18 rfl (q := 19) rfl ?_
  refine o_iload X3 d_jdk_42_method_87_19 rfl (q := 21) rfl ?_
  refine o_isub X3 d_jdk_42_method_87_21 (w := (Int32.ofNat (cs.length - f))) (n_sub (by omega)) (q := 22) rfl ?_
  by_cases hc22 : (Int32.ofNat (cs.length - f)) < (2 : Int32)
  · refine o_icmpN X3 d_jdk_42_method_87_22 (tlt hc22).2.2.2 (q := 25) rfl ?_
    refine o_iconst X3 d_jdk_42_method_87_25 (w := -1) rfl (q := 26) rfl ?_
    exact o_retI X3 d_jdk_42_method_87_26 (fun Sf hSf => ⟨_, rfl, rfl, Or.inl ⟨rfl, fun j a b q => absurd q.1 (own_2c hN hf hc22 a)⟩⟩) (by decide) (by decide)
  · refine o_icmpY X3 d_jdk_42_method_87_22 (flt hc22).2.2.2 (by decide) (q := 27) (by decide) ?_
    refine o_iload X3 d_jdk_42_method_87_27 rfl (q := 29) rfl ?_
    refine o_ifY X3 d_jdk_42_method_87_29 (by decide) (by decide) (q := 35) (by decide) ?_
    refine o_aloadN X3 d_jdk_42_method_87_35 rfl rfl (q := 36) rfl ?_
    refine o_getF X3 f2.2.2.1 (host := "") (Or.inl (w39 hw)) Via.refl d_jdk_42_method_87_36 (q := 39) rfl ?_
    intro T4 X4
    refine o_astore X4 d_jdk_42_method_87_39 rfl (L' := #[.val (.ref b), .val (.int (0 : Int32)), .val (.int (Int32.ofNat cs.length)), .val (.ref a2), .val (.int (Int32.ofNat f)), .val (.int (2 : Int32)), .val (.ref b2), .unset]) rfl (q := 41) rfl ?_
    refine o_aloadN X4 d_jdk_42_method_87_41 rfl rfl (q := 42) rfl ?_
    refine o_virt X4 [] (y' := (⟨"java/lang/String", "coder", "()B"⟩ : MethodName)) f2.1 (c_coder hw a2 b2 kb2 [123, 125] _ zc O2 P5 f2) all0 (w63 hw) (w64 hw) (w66 hw) (w65 hw) (w67 hw) (w14 hw) (by decide) d_jdk_42_method_87_42 (rest := []) rfl rfl (lenOf pd7 rfl) rfl (by decide) (Nat.le_of_ble_eq_true rfl) (by decide) (by decide) (q := 45) rfl ?_
    intro v5 vm5 T5 h5 l5 X5 R5 q5
    obtain ⟨rfl, e5⟩ := q5
    have e5 := e5.symm
    subst e5
    show Goes p e below _ T5 (mkF m 45 #[.val (.ref b), .val (.int (0 : Int32)), .val (.int (Int32.ofNat cs.length)), .val (.ref a2), .val (.int (Int32.ofNat f)), .val (.int (2 : Int32)), .val (.ref b2), .unset] [(.int (0 : Int32))])
    refine o_istore X5 d_jdk_42_method_87_45 rfl (L' := #[.val (.ref b), .val (.int (0 : Int32)), .val (.int (Int32.ofNat cs.length)), .val (.ref a2), .val (.int (Int32.ofNat f)), .val (.int (2 : Int32)), .val (.ref b2), .val (.int (0 : Int32))]) rfl (q := 47) rfl ?_
    refine o_iloadN X5 d_jdk_42_method_87_47 rfl (q := 48) rfl ?_
    refine o_iload X5 d_jdk_42_method_87_48 rfl (q := 50) rfl ?_
    refine o_icmpN X5 d_jdk_42_method_87_50 (by decide) (q := 53) rfl ?_
    refine o_iloadN X5 d_jdk_42_method_87_53 rfl (q := 54) rfl ?_
    refine o_ifN X5 d_jdk_42_method_87_54 (by decide) (q := 57) rfl ?_
    refine o_aloadN X5 d_jdk_42_method_87_57 rfl rfl (q := 58) rfl ?_
    refine o_iloadN X5 d_jdk_42_method_87_58 rfl (q := 59) rfl ?_
    refine o_aload X5 d_jdk_42_method_87_59 rfl rfl (q := 61) rfl ?_
    refine o_iload X5 d_jdk_42_method_87_61 rfl (q := 63) rfl ?_
    refine o_iload X5 d_jdk_42_method_87_63 rfl (q := 65) rfl ?_
    have f6 := Vb
    have f7 := f2
    refine o_stat X5 [(.ref b), (.int (Int32.ofNat cs.length)), (.ref b2), (.int (2 : Int32)), (.int (Int32.ofNat f))] (y' := (⟨"java/lang/StringLatin1", "indexOf", "([BI[BII)I"⟩ : MethodName)) (c_idxS hw b b2 kb kb2 cs f _ f6 f7.2.2.2.1 hN hlat (own_2a hN hf hc22) (own_2b hN hf hc22)) all0 (w123 hw) (w124 hw) (w70 hw) (w125 hw) (by decide) d_jdk_42_method_87_65 (rest := []) rfl rfl (lenOf pd8 rfl) rfl (by decide) (Nat.le_of_ble_eq_true rfl) (by decide) (by decide) (q := 68) rfl ?_
    intro v8 vm8 T8 h8 l8 X8 R8 q8
    obtain ⟨r8, rfl, e8, q8⟩ := q8
    have e8 := e8.symm
    subst e8
    show Goes p e below _ T8 (mkF m 68 #[.val (.ref b), .val (.int (0 : Int32)), .val (.int (Int32.ofNat cs.length)), .val (.ref a2), .val (.int (Int32.ofNat f)), .val (.int (2 : Int32)), .val (.ref b2), .val (.int (0 : Int32))] [(.int r8)])
    refine o_goto X8 d_jdk_42_method_87_68 (by decide) (q := 82) (by decide) ?_
    exact o_retI X8 d_jdk_42_method_87_82 (fun Sf hSf => ⟨_, rfl, rfl, q8⟩) (by decide) (by decide)
set_option maxRecDepth 65536 in
set_option maxHeartbeats 40000000 in
theorem c_idxSI {l : Launch} {Z : State} {a0 : Array Value} (hw : W a0 Z) (a b a2 b2 : Addr) (kb kb2 : ClassId) (cs : List Int32) (f : Nat) (h0 : Heap) (zc : Int32) (O2 : Sta Z Z.heap "java/lang/String" "COMPACT_STRINGS" "Z" (.int zc)) (P5 : ¬ zc = 0) (L : LS Z h0 a b kb cs) (L2 : LS Z h0 a2 b2 kb2 [123, 125]) (hf : f ≤ cs.length) :
    Con l Z EL0 (⟨"java/lang/String", "indexOf", "(Ljava/lang/String;I)I"⟩ : MethodName) jdk_42_method_85_code 3 (some .int) ({ frames := 3, cells := 0, slots := 0, locals := 60 } : Room) #[(.ref a), (.ref a2), (.int (Int32.ofNat f))] h0 [] (fun v h' Sf => ∃ r, v = some (.int r) ∧ h' = h0 ∧ Fst (PA cs) f cs.length r) := by
  have hpn : plainName "java/lang/String" = true := by first | (simp [plainName, overriddenIn]; done) | decide +kernel
  refine Con.intro (plainFor_of_name hpn) ?_
  intro p e s m below meth c T X hss
  refine Goes.cast (g' := mkF m 0 #[.val (.ref a), .val (.ref a2), .val (.int (Int32.ofNat f))] []) (by first | (simp [entryFrame, mkF, argsToLocals, Value.category]; done) | rfl) ?_
  refine o_aloadN X d_jdk_42_method_85_0 rfl rfl (q := 1) rfl ?_
  refine o_getF X L.2.2.1 (host := "") (Or.inl (w39 hw)) Via.refl d_jdk_42_method_85_1 (q := 4) rfl ?_
  intro T1 X1
  refine o_aloadN X1 d_jdk_42_method_85_4 rfl rfl (q := 5) rfl ?_
  refine o_virt X1 [] (y' := (⟨"java/lang/String", "coder", "()B"⟩ : MethodName)) L.1 (c_coder hw a b kb cs _ zc O2 P5 L) all0 (w63 hw) (w64 hw) (w66 hw) (w65 hw) (w67 hw) (w14 hw) (by decide) d_jdk_42_method_85_5 (rest := [(.ref b)]) rfl rfl (lenOf pd7 rfl) rfl (by decide) (Nat.le_of_ble_eq_true rfl) (by decide) (by decide) (q := 8) rfl ?_
  intro v2 vm2 T2 h2 l2 X2 R2 q2
  obtain ⟨rfl, e2⟩ := q2
  have e2 := e2.symm
  subst e2
  show Goes p e below _ T2 (mkF m 8 #[.val (.ref a), .val (.ref a2), .val (.int (Int32.ofNat f))] [(.int (0 : Int32)), (.ref b)])
  refine o_aloadN X2 d_jdk_42_method_85_8 rfl rfl (q := 9) rfl ?_
  have f3 := L
  refine o_strlen X2 f3 O2 P5 (hwln hw) (w13 hw) (w58 hw) (w59 hw) (w61 hw) (w60 hw) d_jdk_42_method_85_9 rfl (by decide) (Nat.le_of_ble_eq_true rfl) (by decide) (by decide) (q := 12) rfl ?_
  intro T4 l4 X4
  refine o_aloadN X4 d_jdk_42_method_85_12 rfl rfl (q := 13) rfl ?_
  refine o_iloadN X4 d_jdk_42_method_85_13 rfl (q := 14) rfl ?_
  have f5 := L2
  refine o_stat X4 [(.ref b), (.int (0 : Int32)), (.int (Int32.ofNat cs.length)), (.ref a2), (.int (Int32.ofNat f))] (y' := (⟨"java/lang/String", "indexOf", "([BBILjava/lang/String;I)I"⟩ : MethodName)) (c_idxT hw b a2 b2 kb kb2 cs f _ zc O2 P5 f3.2.2.2.1 f5 L.2.2.2.2.2 L.2.2.2.2.1 hf) all0 (w111 hw) (w112 hw) (w14 hw) (w113 hw) (by decide) d_jdk_42_method_85_14 (rest := []) rfl rfl (lenOf pd9 rfl) rfl (by decide) (Nat.le_of_ble_eq_true rfl) (by decide) (by decide) (q := 17) rfl ?_
  intro v6 vm6 T6 h6 l6 X6 R6 q6
  obtain ⟨r6, rfl, e6, q6⟩ := q6
  have e6 := e6.symm
  subst e6
  show Goes p e below _ T6 (mkF m 17 #[.val (.ref a), .val (.ref a2), .val (.int (Int32.ofNat f))] [(.int r6)])
  exact o_retI X6 d_jdk_42_method_85_17 (fun Sf hSf => ⟨_, rfl, rfl, q6⟩) (by decide) (by decide)
set_option maxRecDepth 65536 in
set_option maxHeartbeats 40000000 in
theorem c_next {l : Launch} {Z : State} {a0 : Array Value} (hw : W a0 Z) (a b : Addr) (kb : ClassId) (cs : List Int32) (fr : Int32) (h0 : Heap) (zc : Int32) (fm : Value) (O2 : Sta Z Z.heap "java/lang/String" "COMPACT_STRINGS" "Z" (.int zc)) (P5 : ¬ zc = 0) (O4 : Sta Z Z.heap "jdk/internal/util/Preconditions" "SIOOBE_FORMATTER" "Ljava/util/function/BiFunction;" fm) (rfm : fm.isRef = true) (L : LS Z h0 a b kb cs) :
    Con l Z EL0 (⟨"anchorlog/AnchorPattern", "nextAnchor", "(Ljava/lang/String;I)I"⟩ : MethodName) prog_1_method_3_code 3 (some .int) ({ frames := 4, cells := 2, slots := 12, locals := 90 } : Room) #[(.ref a), (.int fr)] h0 [] (fun v h' Sf => ∃ r, v = some (.int r) ∧ Keep h0 h' [] ∧ Fst (PA cs) fr.toNatClampNeg cs.length r) := by
  have hpn : plainName "anchorlog/AnchorPattern" = true := by first | (simp [plainName, overriddenIn]; done) | decide +kernel
  refine Con.intro (plainFor_of_name hpn) ?_
  intro p e s m below meth c T X hss
  refine Goes.cast (g' := mkF m 0 #[.val (.ref a), .val (.int fr), .unset] []) (by first | (simp [entryFrame, mkF, argsToLocals, Value.category]; done) | rfl) ?_
  refine o_aloadN X d_prog_1_method_3_0 rfl rfl (q := 1) rfl ?_
  refine o_bipush X d_prog_1_method_3_1 (w := 123) rfl (q := 3) rfl ?_
  refine o_iloadN X d_prog_1_method_3_3 rfl (q := 4) rfl ?_
  refine o_virt X [(.int (123 : Int32)), (.int fr)] (y' := (⟨"java/lang/String", "indexOf", "(II)I"⟩ : MethodName)) L.1 (c_idxII hw a b kb cs fr _ zc O2 P5 L) all0 (w48 hw) (w49 hw) (w51 hw) (w50 hw) (w52 hw) (w14 hw) (by decide) d_prog_1_method_3_4 (rest := []) rfl rfl (lenOf pd2 rfl) rfl (by decide) (Nat.le_of_ble_eq_true rfl) (by decide) (by decide) (q := 7) rfl ?_
  intro v1 vm1 T1 h1 l1 X1 R1 q1
  obtain ⟨r1, rfl, e1, q1⟩ := q1
  have e1 := e1.symm
  subst e1
  show Goes p e below _ T1 (mkF m 7 #[.val (.ref a), .val (.int fr), .unset] [(.int r1)])
  rcases q1 with ⟨rfl, hnone⟩ | ⟨j, hj1, hj2, hj3, rfl, hj4⟩
  · refine o_istoreN X1 d_prog_1_method_3_7 rfl (L' := #[.val (.ref a), .val (.int fr), .val (.int (-1 : Int32))]) rfl (q := 8) rfl ?_
    refine o_iloadN X1 d_prog_1_method_3_8 rfl (q := 9) rfl ?_
    refine o_ifY X1 d_prog_1_method_3_9 (by decide) (by decide) (q := 22) (by decide) ?_
    refine o_iconst X1 d_prog_1_method_3_22 (w := -1) rfl (q := 23) rfl ?_
    exact o_retI X1 d_prog_1_method_3_23 (fun Sf hSf => ⟨_, rfl, (Keep.refl h0 []), Or.inl ⟨rfl, fun j a b q => hnone j a b q.2.1⟩⟩) (by decide) (by decide)
  · have hN := L.2.2.2.2.2
    refine o_istoreN X1 d_prog_1_method_3_7 rfl (L' := #[.val (.ref a), .val (.int fr), .val (.int (Int32.ofNat j))]) rfl (q := 8) rfl ?_
    refine o_iloadN X1 d_prog_1_method_3_8 rfl (q := 9) rfl ?_
    refine o_ifN X1 d_prog_1_method_3_9 (flt (n_neg (by omega))).1 (q := 12) rfl ?_
    refine o_iloadN X1 d_prog_1_method_3_12 rfl (q := 13) rfl ?_
    refine o_aloadN X1 d_prog_1_method_3_13 rfl rfl (q := 14) rfl ?_
    have f2 := L
    refine o_strlen X1 f2 O2 P5 (hwln hw) (w13 hw) (w85 hw) (w59 hw) (w61 hw) (w60 hw) d_prog_1_method_3_14 rfl (by decide) (Nat.le_of_ble_eq_true rfl) (by decide) (by decide) (q := 17) rfl ?_
    intro T3 l3 X3
    refine o_iconst X3 d_prog_1_method_3_17 (w := 1) rfl (q := 18) rfl ?_
    refine o_isub X3 d_prog_1_method_3_18 (w := (Int32.ofNat (cs.length - 1))) (n_sub (b := 1) (by omega)) (q := 19) rfl ?_
    by_cases hc19 : (Int32.ofNat j) = (Int32.ofNat (cs.length - 1))
    · refine o_icmpN X3 d_prog_1_method_3_19 (teq hc19).2 (q := 22) rfl ?_
      refine o_iconst X3 d_prog_1_method_3_22 (w := -1) rfl (q := 23) rfl ?_
      exact o_retI X3 d_prog_1_method_3_23 (fun Sf hSf => ⟨_, rfl, (Keep.refl h0 []), Or.inl ⟨rfl, own_last hj4 ((n_eq (by omega) (by omega)).mp hc19)⟩⟩) (by decide) (by decide)
    · refine o_icmpY X3 d_prog_1_method_3_19 (feq hc19).2 (by decide) (q := 24) (by decide) ?_
      refine o_aloadN X3 d_prog_1_method_3_24 rfl rfl (q := 25) rfl ?_
      refine o_iloadN X3 d_prog_1_method_3_25 rfl (q := 26) rfl ?_
      refine o_iconst X3 d_prog_1_method_3_26 (w := 1) rfl (q := 27) rfl ?_
      refine o_iadd X3 d_prog_1_method_3_27 (w := (Int32.ofNat (j + 1))) (n_add _ _) (q := 28) rfl ?_
      have hj5 : j + 1 < cs.length := (by have : ¬ j = cs.length - 1 := fun q => hc19 ((n_eq (by omega) (by omega)).mpr q); omega)
      refine o_charAt X3 (i := (j + 1)) f2 O2 P5 O4 rfm (hwch hw) (w13 hw) hj5 rfl (w89 hw) (w90 hw) (w92 hw) (w91 hw) d_prog_1_method_3_28 rfl (by decide) (Nat.le_of_ble_eq_true rfl) (by decide) (by decide) (q := 31) rfl ?_
      intro T4 l4 X4
      refine o_bipush X4 d_prog_1_method_3_31 (w := 125) rfl (q := 33) rfl ?_
      by_cases hc33 : (cs.getD (j + 1) 0) = (125 : Int32)
      · refine o_icmpN X4 d_prog_1_method_3_33 (teq hc33).2 (q := 36) rfl ?_
        refine o_iloadN X4 d_prog_1_method_3_36 rfl (q := 37) rfl ?_
        refine o_goto X4 d_prog_1_method_3_37 (by decide) (q := 49) (by decide) ?_
        exact o_retI X4 d_prog_1_method_3_49 (fun Sf hSf => ⟨_, rfl, (Keep.refl h0 []), Or.inr ⟨j, hj1, hj2, ⟨hj5, hj3, hc33⟩, rfl, fun j' a b q => hj4 j' a b q.2.1⟩⟩) (by decide) (by decide)
      · refine o_icmpY X4 d_prog_1_method_3_33 (feq hc33).2 (by decide) (q := 40) (by decide) ?_
        refine o_aloadN X4 d_prog_1_method_3_40 rfl rfl (q := 41) rfl ?_
        refine o_ldcS X4 (n := 8) (vs := [(.int (123 : Int32)), (.int (125 : Int32))]) (z := 2) (w105 hw) (wS0 hw) (List.mem_of_getElem? (i := 0) rfl) ⟨by decide, by decide⟩ (by decide) (by decide) d_prog_1_method_3_41 (by decide) (by decide) (by decide) (by decide) (q := 43) rfl ?_
        intro vm5 T5 h5 a5 b5 k5 X5 E5 R5 A5 Fc5 Fv5 V5 ne5
        refine o_iloadN X5 d_prog_1_method_3_43 rfl (q := 44) rfl ?_
        refine o_iconst X5 d_prog_1_method_3_44 (w := 1) rfl (q := 45) rfl ?_
        refine o_iadd X5 d_prog_1_method_3_45 (w := (Int32.ofNat (j + 1))) (n_add _ _) (q := 46) rfl ?_
        have L2_ : LS Z _ a5 b5 k5 [123, 125] := ⟨A5, Fc5, Fv5, V5, by decide, by decide⟩
        have f6 := (f2.ext E5)
        refine o_virt X5 [(.ref a5), (.int (Int32.ofNat (j + 1)))] (y' := (⟨"java/lang/String", "indexOf", "(Ljava/lang/String;I)I"⟩ : MethodName)) f6.1 (c_idxSI hw a b a5 b5 kb k5 cs (j + 1) _ zc O2 P5 f6 L2_ (by omega)) all0 (w106 hw) (w107 hw) (w109 hw) (w108 hw) (w110 hw) (w14 hw) (by decide) d_prog_1_method_3_46 (rest := []) rfl rfl (lenOf pd10 rfl) rfl (by decide) (Nat.le_of_ble_eq_true rfl) (by decide) (by decide) (q := 49) rfl ?_
        intro v7 vm7 T7 h7 l7 X7 R7 q7
        obtain ⟨r7, rfl, e7, q7⟩ := q7
        have e7 := e7.symm
        subst e7
        show Goes p e below _ T7 (mkF m 49 #[.val (.ref a), .val (.int fr), .val (.int (Int32.ofNat j))] [(.int r7)])
        have k8 := Keep.ext (Keep.refl h0 []) E5
        exact o_retI X7 d_prog_1_method_3_49 (fun Sf hSf => ⟨_, rfl, k8, own_more q7 hj4 hc33⟩) (by decide) (by decide)
set_option maxRecDepth 65536 in
set_option maxHeartbeats 40000000 in
theorem c_ch0 {l : Launch} {Z : State} {a0 : Array Value} (hw : W a0 Z) (x : Int64) (h0 : Heap)  :
    Con l Z EL0 (⟨"anchorlog/AnchorPatternNextAnchorPinLaw", "ch", "(JI)C"⟩ : MethodName) method_2_code 6 (some .char) ({ frames := 0, cells := 0, slots := 0, locals := 0 } : Room) #[(.long x), (.int (0 : Int32))] h0 [] (fun v h' Sf => ∃ r : Int32, v = some (.int r) ∧ (¬ r < 0 ∧ ¬ (255 : Int32) < r) ∧ h' = h0) := by
  have hpn : plainName "anchorlog/AnchorPatternNextAnchorPinLaw" = true := by first | (simp [plainName, overriddenIn]; done) | decide +kernel
  refine Con.intro (plainFor_of_name hpn) ?_
  intro p e s m below meth c T X hss
  refine Goes.cast (g' := mkF m 0 #[.val (.long x), .second, .val (.int (0 : Int32)), .unset, .unset, .unset] []) (by first | (simp [entryFrame, mkF, argsToLocals, Value.category]; done) | rfl) ?_
  refine o_lloadN X d_method_2_0 rfl (q := 1) rfl ?_
  refine o_bipush X d_method_2_1 (w := 10) rfl (q := 3) rfl ?_
  refine o_iloadN X d_method_2_3 rfl (q := 4) rfl ?_
  refine o_imul X d_method_2_4 (w := (0 : Int32)) (by decide) (q := 5) rfl ?_
  refine o_lushr X d_method_2_5 (w := ((x.toUInt64 >>> ((0 : Int32) &&& 0x3f).toInt64.toUInt64).toInt64)) rfl (q := 6) rfl ?_
  refine o_ldcJ X (w6 hw) d_method_2_6 (q := 9) rfl ?_
  refine o_land X d_method_2_9 (w := (((x.toUInt64 >>> ((0 : Int32) &&& 0x3f).toInt64.toUInt64).toInt64) &&& (1023 : Int64))) rfl (q := 10) rfl ?_
  obtain ⟨u, h_u⟩ : ∃ z : Int64, (((x.toUInt64 >>> ((0 : Int32) &&& 0x3f).toInt64.toUInt64).toInt64) &&& (1023 : Int64)) = z := ⟨_, rfl⟩
  refine o_lstoreN X d_method_2_10 h_u (L' := #[.val (.long x), .second, .val (.int (0 : Int32)), .val (.long u), .second, .unset]) rfl (q := 11) rfl ?_
  refine o_lloadN X d_method_2_11 rfl (q := 12) rfl ?_
  refine o_ldcJ X (w7 hw) d_method_2_12 (q := 15) rfl ?_
  refine o_land X d_method_2_15 (w := (u &&& (3 : Int64))) rfl (q := 16) rfl ?_
  refine o_l2i X d_method_2_16 (w := ((u &&& (3 : Int64)).toInt32)) rfl (q := 17) rfl ?_
  obtain ⟨sl, h_sl⟩ : ∃ z : Int32, ((u &&& (3 : Int64)).toInt32) = z := ⟨_, rfl⟩
  refine o_istore X d_method_2_17 h_sl (L' := #[.val (.long x), .second, .val (.int (0 : Int32)), .val (.long u), .second, .val (.int sl)]) rfl (q := 19) rfl ?_
  refine o_iload X d_method_2_19 rfl (q := 21) rfl ?_
  by_cases hc21 : sl = (0 : Int32)
  · refine o_ifN X d_method_2_21 (teq hc21).2 (q := 24) rfl ?_
    refine o_bipush X d_method_2_24 (w := 123) rfl (q := 26) rfl ?_
    exact o_retN X d_method_2_26 (by simp) (fun Sf hSf => ⟨_, rfl, by decide, rfl⟩) (by decide) (by decide)
  · refine o_ifY X d_method_2_21 (feq hc21).2 (by decide) (q := 27) (by decide) ?_
    refine o_iload X d_method_2_27 rfl (q := 29) rfl ?_
    refine o_iconst X d_method_2_29 (w := 1) rfl (q := 30) rfl ?_
    by_cases hc30 : sl = (1 : Int32)
    · refine o_icmpN X d_method_2_30 (teq hc30).2 (q := 33) rfl ?_
      refine o_bipush X d_method_2_33 (w := 125) rfl (q := 35) rfl ?_
      exact o_retN X d_method_2_35 (by simp) (fun Sf hSf => ⟨_, rfl, by decide, rfl⟩) (by decide) (by decide)
    · refine o_icmpY X d_method_2_30 (feq hc30).2 (by decide) (q := 36) (by decide) ?_
      refine o_lloadN X d_method_2_36 rfl (q := 37) rfl ?_
      refine o_iconst X d_method_2_37 (w := 2) rfl (q := 38) rfl ?_
      refine o_lushr X d_method_2_38 (w := ((u.toUInt64 >>> ((2 : Int32) &&& 0x3f).toInt64.toUInt64).toInt64)) rfl (q := 39) rfl ?_
      refine o_ldcJ X (w8 hw) d_method_2_39 (q := 42) rfl ?_
      refine o_land X d_method_2_42 (w := (((u.toUInt64 >>> ((2 : Int32) &&& 0x3f).toInt64.toUInt64).toInt64) &&& (255 : Int64))) rfl (q := 43) rfl ?_
      refine o_l2i X d_method_2_43 (w := ((((u.toUInt64 >>> ((2 : Int32) &&& 0x3f).toInt64.toUInt64).toInt64) &&& (255 : Int64)).toInt32)) rfl (q := 44) rfl ?_
      refine o_i2c X d_method_2_44 (w := (((((u.toUInt64 >>> ((2 : Int32) &&& 0x3f).toInt64.toUInt64).toInt64) &&& (255 : Int64)).toInt32).toUInt32.toUInt16.toUInt32.toInt32)) rfl (q := 45) rfl ?_
      exact o_retN X d_method_2_45 (by simp) (fun Sf hSf => ⟨_, rfl, own_chr _, rfl⟩) (by decide) (by decide)
set_option maxRecDepth 65536 in
set_option maxHeartbeats 40000000 in
theorem c_ch1 {l : Launch} {Z : State} {a0 : Array Value} (hw : W a0 Z) (x : Int64) (h0 : Heap)  :
    Con l Z EL0 (⟨"anchorlog/AnchorPatternNextAnchorPinLaw", "ch", "(JI)C"⟩ : MethodName) method_2_code 6 (some .char) ({ frames := 0, cells := 0, slots := 0, locals := 0 } : Room) #[(.long x), (.int (1 : Int32))] h0 [] (fun v h' Sf => ∃ r : Int32, v = some (.int r) ∧ (¬ r < 0 ∧ ¬ (255 : Int32) < r) ∧ h' = h0) := by
  have hpn : plainName "anchorlog/AnchorPatternNextAnchorPinLaw" = true := by first | (simp [plainName, overriddenIn]; done) | decide +kernel
  refine Con.intro (plainFor_of_name hpn) ?_
  intro p e s m below meth c T X hss
  refine Goes.cast (g' := mkF m 0 #[.val (.long x), .second, .val (.int (1 : Int32)), .unset, .unset, .unset] []) (by first | (simp [entryFrame, mkF, argsToLocals, Value.category]; done) | rfl) ?_
  refine o_lloadN X d_method_2_0 rfl (q := 1) rfl ?_
  refine o_bipush X d_method_2_1 (w := 10) rfl (q := 3) rfl ?_
  refine o_iloadN X d_method_2_3 rfl (q := 4) rfl ?_
  refine o_imul X d_method_2_4 (w := (10 : Int32)) (by decide) (q := 5) rfl ?_
  refine o_lushr X d_method_2_5 (w := ((x.toUInt64 >>> ((10 : Int32) &&& 0x3f).toInt64.toUInt64).toInt64)) rfl (q := 6) rfl ?_
  refine o_ldcJ X (w6 hw) d_method_2_6 (q := 9) rfl ?_
  refine o_land X d_method_2_9 (w := (((x.toUInt64 >>> ((10 : Int32) &&& 0x3f).toInt64.toUInt64).toInt64) &&& (1023 : Int64))) rfl (q := 10) rfl ?_
  obtain ⟨u, h_u⟩ : ∃ z : Int64, (((x.toUInt64 >>> ((10 : Int32) &&& 0x3f).toInt64.toUInt64).toInt64) &&& (1023 : Int64)) = z := ⟨_, rfl⟩
  refine o_lstoreN X d_method_2_10 h_u (L' := #[.val (.long x), .second, .val (.int (1 : Int32)), .val (.long u), .second, .unset]) rfl (q := 11) rfl ?_
  refine o_lloadN X d_method_2_11 rfl (q := 12) rfl ?_
  refine o_ldcJ X (w7 hw) d_method_2_12 (q := 15) rfl ?_
  refine o_land X d_method_2_15 (w := (u &&& (3 : Int64))) rfl (q := 16) rfl ?_
  refine o_l2i X d_method_2_16 (w := ((u &&& (3 : Int64)).toInt32)) rfl (q := 17) rfl ?_
  obtain ⟨sl, h_sl⟩ : ∃ z : Int32, ((u &&& (3 : Int64)).toInt32) = z := ⟨_, rfl⟩
  refine o_istore X d_method_2_17 h_sl (L' := #[.val (.long x), .second, .val (.int (1 : Int32)), .val (.long u), .second, .val (.int sl)]) rfl (q := 19) rfl ?_
  refine o_iload X d_method_2_19 rfl (q := 21) rfl ?_
  by_cases hc21 : sl = (0 : Int32)
  · refine o_ifN X d_method_2_21 (teq hc21).2 (q := 24) rfl ?_
    refine o_bipush X d_method_2_24 (w := 123) rfl (q := 26) rfl ?_
    exact o_retN X d_method_2_26 (by simp) (fun Sf hSf => ⟨_, rfl, by decide, rfl⟩) (by decide) (by decide)
  · refine o_ifY X d_method_2_21 (feq hc21).2 (by decide) (q := 27) (by decide) ?_
    refine o_iload X d_method_2_27 rfl (q := 29) rfl ?_
    refine o_iconst X d_method_2_29 (w := 1) rfl (q := 30) rfl ?_
    by_cases hc30 : sl = (1 : Int32)
    · refine o_icmpN X d_method_2_30 (teq hc30).2 (q := 33) rfl ?_
      refine o_bipush X d_method_2_33 (w := 125) rfl (q := 35) rfl ?_
      exact o_retN X d_method_2_35 (by simp) (fun Sf hSf => ⟨_, rfl, by decide, rfl⟩) (by decide) (by decide)
    · refine o_icmpY X d_method_2_30 (feq hc30).2 (by decide) (q := 36) (by decide) ?_
      refine o_lloadN X d_method_2_36 rfl (q := 37) rfl ?_
      refine o_iconst X d_method_2_37 (w := 2) rfl (q := 38) rfl ?_
      refine o_lushr X d_method_2_38 (w := ((u.toUInt64 >>> ((2 : Int32) &&& 0x3f).toInt64.toUInt64).toInt64)) rfl (q := 39) rfl ?_
      refine o_ldcJ X (w8 hw) d_method_2_39 (q := 42) rfl ?_
      refine o_land X d_method_2_42 (w := (((u.toUInt64 >>> ((2 : Int32) &&& 0x3f).toInt64.toUInt64).toInt64) &&& (255 : Int64))) rfl (q := 43) rfl ?_
      refine o_l2i X d_method_2_43 (w := ((((u.toUInt64 >>> ((2 : Int32) &&& 0x3f).toInt64.toUInt64).toInt64) &&& (255 : Int64)).toInt32)) rfl (q := 44) rfl ?_
      refine o_i2c X d_method_2_44 (w := (((((u.toUInt64 >>> ((2 : Int32) &&& 0x3f).toInt64.toUInt64).toInt64) &&& (255 : Int64)).toInt32).toUInt32.toUInt16.toUInt32.toInt32)) rfl (q := 45) rfl ?_
      exact o_retN X d_method_2_45 (by simp) (fun Sf hSf => ⟨_, rfl, own_chr _, rfl⟩) (by decide) (by decide)
set_option maxRecDepth 65536 in
set_option maxHeartbeats 40000000 in
theorem c_ch2 {l : Launch} {Z : State} {a0 : Array Value} (hw : W a0 Z) (x : Int64) (h0 : Heap)  :
    Con l Z EL0 (⟨"anchorlog/AnchorPatternNextAnchorPinLaw", "ch", "(JI)C"⟩ : MethodName) method_2_code 6 (some .char) ({ frames := 0, cells := 0, slots := 0, locals := 0 } : Room) #[(.long x), (.int (2 : Int32))] h0 [] (fun v h' Sf => ∃ r : Int32, v = some (.int r) ∧ (¬ r < 0 ∧ ¬ (255 : Int32) < r) ∧ h' = h0) := by
  have hpn : plainName "anchorlog/AnchorPatternNextAnchorPinLaw" = true := by first | (simp [plainName, overriddenIn]; done) | decide +kernel
  refine Con.intro (plainFor_of_name hpn) ?_
  intro p e s m below meth c T X hss
  refine Goes.cast (g' := mkF m 0 #[.val (.long x), .second, .val (.int (2 : Int32)), .unset, .unset, .unset] []) (by first | (simp [entryFrame, mkF, argsToLocals, Value.category]; done) | rfl) ?_
  refine o_lloadN X d_method_2_0 rfl (q := 1) rfl ?_
  refine o_bipush X d_method_2_1 (w := 10) rfl (q := 3) rfl ?_
  refine o_iloadN X d_method_2_3 rfl (q := 4) rfl ?_
  refine o_imul X d_method_2_4 (w := (20 : Int32)) (by decide) (q := 5) rfl ?_
  refine o_lushr X d_method_2_5 (w := ((x.toUInt64 >>> ((20 : Int32) &&& 0x3f).toInt64.toUInt64).toInt64)) rfl (q := 6) rfl ?_
  refine o_ldcJ X (w6 hw) d_method_2_6 (q := 9) rfl ?_
  refine o_land X d_method_2_9 (w := (((x.toUInt64 >>> ((20 : Int32) &&& 0x3f).toInt64.toUInt64).toInt64) &&& (1023 : Int64))) rfl (q := 10) rfl ?_
  obtain ⟨u, h_u⟩ : ∃ z : Int64, (((x.toUInt64 >>> ((20 : Int32) &&& 0x3f).toInt64.toUInt64).toInt64) &&& (1023 : Int64)) = z := ⟨_, rfl⟩
  refine o_lstoreN X d_method_2_10 h_u (L' := #[.val (.long x), .second, .val (.int (2 : Int32)), .val (.long u), .second, .unset]) rfl (q := 11) rfl ?_
  refine o_lloadN X d_method_2_11 rfl (q := 12) rfl ?_
  refine o_ldcJ X (w7 hw) d_method_2_12 (q := 15) rfl ?_
  refine o_land X d_method_2_15 (w := (u &&& (3 : Int64))) rfl (q := 16) rfl ?_
  refine o_l2i X d_method_2_16 (w := ((u &&& (3 : Int64)).toInt32)) rfl (q := 17) rfl ?_
  obtain ⟨sl, h_sl⟩ : ∃ z : Int32, ((u &&& (3 : Int64)).toInt32) = z := ⟨_, rfl⟩
  refine o_istore X d_method_2_17 h_sl (L' := #[.val (.long x), .second, .val (.int (2 : Int32)), .val (.long u), .second, .val (.int sl)]) rfl (q := 19) rfl ?_
  refine o_iload X d_method_2_19 rfl (q := 21) rfl ?_
  by_cases hc21 : sl = (0 : Int32)
  · refine o_ifN X d_method_2_21 (teq hc21).2 (q := 24) rfl ?_
    refine o_bipush X d_method_2_24 (w := 123) rfl (q := 26) rfl ?_
    exact o_retN X d_method_2_26 (by simp) (fun Sf hSf => ⟨_, rfl, by decide, rfl⟩) (by decide) (by decide)
  · refine o_ifY X d_method_2_21 (feq hc21).2 (by decide) (q := 27) (by decide) ?_
    refine o_iload X d_method_2_27 rfl (q := 29) rfl ?_
    refine o_iconst X d_method_2_29 (w := 1) rfl (q := 30) rfl ?_
    by_cases hc30 : sl = (1 : Int32)
    · refine o_icmpN X d_method_2_30 (teq hc30).2 (q := 33) rfl ?_
      refine o_bipush X d_method_2_33 (w := 125) rfl (q := 35) rfl ?_
      exact o_retN X d_method_2_35 (by simp) (fun Sf hSf => ⟨_, rfl, by decide, rfl⟩) (by decide) (by decide)
    · refine o_icmpY X d_method_2_30 (feq hc30).2 (by decide) (q := 36) (by decide) ?_
      refine o_lloadN X d_method_2_36 rfl (q := 37) rfl ?_
      refine o_iconst X d_method_2_37 (w := 2) rfl (q := 38) rfl ?_
      refine o_lushr X d_method_2_38 (w := ((u.toUInt64 >>> ((2 : Int32) &&& 0x3f).toInt64.toUInt64).toInt64)) rfl (q := 39) rfl ?_
      refine o_ldcJ X (w8 hw) d_method_2_39 (q := 42) rfl ?_
      refine o_land X d_method_2_42 (w := (((u.toUInt64 >>> ((2 : Int32) &&& 0x3f).toInt64.toUInt64).toInt64) &&& (255 : Int64))) rfl (q := 43) rfl ?_
      refine o_l2i X d_method_2_43 (w := ((((u.toUInt64 >>> ((2 : Int32) &&& 0x3f).toInt64.toUInt64).toInt64) &&& (255 : Int64)).toInt32)) rfl (q := 44) rfl ?_
      refine o_i2c X d_method_2_44 (w := (((((u.toUInt64 >>> ((2 : Int32) &&& 0x3f).toInt64.toUInt64).toInt64) &&& (255 : Int64)).toInt32).toUInt32.toUInt16.toUInt32.toInt32)) rfl (q := 45) rfl ?_
      exact o_retN X d_method_2_45 (by simp) (fun Sf hSf => ⟨_, rfl, own_chr _, rfl⟩) (by decide) (by decide)
set_option maxRecDepth 65536 in
set_option maxHeartbeats 40000000 in
theorem c_ch3 {l : Launch} {Z : State} {a0 : Array Value} (hw : W a0 Z) (x : Int64) (h0 : Heap)  :
    Con l Z EL0 (⟨"anchorlog/AnchorPatternNextAnchorPinLaw", "ch", "(JI)C"⟩ : MethodName) method_2_code 6 (some .char) ({ frames := 0, cells := 0, slots := 0, locals := 0 } : Room) #[(.long x), (.int (3 : Int32))] h0 [] (fun v h' Sf => ∃ r : Int32, v = some (.int r) ∧ (¬ r < 0 ∧ ¬ (255 : Int32) < r) ∧ h' = h0) := by
  have hpn : plainName "anchorlog/AnchorPatternNextAnchorPinLaw" = true := by first | (simp [plainName, overriddenIn]; done) | decide +kernel
  refine Con.intro (plainFor_of_name hpn) ?_
  intro p e s m below meth c T X hss
  refine Goes.cast (g' := mkF m 0 #[.val (.long x), .second, .val (.int (3 : Int32)), .unset, .unset, .unset] []) (by first | (simp [entryFrame, mkF, argsToLocals, Value.category]; done) | rfl) ?_
  refine o_lloadN X d_method_2_0 rfl (q := 1) rfl ?_
  refine o_bipush X d_method_2_1 (w := 10) rfl (q := 3) rfl ?_
  refine o_iloadN X d_method_2_3 rfl (q := 4) rfl ?_
  refine o_imul X d_method_2_4 (w := (30 : Int32)) (by decide) (q := 5) rfl ?_
  refine o_lushr X d_method_2_5 (w := ((x.toUInt64 >>> ((30 : Int32) &&& 0x3f).toInt64.toUInt64).toInt64)) rfl (q := 6) rfl ?_
  refine o_ldcJ X (w6 hw) d_method_2_6 (q := 9) rfl ?_
  refine o_land X d_method_2_9 (w := (((x.toUInt64 >>> ((30 : Int32) &&& 0x3f).toInt64.toUInt64).toInt64) &&& (1023 : Int64))) rfl (q := 10) rfl ?_
  obtain ⟨u, h_u⟩ : ∃ z : Int64, (((x.toUInt64 >>> ((30 : Int32) &&& 0x3f).toInt64.toUInt64).toInt64) &&& (1023 : Int64)) = z := ⟨_, rfl⟩
  refine o_lstoreN X d_method_2_10 h_u (L' := #[.val (.long x), .second, .val (.int (3 : Int32)), .val (.long u), .second, .unset]) rfl (q := 11) rfl ?_
  refine o_lloadN X d_method_2_11 rfl (q := 12) rfl ?_
  refine o_ldcJ X (w7 hw) d_method_2_12 (q := 15) rfl ?_
  refine o_land X d_method_2_15 (w := (u &&& (3 : Int64))) rfl (q := 16) rfl ?_
  refine o_l2i X d_method_2_16 (w := ((u &&& (3 : Int64)).toInt32)) rfl (q := 17) rfl ?_
  obtain ⟨sl, h_sl⟩ : ∃ z : Int32, ((u &&& (3 : Int64)).toInt32) = z := ⟨_, rfl⟩
  refine o_istore X d_method_2_17 h_sl (L' := #[.val (.long x), .second, .val (.int (3 : Int32)), .val (.long u), .second, .val (.int sl)]) rfl (q := 19) rfl ?_
  refine o_iload X d_method_2_19 rfl (q := 21) rfl ?_
  by_cases hc21 : sl = (0 : Int32)
  · refine o_ifN X d_method_2_21 (teq hc21).2 (q := 24) rfl ?_
    refine o_bipush X d_method_2_24 (w := 123) rfl (q := 26) rfl ?_
    exact o_retN X d_method_2_26 (by simp) (fun Sf hSf => ⟨_, rfl, by decide, rfl⟩) (by decide) (by decide)
  · refine o_ifY X d_method_2_21 (feq hc21).2 (by decide) (q := 27) (by decide) ?_
    refine o_iload X d_method_2_27 rfl (q := 29) rfl ?_
    refine o_iconst X d_method_2_29 (w := 1) rfl (q := 30) rfl ?_
    by_cases hc30 : sl = (1 : Int32)
    · refine o_icmpN X d_method_2_30 (teq hc30).2 (q := 33) rfl ?_
      refine o_bipush X d_method_2_33 (w := 125) rfl (q := 35) rfl ?_
      exact o_retN X d_method_2_35 (by simp) (fun Sf hSf => ⟨_, rfl, by decide, rfl⟩) (by decide) (by decide)
    · refine o_icmpY X d_method_2_30 (feq hc30).2 (by decide) (q := 36) (by decide) ?_
      refine o_lloadN X d_method_2_36 rfl (q := 37) rfl ?_
      refine o_iconst X d_method_2_37 (w := 2) rfl (q := 38) rfl ?_
      refine o_lushr X d_method_2_38 (w := ((u.toUInt64 >>> ((2 : Int32) &&& 0x3f).toInt64.toUInt64).toInt64)) rfl (q := 39) rfl ?_
      refine o_ldcJ X (w8 hw) d_method_2_39 (q := 42) rfl ?_
      refine o_land X d_method_2_42 (w := (((u.toUInt64 >>> ((2 : Int32) &&& 0x3f).toInt64.toUInt64).toInt64) &&& (255 : Int64))) rfl (q := 43) rfl ?_
      refine o_l2i X d_method_2_43 (w := ((((u.toUInt64 >>> ((2 : Int32) &&& 0x3f).toInt64.toUInt64).toInt64) &&& (255 : Int64)).toInt32)) rfl (q := 44) rfl ?_
      refine o_i2c X d_method_2_44 (w := (((((u.toUInt64 >>> ((2 : Int32) &&& 0x3f).toInt64.toUInt64).toInt64) &&& (255 : Int64)).toInt32).toUInt32.toUInt16.toUInt32.toInt32)) rfl (q := 45) rfl ?_
      exact o_retN X d_method_2_45 (by simp) (fun Sf hSf => ⟨_, rfl, own_chr _, rfl⟩) (by decide) (by decide)
set_option maxRecDepth 65536 in
set_option maxHeartbeats 40000000 in
theorem c_ch4 {l : Launch} {Z : State} {a0 : Array Value} (hw : W a0 Z) (x : Int64) (h0 : Heap)  :
    Con l Z EL0 (⟨"anchorlog/AnchorPatternNextAnchorPinLaw", "ch", "(JI)C"⟩ : MethodName) method_2_code 6 (some .char) ({ frames := 0, cells := 0, slots := 0, locals := 0 } : Room) #[(.long x), (.int (4 : Int32))] h0 [] (fun v h' Sf => ∃ r : Int32, v = some (.int r) ∧ (¬ r < 0 ∧ ¬ (255 : Int32) < r) ∧ h' = h0) := by
  have hpn : plainName "anchorlog/AnchorPatternNextAnchorPinLaw" = true := by first | (simp [plainName, overriddenIn]; done) | decide +kernel
  refine Con.intro (plainFor_of_name hpn) ?_
  intro p e s m below meth c T X hss
  refine Goes.cast (g' := mkF m 0 #[.val (.long x), .second, .val (.int (4 : Int32)), .unset, .unset, .unset] []) (by first | (simp [entryFrame, mkF, argsToLocals, Value.category]; done) | rfl) ?_
  refine o_lloadN X d_method_2_0 rfl (q := 1) rfl ?_
  refine o_bipush X d_method_2_1 (w := 10) rfl (q := 3) rfl ?_
  refine o_iloadN X d_method_2_3 rfl (q := 4) rfl ?_
  refine o_imul X d_method_2_4 (w := (40 : Int32)) (by decide) (q := 5) rfl ?_
  refine o_lushr X d_method_2_5 (w := ((x.toUInt64 >>> ((40 : Int32) &&& 0x3f).toInt64.toUInt64).toInt64)) rfl (q := 6) rfl ?_
  refine o_ldcJ X (w6 hw) d_method_2_6 (q := 9) rfl ?_
  refine o_land X d_method_2_9 (w := (((x.toUInt64 >>> ((40 : Int32) &&& 0x3f).toInt64.toUInt64).toInt64) &&& (1023 : Int64))) rfl (q := 10) rfl ?_
  obtain ⟨u, h_u⟩ : ∃ z : Int64, (((x.toUInt64 >>> ((40 : Int32) &&& 0x3f).toInt64.toUInt64).toInt64) &&& (1023 : Int64)) = z := ⟨_, rfl⟩
  refine o_lstoreN X d_method_2_10 h_u (L' := #[.val (.long x), .second, .val (.int (4 : Int32)), .val (.long u), .second, .unset]) rfl (q := 11) rfl ?_
  refine o_lloadN X d_method_2_11 rfl (q := 12) rfl ?_
  refine o_ldcJ X (w7 hw) d_method_2_12 (q := 15) rfl ?_
  refine o_land X d_method_2_15 (w := (u &&& (3 : Int64))) rfl (q := 16) rfl ?_
  refine o_l2i X d_method_2_16 (w := ((u &&& (3 : Int64)).toInt32)) rfl (q := 17) rfl ?_
  obtain ⟨sl, h_sl⟩ : ∃ z : Int32, ((u &&& (3 : Int64)).toInt32) = z := ⟨_, rfl⟩
  refine o_istore X d_method_2_17 h_sl (L' := #[.val (.long x), .second, .val (.int (4 : Int32)), .val (.long u), .second, .val (.int sl)]) rfl (q := 19) rfl ?_
  refine o_iload X d_method_2_19 rfl (q := 21) rfl ?_
  by_cases hc21 : sl = (0 : Int32)
  · refine o_ifN X d_method_2_21 (teq hc21).2 (q := 24) rfl ?_
    refine o_bipush X d_method_2_24 (w := 123) rfl (q := 26) rfl ?_
    exact o_retN X d_method_2_26 (by simp) (fun Sf hSf => ⟨_, rfl, by decide, rfl⟩) (by decide) (by decide)
  · refine o_ifY X d_method_2_21 (feq hc21).2 (by decide) (q := 27) (by decide) ?_
    refine o_iload X d_method_2_27 rfl (q := 29) rfl ?_
    refine o_iconst X d_method_2_29 (w := 1) rfl (q := 30) rfl ?_
    by_cases hc30 : sl = (1 : Int32)
    · refine o_icmpN X d_method_2_30 (teq hc30).2 (q := 33) rfl ?_
      refine o_bipush X d_method_2_33 (w := 125) rfl (q := 35) rfl ?_
      exact o_retN X d_method_2_35 (by simp) (fun Sf hSf => ⟨_, rfl, by decide, rfl⟩) (by decide) (by decide)
    · refine o_icmpY X d_method_2_30 (feq hc30).2 (by decide) (q := 36) (by decide) ?_
      refine o_lloadN X d_method_2_36 rfl (q := 37) rfl ?_
      refine o_iconst X d_method_2_37 (w := 2) rfl (q := 38) rfl ?_
      refine o_lushr X d_method_2_38 (w := ((u.toUInt64 >>> ((2 : Int32) &&& 0x3f).toInt64.toUInt64).toInt64)) rfl (q := 39) rfl ?_
      refine o_ldcJ X (w8 hw) d_method_2_39 (q := 42) rfl ?_
      refine o_land X d_method_2_42 (w := (((u.toUInt64 >>> ((2 : Int32) &&& 0x3f).toInt64.toUInt64).toInt64) &&& (255 : Int64))) rfl (q := 43) rfl ?_
      refine o_l2i X d_method_2_43 (w := ((((u.toUInt64 >>> ((2 : Int32) &&& 0x3f).toInt64.toUInt64).toInt64) &&& (255 : Int64)).toInt32)) rfl (q := 44) rfl ?_
      refine o_i2c X d_method_2_44 (w := (((((u.toUInt64 >>> ((2 : Int32) &&& 0x3f).toInt64.toUInt64).toInt64) &&& (255 : Int64)).toInt32).toUInt32.toUInt16.toUInt32.toInt32)) rfl (q := 45) rfl ?_
      exact o_retN X d_method_2_45 (by simp) (fun Sf hSf => ⟨_, rfl, own_chr _, rfl⟩) (by decide) (by decide)
set_option maxRecDepth 65536 in
set_option maxHeartbeats 40000000 in
theorem c_at0 {l : Launch} {Z : State} {a0 : Array Value} (hw : W a0 Z) (ar : Addr) (kc : ClassId) (ln fr : Int32) (c0 c1 c2 c3 c4 : Int32) (h0 : Heap) (Vc : Arv Z h0 ar kc .char (5 : Int32) [(.int c0), (.int c1), (.int c2), (.int c3), (.int c4)] (.int (0 : Int32))) :
    Con l Z EL0 (⟨"anchorlog/AnchorPatternNextAnchorPinLaw", "at", "([CIII)Z"⟩ : MethodName) method_3_code 4 (some .boolean) ({ frames := 0, cells := 0, slots := 0, locals := 0 } : Room) #[(.ref ar), (.int ln), (.int fr), (.int (0 : Int32))] h0 [] (fun v h' Sf => ∃ r : Int32, v = some (.int r) ∧ h' = h0 ∧ ((r = 1 ∧ ((1 : Int32) < ln ∧ ¬ ((0 : Int32) < fr) ∧ c0 = 123 ∧ c1 = 125)) ∨ (r = 0 ∧ ¬ ((1 : Int32) < ln ∧ ¬ ((0 : Int32) < fr) ∧ c0 = 123 ∧ c1 = 125)))) := by
  have hpn : plainName "anchorlog/AnchorPatternNextAnchorPinLaw" = true := by first | (simp [plainName, overriddenIn]; done) | decide +kernel
  refine Con.intro (plainFor_of_name hpn) ?_
  intro p e s m below meth c T X hss
  refine Goes.cast (g' := mkF m 0 #[.val (.ref ar), .val (.int ln), .val (.int fr), .val (.int (0 : Int32))] []) (by first | (simp [entryFrame, mkF, argsToLocals, Value.category]; done) | rfl) ?_
  refine o_iloadN X d_method_3_0 rfl (q := 1) rfl ?_
  refine o_iconst X d_method_3_1 (w := 1) rfl (q := 2) rfl ?_
  refine o_iadd X d_method_3_2 (w := (1 : Int32)) (by decide) (q := 3) rfl ?_
  refine o_iloadN X d_method_3_3 rfl (q := 4) rfl ?_
  by_cases hc4 : (1 : Int32) < ln
  · refine o_icmpN X d_method_3_4 (tlt hc4).2.1 (q := 7) rfl ?_
    refine o_iloadN X d_method_3_7 rfl (q := 8) rfl ?_
    refine o_iloadN X d_method_3_8 rfl (q := 9) rfl ?_
    by_cases hc9 : (0 : Int32) < fr
    · refine o_icmpY X d_method_3_9 (tlt hc9).1 (by decide) (q := 34) (by decide) ?_
      refine o_iconst X d_method_3_34 (w := 0) rfl (q := 35) rfl ?_
      exact o_retN X d_method_3_35 (by simp) (fun Sf hSf => ⟨_, rfl, rfl, Or.inr ⟨rfl, fun q => q.2.1 hc9⟩⟩) (by decide) (by decide)
    · refine o_icmpN X d_method_3_9 (flt hc9).1 (q := 12) rfl ?_
      refine o_aloadN X d_method_3_12 rfl rfl (q := 13) rfl ?_
      refine o_iloadN X d_method_3_13 rfl (q := 14) rfl ?_
      refine o_caload X Vc (by decide) (v := (.int c0)) rfl d_method_3_14 (q := 15) rfl ?_
      refine o_bipush X d_method_3_15 (w := 123) rfl (q := 17) rfl ?_
      by_cases hc17 : c0 = (123 : Int32)
      · refine o_icmpN X d_method_3_17 (teq hc17).2 (q := 20) rfl ?_
        refine o_aloadN X d_method_3_20 rfl rfl (q := 21) rfl ?_
        refine o_iloadN X d_method_3_21 rfl (q := 22) rfl ?_
        refine o_iconst X d_method_3_22 (w := 1) rfl (q := 23) rfl ?_
        refine o_iadd X d_method_3_23 (w := (1 : Int32)) (by decide) (q := 24) rfl ?_
        refine o_caload X Vc (by decide) (v := (.int c1)) rfl d_method_3_24 (q := 25) rfl ?_
        refine o_bipush X d_method_3_25 (w := 125) rfl (q := 27) rfl ?_
        by_cases hc27 : c1 = (125 : Int32)
        · refine o_icmpN X d_method_3_27 (teq hc27).2 (q := 30) rfl ?_
          refine o_iconst X d_method_3_30 (w := 1) rfl (q := 31) rfl ?_
          refine o_goto X d_method_3_31 (by decide) (q := 35) (by decide) ?_
          exact o_retN X d_method_3_35 (by simp) (fun Sf hSf => ⟨_, rfl, rfl, Or.inl ⟨rfl, hc4, hc9, hc17, hc27⟩⟩) (by decide) (by decide)
        · refine o_icmpY X d_method_3_27 (feq hc27).2 (by decide) (q := 34) (by decide) ?_
          refine o_iconst X d_method_3_34 (w := 0) rfl (q := 35) rfl ?_
          exact o_retN X d_method_3_35 (by simp) (fun Sf hSf => ⟨_, rfl, rfl, Or.inr ⟨rfl, fun q => hc27 q.2.2.2⟩⟩) (by decide) (by decide)
      · refine o_icmpY X d_method_3_17 (feq hc17).2 (by decide) (q := 34) (by decide) ?_
        refine o_iconst X d_method_3_34 (w := 0) rfl (q := 35) rfl ?_
        exact o_retN X d_method_3_35 (by simp) (fun Sf hSf => ⟨_, rfl, rfl, Or.inr ⟨rfl, fun q => hc17 q.2.2.1⟩⟩) (by decide) (by decide)
  · refine o_icmpY X d_method_3_4 (flt hc4).2.1 (by decide) (q := 34) (by decide) ?_
    refine o_iconst X d_method_3_34 (w := 0) rfl (q := 35) rfl ?_
    exact o_retN X d_method_3_35 (by simp) (fun Sf hSf => ⟨_, rfl, rfl, Or.inr ⟨rfl, fun q => hc4 q.1⟩⟩) (by decide) (by decide)
set_option maxRecDepth 65536 in
set_option maxHeartbeats 40000000 in
theorem c_at1 {l : Launch} {Z : State} {a0 : Array Value} (hw : W a0 Z) (ar : Addr) (kc : ClassId) (ln fr : Int32) (c0 c1 c2 c3 c4 : Int32) (h0 : Heap) (Vc : Arv Z h0 ar kc .char (5 : Int32) [(.int c0), (.int c1), (.int c2), (.int c3), (.int c4)] (.int (0 : Int32))) :
    Con l Z EL0 (⟨"anchorlog/AnchorPatternNextAnchorPinLaw", "at", "([CIII)Z"⟩ : MethodName) method_3_code 4 (some .boolean) ({ frames := 0, cells := 0, slots := 0, locals := 0 } : Room) #[(.ref ar), (.int ln), (.int fr), (.int (1 : Int32))] h0 [] (fun v h' Sf => ∃ r : Int32, v = some (.int r) ∧ h' = h0 ∧ ((r = 1 ∧ ((2 : Int32) < ln ∧ ¬ ((1 : Int32) < fr) ∧ c1 = 123 ∧ c2 = 125)) ∨ (r = 0 ∧ ¬ ((2 : Int32) < ln ∧ ¬ ((1 : Int32) < fr) ∧ c1 = 123 ∧ c2 = 125)))) := by
  have hpn : plainName "anchorlog/AnchorPatternNextAnchorPinLaw" = true := by first | (simp [plainName, overriddenIn]; done) | decide +kernel
  refine Con.intro (plainFor_of_name hpn) ?_
  intro p e s m below meth c T X hss
  refine Goes.cast (g' := mkF m 0 #[.val (.ref ar), .val (.int ln), .val (.int fr), .val (.int (1 : Int32))] []) (by first | (simp [entryFrame, mkF, argsToLocals, Value.category]; done) | rfl) ?_
  refine o_iloadN X d_method_3_0 rfl (q := 1) rfl ?_
  refine o_iconst X d_method_3_1 (w := 1) rfl (q := 2) rfl ?_
  refine o_iadd X d_method_3_2 (w := (2 : Int32)) (by decide) (q := 3) rfl ?_
  refine o_iloadN X d_method_3_3 rfl (q := 4) rfl ?_
  by_cases hc4 : (2 : Int32) < ln
  · refine o_icmpN X d_method_3_4 (tlt hc4).2.1 (q := 7) rfl ?_
    refine o_iloadN X d_method_3_7 rfl (q := 8) rfl ?_
    refine o_iloadN X d_method_3_8 rfl (q := 9) rfl ?_
    by_cases hc9 : (1 : Int32) < fr
    · refine o_icmpY X d_method_3_9 (tlt hc9).1 (by decide) (q := 34) (by decide) ?_
      refine o_iconst X d_method_3_34 (w := 0) rfl (q := 35) rfl ?_
      exact o_retN X d_method_3_35 (by simp) (fun Sf hSf => ⟨_, rfl, rfl, Or.inr ⟨rfl, fun q => q.2.1 hc9⟩⟩) (by decide) (by decide)
    · refine o_icmpN X d_method_3_9 (flt hc9).1 (q := 12) rfl ?_
      refine o_aloadN X d_method_3_12 rfl rfl (q := 13) rfl ?_
      refine o_iloadN X d_method_3_13 rfl (q := 14) rfl ?_
      refine o_caload X Vc (by decide) (v := (.int c1)) rfl d_method_3_14 (q := 15) rfl ?_
      refine o_bipush X d_method_3_15 (w := 123) rfl (q := 17) rfl ?_
      by_cases hc17 : c1 = (123 : Int32)
      · refine o_icmpN X d_method_3_17 (teq hc17).2 (q := 20) rfl ?_
        refine o_aloadN X d_method_3_20 rfl rfl (q := 21) rfl ?_
        refine o_iloadN X d_method_3_21 rfl (q := 22) rfl ?_
        refine o_iconst X d_method_3_22 (w := 1) rfl (q := 23) rfl ?_
        refine o_iadd X d_method_3_23 (w := (2 : Int32)) (by decide) (q := 24) rfl ?_
        refine o_caload X Vc (by decide) (v := (.int c2)) rfl d_method_3_24 (q := 25) rfl ?_
        refine o_bipush X d_method_3_25 (w := 125) rfl (q := 27) rfl ?_
        by_cases hc27 : c2 = (125 : Int32)
        · refine o_icmpN X d_method_3_27 (teq hc27).2 (q := 30) rfl ?_
          refine o_iconst X d_method_3_30 (w := 1) rfl (q := 31) rfl ?_
          refine o_goto X d_method_3_31 (by decide) (q := 35) (by decide) ?_
          exact o_retN X d_method_3_35 (by simp) (fun Sf hSf => ⟨_, rfl, rfl, Or.inl ⟨rfl, hc4, hc9, hc17, hc27⟩⟩) (by decide) (by decide)
        · refine o_icmpY X d_method_3_27 (feq hc27).2 (by decide) (q := 34) (by decide) ?_
          refine o_iconst X d_method_3_34 (w := 0) rfl (q := 35) rfl ?_
          exact o_retN X d_method_3_35 (by simp) (fun Sf hSf => ⟨_, rfl, rfl, Or.inr ⟨rfl, fun q => hc27 q.2.2.2⟩⟩) (by decide) (by decide)
      · refine o_icmpY X d_method_3_17 (feq hc17).2 (by decide) (q := 34) (by decide) ?_
        refine o_iconst X d_method_3_34 (w := 0) rfl (q := 35) rfl ?_
        exact o_retN X d_method_3_35 (by simp) (fun Sf hSf => ⟨_, rfl, rfl, Or.inr ⟨rfl, fun q => hc17 q.2.2.1⟩⟩) (by decide) (by decide)
  · refine o_icmpY X d_method_3_4 (flt hc4).2.1 (by decide) (q := 34) (by decide) ?_
    refine o_iconst X d_method_3_34 (w := 0) rfl (q := 35) rfl ?_
    exact o_retN X d_method_3_35 (by simp) (fun Sf hSf => ⟨_, rfl, rfl, Or.inr ⟨rfl, fun q => hc4 q.1⟩⟩) (by decide) (by decide)
set_option maxRecDepth 65536 in
set_option maxHeartbeats 40000000 in
theorem c_at2 {l : Launch} {Z : State} {a0 : Array Value} (hw : W a0 Z) (ar : Addr) (kc : ClassId) (ln fr : Int32) (c0 c1 c2 c3 c4 : Int32) (h0 : Heap) (Vc : Arv Z h0 ar kc .char (5 : Int32) [(.int c0), (.int c1), (.int c2), (.int c3), (.int c4)] (.int (0 : Int32))) :
    Con l Z EL0 (⟨"anchorlog/AnchorPatternNextAnchorPinLaw", "at", "([CIII)Z"⟩ : MethodName) method_3_code 4 (some .boolean) ({ frames := 0, cells := 0, slots := 0, locals := 0 } : Room) #[(.ref ar), (.int ln), (.int fr), (.int (2 : Int32))] h0 [] (fun v h' Sf => ∃ r : Int32, v = some (.int r) ∧ h' = h0 ∧ ((r = 1 ∧ ((3 : Int32) < ln ∧ ¬ ((2 : Int32) < fr) ∧ c2 = 123 ∧ c3 = 125)) ∨ (r = 0 ∧ ¬ ((3 : Int32) < ln ∧ ¬ ((2 : Int32) < fr) ∧ c2 = 123 ∧ c3 = 125)))) := by
  have hpn : plainName "anchorlog/AnchorPatternNextAnchorPinLaw" = true := by first | (simp [plainName, overriddenIn]; done) | decide +kernel
  refine Con.intro (plainFor_of_name hpn) ?_
  intro p e s m below meth c T X hss
  refine Goes.cast (g' := mkF m 0 #[.val (.ref ar), .val (.int ln), .val (.int fr), .val (.int (2 : Int32))] []) (by first | (simp [entryFrame, mkF, argsToLocals, Value.category]; done) | rfl) ?_
  refine o_iloadN X d_method_3_0 rfl (q := 1) rfl ?_
  refine o_iconst X d_method_3_1 (w := 1) rfl (q := 2) rfl ?_
  refine o_iadd X d_method_3_2 (w := (3 : Int32)) (by decide) (q := 3) rfl ?_
  refine o_iloadN X d_method_3_3 rfl (q := 4) rfl ?_
  by_cases hc4 : (3 : Int32) < ln
  · refine o_icmpN X d_method_3_4 (tlt hc4).2.1 (q := 7) rfl ?_
    refine o_iloadN X d_method_3_7 rfl (q := 8) rfl ?_
    refine o_iloadN X d_method_3_8 rfl (q := 9) rfl ?_
    by_cases hc9 : (2 : Int32) < fr
    · refine o_icmpY X d_method_3_9 (tlt hc9).1 (by decide) (q := 34) (by decide) ?_
      refine o_iconst X d_method_3_34 (w := 0) rfl (q := 35) rfl ?_
      exact o_retN X d_method_3_35 (by simp) (fun Sf hSf => ⟨_, rfl, rfl, Or.inr ⟨rfl, fun q => q.2.1 hc9⟩⟩) (by decide) (by decide)
    · refine o_icmpN X d_method_3_9 (flt hc9).1 (q := 12) rfl ?_
      refine o_aloadN X d_method_3_12 rfl rfl (q := 13) rfl ?_
      refine o_iloadN X d_method_3_13 rfl (q := 14) rfl ?_
      refine o_caload X Vc (by decide) (v := (.int c2)) rfl d_method_3_14 (q := 15) rfl ?_
      refine o_bipush X d_method_3_15 (w := 123) rfl (q := 17) rfl ?_
      by_cases hc17 : c2 = (123 : Int32)
      · refine o_icmpN X d_method_3_17 (teq hc17).2 (q := 20) rfl ?_
        refine o_aloadN X d_method_3_20 rfl rfl (q := 21) rfl ?_
        refine o_iloadN X d_method_3_21 rfl (q := 22) rfl ?_
        refine o_iconst X d_method_3_22 (w := 1) rfl (q := 23) rfl ?_
        refine o_iadd X d_method_3_23 (w := (3 : Int32)) (by decide) (q := 24) rfl ?_
        refine o_caload X Vc (by decide) (v := (.int c3)) rfl d_method_3_24 (q := 25) rfl ?_
        refine o_bipush X d_method_3_25 (w := 125) rfl (q := 27) rfl ?_
        by_cases hc27 : c3 = (125 : Int32)
        · refine o_icmpN X d_method_3_27 (teq hc27).2 (q := 30) rfl ?_
          refine o_iconst X d_method_3_30 (w := 1) rfl (q := 31) rfl ?_
          refine o_goto X d_method_3_31 (by decide) (q := 35) (by decide) ?_
          exact o_retN X d_method_3_35 (by simp) (fun Sf hSf => ⟨_, rfl, rfl, Or.inl ⟨rfl, hc4, hc9, hc17, hc27⟩⟩) (by decide) (by decide)
        · refine o_icmpY X d_method_3_27 (feq hc27).2 (by decide) (q := 34) (by decide) ?_
          refine o_iconst X d_method_3_34 (w := 0) rfl (q := 35) rfl ?_
          exact o_retN X d_method_3_35 (by simp) (fun Sf hSf => ⟨_, rfl, rfl, Or.inr ⟨rfl, fun q => hc27 q.2.2.2⟩⟩) (by decide) (by decide)
      · refine o_icmpY X d_method_3_17 (feq hc17).2 (by decide) (q := 34) (by decide) ?_
        refine o_iconst X d_method_3_34 (w := 0) rfl (q := 35) rfl ?_
        exact o_retN X d_method_3_35 (by simp) (fun Sf hSf => ⟨_, rfl, rfl, Or.inr ⟨rfl, fun q => hc17 q.2.2.1⟩⟩) (by decide) (by decide)
  · refine o_icmpY X d_method_3_4 (flt hc4).2.1 (by decide) (q := 34) (by decide) ?_
    refine o_iconst X d_method_3_34 (w := 0) rfl (q := 35) rfl ?_
    exact o_retN X d_method_3_35 (by simp) (fun Sf hSf => ⟨_, rfl, rfl, Or.inr ⟨rfl, fun q => hc4 q.1⟩⟩) (by decide) (by decide)
set_option maxRecDepth 65536 in
set_option maxHeartbeats 40000000 in
theorem c_at3 {l : Launch} {Z : State} {a0 : Array Value} (hw : W a0 Z) (ar : Addr) (kc : ClassId) (ln fr : Int32) (c0 c1 c2 c3 c4 : Int32) (h0 : Heap) (Vc : Arv Z h0 ar kc .char (5 : Int32) [(.int c0), (.int c1), (.int c2), (.int c3), (.int c4)] (.int (0 : Int32))) :
    Con l Z EL0 (⟨"anchorlog/AnchorPatternNextAnchorPinLaw", "at", "([CIII)Z"⟩ : MethodName) method_3_code 4 (some .boolean) ({ frames := 0, cells := 0, slots := 0, locals := 0 } : Room) #[(.ref ar), (.int ln), (.int fr), (.int (3 : Int32))] h0 [] (fun v h' Sf => ∃ r : Int32, v = some (.int r) ∧ h' = h0 ∧ ((r = 1 ∧ ((4 : Int32) < ln ∧ ¬ ((3 : Int32) < fr) ∧ c3 = 123 ∧ c4 = 125)) ∨ (r = 0 ∧ ¬ ((4 : Int32) < ln ∧ ¬ ((3 : Int32) < fr) ∧ c3 = 123 ∧ c4 = 125)))) := by
  have hpn : plainName "anchorlog/AnchorPatternNextAnchorPinLaw" = true := by first | (simp [plainName, overriddenIn]; done) | decide +kernel
  refine Con.intro (plainFor_of_name hpn) ?_
  intro p e s m below meth c T X hss
  refine Goes.cast (g' := mkF m 0 #[.val (.ref ar), .val (.int ln), .val (.int fr), .val (.int (3 : Int32))] []) (by first | (simp [entryFrame, mkF, argsToLocals, Value.category]; done) | rfl) ?_
  refine o_iloadN X d_method_3_0 rfl (q := 1) rfl ?_
  refine o_iconst X d_method_3_1 (w := 1) rfl (q := 2) rfl ?_
  refine o_iadd X d_method_3_2 (w := (4 : Int32)) (by decide) (q := 3) rfl ?_
  refine o_iloadN X d_method_3_3 rfl (q := 4) rfl ?_
  by_cases hc4 : (4 : Int32) < ln
  · refine o_icmpN X d_method_3_4 (tlt hc4).2.1 (q := 7) rfl ?_
    refine o_iloadN X d_method_3_7 rfl (q := 8) rfl ?_
    refine o_iloadN X d_method_3_8 rfl (q := 9) rfl ?_
    by_cases hc9 : (3 : Int32) < fr
    · refine o_icmpY X d_method_3_9 (tlt hc9).1 (by decide) (q := 34) (by decide) ?_
      refine o_iconst X d_method_3_34 (w := 0) rfl (q := 35) rfl ?_
      exact o_retN X d_method_3_35 (by simp) (fun Sf hSf => ⟨_, rfl, rfl, Or.inr ⟨rfl, fun q => q.2.1 hc9⟩⟩) (by decide) (by decide)
    · refine o_icmpN X d_method_3_9 (flt hc9).1 (q := 12) rfl ?_
      refine o_aloadN X d_method_3_12 rfl rfl (q := 13) rfl ?_
      refine o_iloadN X d_method_3_13 rfl (q := 14) rfl ?_
      refine o_caload X Vc (by decide) (v := (.int c3)) rfl d_method_3_14 (q := 15) rfl ?_
      refine o_bipush X d_method_3_15 (w := 123) rfl (q := 17) rfl ?_
      by_cases hc17 : c3 = (123 : Int32)
      · refine o_icmpN X d_method_3_17 (teq hc17).2 (q := 20) rfl ?_
        refine o_aloadN X d_method_3_20 rfl rfl (q := 21) rfl ?_
        refine o_iloadN X d_method_3_21 rfl (q := 22) rfl ?_
        refine o_iconst X d_method_3_22 (w := 1) rfl (q := 23) rfl ?_
        refine o_iadd X d_method_3_23 (w := (4 : Int32)) (by decide) (q := 24) rfl ?_
        refine o_caload X Vc (by decide) (v := (.int c4)) rfl d_method_3_24 (q := 25) rfl ?_
        refine o_bipush X d_method_3_25 (w := 125) rfl (q := 27) rfl ?_
        by_cases hc27 : c4 = (125 : Int32)
        · refine o_icmpN X d_method_3_27 (teq hc27).2 (q := 30) rfl ?_
          refine o_iconst X d_method_3_30 (w := 1) rfl (q := 31) rfl ?_
          refine o_goto X d_method_3_31 (by decide) (q := 35) (by decide) ?_
          exact o_retN X d_method_3_35 (by simp) (fun Sf hSf => ⟨_, rfl, rfl, Or.inl ⟨rfl, hc4, hc9, hc17, hc27⟩⟩) (by decide) (by decide)
        · refine o_icmpY X d_method_3_27 (feq hc27).2 (by decide) (q := 34) (by decide) ?_
          refine o_iconst X d_method_3_34 (w := 0) rfl (q := 35) rfl ?_
          exact o_retN X d_method_3_35 (by simp) (fun Sf hSf => ⟨_, rfl, rfl, Or.inr ⟨rfl, fun q => hc27 q.2.2.2⟩⟩) (by decide) (by decide)
      · refine o_icmpY X d_method_3_17 (feq hc17).2 (by decide) (q := 34) (by decide) ?_
        refine o_iconst X d_method_3_34 (w := 0) rfl (q := 35) rfl ?_
        exact o_retN X d_method_3_35 (by simp) (fun Sf hSf => ⟨_, rfl, rfl, Or.inr ⟨rfl, fun q => hc17 q.2.2.1⟩⟩) (by decide) (by decide)
  · refine o_icmpY X d_method_3_4 (flt hc4).2.1 (by decide) (q := 34) (by decide) ?_
    refine o_iconst X d_method_3_34 (w := 0) rfl (q := 35) rfl ?_
    exact o_retN X d_method_3_35 (by simp) (fun Sf hSf => ⟨_, rfl, rfl, Or.inr ⟨rfl, fun q => hc4 q.1⟩⟩) (by decide) (by decide)
set_option maxRecDepth 65536 in
set_option maxHeartbeats 40000000 in
theorem c_make0 {l : Launch} {Z : State} {a0 : Array Value} (hw : W a0 Z) (ar : Addr) (kc : ClassId) (c0 c1 c2 c3 c4 : Int32) (h0 : Heap) (zc : Int32) (O2 : Sta Z Z.heap "java/lang/String" "COMPACT_STRINGS" "Z" (.int zc)) (P5 : ¬ zc = 0) (Vc : Arv Z h0 ar kc .char (5 : Int32) [(.int c0), (.int c1), (.int c2), (.int c3), (.int c4)] (.int (0 : Int32))) (hc0 : ¬ c0 < 0 ∧ ¬ (255 : Int32) < c0) (hc1 : ¬ c1 < 0 ∧ ¬ (255 : Int32) < c1) (hc2 : ¬ c2 < 0 ∧ ¬ (255 : Int32) < c2) (hc3 : ¬ c3 < 0 ∧ ¬ (255 : Int32) < c3) (hc4 : ¬ c4 < 0 ∧ ¬ (255 : Int32) < c4) :
    Con l Z EL0 (⟨"anchorlog/AnchorPatternNextAnchorPinLaw", "make", "(I[C)Ljava/lang/String;"⟩ : MethodName) method_4_code 2 (some (.object "java/lang/String")) ({ frames := 5, cells := 6, slots := 14, locals := 70 } : Room) #[(.int (0 : Int32)), (.ref ar)] h0 [] (fun v h' Sf => ∃ (t b : Addr) (kb : ClassId), v = some (.ref t) ∧ Keep h0 h' [] ∧ LS Z h' t b kb []) := by
  have hpn : plainName "anchorlog/AnchorPatternNextAnchorPinLaw" = true := by first | (simp [plainName, overriddenIn]; done) | decide +kernel
  refine Con.intro (plainFor_of_name hpn) ?_
  intro p e s m below meth c T X hss
  refine Goes.cast (g' := mkF m 0 #[.val (.int (0 : Int32)), .val (.ref ar)] []) (by first | (simp [entryFrame, mkF, argsToLocals, Value.category]; done) | rfl) ?_
  refine o_iloadN X d_method_4_0 rfl (q := 1) rfl ?_
  refine o_ifN X d_method_4_1 (by decide) (q := 4) rfl ?_
  refine o_new X (w12 hw) (w13 hw) (w14 hw) d_method_4_4 (by decide) (by decide) (q := 7) rfl ?_
  intro T1 h1 b1 gb1 X1 E1 R1 S1 A1 D1 g0_b1
  have f2 : Fld Z h1 b1 "java/lang/String" "coder" "B" (.int (0 : Int32)) := D1 (Or.inr (w38 hw)) (ty := .byte) (by decide)
  have f3 : Fld Z h1 b1 "java/lang/String" "value" "[B" .null := D1 (Or.inr (w40 hw)) (ty := (.array .byte)) (by decide)
  refine o_dup X1 d_method_4_7 rfl (q := 8) rfl ?_
  refine o_iconst X1 d_method_4_8 (w := 0) rfl (q := 9) rfl ?_
  refine o_newarr X1 (aty := .char) (cap := 0) 0 (w1 hw) d_method_4_9 (by decide) (by decide) (by decide) (by decide) (by decide) (q := 11) rfl ?_
  intro T4 h4 b4 k4 gb4 X4 E4 R4 S4 V4 g0_b4
  have V4 : Arv Z h4 b4 k4 .char (0 : Int32) [] (.int (0 : Int32)) := V4
  have f5 := (A1.ext E4)
  have f6 := (f3.ext E4)
  have f7 := (f2.ext E4)
  have f9 := (CHr.safe R4 (A1.lt) S1)
  refine o_spec X4 [(.ref b4)] (y' := (⟨"java/lang/String", "<init>", "([C)V"⟩ : MethodName)) (c_strE hw b1 b4 _ f5 g0_b1 f6 f7 V4) (allS ⟨f5.lt, f9⟩ all0) rfl (w15 hw) (w16 hw) (w17 hw) (w14 hw) (by decide) d_method_4_11 (rest := [(.ref b1)]) rfl rfl (lenOf pd11 rfl) rfl (by decide) (Nat.le_of_ble_eq_true rfl) (by decide) (by decide) (q := 14) rfl ?_
  intro v8 vm8 T8 h8 l8 X8 R8 q8
  obtain ⟨rfl, K8, b8, kb8, L8⟩ := q8
  show Goes p e below _ T8 (mkF m 14 #[.val (.int (0 : Int32)), .val (.ref ar)] [(.ref b1)])
  have sz10 := Nat.le_trans (Keep.refl h0 []).1 (Nat.le_of_eq gb1.symm)
  have k11 := Keep.ext (Keep.refl h0 []) E1
  have sz12 := Nat.le_trans k11.1 (Nat.le_of_eq gb4.symm)
  have k13 := Keep.ext k11 E4
  have k14 := Keep.trans k13 K8 (allS (Or.inr sz10) all0)
  exact o_retR X8 d_method_4_14 rfl rfl rfl (fun Sf hSf => ⟨b1, b8, kb8, rfl, k14, L8⟩) (by decide) (by decide)
set_option maxRecDepth 65536 in
set_option maxHeartbeats 40000000 in
theorem c_make1 {l : Launch} {Z : State} {a0 : Array Value} (hw : W a0 Z) (ar : Addr) (kc : ClassId) (c0 c1 c2 c3 c4 : Int32) (h0 : Heap) (zc : Int32) (O2 : Sta Z Z.heap "java/lang/String" "COMPACT_STRINGS" "Z" (.int zc)) (P5 : ¬ zc = 0) (Vc : Arv Z h0 ar kc .char (5 : Int32) [(.int c0), (.int c1), (.int c2), (.int c3), (.int c4)] (.int (0 : Int32))) (hc0 : ¬ c0 < 0 ∧ ¬ (255 : Int32) < c0) (hc1 : ¬ c1 < 0 ∧ ¬ (255 : Int32) < c1) (hc2 : ¬ c2 < 0 ∧ ¬ (255 : Int32) < c2) (hc3 : ¬ c3 < 0 ∧ ¬ (255 : Int32) < c3) (hc4 : ¬ c4 < 0 ∧ ¬ (255 : Int32) < c4) :
    Con l Z EL0 (⟨"anchorlog/AnchorPatternNextAnchorPinLaw", "make", "(I[C)Ljava/lang/String;"⟩ : MethodName) method_4_code 2 (some (.object "java/lang/String")) ({ frames := 5, cells := 6, slots := 14, locals := 70 } : Room) #[(.int (1 : Int32)), (.ref ar)] h0 [] (fun v h' Sf => ∃ (t b : Addr) (kb : ClassId), v = some (.ref t) ∧ Keep h0 h' [] ∧ LS Z h' t b kb [c0]) := by
  have hpn : plainName "anchorlog/AnchorPatternNextAnchorPinLaw" = true := by first | (simp [plainName, overriddenIn]; done) | decide +kernel
  refine Con.intro (plainFor_of_name hpn) ?_
  intro p e s m below meth c T X hss
  refine Goes.cast (g' := mkF m 0 #[.val (.int (1 : Int32)), .val (.ref ar)] []) (by first | (simp [entryFrame, mkF, argsToLocals, Value.category]; done) | rfl) ?_
  refine o_iloadN X d_method_4_0 rfl (q := 1) rfl ?_
  refine o_ifY X d_method_4_1 (by decide) (by decide) (q := 15) (by decide) ?_
  refine o_iloadN X d_method_4_15 rfl (q := 16) rfl ?_
  refine o_iconst X d_method_4_16 (w := 1) rfl (q := 17) rfl ?_
  refine o_icmpN X d_method_4_17 (by decide) (q := 20) rfl ?_
  refine o_new X (w12 hw) (w13 hw) (w14 hw) d_method_4_20 (by decide) (by decide) (q := 23) rfl ?_
  intro T1 h1 b1 gb1 X1 E1 R1 S1 A1 D1 g0_b1
  have f2 : Fld Z h1 b1 "java/lang/String" "coder" "B" (.int (0 : Int32)) := D1 (Or.inr (w38 hw)) (ty := .byte) (by decide)
  have f3 : Fld Z h1 b1 "java/lang/String" "value" "[B" .null := D1 (Or.inr (w40 hw)) (ty := (.array .byte)) (by decide)
  refine o_dup X1 d_method_4_23 rfl (q := 24) rfl ?_
  refine o_iconst X1 d_method_4_24 (w := 1) rfl (q := 25) rfl ?_
  refine o_newarr X1 (aty := .char) (cap := 1) 1 (w1 hw) d_method_4_25 (by decide) (by decide) (by decide) (by decide) (by decide) (q := 27) rfl ?_
  intro T4 h4 b4 k4 gb4 X4 E4 R4 S4 V4 g0_b4
  have V4 : Arv Z h4 b4 k4 .char (1 : Int32) [(.int (0 : Int32))] (.int (0 : Int32)) := V4
  refine o_dup X4 d_method_4_27 rfl (q := 28) rfl ?_
  refine o_iconst X4 d_method_4_28 (w := 0) rfl (q := 29) rfl ?_
  refine o_aloadN X4 d_method_4_29 rfl rfl (q := 30) rfl ?_
  refine o_iconst X4 d_method_4_30 (w := 0) rfl (q := 31) rfl ?_
  have f5 := ((Vc.ext E1).ext E4)
  refine o_caload X4 f5 (by decide) (v := (.int c0)) rfl d_method_4_31 (q := 32) rfl ?_
  refine o_castore X4 0 V4 g0_b4 (Safe.arv X4.alike V4 (by decide)) (by decide) rfl (Nat.le_of_ble_eq_true rfl) (v := (.int c0)) (congrArg Value.int (own_nar hc0)) d_method_4_32 (q := 33) rfl ?_
  intro T6 h6 l6 X6 W6 R6 V6
  have V6 : Arv Z h6 b4 k4 .char (1 : Int32) [(.int c0)] (.int (0 : Int32)) := V6
  have f7 := ((A1.ext E4).wr W6)
  have f8 := ((f3.ext E4).other W6 (Or.inl (Nat.ne_of_lt (Nat.lt_of_lt_of_le A1.lt (Nat.le_of_eq gb4.symm)))))
  have f9 := ((f2.ext E4).other W6 (Or.inl (Nat.ne_of_lt (Nat.lt_of_lt_of_le A1.lt (Nat.le_of_eq gb4.symm)))))
  have f10 := (CHr.safe R6 ((A1.ext E4).lt) (CHr.safe R4 (A1.lt) S1))
  refine o_newStr X6 (cs := [c0]) (n := 1) f7 f8 f9 V6 g0_b1 f10 O2 P5 (hwns hw) (w13 hw) rfl rfl (by decide) (by decide) (own_all1 hc0) (w15 hw) (w16 hw) (w17 hw) d_method_4_33 rfl (by decide) (Nat.le_of_ble_eq_true rfl) (by decide) (by decide) (q := 36) rfl ?_
  intro T11 h11 l11 b11 kb11 X11 K11 R11 gb11 L11
  have sz12 := Nat.le_trans (Keep.refl h0 []).1 (Nat.le_of_eq gb1.symm)
  have k13 := Keep.ext (Keep.refl h0 []) E1
  have sz14 := Nat.le_trans k13.1 (Nat.le_of_eq gb4.symm)
  have k15 := Keep.ext k13 E4
  have k16 := Keep.wr k15 W6 (Or.inr sz14)
  have k17 := Keep.trans k16 K11 (allS (Or.inr sz12) all0)
  exact o_retR X11 d_method_4_36 rfl rfl rfl (fun Sf hSf => ⟨b1, b11, kb11, rfl, k17, L11⟩) (by decide) (by decide)
set_option maxRecDepth 65536 in
set_option maxHeartbeats 40000000 in
theorem c_make2 {l : Launch} {Z : State} {a0 : Array Value} (hw : W a0 Z) (ar : Addr) (kc : ClassId) (c0 c1 c2 c3 c4 : Int32) (h0 : Heap) (zc : Int32) (O2 : Sta Z Z.heap "java/lang/String" "COMPACT_STRINGS" "Z" (.int zc)) (P5 : ¬ zc = 0) (Vc : Arv Z h0 ar kc .char (5 : Int32) [(.int c0), (.int c1), (.int c2), (.int c3), (.int c4)] (.int (0 : Int32))) (hc0 : ¬ c0 < 0 ∧ ¬ (255 : Int32) < c0) (hc1 : ¬ c1 < 0 ∧ ¬ (255 : Int32) < c1) (hc2 : ¬ c2 < 0 ∧ ¬ (255 : Int32) < c2) (hc3 : ¬ c3 < 0 ∧ ¬ (255 : Int32) < c3) (hc4 : ¬ c4 < 0 ∧ ¬ (255 : Int32) < c4) :
    Con l Z EL0 (⟨"anchorlog/AnchorPatternNextAnchorPinLaw", "make", "(I[C)Ljava/lang/String;"⟩ : MethodName) method_4_code 2 (some (.object "java/lang/String")) ({ frames := 5, cells := 6, slots := 14, locals := 70 } : Room) #[(.int (2 : Int32)), (.ref ar)] h0 [] (fun v h' Sf => ∃ (t b : Addr) (kb : ClassId), v = some (.ref t) ∧ Keep h0 h' [] ∧ LS Z h' t b kb [c0, c1]) := by
  have hpn : plainName "anchorlog/AnchorPatternNextAnchorPinLaw" = true := by first | (simp [plainName, overriddenIn]; done) | decide +kernel
  refine Con.intro (plainFor_of_name hpn) ?_
  intro p e s m below meth c T X hss
  refine Goes.cast (g' := mkF m 0 #[.val (.int (2 : Int32)), .val (.ref ar)] []) (by first | (simp [entryFrame, mkF, argsToLocals, Value.category]; done) | rfl) ?_
  refine o_iloadN X d_method_4_0 rfl (q := 1) rfl ?_
  refine o_ifY X d_method_4_1 (by decide) (by decide) (q := 15) (by decide) ?_
  refine o_iloadN X d_method_4_15 rfl (q := 16) rfl ?_
  refine o_iconst X d_method_4_16 (w := 1) rfl (q := 17) rfl ?_
  refine o_icmpY X d_method_4_17 (by decide) (by decide) (q := 37) (by decide) ?_
  refine o_iloadN X d_method_4_37 rfl (q := 38) rfl ?_
  refine o_iconst X d_method_4_38 (w := 2) rfl (q := 39) rfl ?_
  refine o_icmpN X d_method_4_39 (by decide) (q := 42) rfl ?_
  refine o_new X (w12 hw) (w13 hw) (w14 hw) d_method_4_42 (by decide) (by decide) (q := 45) rfl ?_
  intro T1 h1 b1 gb1 X1 E1 R1 S1 A1 D1 g0_b1
  have f2 : Fld Z h1 b1 "java/lang/String" "coder" "B" (.int (0 : Int32)) := D1 (Or.inr (w38 hw)) (ty := .byte) (by decide)
  have f3 : Fld Z h1 b1 "java/lang/String" "value" "[B" .null := D1 (Or.inr (w40 hw)) (ty := (.array .byte)) (by decide)
  refine o_dup X1 d_method_4_45 rfl (q := 46) rfl ?_
  refine o_iconst X1 d_method_4_46 (w := 2) rfl (q := 47) rfl ?_
  refine o_newarr X1 (aty := .char) (cap := 2) 2 (w1 hw) d_method_4_47 (by decide) (by decide) (by decide) (by decide) (by decide) (q := 49) rfl ?_
  intro T4 h4 b4 k4 gb4 X4 E4 R4 S4 V4 g0_b4
  have V4 : Arv Z h4 b4 k4 .char (2 : Int32) [(.int (0 : Int32)), (.int (0 : Int32))] (.int (0 : Int32)) := V4
  refine o_dup X4 d_method_4_49 rfl (q := 50) rfl ?_
  refine o_iconst X4 d_method_4_50 (w := 0) rfl (q := 51) rfl ?_
  refine o_aloadN X4 d_method_4_51 rfl rfl (q := 52) rfl ?_
  refine o_iconst X4 d_method_4_52 (w := 0) rfl (q := 53) rfl ?_
  have f5 := ((Vc.ext E1).ext E4)
  refine o_caload X4 f5 (by decide) (v := (.int c0)) rfl d_method_4_53 (q := 54) rfl ?_
  refine o_castore X4 0 V4 g0_b4 (Safe.arv X4.alike V4 (by decide)) (by decide) rfl (Nat.le_of_ble_eq_true rfl) (v := (.int c0)) (congrArg Value.int (own_nar hc0)) d_method_4_54 (q := 55) rfl ?_
  intro T6 h6 l6 X6 W6 R6 V6
  have V6 : Arv Z h6 b4 k4 .char (2 : Int32) [(.int c0), (.int (0 : Int32))] (.int (0 : Int32)) := V6
  refine o_dup X6 d_method_4_55 rfl (q := 56) rfl ?_
  refine o_iconst X6 d_method_4_56 (w := 1) rfl (q := 57) rfl ?_
  refine o_aloadN X6 d_method_4_57 rfl rfl (q := 58) rfl ?_
  refine o_iconst X6 d_method_4_58 (w := 1) rfl (q := 59) rfl ?_
  have f7 := (f5.other W6 (Nat.ne_of_lt (Nat.lt_of_lt_of_le (Vc.ext E1).lt (Nat.le_of_eq gb4.symm))))
  refine o_caload X6 f7 (by decide) (v := (.int c1)) rfl d_method_4_59 (q := 60) rfl ?_
  refine o_castore X6 1 V6 g0_b4 (Safe.arv X6.alike V6 (by decide)) (by decide) rfl (Nat.le_of_ble_eq_true rfl) (v := (.int c1)) (congrArg Value.int (own_nar hc1)) d_method_4_60 (q := 61) rfl ?_
  intro T8 h8 l8 X8 W8 R8 V8
  have V8 : Arv Z h8 b4 k4 .char (2 : Int32) [(.int c0), (.int c1)] (.int (0 : Int32)) := V8
  have f9 := (((A1.ext E4).wr W6).wr W8)
  have f10 := (((f3.ext E4).other W6 (Or.inl (Nat.ne_of_lt (Nat.lt_of_lt_of_le A1.lt (Nat.le_of_eq gb4.symm))))).other W8 (Or.inl (Nat.ne_of_lt (Nat.lt_of_lt_of_le A1.lt (Nat.le_of_eq gb4.symm)))))
  have f11 := (((f2.ext E4).other W6 (Or.inl (Nat.ne_of_lt (Nat.lt_of_lt_of_le A1.lt (Nat.le_of_eq gb4.symm))))).other W8 (Or.inl (Nat.ne_of_lt (Nat.lt_of_lt_of_le A1.lt (Nat.le_of_eq gb4.symm)))))
  have f12 := (CHr.safe R8 (((A1.ext E4).wr W6).lt) (CHr.safe R6 ((A1.ext E4).lt) (CHr.safe R4 (A1.lt) S1)))
  refine o_newStr X8 (cs := [c0, c1]) (n := 2) f9 f10 f11 V8 g0_b1 f12 O2 P5 (hwns hw) (w13 hw) rfl rfl (by decide) (by decide) (own_all2 hc0 hc1) (w15 hw) (w16 hw) (w17 hw) d_method_4_61 rfl (by decide) (Nat.le_of_ble_eq_true rfl) (by decide) (by decide) (q := 64) rfl ?_
  intro T13 h13 l13 b13 kb13 X13 K13 R13 gb13 L13
  have sz14 := Nat.le_trans (Keep.refl h0 []).1 (Nat.le_of_eq gb1.symm)
  have k15 := Keep.ext (Keep.refl h0 []) E1
  have sz16 := Nat.le_trans k15.1 (Nat.le_of_eq gb4.symm)
  have k17 := Keep.ext k15 E4
  have k18 := Keep.wr k17 W6 (Or.inr sz16)
  have k19 := Keep.wr k18 W8 (Or.inr sz16)
  have k20 := Keep.trans k19 K13 (allS (Or.inr sz14) all0)
  exact o_retR X13 d_method_4_64 rfl rfl rfl (fun Sf hSf => ⟨b1, b13, kb13, rfl, k20, L13⟩) (by decide) (by decide)
set_option maxRecDepth 65536 in
set_option maxHeartbeats 40000000 in
theorem c_make3 {l : Launch} {Z : State} {a0 : Array Value} (hw : W a0 Z) (ar : Addr) (kc : ClassId) (c0 c1 c2 c3 c4 : Int32) (h0 : Heap) (zc : Int32) (O2 : Sta Z Z.heap "java/lang/String" "COMPACT_STRINGS" "Z" (.int zc)) (P5 : ¬ zc = 0) (Vc : Arv Z h0 ar kc .char (5 : Int32) [(.int c0), (.int c1), (.int c2), (.int c3), (.int c4)] (.int (0 : Int32))) (hc0 : ¬ c0 < 0 ∧ ¬ (255 : Int32) < c0) (hc1 : ¬ c1 < 0 ∧ ¬ (255 : Int32) < c1) (hc2 : ¬ c2 < 0 ∧ ¬ (255 : Int32) < c2) (hc3 : ¬ c3 < 0 ∧ ¬ (255 : Int32) < c3) (hc4 : ¬ c4 < 0 ∧ ¬ (255 : Int32) < c4) :
    Con l Z EL0 (⟨"anchorlog/AnchorPatternNextAnchorPinLaw", "make", "(I[C)Ljava/lang/String;"⟩ : MethodName) method_4_code 2 (some (.object "java/lang/String")) ({ frames := 5, cells := 6, slots := 14, locals := 70 } : Room) #[(.int (3 : Int32)), (.ref ar)] h0 [] (fun v h' Sf => ∃ (t b : Addr) (kb : ClassId), v = some (.ref t) ∧ Keep h0 h' [] ∧ LS Z h' t b kb [c0, c1, c2]) := by
  have hpn : plainName "anchorlog/AnchorPatternNextAnchorPinLaw" = true := by first | (simp [plainName, overriddenIn]; done) | decide +kernel
  refine Con.intro (plainFor_of_name hpn) ?_
  intro p e s m below meth c T X hss
  refine Goes.cast (g' := mkF m 0 #[.val (.int (3 : Int32)), .val (.ref ar)] []) (by first | (simp [entryFrame, mkF, argsToLocals, Value.category]; done) | rfl) ?_
  refine o_iloadN X d_method_4_0 rfl (q := 1) rfl ?_
  refine o_ifY X d_method_4_1 (by decide) (by decide) (q := 15) (by decide) ?_
  refine o_iloadN X d_method_4_15 rfl (q := 16) rfl ?_
  refine o_iconst X d_method_4_16 (w := 1) rfl (q := 17) rfl ?_
  refine o_icmpY X d_method_4_17 (by decide) (by decide) (q := 37) (by decide) ?_
  refine o_iloadN X d_method_4_37 rfl (q := 38) rfl ?_
  refine o_iconst X d_method_4_38 (w := 2) rfl (q := 39) rfl ?_
  refine o_icmpY X d_method_4_39 (by decide) (by decide) (q := 65) (by decide) ?_
  refine o_iloadN X d_method_4_65 rfl (q := 66) rfl ?_
  refine o_iconst X d_method_4_66 (w := 3) rfl (q := 67) rfl ?_
  refine o_icmpN X d_method_4_67 (by decide) (q := 70) rfl ?_
  refine o_new X (w12 hw) (w13 hw) (w14 hw) d_method_4_70 (by decide) (by decide) (q := 73) rfl ?_
  intro T1 h1 b1 gb1 X1 E1 R1 S1 A1 D1 g0_b1
  have f2 : Fld Z h1 b1 "java/lang/String" "coder" "B" (.int (0 : Int32)) := D1 (Or.inr (w38 hw)) (ty := .byte) (by decide)
  have f3 : Fld Z h1 b1 "java/lang/String" "value" "[B" .null := D1 (Or.inr (w40 hw)) (ty := (.array .byte)) (by decide)
  refine o_dup X1 d_method_4_73 rfl (q := 74) rfl ?_
  refine o_iconst X1 d_method_4_74 (w := 3) rfl (q := 75) rfl ?_
  refine o_newarr X1 (aty := .char) (cap := 3) 3 (w1 hw) d_method_4_75 (by decide) (by decide) (by decide) (by decide) (by decide) (q := 77) rfl ?_
  intro T4 h4 b4 k4 gb4 X4 E4 R4 S4 V4 g0_b4
  have V4 : Arv Z h4 b4 k4 .char (3 : Int32) [(.int (0 : Int32)), (.int (0 : Int32)), (.int (0 : Int32))] (.int (0 : Int32)) := V4
  refine o_dup X4 d_method_4_77 rfl (q := 78) rfl ?_
  refine o_iconst X4 d_method_4_78 (w := 0) rfl (q := 79) rfl ?_
  refine o_aloadN X4 d_method_4_79 rfl rfl (q := 80) rfl ?_
  refine o_iconst X4 d_method_4_80 (w := 0) rfl (q := 81) rfl ?_
  have f5 := ((Vc.ext E1).ext E4)
  refine o_caload X4 f5 (by decide) (v := (.int c0)) rfl d_method_4_81 (q := 82) rfl ?_
  refine o_castore X4 0 V4 g0_b4 (Safe.arv X4.alike V4 (by decide)) (by decide) rfl (Nat.le_of_ble_eq_true rfl) (v := (.int c0)) (congrArg Value.int (own_nar hc0)) d_method_4_82 (q := 83) rfl ?_
  intro T6 h6 l6 X6 W6 R6 V6
  have V6 : Arv Z h6 b4 k4 .char (3 : Int32) [(.int c0), (.int (0 : Int32)), (.int (0 : Int32))] (.int (0 : Int32)) := V6
  refine o_dup X6 d_method_4_83 rfl (q := 84) rfl ?_
  refine o_iconst X6 d_method_4_84 (w := 1) rfl (q := 85) rfl ?_
  refine o_aloadN X6 d_method_4_85 rfl rfl (q := 86) rfl ?_
  refine o_iconst X6 d_method_4_86 (w := 1) rfl (q := 87) rfl ?_
  have f7 := (f5.other W6 (Nat.ne_of_lt (Nat.lt_of_lt_of_le (Vc.ext E1).lt (Nat.le_of_eq gb4.symm))))
  refine o_caload X6 f7 (by decide) (v := (.int c1)) rfl d_method_4_87 (q := 88) rfl ?_
  refine o_castore X6 1 V6 g0_b4 (Safe.arv X6.alike V6 (by decide)) (by decide) rfl (Nat.le_of_ble_eq_true rfl) (v := (.int c1)) (congrArg Value.int (own_nar hc1)) d_method_4_88 (q := 89) rfl ?_
  intro T8 h8 l8 X8 W8 R8 V8
  have V8 : Arv Z h8 b4 k4 .char (3 : Int32) [(.int c0), (.int c1), (.int (0 : Int32))] (.int (0 : Int32)) := V8
  refine o_dup X8 d_method_4_89 rfl (q := 90) rfl ?_
  refine o_iconst X8 d_method_4_90 (w := 2) rfl (q := 91) rfl ?_
  refine o_aloadN X8 d_method_4_91 rfl rfl (q := 92) rfl ?_
  refine o_iconst X8 d_method_4_92 (w := 2) rfl (q := 93) rfl ?_
  have f9 := (f7.other W8 (Nat.ne_of_lt (Nat.lt_of_lt_of_le (Vc.ext E1).lt (Nat.le_of_eq gb4.symm))))
  refine o_caload X8 f9 (by decide) (v := (.int c2)) rfl d_method_4_93 (q := 94) rfl ?_
  refine o_castore X8 2 V8 g0_b4 (Safe.arv X8.alike V8 (by decide)) (by decide) rfl (Nat.le_of_ble_eq_true rfl) (v := (.int c2)) (congrArg Value.int (own_nar hc2)) d_method_4_94 (q := 95) rfl ?_
  intro T10 h10 l10 X10 W10 R10 V10
  have V10 : Arv Z h10 b4 k4 .char (3 : Int32) [(.int c0), (.int c1), (.int c2)] (.int (0 : Int32)) := V10
  have f11 := ((((A1.ext E4).wr W6).wr W8).wr W10)
  have f12 := ((((f3.ext E4).other W6 (Or.inl (Nat.ne_of_lt (Nat.lt_of_lt_of_le A1.lt (Nat.le_of_eq gb4.symm))))).other W8 (Or.inl (Nat.ne_of_lt (Nat.lt_of_lt_of_le A1.lt (Nat.le_of_eq gb4.symm))))).other W10 (Or.inl (Nat.ne_of_lt (Nat.lt_of_lt_of_le A1.lt (Nat.le_of_eq gb4.symm)))))
  have f13 := ((((f2.ext E4).other W6 (Or.inl (Nat.ne_of_lt (Nat.lt_of_lt_of_le A1.lt (Nat.le_of_eq gb4.symm))))).other W8 (Or.inl (Nat.ne_of_lt (Nat.lt_of_lt_of_le A1.lt (Nat.le_of_eq gb4.symm))))).other W10 (Or.inl (Nat.ne_of_lt (Nat.lt_of_lt_of_le A1.lt (Nat.le_of_eq gb4.symm)))))
  have f14 := (CHr.safe R10 ((((A1.ext E4).wr W6).wr W8).lt) (CHr.safe R8 (((A1.ext E4).wr W6).lt) (CHr.safe R6 ((A1.ext E4).lt) (CHr.safe R4 (A1.lt) S1))))
  refine o_newStr X10 (cs := [c0, c1, c2]) (n := 3) f11 f12 f13 V10 g0_b1 f14 O2 P5 (hwns hw) (w13 hw) rfl rfl (by decide) (by decide) (own_all3 hc0 hc1 hc2) (w15 hw) (w16 hw) (w17 hw) d_method_4_95 rfl (by decide) (Nat.le_of_ble_eq_true rfl) (by decide) (by decide) (q := 98) rfl ?_
  intro T15 h15 l15 b15 kb15 X15 K15 R15 gb15 L15
  have sz16 := Nat.le_trans (Keep.refl h0 []).1 (Nat.le_of_eq gb1.symm)
  have k17 := Keep.ext (Keep.refl h0 []) E1
  have sz18 := Nat.le_trans k17.1 (Nat.le_of_eq gb4.symm)
  have k19 := Keep.ext k17 E4
  have k20 := Keep.wr k19 W6 (Or.inr sz18)
  have k21 := Keep.wr k20 W8 (Or.inr sz18)
  have k22 := Keep.wr k21 W10 (Or.inr sz18)
  have k23 := Keep.trans k22 K15 (allS (Or.inr sz16) all0)
  exact o_retR X15 d_method_4_98 rfl rfl rfl (fun Sf hSf => ⟨b1, b15, kb15, rfl, k23, L15⟩) (by decide) (by decide)
set_option maxRecDepth 65536 in
set_option maxHeartbeats 40000000 in
theorem c_make4 {l : Launch} {Z : State} {a0 : Array Value} (hw : W a0 Z) (ar : Addr) (kc : ClassId) (c0 c1 c2 c3 c4 : Int32) (h0 : Heap) (zc : Int32) (O2 : Sta Z Z.heap "java/lang/String" "COMPACT_STRINGS" "Z" (.int zc)) (P5 : ¬ zc = 0) (Vc : Arv Z h0 ar kc .char (5 : Int32) [(.int c0), (.int c1), (.int c2), (.int c3), (.int c4)] (.int (0 : Int32))) (hc0 : ¬ c0 < 0 ∧ ¬ (255 : Int32) < c0) (hc1 : ¬ c1 < 0 ∧ ¬ (255 : Int32) < c1) (hc2 : ¬ c2 < 0 ∧ ¬ (255 : Int32) < c2) (hc3 : ¬ c3 < 0 ∧ ¬ (255 : Int32) < c3) (hc4 : ¬ c4 < 0 ∧ ¬ (255 : Int32) < c4) :
    Con l Z EL0 (⟨"anchorlog/AnchorPatternNextAnchorPinLaw", "make", "(I[C)Ljava/lang/String;"⟩ : MethodName) method_4_code 2 (some (.object "java/lang/String")) ({ frames := 5, cells := 6, slots := 14, locals := 70 } : Room) #[(.int (4 : Int32)), (.ref ar)] h0 [] (fun v h' Sf => ∃ (t b : Addr) (kb : ClassId), v = some (.ref t) ∧ Keep h0 h' [] ∧ LS Z h' t b kb [c0, c1, c2, c3]) := by
  have hpn : plainName "anchorlog/AnchorPatternNextAnchorPinLaw" = true := by first | (simp [plainName, overriddenIn]; done) | decide +kernel
  refine Con.intro (plainFor_of_name hpn) ?_
  intro p e s m below meth c T X hss
  refine Goes.cast (g' := mkF m 0 #[.val (.int (4 : Int32)), .val (.ref ar)] []) (by first | (simp [entryFrame, mkF, argsToLocals, Value.category]; done) | rfl) ?_
  refine o_iloadN X d_method_4_0 rfl (q := 1) rfl ?_
  refine o_ifY X d_method_4_1 (by decide) (by decide) (q := 15) (by decide) ?_
  refine o_iloadN X d_method_4_15 rfl (q := 16) rfl ?_
  refine o_iconst X d_method_4_16 (w := 1) rfl (q := 17) rfl ?_
  refine o_icmpY X d_method_4_17 (by decide) (by decide) (q := 37) (by decide) ?_
  refine o_iloadN X d_method_4_37 rfl (q := 38) rfl ?_
  refine o_iconst X d_method_4_38 (w := 2) rfl (q := 39) rfl ?_
  refine o_icmpY X d_method_4_39 (by decide) (by decide) (q := 65) (by decide) ?_
  refine o_iloadN X d_method_4_65 rfl (q := 66) rfl ?_
  refine o_iconst X d_method_4_66 (w := 3) rfl (q := 67) rfl ?_
  refine o_icmpY X d_method_4_67 (by decide) (by decide) (q := 99) (by decide) ?_
  refine o_iloadN X d_method_4_99 rfl (q := 100) rfl ?_
  refine o_iconst X d_method_4_100 (w := 4) rfl (q := 101) rfl ?_
  refine o_icmpN X d_method_4_101 (by decide) (q := 104) rfl ?_
  refine o_new X (w12 hw) (w13 hw) (w14 hw) d_method_4_104 (by decide) (by decide) (q := 107) rfl ?_
  intro T1 h1 b1 gb1 X1 E1 R1 S1 A1 D1 g0_b1
  have f2 : Fld Z h1 b1 "java/lang/String" "coder" "B" (.int (0 : Int32)) := D1 (Or.inr (w38 hw)) (ty := .byte) (by decide)
  have f3 : Fld Z h1 b1 "java/lang/String" "value" "[B" .null := D1 (Or.inr (w40 hw)) (ty := (.array .byte)) (by decide)
  refine o_dup X1 d_method_4_107 rfl (q := 108) rfl ?_
  refine o_iconst X1 d_method_4_108 (w := 4) rfl (q := 109) rfl ?_
  refine o_newarr X1 (aty := .char) (cap := 4) 4 (w1 hw) d_method_4_109 (by decide) (by decide) (by decide) (by decide) (by decide) (q := 111) rfl ?_
  intro T4 h4 b4 k4 gb4 X4 E4 R4 S4 V4 g0_b4
  have V4 : Arv Z h4 b4 k4 .char (4 : Int32) [(.int (0 : Int32)), (.int (0 : Int32)), (.int (0 : Int32)), (.int (0 : Int32))] (.int (0 : Int32)) := V4
  refine o_dup X4 d_method_4_111 rfl (q := 112) rfl ?_
  refine o_iconst X4 d_method_4_112 (w := 0) rfl (q := 113) rfl ?_
  refine o_aloadN X4 d_method_4_113 rfl rfl (q := 114) rfl ?_
  refine o_iconst X4 d_method_4_114 (w := 0) rfl (q := 115) rfl ?_
  have f5 := ((Vc.ext E1).ext E4)
  refine o_caload X4 f5 (by decide) (v := (.int c0)) rfl d_method_4_115 (q := 116) rfl ?_
  refine o_castore X4 0 V4 g0_b4 (Safe.arv X4.alike V4 (by decide)) (by decide) rfl (Nat.le_of_ble_eq_true rfl) (v := (.int c0)) (congrArg Value.int (own_nar hc0)) d_method_4_116 (q := 117) rfl ?_
  intro T6 h6 l6 X6 W6 R6 V6
  have V6 : Arv Z h6 b4 k4 .char (4 : Int32) [(.int c0), (.int (0 : Int32)), (.int (0 : Int32)), (.int (0 : Int32))] (.int (0 : Int32)) := V6
  refine o_dup X6 d_method_4_117 rfl (q := 118) rfl ?_
  refine o_iconst X6 d_method_4_118 (w := 1) rfl (q := 119) rfl ?_
  refine o_aloadN X6 d_method_4_119 rfl rfl (q := 120) rfl ?_
  refine o_iconst X6 d_method_4_120 (w := 1) rfl (q := 121) rfl ?_
  have f7 := (f5.other W6 (Nat.ne_of_lt (Nat.lt_of_lt_of_le (Vc.ext E1).lt (Nat.le_of_eq gb4.symm))))
  refine o_caload X6 f7 (by decide) (v := (.int c1)) rfl d_method_4_121 (q := 122) rfl ?_
  refine o_castore X6 1 V6 g0_b4 (Safe.arv X6.alike V6 (by decide)) (by decide) rfl (Nat.le_of_ble_eq_true rfl) (v := (.int c1)) (congrArg Value.int (own_nar hc1)) d_method_4_122 (q := 123) rfl ?_
  intro T8 h8 l8 X8 W8 R8 V8
  have V8 : Arv Z h8 b4 k4 .char (4 : Int32) [(.int c0), (.int c1), (.int (0 : Int32)), (.int (0 : Int32))] (.int (0 : Int32)) := V8
  refine o_dup X8 d_method_4_123 rfl (q := 124) rfl ?_
  refine o_iconst X8 d_method_4_124 (w := 2) rfl (q := 125) rfl ?_
  refine o_aloadN X8 d_method_4_125 rfl rfl (q := 126) rfl ?_
  refine o_iconst X8 d_method_4_126 (w := 2) rfl (q := 127) rfl ?_
  have f9 := (f7.other W8 (Nat.ne_of_lt (Nat.lt_of_lt_of_le (Vc.ext E1).lt (Nat.le_of_eq gb4.symm))))
  refine o_caload X8 f9 (by decide) (v := (.int c2)) rfl d_method_4_127 (q := 128) rfl ?_
  refine o_castore X8 2 V8 g0_b4 (Safe.arv X8.alike V8 (by decide)) (by decide) rfl (Nat.le_of_ble_eq_true rfl) (v := (.int c2)) (congrArg Value.int (own_nar hc2)) d_method_4_128 (q := 129) rfl ?_
  intro T10 h10 l10 X10 W10 R10 V10
  have V10 : Arv Z h10 b4 k4 .char (4 : Int32) [(.int c0), (.int c1), (.int c2), (.int (0 : Int32))] (.int (0 : Int32)) := V10
  refine o_dup X10 d_method_4_129 rfl (q := 130) rfl ?_
  refine o_iconst X10 d_method_4_130 (w := 3) rfl (q := 131) rfl ?_
  refine o_aloadN X10 d_method_4_131 rfl rfl (q := 132) rfl ?_
  refine o_iconst X10 d_method_4_132 (w := 3) rfl (q := 133) rfl ?_
  have f11 := (f9.other W10 (Nat.ne_of_lt (Nat.lt_of_lt_of_le (Vc.ext E1).lt (Nat.le_of_eq gb4.symm))))
  refine o_caload X10 f11 (by decide) (v := (.int c3)) rfl d_method_4_133 (q := 134) rfl ?_
  refine o_castore X10 3 V10 g0_b4 (Safe.arv X10.alike V10 (by decide)) (by decide) rfl (Nat.le_of_ble_eq_true rfl) (v := (.int c3)) (congrArg Value.int (own_nar hc3)) d_method_4_134 (q := 135) rfl ?_
  intro T12 h12 l12 X12 W12 R12 V12
  have V12 : Arv Z h12 b4 k4 .char (4 : Int32) [(.int c0), (.int c1), (.int c2), (.int c3)] (.int (0 : Int32)) := V12
  have f13 := (((((A1.ext E4).wr W6).wr W8).wr W10).wr W12)
  have f14 := (((((f3.ext E4).other W6 (Or.inl (Nat.ne_of_lt (Nat.lt_of_lt_of_le A1.lt (Nat.le_of_eq gb4.symm))))).other W8 (Or.inl (Nat.ne_of_lt (Nat.lt_of_lt_of_le A1.lt (Nat.le_of_eq gb4.symm))))).other W10 (Or.inl (Nat.ne_of_lt (Nat.lt_of_lt_of_le A1.lt (Nat.le_of_eq gb4.symm))))).other W12 (Or.inl (Nat.ne_of_lt (Nat.lt_of_lt_of_le A1.lt (Nat.le_of_eq gb4.symm)))))
  have f15 := (((((f2.ext E4).other W6 (Or.inl (Nat.ne_of_lt (Nat.lt_of_lt_of_le A1.lt (Nat.le_of_eq gb4.symm))))).other W8 (Or.inl (Nat.ne_of_lt (Nat.lt_of_lt_of_le A1.lt (Nat.le_of_eq gb4.symm))))).other W10 (Or.inl (Nat.ne_of_lt (Nat.lt_of_lt_of_le A1.lt (Nat.le_of_eq gb4.symm))))).other W12 (Or.inl (Nat.ne_of_lt (Nat.lt_of_lt_of_le A1.lt (Nat.le_of_eq gb4.symm)))))
  have f16 := (CHr.safe R12 (((((A1.ext E4).wr W6).wr W8).wr W10).lt) (CHr.safe R10 ((((A1.ext E4).wr W6).wr W8).lt) (CHr.safe R8 (((A1.ext E4).wr W6).lt) (CHr.safe R6 ((A1.ext E4).lt) (CHr.safe R4 (A1.lt) S1)))))
  refine o_newStr X12 (cs := [c0, c1, c2, c3]) (n := 4) f13 f14 f15 V12 g0_b1 f16 O2 P5 (hwns hw) (w13 hw) rfl rfl (by decide) (by decide) (own_all4 hc0 hc1 hc2 hc3) (w15 hw) (w16 hw) (w17 hw) d_method_4_135 rfl (by decide) (Nat.le_of_ble_eq_true rfl) (by decide) (by decide) (q := 138) rfl ?_
  intro T17 h17 l17 b17 kb17 X17 K17 R17 gb17 L17
  have sz18 := Nat.le_trans (Keep.refl h0 []).1 (Nat.le_of_eq gb1.symm)
  have k19 := Keep.ext (Keep.refl h0 []) E1
  have sz20 := Nat.le_trans k19.1 (Nat.le_of_eq gb4.symm)
  have k21 := Keep.ext k19 E4
  have k22 := Keep.wr k21 W6 (Or.inr sz20)
  have k23 := Keep.wr k22 W8 (Or.inr sz20)
  have k24 := Keep.wr k23 W10 (Or.inr sz20)
  have k25 := Keep.wr k24 W12 (Or.inr sz20)
  have k26 := Keep.trans k25 K17 (allS (Or.inr sz18) all0)
  exact o_retR X17 d_method_4_138 rfl rfl rfl (fun Sf hSf => ⟨b1, b17, kb17, rfl, k26, L17⟩) (by decide) (by decide)
set_option maxRecDepth 65536 in
set_option maxHeartbeats 40000000 in
theorem c_make5 {l : Launch} {Z : State} {a0 : Array Value} (hw : W a0 Z) (ar : Addr) (kc : ClassId) (c0 c1 c2 c3 c4 : Int32) (h0 : Heap) (zc : Int32) (O2 : Sta Z Z.heap "java/lang/String" "COMPACT_STRINGS" "Z" (.int zc)) (P5 : ¬ zc = 0) (Vc : Arv Z h0 ar kc .char (5 : Int32) [(.int c0), (.int c1), (.int c2), (.int c3), (.int c4)] (.int (0 : Int32))) (hc0 : ¬ c0 < 0 ∧ ¬ (255 : Int32) < c0) (hc1 : ¬ c1 < 0 ∧ ¬ (255 : Int32) < c1) (hc2 : ¬ c2 < 0 ∧ ¬ (255 : Int32) < c2) (hc3 : ¬ c3 < 0 ∧ ¬ (255 : Int32) < c3) (hc4 : ¬ c4 < 0 ∧ ¬ (255 : Int32) < c4) :
    Con l Z EL0 (⟨"anchorlog/AnchorPatternNextAnchorPinLaw", "make", "(I[C)Ljava/lang/String;"⟩ : MethodName) method_4_code 2 (some (.object "java/lang/String")) ({ frames := 5, cells := 6, slots := 14, locals := 70 } : Room) #[(.int (5 : Int32)), (.ref ar)] h0 [] (fun v h' Sf => ∃ (t b : Addr) (kb : ClassId), v = some (.ref t) ∧ Keep h0 h' [] ∧ LS Z h' t b kb [c0, c1, c2, c3, c4]) := by
  have hpn : plainName "anchorlog/AnchorPatternNextAnchorPinLaw" = true := by first | (simp [plainName, overriddenIn]; done) | decide +kernel
  refine Con.intro (plainFor_of_name hpn) ?_
  intro p e s m below meth c T X hss
  refine Goes.cast (g' := mkF m 0 #[.val (.int (5 : Int32)), .val (.ref ar)] []) (by first | (simp [entryFrame, mkF, argsToLocals, Value.category]; done) | rfl) ?_
  refine o_iloadN X d_method_4_0 rfl (q := 1) rfl ?_
  refine o_ifY X d_method_4_1 (by decide) (by decide) (q := 15) (by decide) ?_
  refine o_iloadN X d_method_4_15 rfl (q := 16) rfl ?_
  refine o_iconst X d_method_4_16 (w := 1) rfl (q := 17) rfl ?_
  refine o_icmpY X d_method_4_17 (by decide) (by decide) (q := 37) (by decide) ?_
  refine o_iloadN X d_method_4_37 rfl (q := 38) rfl ?_
  refine o_iconst X d_method_4_38 (w := 2) rfl (q := 39) rfl ?_
  refine o_icmpY X d_method_4_39 (by decide) (by decide) (q := 65) (by decide) ?_
  refine o_iloadN X d_method_4_65 rfl (q := 66) rfl ?_
  refine o_iconst X d_method_4_66 (w := 3) rfl (q := 67) rfl ?_
  refine o_icmpY X d_method_4_67 (by decide) (by decide) (q := 99) (by decide) ?_
  refine o_iloadN X d_method_4_99 rfl (q := 100) rfl ?_
  refine o_iconst X d_method_4_100 (w := 4) rfl (q := 101) rfl ?_
  refine o_icmpY X d_method_4_101 (by decide) (by decide) (q := 139) (by decide) ?_
  refine o_new X (w12 hw) (w13 hw) (w14 hw) d_method_4_139 (by decide) (by decide) (q := 142) rfl ?_
  intro T1 h1 b1 gb1 X1 E1 R1 S1 A1 D1 g0_b1
  have f2 : Fld Z h1 b1 "java/lang/String" "coder" "B" (.int (0 : Int32)) := D1 (Or.inr (w38 hw)) (ty := .byte) (by decide)
  have f3 : Fld Z h1 b1 "java/lang/String" "value" "[B" .null := D1 (Or.inr (w40 hw)) (ty := (.array .byte)) (by decide)
  refine o_dup X1 d_method_4_142 rfl (q := 143) rfl ?_
  refine o_iconst X1 d_method_4_143 (w := 5) rfl (q := 144) rfl ?_
  refine o_newarr X1 (aty := .char) (cap := 5) 5 (w1 hw) d_method_4_144 (by decide) (by decide) (by decide) (by decide) (by decide) (q := 146) rfl ?_
  intro T4 h4 b4 k4 gb4 X4 E4 R4 S4 V4 g0_b4
  have V4 : Arv Z h4 b4 k4 .char (5 : Int32) [(.int (0 : Int32)), (.int (0 : Int32)), (.int (0 : Int32)), (.int (0 : Int32)), (.int (0 : Int32))] (.int (0 : Int32)) := V4
  refine o_dup X4 d_method_4_146 rfl (q := 147) rfl ?_
  refine o_iconst X4 d_method_4_147 (w := 0) rfl (q := 148) rfl ?_
  refine o_aloadN X4 d_method_4_148 rfl rfl (q := 149) rfl ?_
  refine o_iconst X4 d_method_4_149 (w := 0) rfl (q := 150) rfl ?_
  have f5 := ((Vc.ext E1).ext E4)
  refine o_caload X4 f5 (by decide) (v := (.int c0)) rfl d_method_4_150 (q := 151) rfl ?_
  refine o_castore X4 0 V4 g0_b4 (Safe.arv X4.alike V4 (by decide)) (by decide) rfl (Nat.le_of_ble_eq_true rfl) (v := (.int c0)) (congrArg Value.int (own_nar hc0)) d_method_4_151 (q := 152) rfl ?_
  intro T6 h6 l6 X6 W6 R6 V6
  have V6 : Arv Z h6 b4 k4 .char (5 : Int32) [(.int c0), (.int (0 : Int32)), (.int (0 : Int32)), (.int (0 : Int32)), (.int (0 : Int32))] (.int (0 : Int32)) := V6
  refine o_dup X6 d_method_4_152 rfl (q := 153) rfl ?_
  refine o_iconst X6 d_method_4_153 (w := 1) rfl (q := 154) rfl ?_
  refine o_aloadN X6 d_method_4_154 rfl rfl (q := 155) rfl ?_
  refine o_iconst X6 d_method_4_155 (w := 1) rfl (q := 156) rfl ?_
  have f7 := (f5.other W6 (Nat.ne_of_lt (Nat.lt_of_lt_of_le (Vc.ext E1).lt (Nat.le_of_eq gb4.symm))))
  refine o_caload X6 f7 (by decide) (v := (.int c1)) rfl d_method_4_156 (q := 157) rfl ?_
  refine o_castore X6 1 V6 g0_b4 (Safe.arv X6.alike V6 (by decide)) (by decide) rfl (Nat.le_of_ble_eq_true rfl) (v := (.int c1)) (congrArg Value.int (own_nar hc1)) d_method_4_157 (q := 158) rfl ?_
  intro T8 h8 l8 X8 W8 R8 V8
  have V8 : Arv Z h8 b4 k4 .char (5 : Int32) [(.int c0), (.int c1), (.int (0 : Int32)), (.int (0 : Int32)), (.int (0 : Int32))] (.int (0 : Int32)) := V8
  refine o_dup X8 d_method_4_158 rfl (q := 159) rfl ?_
  refine o_iconst X8 d_method_4_159 (w := 2) rfl (q := 160) rfl ?_
  refine o_aloadN X8 d_method_4_160 rfl rfl (q := 161) rfl ?_
  refine o_iconst X8 d_method_4_161 (w := 2) rfl (q := 162) rfl ?_
  have f9 := (f7.other W8 (Nat.ne_of_lt (Nat.lt_of_lt_of_le (Vc.ext E1).lt (Nat.le_of_eq gb4.symm))))
  refine o_caload X8 f9 (by decide) (v := (.int c2)) rfl d_method_4_162 (q := 163) rfl ?_
  refine o_castore X8 2 V8 g0_b4 (Safe.arv X8.alike V8 (by decide)) (by decide) rfl (Nat.le_of_ble_eq_true rfl) (v := (.int c2)) (congrArg Value.int (own_nar hc2)) d_method_4_163 (q := 164) rfl ?_
  intro T10 h10 l10 X10 W10 R10 V10
  have V10 : Arv Z h10 b4 k4 .char (5 : Int32) [(.int c0), (.int c1), (.int c2), (.int (0 : Int32)), (.int (0 : Int32))] (.int (0 : Int32)) := V10
  refine o_dup X10 d_method_4_164 rfl (q := 165) rfl ?_
  refine o_iconst X10 d_method_4_165 (w := 3) rfl (q := 166) rfl ?_
  refine o_aloadN X10 d_method_4_166 rfl rfl (q := 167) rfl ?_
  refine o_iconst X10 d_method_4_167 (w := 3) rfl (q := 168) rfl ?_
  have f11 := (f9.other W10 (Nat.ne_of_lt (Nat.lt_of_lt_of_le (Vc.ext E1).lt (Nat.le_of_eq gb4.symm))))
  refine o_caload X10 f11 (by decide) (v := (.int c3)) rfl d_method_4_168 (q := 169) rfl ?_
  refine o_castore X10 3 V10 g0_b4 (Safe.arv X10.alike V10 (by decide)) (by decide) rfl (Nat.le_of_ble_eq_true rfl) (v := (.int c3)) (congrArg Value.int (own_nar hc3)) d_method_4_169 (q := 170) rfl ?_
  intro T12 h12 l12 X12 W12 R12 V12
  have V12 : Arv Z h12 b4 k4 .char (5 : Int32) [(.int c0), (.int c1), (.int c2), (.int c3), (.int (0 : Int32))] (.int (0 : Int32)) := V12
  refine o_dup X12 d_method_4_170 rfl (q := 171) rfl ?_
  refine o_iconst X12 d_method_4_171 (w := 4) rfl (q := 172) rfl ?_
  refine o_aloadN X12 d_method_4_172 rfl rfl (q := 173) rfl ?_
  refine o_iconst X12 d_method_4_173 (w := 4) rfl (q := 174) rfl ?_
  have f13 := (f11.other W12 (Nat.ne_of_lt (Nat.lt_of_lt_of_le (Vc.ext E1).lt (Nat.le_of_eq gb4.symm))))
  refine o_caload X12 f13 (by decide) (v := (.int c4)) rfl d_method_4_174 (q := 175) rfl ?_
  refine o_castore X12 4 V12 g0_b4 (Safe.arv X12.alike V12 (by decide)) (by decide) rfl (Nat.le_of_ble_eq_true rfl) (v := (.int c4)) (congrArg Value.int (own_nar hc4)) d_method_4_175 (q := 176) rfl ?_
  intro T14 h14 l14 X14 W14 R14 V14
  have V14 : Arv Z h14 b4 k4 .char (5 : Int32) [(.int c0), (.int c1), (.int c2), (.int c3), (.int c4)] (.int (0 : Int32)) := V14
  have f15 := ((((((A1.ext E4).wr W6).wr W8).wr W10).wr W12).wr W14)
  have f16 := ((((((f3.ext E4).other W6 (Or.inl (Nat.ne_of_lt (Nat.lt_of_lt_of_le A1.lt (Nat.le_of_eq gb4.symm))))).other W8 (Or.inl (Nat.ne_of_lt (Nat.lt_of_lt_of_le A1.lt (Nat.le_of_eq gb4.symm))))).other W10 (Or.inl (Nat.ne_of_lt (Nat.lt_of_lt_of_le A1.lt (Nat.le_of_eq gb4.symm))))).other W12 (Or.inl (Nat.ne_of_lt (Nat.lt_of_lt_of_le A1.lt (Nat.le_of_eq gb4.symm))))).other W14 (Or.inl (Nat.ne_of_lt (Nat.lt_of_lt_of_le A1.lt (Nat.le_of_eq gb4.symm)))))
  have f17 := ((((((f2.ext E4).other W6 (Or.inl (Nat.ne_of_lt (Nat.lt_of_lt_of_le A1.lt (Nat.le_of_eq gb4.symm))))).other W8 (Or.inl (Nat.ne_of_lt (Nat.lt_of_lt_of_le A1.lt (Nat.le_of_eq gb4.symm))))).other W10 (Or.inl (Nat.ne_of_lt (Nat.lt_of_lt_of_le A1.lt (Nat.le_of_eq gb4.symm))))).other W12 (Or.inl (Nat.ne_of_lt (Nat.lt_of_lt_of_le A1.lt (Nat.le_of_eq gb4.symm))))).other W14 (Or.inl (Nat.ne_of_lt (Nat.lt_of_lt_of_le A1.lt (Nat.le_of_eq gb4.symm)))))
  have f18 := (CHr.safe R14 ((((((A1.ext E4).wr W6).wr W8).wr W10).wr W12).lt) (CHr.safe R12 (((((A1.ext E4).wr W6).wr W8).wr W10).lt) (CHr.safe R10 ((((A1.ext E4).wr W6).wr W8).lt) (CHr.safe R8 (((A1.ext E4).wr W6).lt) (CHr.safe R6 ((A1.ext E4).lt) (CHr.safe R4 (A1.lt) S1))))))
  refine o_newStr X14 (cs := [c0, c1, c2, c3, c4]) (n := 5) f15 f16 f17 V14 g0_b1 f18 O2 P5 (hwns hw) (w13 hw) rfl rfl (by decide) (by decide) (own_all5 hc0 hc1 hc2 hc3 hc4) (w15 hw) (w16 hw) (w17 hw) d_method_4_176 rfl (by decide) (Nat.le_of_ble_eq_true rfl) (by decide) (by decide) (q := 179) rfl ?_
  intro T19 h19 l19 b19 kb19 X19 K19 R19 gb19 L19
  have sz20 := Nat.le_trans (Keep.refl h0 []).1 (Nat.le_of_eq gb1.symm)
  have k21 := Keep.ext (Keep.refl h0 []) E1
  have sz22 := Nat.le_trans k21.1 (Nat.le_of_eq gb4.symm)
  have k23 := Keep.ext k21 E4
  have k24 := Keep.wr k23 W6 (Or.inr sz22)
  have k25 := Keep.wr k24 W8 (Or.inr sz22)
  have k26 := Keep.wr k25 W10 (Or.inr sz22)
  have k27 := Keep.wr k26 W12 (Or.inr sz22)
  have k28 := Keep.wr k27 W14 (Or.inr sz22)
  have k29 := Keep.trans k28 K19 (allS (Or.inr sz20) all0)
  exact o_retR X19 d_method_4_179 rfl rfl rfl (fun Sf hSf => ⟨b1, b19, kb19, rfl, k29, L19⟩) (by decide) (by decide)
set_option maxRecDepth 65536 in
set_option maxHeartbeats 40000000 in
theorem c_law {l : Launch} {Z : State} {a0 : Array Value} (hw : W a0 Z) (xx : Int64) (p1 fr : Int32) (zc : Int32) (fm : Value) (O2 : Sta Z Z.heap "java/lang/String" "COMPACT_STRINGS" "Z" (.int zc)) (P5 : ¬ zc = 0) (O4 : Sta Z Z.heap "jdk/internal/util/Preconditions" "SIOOBE_FORMATTER" "Ljava/util/function/BiFunction;" fm) (rfm : fm.isRef = true) :
    Con l Z EL0 x code maxLocals ret room_1 #[(.long xx), (.int p1), (.int fr)] Z.heap [] (fun v h' Sf => v = some (.int 1)) := by
  have hpn : plainName "anchorlog/AnchorPatternNextAnchorPinLaw" = true := by first | (simp [plainName, overriddenIn]; done) | decide +kernel
  refine Con.intro (plainFor_of_name hpn) ?_
  intro p e s m below meth c T X hss
  refine Goes.cast (g' := mkF m 0 #[.val (.long xx), .second, .val (.int p1), .val (.int fr), .unset, .unset, .unset, .unset] []) (by first | (simp [entryFrame, mkF, argsToLocals, Value.category, maxLocals]; done) | rfl) ?_
  refine o_iloadN X at_0 rfl (q := 1) rfl ?_
  refine o_ldcI X (w0 hw) at_1 (q := 3) rfl ?_
  refine o_iand X at_3 (w := (p1 &&& (2147483647 : Int32))) rfl (q := 4) rfl ?_
  refine o_bipush X at_4 (w := 6) rfl (q := 6) rfl ?_
  refine o_irem X at_6 (by decide) (w := ((p1 &&& (2147483647 : Int32)) % (6 : Int32))) rfl (q := 7) rfl ?_
  obtain ⟨ln, h_ln⟩ : ∃ z : Int32, ((p1 &&& (2147483647 : Int32)) % (6 : Int32)) = z := ⟨_, rfl⟩
  refine o_istore X at_7 h_ln (L' := #[.val (.long xx), .second, .val (.int p1), .val (.int fr), .val (.int ln), .unset, .unset, .unset]) rfl (q := 9) rfl ?_
  refine o_iconst X at_9 (w := 5) rfl (q := 10) rfl ?_
  refine o_newarr X (aty := .char) (cap := 5) 5 (w1 hw) at_10 (by decide) (by decide) (by decide) (by decide) (by decide) (q := 12) rfl ?_
  intro T1 h1 b1 k1 gb1 X1 E1 R1 S1 V1 g0_b1
  have V1 : Arv Z h1 b1 k1 .char (5 : Int32) [(.int (0 : Int32)), (.int (0 : Int32)), (.int (0 : Int32)), (.int (0 : Int32)), (.int (0 : Int32))] (.int (0 : Int32)) := V1
  refine o_astore X1 at_12 rfl (L' := #[.val (.long xx), .second, .val (.int p1), .val (.int fr), .val (.int ln), .val (.ref b1), .unset, .unset]) rfl (q := 14) rfl ?_
  refine o_aload X1 at_14 rfl rfl (q := 16) rfl ?_
  refine o_iconst X1 at_16 (w := 0) rfl (q := 17) rfl ?_
  refine o_lloadN X1 at_17 rfl (q := 18) rfl ?_
  refine o_iconst X1 at_18 (w := 0) rfl (q := 19) rfl ?_
  refine o_stat X1 [(.long xx), (.int (0 : Int32))] (y' := (⟨"anchorlog/AnchorPatternNextAnchorPinLaw", "ch", "(JI)C"⟩ : MethodName)) (c_ch0 hw xx _) all0 (w2 hw) (w3 hw) (w4 hw) (w5 hw) (by decide) at_19 (rest := [(.int (0 : Int32)), (.ref b1)]) rfl rfl (lenOf pd12 rfl) rfl (by decide) (Nat.le_of_ble_eq_true rfl) (by decide) (by decide) (q := 22) rfl ?_
  intro v2 vm2 T2 h2 l2 X2 R2 q2
  obtain ⟨c0, rfl, hc0, e2⟩ := q2
  have e2 := e2.symm
  subst e2
  show Goes p e below _ T2 (mkF m 22 #[.val (.long xx), .second, .val (.int p1), .val (.int fr), .val (.int ln), .val (.ref b1), .unset, .unset] [(.int c0), (.int (0 : Int32)), (.ref b1)])
  have f3 := V1
  refine o_castore X2 0 f3 g0_b1 (Safe.arv X2.alike f3 (by decide)) (by decide) rfl (Nat.le_of_ble_eq_true rfl) (v := (.int c0)) (congrArg Value.int (own_nar hc0)) at_22 (q := 23) rfl ?_
  intro T4 h4 l4 X4 W4 R4 V4
  have V4 : Arv Z h4 b1 k1 .char (5 : Int32) [(.int c0), (.int (0 : Int32)), (.int (0 : Int32)), (.int (0 : Int32)), (.int (0 : Int32))] (.int (0 : Int32)) := V4
  refine o_aload X4 at_23 rfl rfl (q := 25) rfl ?_
  refine o_iconst X4 at_25 (w := 1) rfl (q := 26) rfl ?_
  refine o_lloadN X4 at_26 rfl (q := 27) rfl ?_
  refine o_iconst X4 at_27 (w := 1) rfl (q := 28) rfl ?_
  refine o_stat X4 [(.long xx), (.int (1 : Int32))] (y' := (⟨"anchorlog/AnchorPatternNextAnchorPinLaw", "ch", "(JI)C"⟩ : MethodName)) (c_ch1 hw xx _) all0 (w2 hw) (w3 hw) (w4 hw) (w5 hw) (by decide) at_28 (rest := [(.int (1 : Int32)), (.ref b1)]) rfl rfl (lenOf pd12 rfl) rfl (by decide) (Nat.le_of_ble_eq_true rfl) (by decide) (by decide) (q := 31) rfl ?_
  intro v5 vm5 T5 h5 l5 X5 R5 q5
  obtain ⟨c1, rfl, hc1, e5⟩ := q5
  have e5 := e5.symm
  subst e5
  show Goes p e below _ T5 (mkF m 31 #[.val (.long xx), .second, .val (.int p1), .val (.int fr), .val (.int ln), .val (.ref b1), .unset, .unset] [(.int c1), (.int (1 : Int32)), (.ref b1)])
  have f6 := V4
  refine o_castore X5 1 f6 g0_b1 (Safe.arv X5.alike f6 (by decide)) (by decide) rfl (Nat.le_of_ble_eq_true rfl) (v := (.int c1)) (congrArg Value.int (own_nar hc1)) at_31 (q := 32) rfl ?_
  intro T7 h7 l7 X7 W7 R7 V7
  have V7 : Arv Z h7 b1 k1 .char (5 : Int32) [(.int c0), (.int c1), (.int (0 : Int32)), (.int (0 : Int32)), (.int (0 : Int32))] (.int (0 : Int32)) := V7
  refine o_aload X7 at_32 rfl rfl (q := 34) rfl ?_
  refine o_iconst X7 at_34 (w := 2) rfl (q := 35) rfl ?_
  refine o_lloadN X7 at_35 rfl (q := 36) rfl ?_
  refine o_iconst X7 at_36 (w := 2) rfl (q := 37) rfl ?_
  refine o_stat X7 [(.long xx), (.int (2 : Int32))] (y' := (⟨"anchorlog/AnchorPatternNextAnchorPinLaw", "ch", "(JI)C"⟩ : MethodName)) (c_ch2 hw xx _) all0 (w2 hw) (w3 hw) (w4 hw) (w5 hw) (by decide) at_37 (rest := [(.int (2 : Int32)), (.ref b1)]) rfl rfl (lenOf pd12 rfl) rfl (by decide) (Nat.le_of_ble_eq_true rfl) (by decide) (by decide) (q := 40) rfl ?_
  intro v8 vm8 T8 h8 l8 X8 R8 q8
  obtain ⟨c2, rfl, hc2, e8⟩ := q8
  have e8 := e8.symm
  subst e8
  show Goes p e below _ T8 (mkF m 40 #[.val (.long xx), .second, .val (.int p1), .val (.int fr), .val (.int ln), .val (.ref b1), .unset, .unset] [(.int c2), (.int (2 : Int32)), (.ref b1)])
  have f9 := V7
  refine o_castore X8 2 f9 g0_b1 (Safe.arv X8.alike f9 (by decide)) (by decide) rfl (Nat.le_of_ble_eq_true rfl) (v := (.int c2)) (congrArg Value.int (own_nar hc2)) at_40 (q := 41) rfl ?_
  intro T10 h10 l10 X10 W10 R10 V10
  have V10 : Arv Z h10 b1 k1 .char (5 : Int32) [(.int c0), (.int c1), (.int c2), (.int (0 : Int32)), (.int (0 : Int32))] (.int (0 : Int32)) := V10
  refine o_aload X10 at_41 rfl rfl (q := 43) rfl ?_
  refine o_iconst X10 at_43 (w := 3) rfl (q := 44) rfl ?_
  refine o_lloadN X10 at_44 rfl (q := 45) rfl ?_
  refine o_iconst X10 at_45 (w := 3) rfl (q := 46) rfl ?_
  refine o_stat X10 [(.long xx), (.int (3 : Int32))] (y' := (⟨"anchorlog/AnchorPatternNextAnchorPinLaw", "ch", "(JI)C"⟩ : MethodName)) (c_ch3 hw xx _) all0 (w2 hw) (w3 hw) (w4 hw) (w5 hw) (by decide) at_46 (rest := [(.int (3 : Int32)), (.ref b1)]) rfl rfl (lenOf pd12 rfl) rfl (by decide) (Nat.le_of_ble_eq_true rfl) (by decide) (by decide) (q := 49) rfl ?_
  intro v11 vm11 T11 h11 l11 X11 R11 q11
  obtain ⟨c3, rfl, hc3, e11⟩ := q11
  have e11 := e11.symm
  subst e11
  show Goes p e below _ T11 (mkF m 49 #[.val (.long xx), .second, .val (.int p1), .val (.int fr), .val (.int ln), .val (.ref b1), .unset, .unset] [(.int c3), (.int (3 : Int32)), (.ref b1)])
  have f12 := V10
  refine o_castore X11 3 f12 g0_b1 (Safe.arv X11.alike f12 (by decide)) (by decide) rfl (Nat.le_of_ble_eq_true rfl) (v := (.int c3)) (congrArg Value.int (own_nar hc3)) at_49 (q := 50) rfl ?_
  intro T13 h13 l13 X13 W13 R13 V13
  have V13 : Arv Z h13 b1 k1 .char (5 : Int32) [(.int c0), (.int c1), (.int c2), (.int c3), (.int (0 : Int32))] (.int (0 : Int32)) := V13
  refine o_aload X13 at_50 rfl rfl (q := 52) rfl ?_
  refine o_iconst X13 at_52 (w := 4) rfl (q := 53) rfl ?_
  refine o_lloadN X13 at_53 rfl (q := 54) rfl ?_
  refine o_iconst X13 at_54 (w := 4) rfl (q := 55) rfl ?_
  refine o_stat X13 [(.long xx), (.int (4 : Int32))] (y' := (⟨"anchorlog/AnchorPatternNextAnchorPinLaw", "ch", "(JI)C"⟩ : MethodName)) (c_ch4 hw xx _) all0 (w2 hw) (w3 hw) (w4 hw) (w5 hw) (by decide) at_55 (rest := [(.int (4 : Int32)), (.ref b1)]) rfl rfl (lenOf pd12 rfl) rfl (by decide) (Nat.le_of_ble_eq_true rfl) (by decide) (by decide) (q := 58) rfl ?_
  intro v14 vm14 T14 h14 l14 X14 R14 q14
  obtain ⟨c4, rfl, hc4, e14⟩ := q14
  have e14 := e14.symm
  subst e14
  show Goes p e below _ T14 (mkF m 58 #[.val (.long xx), .second, .val (.int p1), .val (.int fr), .val (.int ln), .val (.ref b1), .unset, .unset] [(.int c4), (.int (4 : Int32)), (.ref b1)])
  have f15 := V13
  refine o_castore X14 4 f15 g0_b1 (Safe.arv X14.alike f15 (by decide)) (by decide) rfl (Nat.le_of_ble_eq_true rfl) (v := (.int c4)) (congrArg Value.int (own_nar hc4)) at_58 (q := 59) rfl ?_
  intro T16 h16 l16 X16 W16 R16 V16
  have V16 : Arv Z h16 b1 k1 .char (5 : Int32) [(.int c0), (.int c1), (.int c2), (.int c3), (.int c4)] (.int (0 : Int32)) := V16
  refine o_iload X16 at_59 rfl (q := 61) rfl ?_
  refine o_aload X16 at_61 rfl rfl (q := 63) rfl ?_
  rcases own_n6 h_ln with rfl | rfl | rfl | rfl | rfl | rfl
  · refine o_stat X16 [(.int (0 : Int32)), (.ref b1)] (y' := (⟨"anchorlog/AnchorPatternNextAnchorPinLaw", "make", "(I[C)Ljava/lang/String;"⟩ : MethodName)) (c_make0 hw b1 k1 c0 c1 c2 c3 c4 _ zc O2 P5 V16 hc0 hc1 hc2 hc3 hc4) all0 (w9 hw) (w10 hw) (w4 hw) (w11 hw) (by decide) at_63 (rest := []) rfl rfl (lenOf pd13 rfl) rfl (by decide) (Nat.le_of_ble_eq_true rfl) (by decide) (by decide) (q := 66) rfl ?_
    intro v17 vm17 T17 h17 l17 X17 R17 q17
    obtain ⟨t17, b17, kb17, rfl, K17, L17⟩ := q17
    show Goes p e below _ T17 (mkF m 66 #[.val (.long xx), .second, .val (.int p1), .val (.int fr), .val (.int (0 : Int32)), .val (.ref b1), .unset, .unset] [(.ref t17)])
    refine o_astore X17 at_66 rfl (L' := #[.val (.long xx), .second, .val (.int p1), .val (.int fr), .val (.int (0 : Int32)), .val (.ref b1), .val (.ref t17), .unset]) rfl (q := 68) rfl ?_
    refine o_aload X17 at_68 rfl rfl (q := 70) rfl ?_
    refine o_iload X17 at_70 rfl (q := 72) rfl ?_
    refine o_iloadN X17 at_72 rfl (q := 73) rfl ?_
    refine o_iconst X17 at_73 (w := 0) rfl (q := 74) rfl ?_
    have f18 := (V16.keep K17 nin0)
    refine o_stat X17 [(.ref b1), (.int (0 : Int32)), (.int fr), (.int (0 : Int32))] (y' := (⟨"anchorlog/AnchorPatternNextAnchorPinLaw", "at", "([CIII)Z"⟩ : MethodName)) (c_at0 hw b1 k1 (0 : Int32) fr c0 c1 c2 c3 c4 _ f18) all0 (w41 hw) (w42 hw) (w4 hw) (w43 hw) (by decide) at_74 (rest := []) rfl rfl (lenOf pd14 rfl) rfl (by decide) (Nat.le_of_ble_eq_true rfl) (by decide) (by decide) (q := 77) rfl ?_
    intro v19 vm19 T19 h19 l19 X19 R19 q19
    obtain ⟨r19, rfl, e19, ha0⟩ := q19
    have e19 := e19.symm
    subst e19
    show Goes p e below _ T19 (mkF m 77 #[.val (.long xx), .second, .val (.int p1), .val (.int fr), .val (.int (0 : Int32)), .val (.ref b1), .val (.ref t17), .unset] [(.int r19)])
    rcases ha0 with ⟨rfl, ha0⟩ | ⟨rfl, ha0⟩
    · refine o_ifN X19 at_77 (by decide) (q := 80) rfl ?_
      refine o_iconst X19 at_80 (w := 0) rfl (q := 81) rfl ?_
      refine o_istore X19 at_81 rfl (L' := #[.val (.long xx), .second, .val (.int p1), .val (.int fr), .val (.int (0 : Int32)), .val (.ref b1), .val (.ref t17), .val (.int (0 : Int32))]) rfl (q := 83) rfl ?_
      refine o_goto X19 at_83 (by decide) (q := 143) (by decide) ?_
      refine o_aload X19 at_143 rfl rfl (q := 145) rfl ?_
      refine o_iloadN X19 at_145 rfl (q := 146) rfl ?_
      have f20 := L17
      refine o_stat X19 [(.ref t17), (.int fr)] (y' := (⟨"anchorlog/AnchorPattern", "nextAnchor", "(Ljava/lang/String;I)I"⟩ : MethodName)) (c_next hw t17 b17 kb17 [] fr _ zc fm O2 P5 O4 rfm f20) all0 (w44 hw) (w45 hw) (w46 hw) (w47 hw) (by decide) at_146 (rest := []) rfl rfl (lenOf pd10 rfl) rfl (by decide) (Nat.le_of_ble_eq_true rfl) (by decide) (by decide) (q := 149) rfl ?_
      intro v21 vm21 T21 h21 l21 X21 R21 q21
      obtain ⟨r21, rfl, K21, q21⟩ := q21
      show Goes p e below _ T21 (mkF m 149 #[.val (.long xx), .second, .val (.int p1), .val (.int fr), .val (.int (0 : Int32)), .val (.ref b1), .val (.ref t17), .val (.int (0 : Int32))] [(.int r21)])
      obtain rfl : r21 = (0 : Int32) := own_uniq q21 (own_exp0_0 ha0)
      refine o_iload X21 at_149 rfl (q := 151) rfl ?_
      refine o_icmpN X21 at_151 (by decide) (q := 154) rfl ?_
      refine o_iconst X21 at_154 (w := 1) rfl (q := 155) rfl ?_
      refine o_goto X21 at_155 (by decide) (q := 159) (by decide) ?_
      exact o_retN X21 at_159 (by simp) (fun Sf hSf => rfl) (by decide) (by decide)
    · refine o_ifY X19 at_77 (by decide) (by decide) (q := 86) (by decide) ?_
      refine o_aload X19 at_86 rfl rfl (q := 88) rfl ?_
      refine o_iload X19 at_88 rfl (q := 90) rfl ?_
      refine o_iloadN X19 at_90 rfl (q := 91) rfl ?_
      refine o_iconst X19 at_91 (w := 1) rfl (q := 92) rfl ?_
      have f22 := f18
      refine o_stat X19 [(.ref b1), (.int (0 : Int32)), (.int fr), (.int (1 : Int32))] (y' := (⟨"anchorlog/AnchorPatternNextAnchorPinLaw", "at", "([CIII)Z"⟩ : MethodName)) (c_at1 hw b1 k1 (0 : Int32) fr c0 c1 c2 c3 c4 _ f22) all0 (w41 hw) (w42 hw) (w4 hw) (w43 hw) (by decide) at_92 (rest := []) rfl rfl (lenOf pd14 rfl) rfl (by decide) (Nat.le_of_ble_eq_true rfl) (by decide) (by decide) (q := 95) rfl ?_
      intro v23 vm23 T23 h23 l23 X23 R23 q23
      obtain ⟨r23, rfl, e23, ha1⟩ := q23
      have e23 := e23.symm
      subst e23
      show Goes p e below _ T23 (mkF m 95 #[.val (.long xx), .second, .val (.int p1), .val (.int fr), .val (.int (0 : Int32)), .val (.ref b1), .val (.ref t17), .unset] [(.int r23)])
      rcases ha1 with ⟨rfl, ha1⟩ | ⟨rfl, ha1⟩
      · refine o_ifN X23 at_95 (by decide) (q := 98) rfl ?_
        refine o_iconst X23 at_98 (w := 1) rfl (q := 99) rfl ?_
        refine o_istore X23 at_99 rfl (L' := #[.val (.long xx), .second, .val (.int p1), .val (.int fr), .val (.int (0 : Int32)), .val (.ref b1), .val (.ref t17), .val (.int (1 : Int32))]) rfl (q := 101) rfl ?_
        refine o_goto X23 at_101 (by decide) (q := 143) (by decide) ?_
        refine o_aload X23 at_143 rfl rfl (q := 145) rfl ?_
        refine o_iloadN X23 at_145 rfl (q := 146) rfl ?_
        have f24 := L17
        refine o_stat X23 [(.ref t17), (.int fr)] (y' := (⟨"anchorlog/AnchorPattern", "nextAnchor", "(Ljava/lang/String;I)I"⟩ : MethodName)) (c_next hw t17 b17 kb17 [] fr _ zc fm O2 P5 O4 rfm f24) all0 (w44 hw) (w45 hw) (w46 hw) (w47 hw) (by decide) at_146 (rest := []) rfl rfl (lenOf pd10 rfl) rfl (by decide) (Nat.le_of_ble_eq_true rfl) (by decide) (by decide) (q := 149) rfl ?_
        intro v25 vm25 T25 h25 l25 X25 R25 q25
        obtain ⟨r25, rfl, K25, q25⟩ := q25
        show Goes p e below _ T25 (mkF m 149 #[.val (.long xx), .second, .val (.int p1), .val (.int fr), .val (.int (0 : Int32)), .val (.ref b1), .val (.ref t17), .val (.int (1 : Int32))] [(.int r25)])
        obtain rfl : r25 = (1 : Int32) := own_uniq q25 (own_exp1_0 ha0 ha1)
        refine o_iload X25 at_149 rfl (q := 151) rfl ?_
        refine o_icmpN X25 at_151 (by decide) (q := 154) rfl ?_
        refine o_iconst X25 at_154 (w := 1) rfl (q := 155) rfl ?_
        refine o_goto X25 at_155 (by decide) (q := 159) (by decide) ?_
        exact o_retN X25 at_159 (by simp) (fun Sf hSf => rfl) (by decide) (by decide)
      · refine o_ifY X23 at_95 (by decide) (by decide) (q := 104) (by decide) ?_
        refine o_aload X23 at_104 rfl rfl (q := 106) rfl ?_
        refine o_iload X23 at_106 rfl (q := 108) rfl ?_
        refine o_iloadN X23 at_108 rfl (q := 109) rfl ?_
        refine o_iconst X23 at_109 (w := 2) rfl (q := 110) rfl ?_
        have f26 := f22
        refine o_stat X23 [(.ref b1), (.int (0 : Int32)), (.int fr), (.int (2 : Int32))] (y' := (⟨"anchorlog/AnchorPatternNextAnchorPinLaw", "at", "([CIII)Z"⟩ : MethodName)) (c_at2 hw b1 k1 (0 : Int32) fr c0 c1 c2 c3 c4 _ f26) all0 (w41 hw) (w42 hw) (w4 hw) (w43 hw) (by decide) at_110 (rest := []) rfl rfl (lenOf pd14 rfl) rfl (by decide) (Nat.le_of_ble_eq_true rfl) (by decide) (by decide) (q := 113) rfl ?_
        intro v27 vm27 T27 h27 l27 X27 R27 q27
        obtain ⟨r27, rfl, e27, ha2⟩ := q27
        have e27 := e27.symm
        subst e27
        show Goes p e below _ T27 (mkF m 113 #[.val (.long xx), .second, .val (.int p1), .val (.int fr), .val (.int (0 : Int32)), .val (.ref b1), .val (.ref t17), .unset] [(.int r27)])
        rcases ha2 with ⟨rfl, ha2⟩ | ⟨rfl, ha2⟩
        · refine o_ifN X27 at_113 (by decide) (q := 116) rfl ?_
          refine o_iconst X27 at_116 (w := 2) rfl (q := 117) rfl ?_
          refine o_istore X27 at_117 rfl (L' := #[.val (.long xx), .second, .val (.int p1), .val (.int fr), .val (.int (0 : Int32)), .val (.ref b1), .val (.ref t17), .val (.int (2 : Int32))]) rfl (q := 119) rfl ?_
          refine o_goto X27 at_119 (by decide) (q := 143) (by decide) ?_
          refine o_aload X27 at_143 rfl rfl (q := 145) rfl ?_
          refine o_iloadN X27 at_145 rfl (q := 146) rfl ?_
          have f28 := L17
          refine o_stat X27 [(.ref t17), (.int fr)] (y' := (⟨"anchorlog/AnchorPattern", "nextAnchor", "(Ljava/lang/String;I)I"⟩ : MethodName)) (c_next hw t17 b17 kb17 [] fr _ zc fm O2 P5 O4 rfm f28) all0 (w44 hw) (w45 hw) (w46 hw) (w47 hw) (by decide) at_146 (rest := []) rfl rfl (lenOf pd10 rfl) rfl (by decide) (Nat.le_of_ble_eq_true rfl) (by decide) (by decide) (q := 149) rfl ?_
          intro v29 vm29 T29 h29 l29 X29 R29 q29
          obtain ⟨r29, rfl, K29, q29⟩ := q29
          show Goes p e below _ T29 (mkF m 149 #[.val (.long xx), .second, .val (.int p1), .val (.int fr), .val (.int (0 : Int32)), .val (.ref b1), .val (.ref t17), .val (.int (2 : Int32))] [(.int r29)])
          obtain rfl : r29 = (2 : Int32) := own_uniq q29 (own_exp2_0 ha0 ha1 ha2)
          refine o_iload X29 at_149 rfl (q := 151) rfl ?_
          refine o_icmpN X29 at_151 (by decide) (q := 154) rfl ?_
          refine o_iconst X29 at_154 (w := 1) rfl (q := 155) rfl ?_
          refine o_goto X29 at_155 (by decide) (q := 159) (by decide) ?_
          exact o_retN X29 at_159 (by simp) (fun Sf hSf => rfl) (by decide) (by decide)
        · refine o_ifY X27 at_113 (by decide) (by decide) (q := 122) (by decide) ?_
          refine o_aload X27 at_122 rfl rfl (q := 124) rfl ?_
          refine o_iload X27 at_124 rfl (q := 126) rfl ?_
          refine o_iloadN X27 at_126 rfl (q := 127) rfl ?_
          refine o_iconst X27 at_127 (w := 3) rfl (q := 128) rfl ?_
          have f30 := f26
          refine o_stat X27 [(.ref b1), (.int (0 : Int32)), (.int fr), (.int (3 : Int32))] (y' := (⟨"anchorlog/AnchorPatternNextAnchorPinLaw", "at", "([CIII)Z"⟩ : MethodName)) (c_at3 hw b1 k1 (0 : Int32) fr c0 c1 c2 c3 c4 _ f30) all0 (w41 hw) (w42 hw) (w4 hw) (w43 hw) (by decide) at_128 (rest := []) rfl rfl (lenOf pd14 rfl) rfl (by decide) (Nat.le_of_ble_eq_true rfl) (by decide) (by decide) (q := 131) rfl ?_
          intro v31 vm31 T31 h31 l31 X31 R31 q31
          obtain ⟨r31, rfl, e31, ha3⟩ := q31
          have e31 := e31.symm
          subst e31
          show Goes p e below _ T31 (mkF m 131 #[.val (.long xx), .second, .val (.int p1), .val (.int fr), .val (.int (0 : Int32)), .val (.ref b1), .val (.ref t17), .unset] [(.int r31)])
          rcases ha3 with ⟨rfl, ha3⟩ | ⟨rfl, ha3⟩
          · refine o_ifN X31 at_131 (by decide) (q := 134) rfl ?_
            refine o_iconst X31 at_134 (w := 3) rfl (q := 135) rfl ?_
            refine o_istore X31 at_135 rfl (L' := #[.val (.long xx), .second, .val (.int p1), .val (.int fr), .val (.int (0 : Int32)), .val (.ref b1), .val (.ref t17), .val (.int (3 : Int32))]) rfl (q := 137) rfl ?_
            refine o_goto X31 at_137 (by decide) (q := 143) (by decide) ?_
            refine o_aload X31 at_143 rfl rfl (q := 145) rfl ?_
            refine o_iloadN X31 at_145 rfl (q := 146) rfl ?_
            have f32 := L17
            refine o_stat X31 [(.ref t17), (.int fr)] (y' := (⟨"anchorlog/AnchorPattern", "nextAnchor", "(Ljava/lang/String;I)I"⟩ : MethodName)) (c_next hw t17 b17 kb17 [] fr _ zc fm O2 P5 O4 rfm f32) all0 (w44 hw) (w45 hw) (w46 hw) (w47 hw) (by decide) at_146 (rest := []) rfl rfl (lenOf pd10 rfl) rfl (by decide) (Nat.le_of_ble_eq_true rfl) (by decide) (by decide) (q := 149) rfl ?_
            intro v33 vm33 T33 h33 l33 X33 R33 q33
            obtain ⟨r33, rfl, K33, q33⟩ := q33
            show Goes p e below _ T33 (mkF m 149 #[.val (.long xx), .second, .val (.int p1), .val (.int fr), .val (.int (0 : Int32)), .val (.ref b1), .val (.ref t17), .val (.int (3 : Int32))] [(.int r33)])
            obtain rfl : r33 = (3 : Int32) := own_uniq q33 (own_exp3_0 ha0 ha1 ha2 ha3)
            refine o_iload X33 at_149 rfl (q := 151) rfl ?_
            refine o_icmpN X33 at_151 (by decide) (q := 154) rfl ?_
            refine o_iconst X33 at_154 (w := 1) rfl (q := 155) rfl ?_
            refine o_goto X33 at_155 (by decide) (q := 159) (by decide) ?_
            exact o_retN X33 at_159 (by simp) (fun Sf hSf => rfl) (by decide) (by decide)
          · refine o_ifY X31 at_131 (by decide) (by decide) (q := 140) (by decide) ?_
            refine o_iconst X31 at_140 (w := -1) rfl (q := 141) rfl ?_
            refine o_istore X31 at_141 rfl (L' := #[.val (.long xx), .second, .val (.int p1), .val (.int fr), .val (.int (0 : Int32)), .val (.ref b1), .val (.ref t17), .val (.int (-1 : Int32))]) rfl (q := 143) rfl ?_
            refine o_aload X31 at_143 rfl rfl (q := 145) rfl ?_
            refine o_iloadN X31 at_145 rfl (q := 146) rfl ?_
            have f34 := L17
            refine o_stat X31 [(.ref t17), (.int fr)] (y' := (⟨"anchorlog/AnchorPattern", "nextAnchor", "(Ljava/lang/String;I)I"⟩ : MethodName)) (c_next hw t17 b17 kb17 [] fr _ zc fm O2 P5 O4 rfm f34) all0 (w44 hw) (w45 hw) (w46 hw) (w47 hw) (by decide) at_146 (rest := []) rfl rfl (lenOf pd10 rfl) rfl (by decide) (Nat.le_of_ble_eq_true rfl) (by decide) (by decide) (q := 149) rfl ?_
            intro v35 vm35 T35 h35 l35 X35 R35 q35
            obtain ⟨r35, rfl, K35, q35⟩ := q35
            show Goes p e below _ T35 (mkF m 149 #[.val (.long xx), .second, .val (.int p1), .val (.int fr), .val (.int (0 : Int32)), .val (.ref b1), .val (.ref t17), .val (.int (-1 : Int32))] [(.int r35)])
            obtain rfl : r35 = (-1 : Int32) := own_uniq q35 (own_expm_0 ha0 ha1 ha2 ha3)
            refine o_iload X35 at_149 rfl (q := 151) rfl ?_
            refine o_icmpN X35 at_151 (by decide) (q := 154) rfl ?_
            refine o_iconst X35 at_154 (w := 1) rfl (q := 155) rfl ?_
            refine o_goto X35 at_155 (by decide) (q := 159) (by decide) ?_
            exact o_retN X35 at_159 (by simp) (fun Sf hSf => rfl) (by decide) (by decide)
  · refine o_stat X16 [(.int (1 : Int32)), (.ref b1)] (y' := (⟨"anchorlog/AnchorPatternNextAnchorPinLaw", "make", "(I[C)Ljava/lang/String;"⟩ : MethodName)) (c_make1 hw b1 k1 c0 c1 c2 c3 c4 _ zc O2 P5 V16 hc0 hc1 hc2 hc3 hc4) all0 (w9 hw) (w10 hw) (w4 hw) (w11 hw) (by decide) at_63 (rest := []) rfl rfl (lenOf pd13 rfl) rfl (by decide) (Nat.le_of_ble_eq_true rfl) (by decide) (by decide) (q := 66) rfl ?_
    intro v36 vm36 T36 h36 l36 X36 R36 q36
    obtain ⟨t36, b36, kb36, rfl, K36, L36⟩ := q36
    show Goes p e below _ T36 (mkF m 66 #[.val (.long xx), .second, .val (.int p1), .val (.int fr), .val (.int (1 : Int32)), .val (.ref b1), .unset, .unset] [(.ref t36)])
    refine o_astore X36 at_66 rfl (L' := #[.val (.long xx), .second, .val (.int p1), .val (.int fr), .val (.int (1 : Int32)), .val (.ref b1), .val (.ref t36), .unset]) rfl (q := 68) rfl ?_
    refine o_aload X36 at_68 rfl rfl (q := 70) rfl ?_
    refine o_iload X36 at_70 rfl (q := 72) rfl ?_
    refine o_iloadN X36 at_72 rfl (q := 73) rfl ?_
    refine o_iconst X36 at_73 (w := 0) rfl (q := 74) rfl ?_
    have f37 := (V16.keep K36 nin0)
    refine o_stat X36 [(.ref b1), (.int (1 : Int32)), (.int fr), (.int (0 : Int32))] (y' := (⟨"anchorlog/AnchorPatternNextAnchorPinLaw", "at", "([CIII)Z"⟩ : MethodName)) (c_at0 hw b1 k1 (1 : Int32) fr c0 c1 c2 c3 c4 _ f37) all0 (w41 hw) (w42 hw) (w4 hw) (w43 hw) (by decide) at_74 (rest := []) rfl rfl (lenOf pd14 rfl) rfl (by decide) (Nat.le_of_ble_eq_true rfl) (by decide) (by decide) (q := 77) rfl ?_
    intro v38 vm38 T38 h38 l38 X38 R38 q38
    obtain ⟨r38, rfl, e38, ha0⟩ := q38
    have e38 := e38.symm
    subst e38
    show Goes p e below _ T38 (mkF m 77 #[.val (.long xx), .second, .val (.int p1), .val (.int fr), .val (.int (1 : Int32)), .val (.ref b1), .val (.ref t36), .unset] [(.int r38)])
    rcases ha0 with ⟨rfl, ha0⟩ | ⟨rfl, ha0⟩
    · refine o_ifN X38 at_77 (by decide) (q := 80) rfl ?_
      refine o_iconst X38 at_80 (w := 0) rfl (q := 81) rfl ?_
      refine o_istore X38 at_81 rfl (L' := #[.val (.long xx), .second, .val (.int p1), .val (.int fr), .val (.int (1 : Int32)), .val (.ref b1), .val (.ref t36), .val (.int (0 : Int32))]) rfl (q := 83) rfl ?_
      refine o_goto X38 at_83 (by decide) (q := 143) (by decide) ?_
      refine o_aload X38 at_143 rfl rfl (q := 145) rfl ?_
      refine o_iloadN X38 at_145 rfl (q := 146) rfl ?_
      have f39 := L36
      refine o_stat X38 [(.ref t36), (.int fr)] (y' := (⟨"anchorlog/AnchorPattern", "nextAnchor", "(Ljava/lang/String;I)I"⟩ : MethodName)) (c_next hw t36 b36 kb36 [c0] fr _ zc fm O2 P5 O4 rfm f39) all0 (w44 hw) (w45 hw) (w46 hw) (w47 hw) (by decide) at_146 (rest := []) rfl rfl (lenOf pd10 rfl) rfl (by decide) (Nat.le_of_ble_eq_true rfl) (by decide) (by decide) (q := 149) rfl ?_
      intro v40 vm40 T40 h40 l40 X40 R40 q40
      obtain ⟨r40, rfl, K40, q40⟩ := q40
      show Goes p e below _ T40 (mkF m 149 #[.val (.long xx), .second, .val (.int p1), .val (.int fr), .val (.int (1 : Int32)), .val (.ref b1), .val (.ref t36), .val (.int (0 : Int32))] [(.int r40)])
      obtain rfl : r40 = (0 : Int32) := own_uniq q40 (own_exp0_1 ha0)
      refine o_iload X40 at_149 rfl (q := 151) rfl ?_
      refine o_icmpN X40 at_151 (by decide) (q := 154) rfl ?_
      refine o_iconst X40 at_154 (w := 1) rfl (q := 155) rfl ?_
      refine o_goto X40 at_155 (by decide) (q := 159) (by decide) ?_
      exact o_retN X40 at_159 (by simp) (fun Sf hSf => rfl) (by decide) (by decide)
    · refine o_ifY X38 at_77 (by decide) (by decide) (q := 86) (by decide) ?_
      refine o_aload X38 at_86 rfl rfl (q := 88) rfl ?_
      refine o_iload X38 at_88 rfl (q := 90) rfl ?_
      refine o_iloadN X38 at_90 rfl (q := 91) rfl ?_
      refine o_iconst X38 at_91 (w := 1) rfl (q := 92) rfl ?_
      have f41 := f37
      refine o_stat X38 [(.ref b1), (.int (1 : Int32)), (.int fr), (.int (1 : Int32))] (y' := (⟨"anchorlog/AnchorPatternNextAnchorPinLaw", "at", "([CIII)Z"⟩ : MethodName)) (c_at1 hw b1 k1 (1 : Int32) fr c0 c1 c2 c3 c4 _ f41) all0 (w41 hw) (w42 hw) (w4 hw) (w43 hw) (by decide) at_92 (rest := []) rfl rfl (lenOf pd14 rfl) rfl (by decide) (Nat.le_of_ble_eq_true rfl) (by decide) (by decide) (q := 95) rfl ?_
      intro v42 vm42 T42 h42 l42 X42 R42 q42
      obtain ⟨r42, rfl, e42, ha1⟩ := q42
      have e42 := e42.symm
      subst e42
      show Goes p e below _ T42 (mkF m 95 #[.val (.long xx), .second, .val (.int p1), .val (.int fr), .val (.int (1 : Int32)), .val (.ref b1), .val (.ref t36), .unset] [(.int r42)])
      rcases ha1 with ⟨rfl, ha1⟩ | ⟨rfl, ha1⟩
      · refine o_ifN X42 at_95 (by decide) (q := 98) rfl ?_
        refine o_iconst X42 at_98 (w := 1) rfl (q := 99) rfl ?_
        refine o_istore X42 at_99 rfl (L' := #[.val (.long xx), .second, .val (.int p1), .val (.int fr), .val (.int (1 : Int32)), .val (.ref b1), .val (.ref t36), .val (.int (1 : Int32))]) rfl (q := 101) rfl ?_
        refine o_goto X42 at_101 (by decide) (q := 143) (by decide) ?_
        refine o_aload X42 at_143 rfl rfl (q := 145) rfl ?_
        refine o_iloadN X42 at_145 rfl (q := 146) rfl ?_
        have f43 := L36
        refine o_stat X42 [(.ref t36), (.int fr)] (y' := (⟨"anchorlog/AnchorPattern", "nextAnchor", "(Ljava/lang/String;I)I"⟩ : MethodName)) (c_next hw t36 b36 kb36 [c0] fr _ zc fm O2 P5 O4 rfm f43) all0 (w44 hw) (w45 hw) (w46 hw) (w47 hw) (by decide) at_146 (rest := []) rfl rfl (lenOf pd10 rfl) rfl (by decide) (Nat.le_of_ble_eq_true rfl) (by decide) (by decide) (q := 149) rfl ?_
        intro v44 vm44 T44 h44 l44 X44 R44 q44
        obtain ⟨r44, rfl, K44, q44⟩ := q44
        show Goes p e below _ T44 (mkF m 149 #[.val (.long xx), .second, .val (.int p1), .val (.int fr), .val (.int (1 : Int32)), .val (.ref b1), .val (.ref t36), .val (.int (1 : Int32))] [(.int r44)])
        obtain rfl : r44 = (1 : Int32) := own_uniq q44 (own_exp1_1 ha0 ha1)
        refine o_iload X44 at_149 rfl (q := 151) rfl ?_
        refine o_icmpN X44 at_151 (by decide) (q := 154) rfl ?_
        refine o_iconst X44 at_154 (w := 1) rfl (q := 155) rfl ?_
        refine o_goto X44 at_155 (by decide) (q := 159) (by decide) ?_
        exact o_retN X44 at_159 (by simp) (fun Sf hSf => rfl) (by decide) (by decide)
      · refine o_ifY X42 at_95 (by decide) (by decide) (q := 104) (by decide) ?_
        refine o_aload X42 at_104 rfl rfl (q := 106) rfl ?_
        refine o_iload X42 at_106 rfl (q := 108) rfl ?_
        refine o_iloadN X42 at_108 rfl (q := 109) rfl ?_
        refine o_iconst X42 at_109 (w := 2) rfl (q := 110) rfl ?_
        have f45 := f41
        refine o_stat X42 [(.ref b1), (.int (1 : Int32)), (.int fr), (.int (2 : Int32))] (y' := (⟨"anchorlog/AnchorPatternNextAnchorPinLaw", "at", "([CIII)Z"⟩ : MethodName)) (c_at2 hw b1 k1 (1 : Int32) fr c0 c1 c2 c3 c4 _ f45) all0 (w41 hw) (w42 hw) (w4 hw) (w43 hw) (by decide) at_110 (rest := []) rfl rfl (lenOf pd14 rfl) rfl (by decide) (Nat.le_of_ble_eq_true rfl) (by decide) (by decide) (q := 113) rfl ?_
        intro v46 vm46 T46 h46 l46 X46 R46 q46
        obtain ⟨r46, rfl, e46, ha2⟩ := q46
        have e46 := e46.symm
        subst e46
        show Goes p e below _ T46 (mkF m 113 #[.val (.long xx), .second, .val (.int p1), .val (.int fr), .val (.int (1 : Int32)), .val (.ref b1), .val (.ref t36), .unset] [(.int r46)])
        rcases ha2 with ⟨rfl, ha2⟩ | ⟨rfl, ha2⟩
        · refine o_ifN X46 at_113 (by decide) (q := 116) rfl ?_
          refine o_iconst X46 at_116 (w := 2) rfl (q := 117) rfl ?_
          refine o_istore X46 at_117 rfl (L' := #[.val (.long xx), .second, .val (.int p1), .val (.int fr), .val (.int (1 : Int32)), .val (.ref b1), .val (.ref t36), .val (.int (2 : Int32))]) rfl (q := 119) rfl ?_
          refine o_goto X46 at_119 (by decide) (q := 143) (by decide) ?_
          refine o_aload X46 at_143 rfl rfl (q := 145) rfl ?_
          refine o_iloadN X46 at_145 rfl (q := 146) rfl ?_
          have f47 := L36
          refine o_stat X46 [(.ref t36), (.int fr)] (y' := (⟨"anchorlog/AnchorPattern", "nextAnchor", "(Ljava/lang/String;I)I"⟩ : MethodName)) (c_next hw t36 b36 kb36 [c0] fr _ zc fm O2 P5 O4 rfm f47) all0 (w44 hw) (w45 hw) (w46 hw) (w47 hw) (by decide) at_146 (rest := []) rfl rfl (lenOf pd10 rfl) rfl (by decide) (Nat.le_of_ble_eq_true rfl) (by decide) (by decide) (q := 149) rfl ?_
          intro v48 vm48 T48 h48 l48 X48 R48 q48
          obtain ⟨r48, rfl, K48, q48⟩ := q48
          show Goes p e below _ T48 (mkF m 149 #[.val (.long xx), .second, .val (.int p1), .val (.int fr), .val (.int (1 : Int32)), .val (.ref b1), .val (.ref t36), .val (.int (2 : Int32))] [(.int r48)])
          obtain rfl : r48 = (2 : Int32) := own_uniq q48 (own_exp2_1 ha0 ha1 ha2)
          refine o_iload X48 at_149 rfl (q := 151) rfl ?_
          refine o_icmpN X48 at_151 (by decide) (q := 154) rfl ?_
          refine o_iconst X48 at_154 (w := 1) rfl (q := 155) rfl ?_
          refine o_goto X48 at_155 (by decide) (q := 159) (by decide) ?_
          exact o_retN X48 at_159 (by simp) (fun Sf hSf => rfl) (by decide) (by decide)
        · refine o_ifY X46 at_113 (by decide) (by decide) (q := 122) (by decide) ?_
          refine o_aload X46 at_122 rfl rfl (q := 124) rfl ?_
          refine o_iload X46 at_124 rfl (q := 126) rfl ?_
          refine o_iloadN X46 at_126 rfl (q := 127) rfl ?_
          refine o_iconst X46 at_127 (w := 3) rfl (q := 128) rfl ?_
          have f49 := f45
          refine o_stat X46 [(.ref b1), (.int (1 : Int32)), (.int fr), (.int (3 : Int32))] (y' := (⟨"anchorlog/AnchorPatternNextAnchorPinLaw", "at", "([CIII)Z"⟩ : MethodName)) (c_at3 hw b1 k1 (1 : Int32) fr c0 c1 c2 c3 c4 _ f49) all0 (w41 hw) (w42 hw) (w4 hw) (w43 hw) (by decide) at_128 (rest := []) rfl rfl (lenOf pd14 rfl) rfl (by decide) (Nat.le_of_ble_eq_true rfl) (by decide) (by decide) (q := 131) rfl ?_
          intro v50 vm50 T50 h50 l50 X50 R50 q50
          obtain ⟨r50, rfl, e50, ha3⟩ := q50
          have e50 := e50.symm
          subst e50
          show Goes p e below _ T50 (mkF m 131 #[.val (.long xx), .second, .val (.int p1), .val (.int fr), .val (.int (1 : Int32)), .val (.ref b1), .val (.ref t36), .unset] [(.int r50)])
          rcases ha3 with ⟨rfl, ha3⟩ | ⟨rfl, ha3⟩
          · refine o_ifN X50 at_131 (by decide) (q := 134) rfl ?_
            refine o_iconst X50 at_134 (w := 3) rfl (q := 135) rfl ?_
            refine o_istore X50 at_135 rfl (L' := #[.val (.long xx), .second, .val (.int p1), .val (.int fr), .val (.int (1 : Int32)), .val (.ref b1), .val (.ref t36), .val (.int (3 : Int32))]) rfl (q := 137) rfl ?_
            refine o_goto X50 at_137 (by decide) (q := 143) (by decide) ?_
            refine o_aload X50 at_143 rfl rfl (q := 145) rfl ?_
            refine o_iloadN X50 at_145 rfl (q := 146) rfl ?_
            have f51 := L36
            refine o_stat X50 [(.ref t36), (.int fr)] (y' := (⟨"anchorlog/AnchorPattern", "nextAnchor", "(Ljava/lang/String;I)I"⟩ : MethodName)) (c_next hw t36 b36 kb36 [c0] fr _ zc fm O2 P5 O4 rfm f51) all0 (w44 hw) (w45 hw) (w46 hw) (w47 hw) (by decide) at_146 (rest := []) rfl rfl (lenOf pd10 rfl) rfl (by decide) (Nat.le_of_ble_eq_true rfl) (by decide) (by decide) (q := 149) rfl ?_
            intro v52 vm52 T52 h52 l52 X52 R52 q52
            obtain ⟨r52, rfl, K52, q52⟩ := q52
            show Goes p e below _ T52 (mkF m 149 #[.val (.long xx), .second, .val (.int p1), .val (.int fr), .val (.int (1 : Int32)), .val (.ref b1), .val (.ref t36), .val (.int (3 : Int32))] [(.int r52)])
            obtain rfl : r52 = (3 : Int32) := own_uniq q52 (own_exp3_1 ha0 ha1 ha2 ha3)
            refine o_iload X52 at_149 rfl (q := 151) rfl ?_
            refine o_icmpN X52 at_151 (by decide) (q := 154) rfl ?_
            refine o_iconst X52 at_154 (w := 1) rfl (q := 155) rfl ?_
            refine o_goto X52 at_155 (by decide) (q := 159) (by decide) ?_
            exact o_retN X52 at_159 (by simp) (fun Sf hSf => rfl) (by decide) (by decide)
          · refine o_ifY X50 at_131 (by decide) (by decide) (q := 140) (by decide) ?_
            refine o_iconst X50 at_140 (w := -1) rfl (q := 141) rfl ?_
            refine o_istore X50 at_141 rfl (L' := #[.val (.long xx), .second, .val (.int p1), .val (.int fr), .val (.int (1 : Int32)), .val (.ref b1), .val (.ref t36), .val (.int (-1 : Int32))]) rfl (q := 143) rfl ?_
            refine o_aload X50 at_143 rfl rfl (q := 145) rfl ?_
            refine o_iloadN X50 at_145 rfl (q := 146) rfl ?_
            have f53 := L36
            refine o_stat X50 [(.ref t36), (.int fr)] (y' := (⟨"anchorlog/AnchorPattern", "nextAnchor", "(Ljava/lang/String;I)I"⟩ : MethodName)) (c_next hw t36 b36 kb36 [c0] fr _ zc fm O2 P5 O4 rfm f53) all0 (w44 hw) (w45 hw) (w46 hw) (w47 hw) (by decide) at_146 (rest := []) rfl rfl (lenOf pd10 rfl) rfl (by decide) (Nat.le_of_ble_eq_true rfl) (by decide) (by decide) (q := 149) rfl ?_
            intro v54 vm54 T54 h54 l54 X54 R54 q54
            obtain ⟨r54, rfl, K54, q54⟩ := q54
            show Goes p e below _ T54 (mkF m 149 #[.val (.long xx), .second, .val (.int p1), .val (.int fr), .val (.int (1 : Int32)), .val (.ref b1), .val (.ref t36), .val (.int (-1 : Int32))] [(.int r54)])
            obtain rfl : r54 = (-1 : Int32) := own_uniq q54 (own_expm_1 ha0 ha1 ha2 ha3)
            refine o_iload X54 at_149 rfl (q := 151) rfl ?_
            refine o_icmpN X54 at_151 (by decide) (q := 154) rfl ?_
            refine o_iconst X54 at_154 (w := 1) rfl (q := 155) rfl ?_
            refine o_goto X54 at_155 (by decide) (q := 159) (by decide) ?_
            exact o_retN X54 at_159 (by simp) (fun Sf hSf => rfl) (by decide) (by decide)
  · refine o_stat X16 [(.int (2 : Int32)), (.ref b1)] (y' := (⟨"anchorlog/AnchorPatternNextAnchorPinLaw", "make", "(I[C)Ljava/lang/String;"⟩ : MethodName)) (c_make2 hw b1 k1 c0 c1 c2 c3 c4 _ zc O2 P5 V16 hc0 hc1 hc2 hc3 hc4) all0 (w9 hw) (w10 hw) (w4 hw) (w11 hw) (by decide) at_63 (rest := []) rfl rfl (lenOf pd13 rfl) rfl (by decide) (Nat.le_of_ble_eq_true rfl) (by decide) (by decide) (q := 66) rfl ?_
    intro v55 vm55 T55 h55 l55 X55 R55 q55
    obtain ⟨t55, b55, kb55, rfl, K55, L55⟩ := q55
    show Goes p e below _ T55 (mkF m 66 #[.val (.long xx), .second, .val (.int p1), .val (.int fr), .val (.int (2 : Int32)), .val (.ref b1), .unset, .unset] [(.ref t55)])
    refine o_astore X55 at_66 rfl (L' := #[.val (.long xx), .second, .val (.int p1), .val (.int fr), .val (.int (2 : Int32)), .val (.ref b1), .val (.ref t55), .unset]) rfl (q := 68) rfl ?_
    refine o_aload X55 at_68 rfl rfl (q := 70) rfl ?_
    refine o_iload X55 at_70 rfl (q := 72) rfl ?_
    refine o_iloadN X55 at_72 rfl (q := 73) rfl ?_
    refine o_iconst X55 at_73 (w := 0) rfl (q := 74) rfl ?_
    have f56 := (V16.keep K55 nin0)
    refine o_stat X55 [(.ref b1), (.int (2 : Int32)), (.int fr), (.int (0 : Int32))] (y' := (⟨"anchorlog/AnchorPatternNextAnchorPinLaw", "at", "([CIII)Z"⟩ : MethodName)) (c_at0 hw b1 k1 (2 : Int32) fr c0 c1 c2 c3 c4 _ f56) all0 (w41 hw) (w42 hw) (w4 hw) (w43 hw) (by decide) at_74 (rest := []) rfl rfl (lenOf pd14 rfl) rfl (by decide) (Nat.le_of_ble_eq_true rfl) (by decide) (by decide) (q := 77) rfl ?_
    intro v57 vm57 T57 h57 l57 X57 R57 q57
    obtain ⟨r57, rfl, e57, ha0⟩ := q57
    have e57 := e57.symm
    subst e57
    show Goes p e below _ T57 (mkF m 77 #[.val (.long xx), .second, .val (.int p1), .val (.int fr), .val (.int (2 : Int32)), .val (.ref b1), .val (.ref t55), .unset] [(.int r57)])
    rcases ha0 with ⟨rfl, ha0⟩ | ⟨rfl, ha0⟩
    · refine o_ifN X57 at_77 (by decide) (q := 80) rfl ?_
      refine o_iconst X57 at_80 (w := 0) rfl (q := 81) rfl ?_
      refine o_istore X57 at_81 rfl (L' := #[.val (.long xx), .second, .val (.int p1), .val (.int fr), .val (.int (2 : Int32)), .val (.ref b1), .val (.ref t55), .val (.int (0 : Int32))]) rfl (q := 83) rfl ?_
      refine o_goto X57 at_83 (by decide) (q := 143) (by decide) ?_
      refine o_aload X57 at_143 rfl rfl (q := 145) rfl ?_
      refine o_iloadN X57 at_145 rfl (q := 146) rfl ?_
      have f58 := L55
      refine o_stat X57 [(.ref t55), (.int fr)] (y' := (⟨"anchorlog/AnchorPattern", "nextAnchor", "(Ljava/lang/String;I)I"⟩ : MethodName)) (c_next hw t55 b55 kb55 [c0, c1] fr _ zc fm O2 P5 O4 rfm f58) all0 (w44 hw) (w45 hw) (w46 hw) (w47 hw) (by decide) at_146 (rest := []) rfl rfl (lenOf pd10 rfl) rfl (by decide) (Nat.le_of_ble_eq_true rfl) (by decide) (by decide) (q := 149) rfl ?_
      intro v59 vm59 T59 h59 l59 X59 R59 q59
      obtain ⟨r59, rfl, K59, q59⟩ := q59
      show Goes p e below _ T59 (mkF m 149 #[.val (.long xx), .second, .val (.int p1), .val (.int fr), .val (.int (2 : Int32)), .val (.ref b1), .val (.ref t55), .val (.int (0 : Int32))] [(.int r59)])
      obtain rfl : r59 = (0 : Int32) := own_uniq q59 (own_exp0_2 ha0)
      refine o_iload X59 at_149 rfl (q := 151) rfl ?_
      refine o_icmpN X59 at_151 (by decide) (q := 154) rfl ?_
      refine o_iconst X59 at_154 (w := 1) rfl (q := 155) rfl ?_
      refine o_goto X59 at_155 (by decide) (q := 159) (by decide) ?_
      exact o_retN X59 at_159 (by simp) (fun Sf hSf => rfl) (by decide) (by decide)
    · refine o_ifY X57 at_77 (by decide) (by decide) (q := 86) (by decide) ?_
      refine o_aload X57 at_86 rfl rfl (q := 88) rfl ?_
      refine o_iload X57 at_88 rfl (q := 90) rfl ?_
      refine o_iloadN X57 at_90 rfl (q := 91) rfl ?_
      refine o_iconst X57 at_91 (w := 1) rfl (q := 92) rfl ?_
      have f60 := f56
      refine o_stat X57 [(.ref b1), (.int (2 : Int32)), (.int fr), (.int (1 : Int32))] (y' := (⟨"anchorlog/AnchorPatternNextAnchorPinLaw", "at", "([CIII)Z"⟩ : MethodName)) (c_at1 hw b1 k1 (2 : Int32) fr c0 c1 c2 c3 c4 _ f60) all0 (w41 hw) (w42 hw) (w4 hw) (w43 hw) (by decide) at_92 (rest := []) rfl rfl (lenOf pd14 rfl) rfl (by decide) (Nat.le_of_ble_eq_true rfl) (by decide) (by decide) (q := 95) rfl ?_
      intro v61 vm61 T61 h61 l61 X61 R61 q61
      obtain ⟨r61, rfl, e61, ha1⟩ := q61
      have e61 := e61.symm
      subst e61
      show Goes p e below _ T61 (mkF m 95 #[.val (.long xx), .second, .val (.int p1), .val (.int fr), .val (.int (2 : Int32)), .val (.ref b1), .val (.ref t55), .unset] [(.int r61)])
      rcases ha1 with ⟨rfl, ha1⟩ | ⟨rfl, ha1⟩
      · refine o_ifN X61 at_95 (by decide) (q := 98) rfl ?_
        refine o_iconst X61 at_98 (w := 1) rfl (q := 99) rfl ?_
        refine o_istore X61 at_99 rfl (L' := #[.val (.long xx), .second, .val (.int p1), .val (.int fr), .val (.int (2 : Int32)), .val (.ref b1), .val (.ref t55), .val (.int (1 : Int32))]) rfl (q := 101) rfl ?_
        refine o_goto X61 at_101 (by decide) (q := 143) (by decide) ?_
        refine o_aload X61 at_143 rfl rfl (q := 145) rfl ?_
        refine o_iloadN X61 at_145 rfl (q := 146) rfl ?_
        have f62 := L55
        refine o_stat X61 [(.ref t55), (.int fr)] (y' := (⟨"anchorlog/AnchorPattern", "nextAnchor", "(Ljava/lang/String;I)I"⟩ : MethodName)) (c_next hw t55 b55 kb55 [c0, c1] fr _ zc fm O2 P5 O4 rfm f62) all0 (w44 hw) (w45 hw) (w46 hw) (w47 hw) (by decide) at_146 (rest := []) rfl rfl (lenOf pd10 rfl) rfl (by decide) (Nat.le_of_ble_eq_true rfl) (by decide) (by decide) (q := 149) rfl ?_
        intro v63 vm63 T63 h63 l63 X63 R63 q63
        obtain ⟨r63, rfl, K63, q63⟩ := q63
        show Goes p e below _ T63 (mkF m 149 #[.val (.long xx), .second, .val (.int p1), .val (.int fr), .val (.int (2 : Int32)), .val (.ref b1), .val (.ref t55), .val (.int (1 : Int32))] [(.int r63)])
        obtain rfl : r63 = (1 : Int32) := own_uniq q63 (own_exp1_2 ha0 ha1)
        refine o_iload X63 at_149 rfl (q := 151) rfl ?_
        refine o_icmpN X63 at_151 (by decide) (q := 154) rfl ?_
        refine o_iconst X63 at_154 (w := 1) rfl (q := 155) rfl ?_
        refine o_goto X63 at_155 (by decide) (q := 159) (by decide) ?_
        exact o_retN X63 at_159 (by simp) (fun Sf hSf => rfl) (by decide) (by decide)
      · refine o_ifY X61 at_95 (by decide) (by decide) (q := 104) (by decide) ?_
        refine o_aload X61 at_104 rfl rfl (q := 106) rfl ?_
        refine o_iload X61 at_106 rfl (q := 108) rfl ?_
        refine o_iloadN X61 at_108 rfl (q := 109) rfl ?_
        refine o_iconst X61 at_109 (w := 2) rfl (q := 110) rfl ?_
        have f64 := f60
        refine o_stat X61 [(.ref b1), (.int (2 : Int32)), (.int fr), (.int (2 : Int32))] (y' := (⟨"anchorlog/AnchorPatternNextAnchorPinLaw", "at", "([CIII)Z"⟩ : MethodName)) (c_at2 hw b1 k1 (2 : Int32) fr c0 c1 c2 c3 c4 _ f64) all0 (w41 hw) (w42 hw) (w4 hw) (w43 hw) (by decide) at_110 (rest := []) rfl rfl (lenOf pd14 rfl) rfl (by decide) (Nat.le_of_ble_eq_true rfl) (by decide) (by decide) (q := 113) rfl ?_
        intro v65 vm65 T65 h65 l65 X65 R65 q65
        obtain ⟨r65, rfl, e65, ha2⟩ := q65
        have e65 := e65.symm
        subst e65
        show Goes p e below _ T65 (mkF m 113 #[.val (.long xx), .second, .val (.int p1), .val (.int fr), .val (.int (2 : Int32)), .val (.ref b1), .val (.ref t55), .unset] [(.int r65)])
        rcases ha2 with ⟨rfl, ha2⟩ | ⟨rfl, ha2⟩
        · refine o_ifN X65 at_113 (by decide) (q := 116) rfl ?_
          refine o_iconst X65 at_116 (w := 2) rfl (q := 117) rfl ?_
          refine o_istore X65 at_117 rfl (L' := #[.val (.long xx), .second, .val (.int p1), .val (.int fr), .val (.int (2 : Int32)), .val (.ref b1), .val (.ref t55), .val (.int (2 : Int32))]) rfl (q := 119) rfl ?_
          refine o_goto X65 at_119 (by decide) (q := 143) (by decide) ?_
          refine o_aload X65 at_143 rfl rfl (q := 145) rfl ?_
          refine o_iloadN X65 at_145 rfl (q := 146) rfl ?_
          have f66 := L55
          refine o_stat X65 [(.ref t55), (.int fr)] (y' := (⟨"anchorlog/AnchorPattern", "nextAnchor", "(Ljava/lang/String;I)I"⟩ : MethodName)) (c_next hw t55 b55 kb55 [c0, c1] fr _ zc fm O2 P5 O4 rfm f66) all0 (w44 hw) (w45 hw) (w46 hw) (w47 hw) (by decide) at_146 (rest := []) rfl rfl (lenOf pd10 rfl) rfl (by decide) (Nat.le_of_ble_eq_true rfl) (by decide) (by decide) (q := 149) rfl ?_
          intro v67 vm67 T67 h67 l67 X67 R67 q67
          obtain ⟨r67, rfl, K67, q67⟩ := q67
          show Goes p e below _ T67 (mkF m 149 #[.val (.long xx), .second, .val (.int p1), .val (.int fr), .val (.int (2 : Int32)), .val (.ref b1), .val (.ref t55), .val (.int (2 : Int32))] [(.int r67)])
          obtain rfl : r67 = (2 : Int32) := own_uniq q67 (own_exp2_2 ha0 ha1 ha2)
          refine o_iload X67 at_149 rfl (q := 151) rfl ?_
          refine o_icmpN X67 at_151 (by decide) (q := 154) rfl ?_
          refine o_iconst X67 at_154 (w := 1) rfl (q := 155) rfl ?_
          refine o_goto X67 at_155 (by decide) (q := 159) (by decide) ?_
          exact o_retN X67 at_159 (by simp) (fun Sf hSf => rfl) (by decide) (by decide)
        · refine o_ifY X65 at_113 (by decide) (by decide) (q := 122) (by decide) ?_
          refine o_aload X65 at_122 rfl rfl (q := 124) rfl ?_
          refine o_iload X65 at_124 rfl (q := 126) rfl ?_
          refine o_iloadN X65 at_126 rfl (q := 127) rfl ?_
          refine o_iconst X65 at_127 (w := 3) rfl (q := 128) rfl ?_
          have f68 := f64
          refine o_stat X65 [(.ref b1), (.int (2 : Int32)), (.int fr), (.int (3 : Int32))] (y' := (⟨"anchorlog/AnchorPatternNextAnchorPinLaw", "at", "([CIII)Z"⟩ : MethodName)) (c_at3 hw b1 k1 (2 : Int32) fr c0 c1 c2 c3 c4 _ f68) all0 (w41 hw) (w42 hw) (w4 hw) (w43 hw) (by decide) at_128 (rest := []) rfl rfl (lenOf pd14 rfl) rfl (by decide) (Nat.le_of_ble_eq_true rfl) (by decide) (by decide) (q := 131) rfl ?_
          intro v69 vm69 T69 h69 l69 X69 R69 q69
          obtain ⟨r69, rfl, e69, ha3⟩ := q69
          have e69 := e69.symm
          subst e69
          show Goes p e below _ T69 (mkF m 131 #[.val (.long xx), .second, .val (.int p1), .val (.int fr), .val (.int (2 : Int32)), .val (.ref b1), .val (.ref t55), .unset] [(.int r69)])
          rcases ha3 with ⟨rfl, ha3⟩ | ⟨rfl, ha3⟩
          · refine o_ifN X69 at_131 (by decide) (q := 134) rfl ?_
            refine o_iconst X69 at_134 (w := 3) rfl (q := 135) rfl ?_
            refine o_istore X69 at_135 rfl (L' := #[.val (.long xx), .second, .val (.int p1), .val (.int fr), .val (.int (2 : Int32)), .val (.ref b1), .val (.ref t55), .val (.int (3 : Int32))]) rfl (q := 137) rfl ?_
            refine o_goto X69 at_137 (by decide) (q := 143) (by decide) ?_
            refine o_aload X69 at_143 rfl rfl (q := 145) rfl ?_
            refine o_iloadN X69 at_145 rfl (q := 146) rfl ?_
            have f70 := L55
            refine o_stat X69 [(.ref t55), (.int fr)] (y' := (⟨"anchorlog/AnchorPattern", "nextAnchor", "(Ljava/lang/String;I)I"⟩ : MethodName)) (c_next hw t55 b55 kb55 [c0, c1] fr _ zc fm O2 P5 O4 rfm f70) all0 (w44 hw) (w45 hw) (w46 hw) (w47 hw) (by decide) at_146 (rest := []) rfl rfl (lenOf pd10 rfl) rfl (by decide) (Nat.le_of_ble_eq_true rfl) (by decide) (by decide) (q := 149) rfl ?_
            intro v71 vm71 T71 h71 l71 X71 R71 q71
            obtain ⟨r71, rfl, K71, q71⟩ := q71
            show Goes p e below _ T71 (mkF m 149 #[.val (.long xx), .second, .val (.int p1), .val (.int fr), .val (.int (2 : Int32)), .val (.ref b1), .val (.ref t55), .val (.int (3 : Int32))] [(.int r71)])
            obtain rfl : r71 = (3 : Int32) := own_uniq q71 (own_exp3_2 ha0 ha1 ha2 ha3)
            refine o_iload X71 at_149 rfl (q := 151) rfl ?_
            refine o_icmpN X71 at_151 (by decide) (q := 154) rfl ?_
            refine o_iconst X71 at_154 (w := 1) rfl (q := 155) rfl ?_
            refine o_goto X71 at_155 (by decide) (q := 159) (by decide) ?_
            exact o_retN X71 at_159 (by simp) (fun Sf hSf => rfl) (by decide) (by decide)
          · refine o_ifY X69 at_131 (by decide) (by decide) (q := 140) (by decide) ?_
            refine o_iconst X69 at_140 (w := -1) rfl (q := 141) rfl ?_
            refine o_istore X69 at_141 rfl (L' := #[.val (.long xx), .second, .val (.int p1), .val (.int fr), .val (.int (2 : Int32)), .val (.ref b1), .val (.ref t55), .val (.int (-1 : Int32))]) rfl (q := 143) rfl ?_
            refine o_aload X69 at_143 rfl rfl (q := 145) rfl ?_
            refine o_iloadN X69 at_145 rfl (q := 146) rfl ?_
            have f72 := L55
            refine o_stat X69 [(.ref t55), (.int fr)] (y' := (⟨"anchorlog/AnchorPattern", "nextAnchor", "(Ljava/lang/String;I)I"⟩ : MethodName)) (c_next hw t55 b55 kb55 [c0, c1] fr _ zc fm O2 P5 O4 rfm f72) all0 (w44 hw) (w45 hw) (w46 hw) (w47 hw) (by decide) at_146 (rest := []) rfl rfl (lenOf pd10 rfl) rfl (by decide) (Nat.le_of_ble_eq_true rfl) (by decide) (by decide) (q := 149) rfl ?_
            intro v73 vm73 T73 h73 l73 X73 R73 q73
            obtain ⟨r73, rfl, K73, q73⟩ := q73
            show Goes p e below _ T73 (mkF m 149 #[.val (.long xx), .second, .val (.int p1), .val (.int fr), .val (.int (2 : Int32)), .val (.ref b1), .val (.ref t55), .val (.int (-1 : Int32))] [(.int r73)])
            obtain rfl : r73 = (-1 : Int32) := own_uniq q73 (own_expm_2 ha0 ha1 ha2 ha3)
            refine o_iload X73 at_149 rfl (q := 151) rfl ?_
            refine o_icmpN X73 at_151 (by decide) (q := 154) rfl ?_
            refine o_iconst X73 at_154 (w := 1) rfl (q := 155) rfl ?_
            refine o_goto X73 at_155 (by decide) (q := 159) (by decide) ?_
            exact o_retN X73 at_159 (by simp) (fun Sf hSf => rfl) (by decide) (by decide)
  · refine o_stat X16 [(.int (3 : Int32)), (.ref b1)] (y' := (⟨"anchorlog/AnchorPatternNextAnchorPinLaw", "make", "(I[C)Ljava/lang/String;"⟩ : MethodName)) (c_make3 hw b1 k1 c0 c1 c2 c3 c4 _ zc O2 P5 V16 hc0 hc1 hc2 hc3 hc4) all0 (w9 hw) (w10 hw) (w4 hw) (w11 hw) (by decide) at_63 (rest := []) rfl rfl (lenOf pd13 rfl) rfl (by decide) (Nat.le_of_ble_eq_true rfl) (by decide) (by decide) (q := 66) rfl ?_
    intro v74 vm74 T74 h74 l74 X74 R74 q74
    obtain ⟨t74, b74, kb74, rfl, K74, L74⟩ := q74
    show Goes p e below _ T74 (mkF m 66 #[.val (.long xx), .second, .val (.int p1), .val (.int fr), .val (.int (3 : Int32)), .val (.ref b1), .unset, .unset] [(.ref t74)])
    refine o_astore X74 at_66 rfl (L' := #[.val (.long xx), .second, .val (.int p1), .val (.int fr), .val (.int (3 : Int32)), .val (.ref b1), .val (.ref t74), .unset]) rfl (q := 68) rfl ?_
    refine o_aload X74 at_68 rfl rfl (q := 70) rfl ?_
    refine o_iload X74 at_70 rfl (q := 72) rfl ?_
    refine o_iloadN X74 at_72 rfl (q := 73) rfl ?_
    refine o_iconst X74 at_73 (w := 0) rfl (q := 74) rfl ?_
    have f75 := (V16.keep K74 nin0)
    refine o_stat X74 [(.ref b1), (.int (3 : Int32)), (.int fr), (.int (0 : Int32))] (y' := (⟨"anchorlog/AnchorPatternNextAnchorPinLaw", "at", "([CIII)Z"⟩ : MethodName)) (c_at0 hw b1 k1 (3 : Int32) fr c0 c1 c2 c3 c4 _ f75) all0 (w41 hw) (w42 hw) (w4 hw) (w43 hw) (by decide) at_74 (rest := []) rfl rfl (lenOf pd14 rfl) rfl (by decide) (Nat.le_of_ble_eq_true rfl) (by decide) (by decide) (q := 77) rfl ?_
    intro v76 vm76 T76 h76 l76 X76 R76 q76
    obtain ⟨r76, rfl, e76, ha0⟩ := q76
    have e76 := e76.symm
    subst e76
    show Goes p e below _ T76 (mkF m 77 #[.val (.long xx), .second, .val (.int p1), .val (.int fr), .val (.int (3 : Int32)), .val (.ref b1), .val (.ref t74), .unset] [(.int r76)])
    rcases ha0 with ⟨rfl, ha0⟩ | ⟨rfl, ha0⟩
    · refine o_ifN X76 at_77 (by decide) (q := 80) rfl ?_
      refine o_iconst X76 at_80 (w := 0) rfl (q := 81) rfl ?_
      refine o_istore X76 at_81 rfl (L' := #[.val (.long xx), .second, .val (.int p1), .val (.int fr), .val (.int (3 : Int32)), .val (.ref b1), .val (.ref t74), .val (.int (0 : Int32))]) rfl (q := 83) rfl ?_
      refine o_goto X76 at_83 (by decide) (q := 143) (by decide) ?_
      refine o_aload X76 at_143 rfl rfl (q := 145) rfl ?_
      refine o_iloadN X76 at_145 rfl (q := 146) rfl ?_
      have f77 := L74
      refine o_stat X76 [(.ref t74), (.int fr)] (y' := (⟨"anchorlog/AnchorPattern", "nextAnchor", "(Ljava/lang/String;I)I"⟩ : MethodName)) (c_next hw t74 b74 kb74 [c0, c1, c2] fr _ zc fm O2 P5 O4 rfm f77) all0 (w44 hw) (w45 hw) (w46 hw) (w47 hw) (by decide) at_146 (rest := []) rfl rfl (lenOf pd10 rfl) rfl (by decide) (Nat.le_of_ble_eq_true rfl) (by decide) (by decide) (q := 149) rfl ?_
      intro v78 vm78 T78 h78 l78 X78 R78 q78
      obtain ⟨r78, rfl, K78, q78⟩ := q78
      show Goes p e below _ T78 (mkF m 149 #[.val (.long xx), .second, .val (.int p1), .val (.int fr), .val (.int (3 : Int32)), .val (.ref b1), .val (.ref t74), .val (.int (0 : Int32))] [(.int r78)])
      obtain rfl : r78 = (0 : Int32) := own_uniq q78 (own_exp0_3 ha0)
      refine o_iload X78 at_149 rfl (q := 151) rfl ?_
      refine o_icmpN X78 at_151 (by decide) (q := 154) rfl ?_
      refine o_iconst X78 at_154 (w := 1) rfl (q := 155) rfl ?_
      refine o_goto X78 at_155 (by decide) (q := 159) (by decide) ?_
      exact o_retN X78 at_159 (by simp) (fun Sf hSf => rfl) (by decide) (by decide)
    · refine o_ifY X76 at_77 (by decide) (by decide) (q := 86) (by decide) ?_
      refine o_aload X76 at_86 rfl rfl (q := 88) rfl ?_
      refine o_iload X76 at_88 rfl (q := 90) rfl ?_
      refine o_iloadN X76 at_90 rfl (q := 91) rfl ?_
      refine o_iconst X76 at_91 (w := 1) rfl (q := 92) rfl ?_
      have f79 := f75
      refine o_stat X76 [(.ref b1), (.int (3 : Int32)), (.int fr), (.int (1 : Int32))] (y' := (⟨"anchorlog/AnchorPatternNextAnchorPinLaw", "at", "([CIII)Z"⟩ : MethodName)) (c_at1 hw b1 k1 (3 : Int32) fr c0 c1 c2 c3 c4 _ f79) all0 (w41 hw) (w42 hw) (w4 hw) (w43 hw) (by decide) at_92 (rest := []) rfl rfl (lenOf pd14 rfl) rfl (by decide) (Nat.le_of_ble_eq_true rfl) (by decide) (by decide) (q := 95) rfl ?_
      intro v80 vm80 T80 h80 l80 X80 R80 q80
      obtain ⟨r80, rfl, e80, ha1⟩ := q80
      have e80 := e80.symm
      subst e80
      show Goes p e below _ T80 (mkF m 95 #[.val (.long xx), .second, .val (.int p1), .val (.int fr), .val (.int (3 : Int32)), .val (.ref b1), .val (.ref t74), .unset] [(.int r80)])
      rcases ha1 with ⟨rfl, ha1⟩ | ⟨rfl, ha1⟩
      · refine o_ifN X80 at_95 (by decide) (q := 98) rfl ?_
        refine o_iconst X80 at_98 (w := 1) rfl (q := 99) rfl ?_
        refine o_istore X80 at_99 rfl (L' := #[.val (.long xx), .second, .val (.int p1), .val (.int fr), .val (.int (3 : Int32)), .val (.ref b1), .val (.ref t74), .val (.int (1 : Int32))]) rfl (q := 101) rfl ?_
        refine o_goto X80 at_101 (by decide) (q := 143) (by decide) ?_
        refine o_aload X80 at_143 rfl rfl (q := 145) rfl ?_
        refine o_iloadN X80 at_145 rfl (q := 146) rfl ?_
        have f81 := L74
        refine o_stat X80 [(.ref t74), (.int fr)] (y' := (⟨"anchorlog/AnchorPattern", "nextAnchor", "(Ljava/lang/String;I)I"⟩ : MethodName)) (c_next hw t74 b74 kb74 [c0, c1, c2] fr _ zc fm O2 P5 O4 rfm f81) all0 (w44 hw) (w45 hw) (w46 hw) (w47 hw) (by decide) at_146 (rest := []) rfl rfl (lenOf pd10 rfl) rfl (by decide) (Nat.le_of_ble_eq_true rfl) (by decide) (by decide) (q := 149) rfl ?_
        intro v82 vm82 T82 h82 l82 X82 R82 q82
        obtain ⟨r82, rfl, K82, q82⟩ := q82
        show Goes p e below _ T82 (mkF m 149 #[.val (.long xx), .second, .val (.int p1), .val (.int fr), .val (.int (3 : Int32)), .val (.ref b1), .val (.ref t74), .val (.int (1 : Int32))] [(.int r82)])
        obtain rfl : r82 = (1 : Int32) := own_uniq q82 (own_exp1_3 ha0 ha1)
        refine o_iload X82 at_149 rfl (q := 151) rfl ?_
        refine o_icmpN X82 at_151 (by decide) (q := 154) rfl ?_
        refine o_iconst X82 at_154 (w := 1) rfl (q := 155) rfl ?_
        refine o_goto X82 at_155 (by decide) (q := 159) (by decide) ?_
        exact o_retN X82 at_159 (by simp) (fun Sf hSf => rfl) (by decide) (by decide)
      · refine o_ifY X80 at_95 (by decide) (by decide) (q := 104) (by decide) ?_
        refine o_aload X80 at_104 rfl rfl (q := 106) rfl ?_
        refine o_iload X80 at_106 rfl (q := 108) rfl ?_
        refine o_iloadN X80 at_108 rfl (q := 109) rfl ?_
        refine o_iconst X80 at_109 (w := 2) rfl (q := 110) rfl ?_
        have f83 := f79
        refine o_stat X80 [(.ref b1), (.int (3 : Int32)), (.int fr), (.int (2 : Int32))] (y' := (⟨"anchorlog/AnchorPatternNextAnchorPinLaw", "at", "([CIII)Z"⟩ : MethodName)) (c_at2 hw b1 k1 (3 : Int32) fr c0 c1 c2 c3 c4 _ f83) all0 (w41 hw) (w42 hw) (w4 hw) (w43 hw) (by decide) at_110 (rest := []) rfl rfl (lenOf pd14 rfl) rfl (by decide) (Nat.le_of_ble_eq_true rfl) (by decide) (by decide) (q := 113) rfl ?_
        intro v84 vm84 T84 h84 l84 X84 R84 q84
        obtain ⟨r84, rfl, e84, ha2⟩ := q84
        have e84 := e84.symm
        subst e84
        show Goes p e below _ T84 (mkF m 113 #[.val (.long xx), .second, .val (.int p1), .val (.int fr), .val (.int (3 : Int32)), .val (.ref b1), .val (.ref t74), .unset] [(.int r84)])
        rcases ha2 with ⟨rfl, ha2⟩ | ⟨rfl, ha2⟩
        · refine o_ifN X84 at_113 (by decide) (q := 116) rfl ?_
          refine o_iconst X84 at_116 (w := 2) rfl (q := 117) rfl ?_
          refine o_istore X84 at_117 rfl (L' := #[.val (.long xx), .second, .val (.int p1), .val (.int fr), .val (.int (3 : Int32)), .val (.ref b1), .val (.ref t74), .val (.int (2 : Int32))]) rfl (q := 119) rfl ?_
          refine o_goto X84 at_119 (by decide) (q := 143) (by decide) ?_
          refine o_aload X84 at_143 rfl rfl (q := 145) rfl ?_
          refine o_iloadN X84 at_145 rfl (q := 146) rfl ?_
          have f85 := L74
          refine o_stat X84 [(.ref t74), (.int fr)] (y' := (⟨"anchorlog/AnchorPattern", "nextAnchor", "(Ljava/lang/String;I)I"⟩ : MethodName)) (c_next hw t74 b74 kb74 [c0, c1, c2] fr _ zc fm O2 P5 O4 rfm f85) all0 (w44 hw) (w45 hw) (w46 hw) (w47 hw) (by decide) at_146 (rest := []) rfl rfl (lenOf pd10 rfl) rfl (by decide) (Nat.le_of_ble_eq_true rfl) (by decide) (by decide) (q := 149) rfl ?_
          intro v86 vm86 T86 h86 l86 X86 R86 q86
          obtain ⟨r86, rfl, K86, q86⟩ := q86
          show Goes p e below _ T86 (mkF m 149 #[.val (.long xx), .second, .val (.int p1), .val (.int fr), .val (.int (3 : Int32)), .val (.ref b1), .val (.ref t74), .val (.int (2 : Int32))] [(.int r86)])
          obtain rfl : r86 = (2 : Int32) := own_uniq q86 (own_exp2_3 ha0 ha1 ha2)
          refine o_iload X86 at_149 rfl (q := 151) rfl ?_
          refine o_icmpN X86 at_151 (by decide) (q := 154) rfl ?_
          refine o_iconst X86 at_154 (w := 1) rfl (q := 155) rfl ?_
          refine o_goto X86 at_155 (by decide) (q := 159) (by decide) ?_
          exact o_retN X86 at_159 (by simp) (fun Sf hSf => rfl) (by decide) (by decide)
        · refine o_ifY X84 at_113 (by decide) (by decide) (q := 122) (by decide) ?_
          refine o_aload X84 at_122 rfl rfl (q := 124) rfl ?_
          refine o_iload X84 at_124 rfl (q := 126) rfl ?_
          refine o_iloadN X84 at_126 rfl (q := 127) rfl ?_
          refine o_iconst X84 at_127 (w := 3) rfl (q := 128) rfl ?_
          have f87 := f83
          refine o_stat X84 [(.ref b1), (.int (3 : Int32)), (.int fr), (.int (3 : Int32))] (y' := (⟨"anchorlog/AnchorPatternNextAnchorPinLaw", "at", "([CIII)Z"⟩ : MethodName)) (c_at3 hw b1 k1 (3 : Int32) fr c0 c1 c2 c3 c4 _ f87) all0 (w41 hw) (w42 hw) (w4 hw) (w43 hw) (by decide) at_128 (rest := []) rfl rfl (lenOf pd14 rfl) rfl (by decide) (Nat.le_of_ble_eq_true rfl) (by decide) (by decide) (q := 131) rfl ?_
          intro v88 vm88 T88 h88 l88 X88 R88 q88
          obtain ⟨r88, rfl, e88, ha3⟩ := q88
          have e88 := e88.symm
          subst e88
          show Goes p e below _ T88 (mkF m 131 #[.val (.long xx), .second, .val (.int p1), .val (.int fr), .val (.int (3 : Int32)), .val (.ref b1), .val (.ref t74), .unset] [(.int r88)])
          rcases ha3 with ⟨rfl, ha3⟩ | ⟨rfl, ha3⟩
          · refine o_ifN X88 at_131 (by decide) (q := 134) rfl ?_
            refine o_iconst X88 at_134 (w := 3) rfl (q := 135) rfl ?_
            refine o_istore X88 at_135 rfl (L' := #[.val (.long xx), .second, .val (.int p1), .val (.int fr), .val (.int (3 : Int32)), .val (.ref b1), .val (.ref t74), .val (.int (3 : Int32))]) rfl (q := 137) rfl ?_
            refine o_goto X88 at_137 (by decide) (q := 143) (by decide) ?_
            refine o_aload X88 at_143 rfl rfl (q := 145) rfl ?_
            refine o_iloadN X88 at_145 rfl (q := 146) rfl ?_
            have f89 := L74
            refine o_stat X88 [(.ref t74), (.int fr)] (y' := (⟨"anchorlog/AnchorPattern", "nextAnchor", "(Ljava/lang/String;I)I"⟩ : MethodName)) (c_next hw t74 b74 kb74 [c0, c1, c2] fr _ zc fm O2 P5 O4 rfm f89) all0 (w44 hw) (w45 hw) (w46 hw) (w47 hw) (by decide) at_146 (rest := []) rfl rfl (lenOf pd10 rfl) rfl (by decide) (Nat.le_of_ble_eq_true rfl) (by decide) (by decide) (q := 149) rfl ?_
            intro v90 vm90 T90 h90 l90 X90 R90 q90
            obtain ⟨r90, rfl, K90, q90⟩ := q90
            show Goes p e below _ T90 (mkF m 149 #[.val (.long xx), .second, .val (.int p1), .val (.int fr), .val (.int (3 : Int32)), .val (.ref b1), .val (.ref t74), .val (.int (3 : Int32))] [(.int r90)])
            obtain rfl : r90 = (3 : Int32) := own_uniq q90 (own_exp3_3 ha0 ha1 ha2 ha3)
            refine o_iload X90 at_149 rfl (q := 151) rfl ?_
            refine o_icmpN X90 at_151 (by decide) (q := 154) rfl ?_
            refine o_iconst X90 at_154 (w := 1) rfl (q := 155) rfl ?_
            refine o_goto X90 at_155 (by decide) (q := 159) (by decide) ?_
            exact o_retN X90 at_159 (by simp) (fun Sf hSf => rfl) (by decide) (by decide)
          · refine o_ifY X88 at_131 (by decide) (by decide) (q := 140) (by decide) ?_
            refine o_iconst X88 at_140 (w := -1) rfl (q := 141) rfl ?_
            refine o_istore X88 at_141 rfl (L' := #[.val (.long xx), .second, .val (.int p1), .val (.int fr), .val (.int (3 : Int32)), .val (.ref b1), .val (.ref t74), .val (.int (-1 : Int32))]) rfl (q := 143) rfl ?_
            refine o_aload X88 at_143 rfl rfl (q := 145) rfl ?_
            refine o_iloadN X88 at_145 rfl (q := 146) rfl ?_
            have f91 := L74
            refine o_stat X88 [(.ref t74), (.int fr)] (y' := (⟨"anchorlog/AnchorPattern", "nextAnchor", "(Ljava/lang/String;I)I"⟩ : MethodName)) (c_next hw t74 b74 kb74 [c0, c1, c2] fr _ zc fm O2 P5 O4 rfm f91) all0 (w44 hw) (w45 hw) (w46 hw) (w47 hw) (by decide) at_146 (rest := []) rfl rfl (lenOf pd10 rfl) rfl (by decide) (Nat.le_of_ble_eq_true rfl) (by decide) (by decide) (q := 149) rfl ?_
            intro v92 vm92 T92 h92 l92 X92 R92 q92
            obtain ⟨r92, rfl, K92, q92⟩ := q92
            show Goes p e below _ T92 (mkF m 149 #[.val (.long xx), .second, .val (.int p1), .val (.int fr), .val (.int (3 : Int32)), .val (.ref b1), .val (.ref t74), .val (.int (-1 : Int32))] [(.int r92)])
            obtain rfl : r92 = (-1 : Int32) := own_uniq q92 (own_expm_3 ha0 ha1 ha2 ha3)
            refine o_iload X92 at_149 rfl (q := 151) rfl ?_
            refine o_icmpN X92 at_151 (by decide) (q := 154) rfl ?_
            refine o_iconst X92 at_154 (w := 1) rfl (q := 155) rfl ?_
            refine o_goto X92 at_155 (by decide) (q := 159) (by decide) ?_
            exact o_retN X92 at_159 (by simp) (fun Sf hSf => rfl) (by decide) (by decide)
  · refine o_stat X16 [(.int (4 : Int32)), (.ref b1)] (y' := (⟨"anchorlog/AnchorPatternNextAnchorPinLaw", "make", "(I[C)Ljava/lang/String;"⟩ : MethodName)) (c_make4 hw b1 k1 c0 c1 c2 c3 c4 _ zc O2 P5 V16 hc0 hc1 hc2 hc3 hc4) all0 (w9 hw) (w10 hw) (w4 hw) (w11 hw) (by decide) at_63 (rest := []) rfl rfl (lenOf pd13 rfl) rfl (by decide) (Nat.le_of_ble_eq_true rfl) (by decide) (by decide) (q := 66) rfl ?_
    intro v93 vm93 T93 h93 l93 X93 R93 q93
    obtain ⟨t93, b93, kb93, rfl, K93, L93⟩ := q93
    show Goes p e below _ T93 (mkF m 66 #[.val (.long xx), .second, .val (.int p1), .val (.int fr), .val (.int (4 : Int32)), .val (.ref b1), .unset, .unset] [(.ref t93)])
    refine o_astore X93 at_66 rfl (L' := #[.val (.long xx), .second, .val (.int p1), .val (.int fr), .val (.int (4 : Int32)), .val (.ref b1), .val (.ref t93), .unset]) rfl (q := 68) rfl ?_
    refine o_aload X93 at_68 rfl rfl (q := 70) rfl ?_
    refine o_iload X93 at_70 rfl (q := 72) rfl ?_
    refine o_iloadN X93 at_72 rfl (q := 73) rfl ?_
    refine o_iconst X93 at_73 (w := 0) rfl (q := 74) rfl ?_
    have f94 := (V16.keep K93 nin0)
    refine o_stat X93 [(.ref b1), (.int (4 : Int32)), (.int fr), (.int (0 : Int32))] (y' := (⟨"anchorlog/AnchorPatternNextAnchorPinLaw", "at", "([CIII)Z"⟩ : MethodName)) (c_at0 hw b1 k1 (4 : Int32) fr c0 c1 c2 c3 c4 _ f94) all0 (w41 hw) (w42 hw) (w4 hw) (w43 hw) (by decide) at_74 (rest := []) rfl rfl (lenOf pd14 rfl) rfl (by decide) (Nat.le_of_ble_eq_true rfl) (by decide) (by decide) (q := 77) rfl ?_
    intro v95 vm95 T95 h95 l95 X95 R95 q95
    obtain ⟨r95, rfl, e95, ha0⟩ := q95
    have e95 := e95.symm
    subst e95
    show Goes p e below _ T95 (mkF m 77 #[.val (.long xx), .second, .val (.int p1), .val (.int fr), .val (.int (4 : Int32)), .val (.ref b1), .val (.ref t93), .unset] [(.int r95)])
    rcases ha0 with ⟨rfl, ha0⟩ | ⟨rfl, ha0⟩
    · refine o_ifN X95 at_77 (by decide) (q := 80) rfl ?_
      refine o_iconst X95 at_80 (w := 0) rfl (q := 81) rfl ?_
      refine o_istore X95 at_81 rfl (L' := #[.val (.long xx), .second, .val (.int p1), .val (.int fr), .val (.int (4 : Int32)), .val (.ref b1), .val (.ref t93), .val (.int (0 : Int32))]) rfl (q := 83) rfl ?_
      refine o_goto X95 at_83 (by decide) (q := 143) (by decide) ?_
      refine o_aload X95 at_143 rfl rfl (q := 145) rfl ?_
      refine o_iloadN X95 at_145 rfl (q := 146) rfl ?_
      have f96 := L93
      refine o_stat X95 [(.ref t93), (.int fr)] (y' := (⟨"anchorlog/AnchorPattern", "nextAnchor", "(Ljava/lang/String;I)I"⟩ : MethodName)) (c_next hw t93 b93 kb93 [c0, c1, c2, c3] fr _ zc fm O2 P5 O4 rfm f96) all0 (w44 hw) (w45 hw) (w46 hw) (w47 hw) (by decide) at_146 (rest := []) rfl rfl (lenOf pd10 rfl) rfl (by decide) (Nat.le_of_ble_eq_true rfl) (by decide) (by decide) (q := 149) rfl ?_
      intro v97 vm97 T97 h97 l97 X97 R97 q97
      obtain ⟨r97, rfl, K97, q97⟩ := q97
      show Goes p e below _ T97 (mkF m 149 #[.val (.long xx), .second, .val (.int p1), .val (.int fr), .val (.int (4 : Int32)), .val (.ref b1), .val (.ref t93), .val (.int (0 : Int32))] [(.int r97)])
      obtain rfl : r97 = (0 : Int32) := own_uniq q97 (own_exp0_4 ha0)
      refine o_iload X97 at_149 rfl (q := 151) rfl ?_
      refine o_icmpN X97 at_151 (by decide) (q := 154) rfl ?_
      refine o_iconst X97 at_154 (w := 1) rfl (q := 155) rfl ?_
      refine o_goto X97 at_155 (by decide) (q := 159) (by decide) ?_
      exact o_retN X97 at_159 (by simp) (fun Sf hSf => rfl) (by decide) (by decide)
    · refine o_ifY X95 at_77 (by decide) (by decide) (q := 86) (by decide) ?_
      refine o_aload X95 at_86 rfl rfl (q := 88) rfl ?_
      refine o_iload X95 at_88 rfl (q := 90) rfl ?_
      refine o_iloadN X95 at_90 rfl (q := 91) rfl ?_
      refine o_iconst X95 at_91 (w := 1) rfl (q := 92) rfl ?_
      have f98 := f94
      refine o_stat X95 [(.ref b1), (.int (4 : Int32)), (.int fr), (.int (1 : Int32))] (y' := (⟨"anchorlog/AnchorPatternNextAnchorPinLaw", "at", "([CIII)Z"⟩ : MethodName)) (c_at1 hw b1 k1 (4 : Int32) fr c0 c1 c2 c3 c4 _ f98) all0 (w41 hw) (w42 hw) (w4 hw) (w43 hw) (by decide) at_92 (rest := []) rfl rfl (lenOf pd14 rfl) rfl (by decide) (Nat.le_of_ble_eq_true rfl) (by decide) (by decide) (q := 95) rfl ?_
      intro v99 vm99 T99 h99 l99 X99 R99 q99
      obtain ⟨r99, rfl, e99, ha1⟩ := q99
      have e99 := e99.symm
      subst e99
      show Goes p e below _ T99 (mkF m 95 #[.val (.long xx), .second, .val (.int p1), .val (.int fr), .val (.int (4 : Int32)), .val (.ref b1), .val (.ref t93), .unset] [(.int r99)])
      rcases ha1 with ⟨rfl, ha1⟩ | ⟨rfl, ha1⟩
      · refine o_ifN X99 at_95 (by decide) (q := 98) rfl ?_
        refine o_iconst X99 at_98 (w := 1) rfl (q := 99) rfl ?_
        refine o_istore X99 at_99 rfl (L' := #[.val (.long xx), .second, .val (.int p1), .val (.int fr), .val (.int (4 : Int32)), .val (.ref b1), .val (.ref t93), .val (.int (1 : Int32))]) rfl (q := 101) rfl ?_
        refine o_goto X99 at_101 (by decide) (q := 143) (by decide) ?_
        refine o_aload X99 at_143 rfl rfl (q := 145) rfl ?_
        refine o_iloadN X99 at_145 rfl (q := 146) rfl ?_
        have f100 := L93
        refine o_stat X99 [(.ref t93), (.int fr)] (y' := (⟨"anchorlog/AnchorPattern", "nextAnchor", "(Ljava/lang/String;I)I"⟩ : MethodName)) (c_next hw t93 b93 kb93 [c0, c1, c2, c3] fr _ zc fm O2 P5 O4 rfm f100) all0 (w44 hw) (w45 hw) (w46 hw) (w47 hw) (by decide) at_146 (rest := []) rfl rfl (lenOf pd10 rfl) rfl (by decide) (Nat.le_of_ble_eq_true rfl) (by decide) (by decide) (q := 149) rfl ?_
        intro v101 vm101 T101 h101 l101 X101 R101 q101
        obtain ⟨r101, rfl, K101, q101⟩ := q101
        show Goes p e below _ T101 (mkF m 149 #[.val (.long xx), .second, .val (.int p1), .val (.int fr), .val (.int (4 : Int32)), .val (.ref b1), .val (.ref t93), .val (.int (1 : Int32))] [(.int r101)])
        obtain rfl : r101 = (1 : Int32) := own_uniq q101 (own_exp1_4 ha0 ha1)
        refine o_iload X101 at_149 rfl (q := 151) rfl ?_
        refine o_icmpN X101 at_151 (by decide) (q := 154) rfl ?_
        refine o_iconst X101 at_154 (w := 1) rfl (q := 155) rfl ?_
        refine o_goto X101 at_155 (by decide) (q := 159) (by decide) ?_
        exact o_retN X101 at_159 (by simp) (fun Sf hSf => rfl) (by decide) (by decide)
      · refine o_ifY X99 at_95 (by decide) (by decide) (q := 104) (by decide) ?_
        refine o_aload X99 at_104 rfl rfl (q := 106) rfl ?_
        refine o_iload X99 at_106 rfl (q := 108) rfl ?_
        refine o_iloadN X99 at_108 rfl (q := 109) rfl ?_
        refine o_iconst X99 at_109 (w := 2) rfl (q := 110) rfl ?_
        have f102 := f98
        refine o_stat X99 [(.ref b1), (.int (4 : Int32)), (.int fr), (.int (2 : Int32))] (y' := (⟨"anchorlog/AnchorPatternNextAnchorPinLaw", "at", "([CIII)Z"⟩ : MethodName)) (c_at2 hw b1 k1 (4 : Int32) fr c0 c1 c2 c3 c4 _ f102) all0 (w41 hw) (w42 hw) (w4 hw) (w43 hw) (by decide) at_110 (rest := []) rfl rfl (lenOf pd14 rfl) rfl (by decide) (Nat.le_of_ble_eq_true rfl) (by decide) (by decide) (q := 113) rfl ?_
        intro v103 vm103 T103 h103 l103 X103 R103 q103
        obtain ⟨r103, rfl, e103, ha2⟩ := q103
        have e103 := e103.symm
        subst e103
        show Goes p e below _ T103 (mkF m 113 #[.val (.long xx), .second, .val (.int p1), .val (.int fr), .val (.int (4 : Int32)), .val (.ref b1), .val (.ref t93), .unset] [(.int r103)])
        rcases ha2 with ⟨rfl, ha2⟩ | ⟨rfl, ha2⟩
        · refine o_ifN X103 at_113 (by decide) (q := 116) rfl ?_
          refine o_iconst X103 at_116 (w := 2) rfl (q := 117) rfl ?_
          refine o_istore X103 at_117 rfl (L' := #[.val (.long xx), .second, .val (.int p1), .val (.int fr), .val (.int (4 : Int32)), .val (.ref b1), .val (.ref t93), .val (.int (2 : Int32))]) rfl (q := 119) rfl ?_
          refine o_goto X103 at_119 (by decide) (q := 143) (by decide) ?_
          refine o_aload X103 at_143 rfl rfl (q := 145) rfl ?_
          refine o_iloadN X103 at_145 rfl (q := 146) rfl ?_
          have f104 := L93
          refine o_stat X103 [(.ref t93), (.int fr)] (y' := (⟨"anchorlog/AnchorPattern", "nextAnchor", "(Ljava/lang/String;I)I"⟩ : MethodName)) (c_next hw t93 b93 kb93 [c0, c1, c2, c3] fr _ zc fm O2 P5 O4 rfm f104) all0 (w44 hw) (w45 hw) (w46 hw) (w47 hw) (by decide) at_146 (rest := []) rfl rfl (lenOf pd10 rfl) rfl (by decide) (Nat.le_of_ble_eq_true rfl) (by decide) (by decide) (q := 149) rfl ?_
          intro v105 vm105 T105 h105 l105 X105 R105 q105
          obtain ⟨r105, rfl, K105, q105⟩ := q105
          show Goes p e below _ T105 (mkF m 149 #[.val (.long xx), .second, .val (.int p1), .val (.int fr), .val (.int (4 : Int32)), .val (.ref b1), .val (.ref t93), .val (.int (2 : Int32))] [(.int r105)])
          obtain rfl : r105 = (2 : Int32) := own_uniq q105 (own_exp2_4 ha0 ha1 ha2)
          refine o_iload X105 at_149 rfl (q := 151) rfl ?_
          refine o_icmpN X105 at_151 (by decide) (q := 154) rfl ?_
          refine o_iconst X105 at_154 (w := 1) rfl (q := 155) rfl ?_
          refine o_goto X105 at_155 (by decide) (q := 159) (by decide) ?_
          exact o_retN X105 at_159 (by simp) (fun Sf hSf => rfl) (by decide) (by decide)
        · refine o_ifY X103 at_113 (by decide) (by decide) (q := 122) (by decide) ?_
          refine o_aload X103 at_122 rfl rfl (q := 124) rfl ?_
          refine o_iload X103 at_124 rfl (q := 126) rfl ?_
          refine o_iloadN X103 at_126 rfl (q := 127) rfl ?_
          refine o_iconst X103 at_127 (w := 3) rfl (q := 128) rfl ?_
          have f106 := f102
          refine o_stat X103 [(.ref b1), (.int (4 : Int32)), (.int fr), (.int (3 : Int32))] (y' := (⟨"anchorlog/AnchorPatternNextAnchorPinLaw", "at", "([CIII)Z"⟩ : MethodName)) (c_at3 hw b1 k1 (4 : Int32) fr c0 c1 c2 c3 c4 _ f106) all0 (w41 hw) (w42 hw) (w4 hw) (w43 hw) (by decide) at_128 (rest := []) rfl rfl (lenOf pd14 rfl) rfl (by decide) (Nat.le_of_ble_eq_true rfl) (by decide) (by decide) (q := 131) rfl ?_
          intro v107 vm107 T107 h107 l107 X107 R107 q107
          obtain ⟨r107, rfl, e107, ha3⟩ := q107
          have e107 := e107.symm
          subst e107
          show Goes p e below _ T107 (mkF m 131 #[.val (.long xx), .second, .val (.int p1), .val (.int fr), .val (.int (4 : Int32)), .val (.ref b1), .val (.ref t93), .unset] [(.int r107)])
          rcases ha3 with ⟨rfl, ha3⟩ | ⟨rfl, ha3⟩
          · refine o_ifN X107 at_131 (by decide) (q := 134) rfl ?_
            refine o_iconst X107 at_134 (w := 3) rfl (q := 135) rfl ?_
            refine o_istore X107 at_135 rfl (L' := #[.val (.long xx), .second, .val (.int p1), .val (.int fr), .val (.int (4 : Int32)), .val (.ref b1), .val (.ref t93), .val (.int (3 : Int32))]) rfl (q := 137) rfl ?_
            refine o_goto X107 at_137 (by decide) (q := 143) (by decide) ?_
            refine o_aload X107 at_143 rfl rfl (q := 145) rfl ?_
            refine o_iloadN X107 at_145 rfl (q := 146) rfl ?_
            have f108 := L93
            refine o_stat X107 [(.ref t93), (.int fr)] (y' := (⟨"anchorlog/AnchorPattern", "nextAnchor", "(Ljava/lang/String;I)I"⟩ : MethodName)) (c_next hw t93 b93 kb93 [c0, c1, c2, c3] fr _ zc fm O2 P5 O4 rfm f108) all0 (w44 hw) (w45 hw) (w46 hw) (w47 hw) (by decide) at_146 (rest := []) rfl rfl (lenOf pd10 rfl) rfl (by decide) (Nat.le_of_ble_eq_true rfl) (by decide) (by decide) (q := 149) rfl ?_
            intro v109 vm109 T109 h109 l109 X109 R109 q109
            obtain ⟨r109, rfl, K109, q109⟩ := q109
            show Goes p e below _ T109 (mkF m 149 #[.val (.long xx), .second, .val (.int p1), .val (.int fr), .val (.int (4 : Int32)), .val (.ref b1), .val (.ref t93), .val (.int (3 : Int32))] [(.int r109)])
            obtain rfl : r109 = (3 : Int32) := own_uniq q109 (own_exp3_4 ha0 ha1 ha2 ha3)
            refine o_iload X109 at_149 rfl (q := 151) rfl ?_
            refine o_icmpN X109 at_151 (by decide) (q := 154) rfl ?_
            refine o_iconst X109 at_154 (w := 1) rfl (q := 155) rfl ?_
            refine o_goto X109 at_155 (by decide) (q := 159) (by decide) ?_
            exact o_retN X109 at_159 (by simp) (fun Sf hSf => rfl) (by decide) (by decide)
          · refine o_ifY X107 at_131 (by decide) (by decide) (q := 140) (by decide) ?_
            refine o_iconst X107 at_140 (w := -1) rfl (q := 141) rfl ?_
            refine o_istore X107 at_141 rfl (L' := #[.val (.long xx), .second, .val (.int p1), .val (.int fr), .val (.int (4 : Int32)), .val (.ref b1), .val (.ref t93), .val (.int (-1 : Int32))]) rfl (q := 143) rfl ?_
            refine o_aload X107 at_143 rfl rfl (q := 145) rfl ?_
            refine o_iloadN X107 at_145 rfl (q := 146) rfl ?_
            have f110 := L93
            refine o_stat X107 [(.ref t93), (.int fr)] (y' := (⟨"anchorlog/AnchorPattern", "nextAnchor", "(Ljava/lang/String;I)I"⟩ : MethodName)) (c_next hw t93 b93 kb93 [c0, c1, c2, c3] fr _ zc fm O2 P5 O4 rfm f110) all0 (w44 hw) (w45 hw) (w46 hw) (w47 hw) (by decide) at_146 (rest := []) rfl rfl (lenOf pd10 rfl) rfl (by decide) (Nat.le_of_ble_eq_true rfl) (by decide) (by decide) (q := 149) rfl ?_
            intro v111 vm111 T111 h111 l111 X111 R111 q111
            obtain ⟨r111, rfl, K111, q111⟩ := q111
            show Goes p e below _ T111 (mkF m 149 #[.val (.long xx), .second, .val (.int p1), .val (.int fr), .val (.int (4 : Int32)), .val (.ref b1), .val (.ref t93), .val (.int (-1 : Int32))] [(.int r111)])
            obtain rfl : r111 = (-1 : Int32) := own_uniq q111 (own_expm_4 ha0 ha1 ha2 ha3)
            refine o_iload X111 at_149 rfl (q := 151) rfl ?_
            refine o_icmpN X111 at_151 (by decide) (q := 154) rfl ?_
            refine o_iconst X111 at_154 (w := 1) rfl (q := 155) rfl ?_
            refine o_goto X111 at_155 (by decide) (q := 159) (by decide) ?_
            exact o_retN X111 at_159 (by simp) (fun Sf hSf => rfl) (by decide) (by decide)
  · refine o_stat X16 [(.int (5 : Int32)), (.ref b1)] (y' := (⟨"anchorlog/AnchorPatternNextAnchorPinLaw", "make", "(I[C)Ljava/lang/String;"⟩ : MethodName)) (c_make5 hw b1 k1 c0 c1 c2 c3 c4 _ zc O2 P5 V16 hc0 hc1 hc2 hc3 hc4) all0 (w9 hw) (w10 hw) (w4 hw) (w11 hw) (by decide) at_63 (rest := []) rfl rfl (lenOf pd13 rfl) rfl (by decide) (Nat.le_of_ble_eq_true rfl) (by decide) (by decide) (q := 66) rfl ?_
    intro v112 vm112 T112 h112 l112 X112 R112 q112
    obtain ⟨t112, b112, kb112, rfl, K112, L112⟩ := q112
    show Goes p e below _ T112 (mkF m 66 #[.val (.long xx), .second, .val (.int p1), .val (.int fr), .val (.int (5 : Int32)), .val (.ref b1), .unset, .unset] [(.ref t112)])
    refine o_astore X112 at_66 rfl (L' := #[.val (.long xx), .second, .val (.int p1), .val (.int fr), .val (.int (5 : Int32)), .val (.ref b1), .val (.ref t112), .unset]) rfl (q := 68) rfl ?_
    refine o_aload X112 at_68 rfl rfl (q := 70) rfl ?_
    refine o_iload X112 at_70 rfl (q := 72) rfl ?_
    refine o_iloadN X112 at_72 rfl (q := 73) rfl ?_
    refine o_iconst X112 at_73 (w := 0) rfl (q := 74) rfl ?_
    have f113 := (V16.keep K112 nin0)
    refine o_stat X112 [(.ref b1), (.int (5 : Int32)), (.int fr), (.int (0 : Int32))] (y' := (⟨"anchorlog/AnchorPatternNextAnchorPinLaw", "at", "([CIII)Z"⟩ : MethodName)) (c_at0 hw b1 k1 (5 : Int32) fr c0 c1 c2 c3 c4 _ f113) all0 (w41 hw) (w42 hw) (w4 hw) (w43 hw) (by decide) at_74 (rest := []) rfl rfl (lenOf pd14 rfl) rfl (by decide) (Nat.le_of_ble_eq_true rfl) (by decide) (by decide) (q := 77) rfl ?_
    intro v114 vm114 T114 h114 l114 X114 R114 q114
    obtain ⟨r114, rfl, e114, ha0⟩ := q114
    have e114 := e114.symm
    subst e114
    show Goes p e below _ T114 (mkF m 77 #[.val (.long xx), .second, .val (.int p1), .val (.int fr), .val (.int (5 : Int32)), .val (.ref b1), .val (.ref t112), .unset] [(.int r114)])
    rcases ha0 with ⟨rfl, ha0⟩ | ⟨rfl, ha0⟩
    · refine o_ifN X114 at_77 (by decide) (q := 80) rfl ?_
      refine o_iconst X114 at_80 (w := 0) rfl (q := 81) rfl ?_
      refine o_istore X114 at_81 rfl (L' := #[.val (.long xx), .second, .val (.int p1), .val (.int fr), .val (.int (5 : Int32)), .val (.ref b1), .val (.ref t112), .val (.int (0 : Int32))]) rfl (q := 83) rfl ?_
      refine o_goto X114 at_83 (by decide) (q := 143) (by decide) ?_
      refine o_aload X114 at_143 rfl rfl (q := 145) rfl ?_
      refine o_iloadN X114 at_145 rfl (q := 146) rfl ?_
      have f115 := L112
      refine o_stat X114 [(.ref t112), (.int fr)] (y' := (⟨"anchorlog/AnchorPattern", "nextAnchor", "(Ljava/lang/String;I)I"⟩ : MethodName)) (c_next hw t112 b112 kb112 [c0, c1, c2, c3, c4] fr _ zc fm O2 P5 O4 rfm f115) all0 (w44 hw) (w45 hw) (w46 hw) (w47 hw) (by decide) at_146 (rest := []) rfl rfl (lenOf pd10 rfl) rfl (by decide) (Nat.le_of_ble_eq_true rfl) (by decide) (by decide) (q := 149) rfl ?_
      intro v116 vm116 T116 h116 l116 X116 R116 q116
      obtain ⟨r116, rfl, K116, q116⟩ := q116
      show Goes p e below _ T116 (mkF m 149 #[.val (.long xx), .second, .val (.int p1), .val (.int fr), .val (.int (5 : Int32)), .val (.ref b1), .val (.ref t112), .val (.int (0 : Int32))] [(.int r116)])
      obtain rfl : r116 = (0 : Int32) := own_uniq q116 (own_exp0_5 ha0)
      refine o_iload X116 at_149 rfl (q := 151) rfl ?_
      refine o_icmpN X116 at_151 (by decide) (q := 154) rfl ?_
      refine o_iconst X116 at_154 (w := 1) rfl (q := 155) rfl ?_
      refine o_goto X116 at_155 (by decide) (q := 159) (by decide) ?_
      exact o_retN X116 at_159 (by simp) (fun Sf hSf => rfl) (by decide) (by decide)
    · refine o_ifY X114 at_77 (by decide) (by decide) (q := 86) (by decide) ?_
      refine o_aload X114 at_86 rfl rfl (q := 88) rfl ?_
      refine o_iload X114 at_88 rfl (q := 90) rfl ?_
      refine o_iloadN X114 at_90 rfl (q := 91) rfl ?_
      refine o_iconst X114 at_91 (w := 1) rfl (q := 92) rfl ?_
      have f117 := f113
      refine o_stat X114 [(.ref b1), (.int (5 : Int32)), (.int fr), (.int (1 : Int32))] (y' := (⟨"anchorlog/AnchorPatternNextAnchorPinLaw", "at", "([CIII)Z"⟩ : MethodName)) (c_at1 hw b1 k1 (5 : Int32) fr c0 c1 c2 c3 c4 _ f117) all0 (w41 hw) (w42 hw) (w4 hw) (w43 hw) (by decide) at_92 (rest := []) rfl rfl (lenOf pd14 rfl) rfl (by decide) (Nat.le_of_ble_eq_true rfl) (by decide) (by decide) (q := 95) rfl ?_
      intro v118 vm118 T118 h118 l118 X118 R118 q118
      obtain ⟨r118, rfl, e118, ha1⟩ := q118
      have e118 := e118.symm
      subst e118
      show Goes p e below _ T118 (mkF m 95 #[.val (.long xx), .second, .val (.int p1), .val (.int fr), .val (.int (5 : Int32)), .val (.ref b1), .val (.ref t112), .unset] [(.int r118)])
      rcases ha1 with ⟨rfl, ha1⟩ | ⟨rfl, ha1⟩
      · refine o_ifN X118 at_95 (by decide) (q := 98) rfl ?_
        refine o_iconst X118 at_98 (w := 1) rfl (q := 99) rfl ?_
        refine o_istore X118 at_99 rfl (L' := #[.val (.long xx), .second, .val (.int p1), .val (.int fr), .val (.int (5 : Int32)), .val (.ref b1), .val (.ref t112), .val (.int (1 : Int32))]) rfl (q := 101) rfl ?_
        refine o_goto X118 at_101 (by decide) (q := 143) (by decide) ?_
        refine o_aload X118 at_143 rfl rfl (q := 145) rfl ?_
        refine o_iloadN X118 at_145 rfl (q := 146) rfl ?_
        have f119 := L112
        refine o_stat X118 [(.ref t112), (.int fr)] (y' := (⟨"anchorlog/AnchorPattern", "nextAnchor", "(Ljava/lang/String;I)I"⟩ : MethodName)) (c_next hw t112 b112 kb112 [c0, c1, c2, c3, c4] fr _ zc fm O2 P5 O4 rfm f119) all0 (w44 hw) (w45 hw) (w46 hw) (w47 hw) (by decide) at_146 (rest := []) rfl rfl (lenOf pd10 rfl) rfl (by decide) (Nat.le_of_ble_eq_true rfl) (by decide) (by decide) (q := 149) rfl ?_
        intro v120 vm120 T120 h120 l120 X120 R120 q120
        obtain ⟨r120, rfl, K120, q120⟩ := q120
        show Goes p e below _ T120 (mkF m 149 #[.val (.long xx), .second, .val (.int p1), .val (.int fr), .val (.int (5 : Int32)), .val (.ref b1), .val (.ref t112), .val (.int (1 : Int32))] [(.int r120)])
        obtain rfl : r120 = (1 : Int32) := own_uniq q120 (own_exp1_5 ha0 ha1)
        refine o_iload X120 at_149 rfl (q := 151) rfl ?_
        refine o_icmpN X120 at_151 (by decide) (q := 154) rfl ?_
        refine o_iconst X120 at_154 (w := 1) rfl (q := 155) rfl ?_
        refine o_goto X120 at_155 (by decide) (q := 159) (by decide) ?_
        exact o_retN X120 at_159 (by simp) (fun Sf hSf => rfl) (by decide) (by decide)
      · refine o_ifY X118 at_95 (by decide) (by decide) (q := 104) (by decide) ?_
        refine o_aload X118 at_104 rfl rfl (q := 106) rfl ?_
        refine o_iload X118 at_106 rfl (q := 108) rfl ?_
        refine o_iloadN X118 at_108 rfl (q := 109) rfl ?_
        refine o_iconst X118 at_109 (w := 2) rfl (q := 110) rfl ?_
        have f121 := f117
        refine o_stat X118 [(.ref b1), (.int (5 : Int32)), (.int fr), (.int (2 : Int32))] (y' := (⟨"anchorlog/AnchorPatternNextAnchorPinLaw", "at", "([CIII)Z"⟩ : MethodName)) (c_at2 hw b1 k1 (5 : Int32) fr c0 c1 c2 c3 c4 _ f121) all0 (w41 hw) (w42 hw) (w4 hw) (w43 hw) (by decide) at_110 (rest := []) rfl rfl (lenOf pd14 rfl) rfl (by decide) (Nat.le_of_ble_eq_true rfl) (by decide) (by decide) (q := 113) rfl ?_
        intro v122 vm122 T122 h122 l122 X122 R122 q122
        obtain ⟨r122, rfl, e122, ha2⟩ := q122
        have e122 := e122.symm
        subst e122
        show Goes p e below _ T122 (mkF m 113 #[.val (.long xx), .second, .val (.int p1), .val (.int fr), .val (.int (5 : Int32)), .val (.ref b1), .val (.ref t112), .unset] [(.int r122)])
        rcases ha2 with ⟨rfl, ha2⟩ | ⟨rfl, ha2⟩
        · refine o_ifN X122 at_113 (by decide) (q := 116) rfl ?_
          refine o_iconst X122 at_116 (w := 2) rfl (q := 117) rfl ?_
          refine o_istore X122 at_117 rfl (L' := #[.val (.long xx), .second, .val (.int p1), .val (.int fr), .val (.int (5 : Int32)), .val (.ref b1), .val (.ref t112), .val (.int (2 : Int32))]) rfl (q := 119) rfl ?_
          refine o_goto X122 at_119 (by decide) (q := 143) (by decide) ?_
          refine o_aload X122 at_143 rfl rfl (q := 145) rfl ?_
          refine o_iloadN X122 at_145 rfl (q := 146) rfl ?_
          have f123 := L112
          refine o_stat X122 [(.ref t112), (.int fr)] (y' := (⟨"anchorlog/AnchorPattern", "nextAnchor", "(Ljava/lang/String;I)I"⟩ : MethodName)) (c_next hw t112 b112 kb112 [c0, c1, c2, c3, c4] fr _ zc fm O2 P5 O4 rfm f123) all0 (w44 hw) (w45 hw) (w46 hw) (w47 hw) (by decide) at_146 (rest := []) rfl rfl (lenOf pd10 rfl) rfl (by decide) (Nat.le_of_ble_eq_true rfl) (by decide) (by decide) (q := 149) rfl ?_
          intro v124 vm124 T124 h124 l124 X124 R124 q124
          obtain ⟨r124, rfl, K124, q124⟩ := q124
          show Goes p e below _ T124 (mkF m 149 #[.val (.long xx), .second, .val (.int p1), .val (.int fr), .val (.int (5 : Int32)), .val (.ref b1), .val (.ref t112), .val (.int (2 : Int32))] [(.int r124)])
          obtain rfl : r124 = (2 : Int32) := own_uniq q124 (own_exp2_5 ha0 ha1 ha2)
          refine o_iload X124 at_149 rfl (q := 151) rfl ?_
          refine o_icmpN X124 at_151 (by decide) (q := 154) rfl ?_
          refine o_iconst X124 at_154 (w := 1) rfl (q := 155) rfl ?_
          refine o_goto X124 at_155 (by decide) (q := 159) (by decide) ?_
          exact o_retN X124 at_159 (by simp) (fun Sf hSf => rfl) (by decide) (by decide)
        · refine o_ifY X122 at_113 (by decide) (by decide) (q := 122) (by decide) ?_
          refine o_aload X122 at_122 rfl rfl (q := 124) rfl ?_
          refine o_iload X122 at_124 rfl (q := 126) rfl ?_
          refine o_iloadN X122 at_126 rfl (q := 127) rfl ?_
          refine o_iconst X122 at_127 (w := 3) rfl (q := 128) rfl ?_
          have f125 := f121
          refine o_stat X122 [(.ref b1), (.int (5 : Int32)), (.int fr), (.int (3 : Int32))] (y' := (⟨"anchorlog/AnchorPatternNextAnchorPinLaw", "at", "([CIII)Z"⟩ : MethodName)) (c_at3 hw b1 k1 (5 : Int32) fr c0 c1 c2 c3 c4 _ f125) all0 (w41 hw) (w42 hw) (w4 hw) (w43 hw) (by decide) at_128 (rest := []) rfl rfl (lenOf pd14 rfl) rfl (by decide) (Nat.le_of_ble_eq_true rfl) (by decide) (by decide) (q := 131) rfl ?_
          intro v126 vm126 T126 h126 l126 X126 R126 q126
          obtain ⟨r126, rfl, e126, ha3⟩ := q126
          have e126 := e126.symm
          subst e126
          show Goes p e below _ T126 (mkF m 131 #[.val (.long xx), .second, .val (.int p1), .val (.int fr), .val (.int (5 : Int32)), .val (.ref b1), .val (.ref t112), .unset] [(.int r126)])
          rcases ha3 with ⟨rfl, ha3⟩ | ⟨rfl, ha3⟩
          · refine o_ifN X126 at_131 (by decide) (q := 134) rfl ?_
            refine o_iconst X126 at_134 (w := 3) rfl (q := 135) rfl ?_
            refine o_istore X126 at_135 rfl (L' := #[.val (.long xx), .second, .val (.int p1), .val (.int fr), .val (.int (5 : Int32)), .val (.ref b1), .val (.ref t112), .val (.int (3 : Int32))]) rfl (q := 137) rfl ?_
            refine o_goto X126 at_137 (by decide) (q := 143) (by decide) ?_
            refine o_aload X126 at_143 rfl rfl (q := 145) rfl ?_
            refine o_iloadN X126 at_145 rfl (q := 146) rfl ?_
            have f127 := L112
            refine o_stat X126 [(.ref t112), (.int fr)] (y' := (⟨"anchorlog/AnchorPattern", "nextAnchor", "(Ljava/lang/String;I)I"⟩ : MethodName)) (c_next hw t112 b112 kb112 [c0, c1, c2, c3, c4] fr _ zc fm O2 P5 O4 rfm f127) all0 (w44 hw) (w45 hw) (w46 hw) (w47 hw) (by decide) at_146 (rest := []) rfl rfl (lenOf pd10 rfl) rfl (by decide) (Nat.le_of_ble_eq_true rfl) (by decide) (by decide) (q := 149) rfl ?_
            intro v128 vm128 T128 h128 l128 X128 R128 q128
            obtain ⟨r128, rfl, K128, q128⟩ := q128
            show Goes p e below _ T128 (mkF m 149 #[.val (.long xx), .second, .val (.int p1), .val (.int fr), .val (.int (5 : Int32)), .val (.ref b1), .val (.ref t112), .val (.int (3 : Int32))] [(.int r128)])
            obtain rfl : r128 = (3 : Int32) := own_uniq q128 (own_exp3_5 ha0 ha1 ha2 ha3)
            refine o_iload X128 at_149 rfl (q := 151) rfl ?_
            refine o_icmpN X128 at_151 (by decide) (q := 154) rfl ?_
            refine o_iconst X128 at_154 (w := 1) rfl (q := 155) rfl ?_
            refine o_goto X128 at_155 (by decide) (q := 159) (by decide) ?_
            exact o_retN X128 at_159 (by simp) (fun Sf hSf => rfl) (by decide) (by decide)
          · refine o_ifY X126 at_131 (by decide) (by decide) (q := 140) (by decide) ?_
            refine o_iconst X126 at_140 (w := -1) rfl (q := 141) rfl ?_
            refine o_istore X126 at_141 rfl (L' := #[.val (.long xx), .second, .val (.int p1), .val (.int fr), .val (.int (5 : Int32)), .val (.ref b1), .val (.ref t112), .val (.int (-1 : Int32))]) rfl (q := 143) rfl ?_
            refine o_aload X126 at_143 rfl rfl (q := 145) rfl ?_
            refine o_iloadN X126 at_145 rfl (q := 146) rfl ?_
            have f129 := L112
            refine o_stat X126 [(.ref t112), (.int fr)] (y' := (⟨"anchorlog/AnchorPattern", "nextAnchor", "(Ljava/lang/String;I)I"⟩ : MethodName)) (c_next hw t112 b112 kb112 [c0, c1, c2, c3, c4] fr _ zc fm O2 P5 O4 rfm f129) all0 (w44 hw) (w45 hw) (w46 hw) (w47 hw) (by decide) at_146 (rest := []) rfl rfl (lenOf pd10 rfl) rfl (by decide) (Nat.le_of_ble_eq_true rfl) (by decide) (by decide) (q := 149) rfl ?_
            intro v130 vm130 T130 h130 l130 X130 R130 q130
            obtain ⟨r130, rfl, K130, q130⟩ := q130
            show Goes p e below _ T130 (mkF m 149 #[.val (.long xx), .second, .val (.int p1), .val (.int fr), .val (.int (5 : Int32)), .val (.ref b1), .val (.ref t112), .val (.int (-1 : Int32))] [(.int r130)])
            obtain rfl : r130 = (-1 : Int32) := own_uniq q130 (own_expm_5 ha0 ha1 ha2 ha3)
            refine o_iload X130 at_149 rfl (q := 151) rfl ?_
            refine o_icmpN X130 at_151 (by decide) (q := 154) rfl ?_
            refine o_iconst X130 at_154 (w := 1) rfl (q := 155) rfl ?_
            refine o_goto X130 at_155 (by decide) (q := 159) (by decide) ?_
            exact o_retN X130 at_159 (by simp) (fun Sf hSf => rfl) (by decide) (by decide)
set_option maxRecDepth 65536 in
set_option maxHeartbeats 40000000 in
theorem comes_1 {Post : Tables → Env → Array Value → State → Outcome → State → Prop} (hpost : ∀ tb e args s v u, (limb_1_1.after args s (.returned v) u = true ∧ limb_1_2.after args s (.returned v) u = true ∧ True) → ReturnedEndW s (.returned v) u (Jvm.fieldLocs frame_1_writes args s ++ Jvm.arrayLocs frame_1_arrays args s ++ Jvm.staticLocs frame_1_statics s) 24 2176 → Post tb e args s (.returned v) u) :
    ArmFor flags0 classFile x code maxLocals ret World_1 tables_1 room_1 Calls_1 rest_1 Pre_1 Post := by
  intro l hfl _ _ p e ha hc hk s m args below hf hA hF happ hP
  obtain ⟨hcalls, hrest, hpre⟩ := hP
  obtain ⟨-, -, -, hnamed, -, -, -, hat⟩ := (Spec.applies_iff hf).mp happ
  obtain ⟨hg, hn⟩ := and_e (Cond.before_iff.mp (show (Jvm.Cond.and given_1 narrow_1).before args s = true from hpre))
  obtain ⟨hcount, hg0⟩ := and_e hg
  obtain ⟨ga0, hg1⟩ := and_e hg0
  obtain ⟨ga1, hg2⟩ := and_e hg1
  obtain ⟨w0, w1, w2, rfl⟩ : ∃ w0 w1 w2 : Value, args = #[w0, w1, w2] := by
    have hs : args.size = 3 := by simpa [Cond.value, given_1] using hcount
    obtain ⟨L⟩ := args
    match L, hs with
    | [w0, w1, w2], _ => exact ⟨w0, w1, w2, rfl⟩
  have hw : W _ s := fun d (hd : d ∈ tables_1) => atoms_spec (ws := Jvm.Cond.code x code maxLocals ret :: tables_1) hat d (List.mem_cons_of_mem _ hd)
  obtain ⟨hsets, hown0⟩ := atoms_of _ (rest_1_c_eq ▸ (show rest_1_c.before _ s = true from hrest))
  obtain ⟨i0, ei0⟩ := isL_v ga0
  obtain rfl : w0 = (.long i0) := Option.some.inj ei0
  obtain ⟨i1, ei1⟩ := is_v ga1
  obtain rfl : w1 = (.int i1) := Option.some.inj ei1
  obtain ⟨i2, ei2⟩ := is_v hg2
  obtain rfl : w2 = (.int i2) := Option.some.inj ei2
  obtain ⟨zc, ezc⟩ := is_v (Cond.before_iff.mp (hsets _ (List.mem_of_getElem? (i := 1) rfl)))
  have O2 : Sta s s.heap "java/lang/String" "COMPACT_STRINGS" "Z" (.int zc) := Sta.start ezc (Or.inl (hsets _ (List.mem_of_getElem? (i := 0) rfl)))
  have P5 : ¬ (zc = (0 : Int32)) := gotF (Cond.eq_ints ezc (Term.int_eval (0))) (not_v (Cond.before_iff.mp (hsets _ (List.mem_of_getElem? (i := 2) rfl))))
  obtain ⟨fm, efm, rfm⟩ := isR_v (Cond.before_iff.mp (hsets _ (List.mem_of_getElem? (i := 8) rfl)))
  have O4 : Sta s s.heap "jdk/internal/util/Preconditions" "SIOOBE_FORMATTER" "Ljava/util/function/BiFunction;" fm := Sta.start efm (Or.inl (hsets _ (List.mem_of_getElem? (i := 7) rfl)))
  have hEW : EW s _ EL0 := (EW.cons (w105 hw) (by decide) (EW.cons (w86 hw) (by decide) EW.nil))
  have hhe : ∀ p ∈ EL0, Jvm.Lit.constHeld s p.1 p.2 := fun p hp => hcalls.1 p hp
  have hcw : Jvm.Lit.compactW.before _ s = true := (hsets _ (List.mem_of_getElem? (i := 2) rfl))
  have hCH : CHv s EL0 s.vm s.heap := CHv.start hEW hhe hcw (w30 hw) (w13 hw)
  obtain ⟨n, o, h1, h2, h3, v, L, rfl, ⟨hQ, hN, -⟩, -, hq⟩ := c_law (l := l) hw i0 i1 i2 zc fm O2 P5 O4 rfm ⟨_, hEW⟩ ⟨Nat.le_refl _, fun _ _ q => q⟩ tables_1 p e ha hc hk s m _ below hf ((Spec.applies_iff_loose hf).mp happ).1 ⟨rfl, State.Warmed39.refl s, rfl, hCH, all0⟩ trivial
  subst hQ
  refine ⟨n, _, h1, h2, h3, hpost _ _ _ _ _ _ ⟨Cond.after_iff.mpr rfl, Cond.after_iff.mpr (eq_i res_at (Term.int_eval (1)) rfl), trivial⟩ ⟨hq.1, hq.2.1, hq.2.2.1, (hq.2.2.2.sift fun y hy => Or.inr (hN y hy)).mono (by decide) (by decide)⟩⟩
theorem main_1_1 : Claimed_1_1 := comes_1 fun _ _ _ _ _ _ h hF => ⟨h.1, hF⟩
theorem main_1_2 : Claimed_1_2 := comes_1 fun _ _ _ _ _ _ h hF => ⟨h.2.1, hF⟩
end Jvm.Pilot.@@N@@
namespace Jvm.Pilot.@@N@@
open Jvm Jvm.ClassFile Sem Op Lib Jvm.Free Jvm.Stand Jvm.Pilot.@@N@@.Jvm.D
/-! MADE BY PROGRAM (witnessworld.py) out of the Statement's table words and the real class files: 21 classes; the members and pool entries that the words name. The judged class is class 1, her method 4. -/
namespace start1
open Jvm.ClassFile
def u (s : String) : CpInfo := .utf8 (stringToUtf16 s)
/-- a pool by its gaps: so many unusable entries, then the entry; so many at the end -/
def gap : Nat → List CpInfo → List CpInfo
  | 0, r => r
  | n + 1, r => .unusable :: gap n r
def poolList (es : List (Nat × CpInfo)) (last : Nat) : List CpInfo := es.foldr (fun e r => gap e.1 (e.2 :: r)) (gap last [])
def pool (es : List (Nat × CpInfo)) (last : Nat) : Array CpInfo := ⟨poolList es last⟩
def fileOf (pool : Array CpInfo) (this : Nat) (attrs : Array Attribute := #[]) (ms : Array MethodInfo := #[]) (fl : Nat := 33) (sup : Nat := 0) (ifs : Array Nat := #[]) (fds : Array FieldInfo := #[]) : ClassFile where
  minorVersion := 0
  majorVersion := 65
  constantPool := pool
  accessFlags := fl
  thisClass := this
  superClass := sup
  interfaces := ifs
  fields := fds
  methods := ms
  attributes := attrs
def plain (name : String) (sup : Option ClassId) : Class where
  name := name
  kind := .ordinary
  loader := none
  accessFlags := 33
  super := sup
  interfaces := #[]
  cf := none
  fields := #[]
  methods := #[]
  instanceTypes := #[]
  staticTypes := #[]
  resolved := #[]
  callSites := []
  init := .initialized
  statics := none
  mirror := none

def pool0 : Array CpInfo := pool [(5, u "<init>"), (0, u "()V"), (1, .class_ 10), (1, u "java/lang/Object")] 113

def k0c0 : Code := { maxStack := 0, maxLocals := 1, code := object_method_1_code, exceptionTable := #[], attributes := #[] }
def k0m0 : Method := { name := "<init>", desc := "()V", sig := { parameters := [], returnType := none }, accessFlags := 1, code := some k0c0 }
/-- java/lang/Object -/
def k0 : Class := { plain "java/lang/Object" none with
  accessFlags := 33
  interfaces := #[]
  cf := some (fileOf pool0 8 #[] #[{ accessFlags := 1, nameIndex := 5, descriptorIndex := 6, attributes := #[] }] 33 0 #[] #[])
  fields := #[]
  methods := #[k0m0]
  instanceTypes := #[]
  staticTypes := #[]
  resolved := Array.replicate 124 none
  statics := none }

def pool1 : Array CpInfo := pool [(2, .class_ 4), (1, u "java/lang/Object"), (0, u "<init>"), (0, u "()V"), (0, .long 1023), (1, .long 3), (1, .long 255), (1, .class_ 14), (0, u "java/lang/String"), (0, .methodref 13 16), (0, .nameAndType 5 17), (0, u "([C)V"), (0, .integer 2147483647), (0, .methodref 20 21), (0, .class_ 22), (0, .nameAndType 23 24), (0, u "anchorlog/AnchorPatternNextAnchorPinLaw"), (0, u "ch"), (0, u "(JI)C"), (0, .methodref 20 26), (0, .nameAndType 27 28), (0, u "make"), (0, u "(I[C)Ljava/lang/String;"), (0, .methodref 20 30), (0, .nameAndType 31 32), (0, u "at"), (0, u "([CIII)Z"), (0, .methodref 34 35), (0, .class_ 36), (0, .nameAndType 37 38), (0, u "anchorlog/AnchorPattern"), (0, u "nextAnchor"), (0, u "(Ljava/lang/String;I)I"), (3, u "law"), (0, u "(JII)Z")] 4

def k1m0 : Method := { name := "<init>", desc := "()V", sig := { parameters := [], returnType := none }, accessFlags := 1, code := none }
def k1c1 : Code := { maxStack := 4, maxLocals := 6, code := method_2_code, exceptionTable := #[], attributes := #[] }
def k1m1 : Method := { name := "ch", desc := "(JI)C", sig := { parameters := [.long, .int], returnType := some .char }, accessFlags := 10, code := some k1c1 }
def k1c2 : Code := { maxStack := 3, maxLocals := 4, code := method_3_code, exceptionTable := #[], attributes := #[] }
def k1m2 : Method := { name := "at", desc := "([CIII)Z", sig := { parameters := [(.array .char), .int, .int, .int], returnType := some .boolean }, accessFlags := 10, code := some k1c2 }
def k1c3 : Code := { maxStack := 7, maxLocals := 2, code := method_4_code, exceptionTable := #[], attributes := #[] }
def k1m3 : Method := { name := "make", desc := "(I[C)Ljava/lang/String;", sig := { parameters := [.int, (.array .char)], returnType := some (.object "java/lang/String") }, accessFlags := 10, code := some k1c3 }
def k1c4 : Code := { maxStack := 5, maxLocals := 8, code := code, exceptionTable := #[], attributes := #[] }
def k1m4 : Method := { name := "law", desc := "(JII)Z", sig := { parameters := [.long, .int, .int], returnType := some .boolean }, accessFlags := 9, code := some k1c4 }
/-- anchorlog/AnchorPatternNextAnchorPinLaw -/
def k1 : Class := { plain "anchorlog/AnchorPatternNextAnchorPinLaw" (some 0) with
  accessFlags := 49
  interfaces := #[]
  cf := some (fileOf pool1 20 #[] #[{ accessFlags := 1, nameIndex := 5, descriptorIndex := 6, attributes := #[] }, { accessFlags := 10, nameIndex := 23, descriptorIndex := 24, attributes := #[] }, { accessFlags := 10, nameIndex := 31, descriptorIndex := 32, attributes := #[] }, { accessFlags := 10, nameIndex := 27, descriptorIndex := 28, attributes := #[] }, { accessFlags := 9, nameIndex := 42, descriptorIndex := 43, attributes := #[] }] 49 2 #[] #[])
  fields := #[]
  methods := #[k1m0, k1m1, k1m2, k1m3, k1m4]
  instanceTypes := #[]
  staticTypes := #[]
  resolved := Array.replicate 48 none
  statics := none }

def pool2 : Array CpInfo := pool [(1, .class_ 2), (0, u "java/io/Serializable"), (0, .class_ 4), (0, u "java/lang/Object")] 2

/-- java/io/Serializable -/
def k2 : Class := { plain "java/io/Serializable" (some 0) with
  accessFlags := 1537
  interfaces := #[]
  cf := some (fileOf pool2 1 #[] #[] 1537 3 #[] #[])
  fields := #[]
  methods := #[]
  instanceTypes := #[]
  staticTypes := #[]
  resolved := Array.replicate 7 none
  statics := none }

def pool3 : Array CpInfo := pool [(1, .class_ 2), (0, u "java/lang/Comparable"), (0, .class_ 4), (0, u "java/lang/Object")] 7

/-- java/lang/Comparable -/
def k3 : Class := { plain "java/lang/Comparable" (some 0) with
  accessFlags := 1537
  interfaces := #[]
  cf := some (fileOf pool3 1 #[] #[] 1537 3 #[] #[])
  fields := #[]
  methods := #[]
  instanceTypes := #[]
  staticTypes := #[]
  resolved := Array.replicate 12 none
  statics := none }

def pool4 : Array CpInfo := pool [(2, .class_ 4), (1, u "java/lang/CharSequence"), (42, .class_ 48), (0, u "java/lang/CharSequence$1CodePointIterator"), (10, .class_ 60), (0, u "java/lang/CharSequence$1CharIterator"), (5, .class_ 67), (0, u "java/lang/Object")] 63

/-- java/lang/CharSequence -/
def k4 : Class := { plain "java/lang/CharSequence" (some 0) with
  accessFlags := 1537
  interfaces := #[]
  cf := some (fileOf pool4 2 #[.nestMembers #[47, 59]] #[] 1537 66 #[] #[])
  fields := #[]
  methods := #[]
  instanceTypes := #[]
  staticTypes := #[]
  resolved := Array.replicate 131 none
  statics := none }

def pool5 : Array CpInfo := pool [(1, .class_ 2), (0, u "java/lang/constant/Constable"), (0, .class_ 4), (0, u "java/lang/Object")] 6

/-- java/lang/constant/Constable -/
def k5 : Class := { plain "java/lang/constant/Constable" (some 0) with
  accessFlags := 1537
  interfaces := #[]
  cf := some (fileOf pool5 1 #[] #[] 1537 3 #[] #[])
  fields := #[]
  methods := #[]
  instanceTypes := #[]
  staticTypes := #[]
  resolved := Array.replicate 11 none
  statics := none }

def pool6 : Array CpInfo := pool [(1, .class_ 2), (0, u "java/lang/constant/ConstantDesc"), (0, .class_ 4), (0, u "java/lang/Object")] 32

/-- java/lang/constant/ConstantDesc -/
def k6 : Class := { plain "java/lang/constant/ConstantDesc" (some 0) with
  accessFlags := 1537
  interfaces := #[]
  cf := some (fileOf pool6 1 #[] #[] 1537 3 #[] #[])
  fields := #[]
  methods := #[]
  instanceTypes := #[]
  staticTypes := #[]
  resolved := Array.replicate 37 none
  statics := none }

def pool7 : Array CpInfo := pool [(1, .methodref 2 3), (0, .class_ 4), (0, .nameAndType 5 6), (0, u "java/lang/Object"), (0, u "<init>"), (0, u "()V"), (0, .string 8), (0, u ""), (0, .fieldref 10 11), (0, .class_ 12), (0, .nameAndType 13 14), (0, u "java/lang/String"), (0, u "value"), (0, u "[B"), (0, .fieldref 10 16), (0, .nameAndType 17 18), (0, u "coder"), (0, u "B"), (2, u "hash"), (0, u "I"), (2, u "hashIsZero"), (0, u "Z"), (0, .methodref 10 28), (0, .nameAndType 5 29), (0, u "([CIILjava/lang/Void;)V"), (8, .fieldref 10 39), (0, .nameAndType 40 26), (0, u "COMPACT_STRINGS"), (1, .class_ 44), (1, u "java/lang/StringUTF16"), (0, u "compress"), (1, .methodref 42 48), (0, .nameAndType 49 50), (0, u "coderFromArrayLen"), (0, u "([BI)B"), (56, .class_ 109), (1, u "java/lang/StringLatin1"), (32, u "()Z"), (34, .methodref 42 178), (0, .nameAndType 45 179), (0, u "([CII)[B"), (154, u "()I"), (0, .methodref 10 336), (0, .nameAndType 17 337), (0, u "()B"), (25, u "([BI)C"), (12, u "([BI[BII)I"), (14, u "(II)V"), (35, u "(I)C"), (64, .methodref 10 493), (0, .nameAndType 494 142), (0, u "isLatin1"), (0, .methodref 107 496), (0, .nameAndType 497 363), (0, u "charAt"), (3, u "checkIndex"), (3, .methodref 10 506), (0, .nameAndType 507 334), (0, u "length"), (67, .class_ 576), (0, u "java/lang/CharSequence"), (22, u "CASE_INSENSITIVE_ORDER"), (0, u "Ljava/util/Comparator;"), (34, u "indexOf"), (0, u "(II)I"), (0, .methodref 107 638), (0, .nameAndType 635 639), (0, u "([BIII)I"), (13, .methodref 10 654), (0, .nameAndType 635 655), (0, u "([BBILjava/lang/String;I)I"), (3, .methodref 660 661), (0, .class_ 662), (0, .nameAndType 663 664), (0, u "java/lang/Math"), (0, u "clamp"), (0, u "(JII)I"), (0, .methodref 107 666), (0, .nameAndType 635 376), (5, u "(Ljava/lang/String;I)I"), (337, u "([C)V"), (42, .fieldref 1054 1055), (0, .class_ 1056), (0, .nameAndType 1057 1058), (0, u "jdk/internal/util/Preconditions"), (0, u "SIOOBE_FORMATTER"), (0, u "Ljava/util/function/BiFunction;"), (0, .methodref 1054 1060), (0, .nameAndType 501 1061), (0, u "(IILjava/util/function/BiFunction;)I"), (39, u "serialPersistentFields"), (0, u "[Ljava/io/ObjectStreamField;"), (0, .class_ 1104), (0, u "java/lang/String$CaseInsensitiveComparator"), (1, .class_ 1107), (0, u "java/io/Serializable"), (0, .class_ 1109), (0, u "java/lang/Comparable"), (0, .class_ 1111), (0, u "java/lang/constant/Constable"), (0, .class_ 1113), (0, u "java/lang/constant/ConstantDesc"), (2, u "serialVersionUID"), (0, u "J"), (3, u "REPL"), (0, u "C"), (2, u "LATIN1"), (1, u "UTF16")] 323

def k7m0 : Method := { name := "<init>", desc := "()V", sig := { parameters := [], returnType := none }, accessFlags := 1, code := none }
def k7c1 : Code := { maxStack := 5, maxLocals := 2, code := jdk_42_method_3_code, exceptionTable := #[], attributes := #[] }
def k7m1 : Method := { name := "<init>", desc := "([C)V", sig := { parameters := [(.array .char)], returnType := none }, accessFlags := 1, code := some k7c1 }
def k7c2 : Code := { maxStack := 2, maxLocals := 1, code := jdk_42_method_54_code, exceptionTable := #[], attributes := #[] }
def k7m2 : Method := { name := "length", desc := "()I", sig := { parameters := [], returnType := some .int }, accessFlags := 1, code := some k7c2 }
def k7c3 : Code := { maxStack := 2, maxLocals := 2, code := jdk_42_method_56_code, exceptionTable := #[], attributes := #[] }
def k7m3 : Method := { name := "charAt", desc := "(I)C", sig := { parameters := [.int], returnType := some .char }, accessFlags := 1, code := some k7c3 }
def k7c4 : Code := { maxStack := 4, maxLocals := 3, code := jdk_42_method_80_code, exceptionTable := #[], attributes := #[] }
def k7m4 : Method := { name := "indexOf", desc := "(II)I", sig := { parameters := [.int, .int], returnType := some .int }, accessFlags := 1, code := some k7c4 }
def k7c5 : Code := { maxStack := 5, maxLocals := 3, code := jdk_42_method_85_code, exceptionTable := #[], attributes := #[] }
def k7m5 : Method := { name := "indexOf", desc := "(Ljava/lang/String;I)I", sig := { parameters := [(.object "java/lang/String"), .int], returnType := some .int }, accessFlags := 1, code := some k7c5 }
def k7c6 : Code := { maxStack := 5, maxLocals := 8, code := jdk_42_method_87_code, exceptionTable := #[], attributes := #[] }
def k7m6 : Method := { name := "indexOf", desc := "([BBILjava/lang/String;I)I", sig := { parameters := [(.array .byte), .byte, .int, (.object "java/lang/String"), .int], returnType := some .int }, accessFlags := 8, code := some k7c6 }
def k7c7 : Code := { maxStack := 4, maxLocals := 6, code := jdk_42_method_149_code, exceptionTable := #[], attributes := #[] }
def k7m7 : Method := { name := "<init>", desc := "([CIILjava/lang/Void;)V", sig := { parameters := [(.array .char), .int, .int, (.object "java/lang/Void")], returnType := none }, accessFlags := 2, code := some k7c7 }
def k7c8 : Code := { maxStack := 1, maxLocals := 1, code := jdk_42_method_152_code, exceptionTable := #[], attributes := #[] }
def k7m8 : Method := { name := "coder", desc := "()B", sig := { parameters := [], returnType := some .byte }, accessFlags := 0, code := some k7c8 }
def k7c9 : Code := { maxStack := 1, maxLocals := 1, code := jdk_42_method_154_code, exceptionTable := #[], attributes := #[] }
def k7m9 : Method := { name := "isLatin1", desc := "()Z", sig := { parameters := [], returnType := some .boolean }, accessFlags := 0, code := some k7c9 }
def k7c10 : Code := { maxStack := 3, maxLocals := 2, code := jdk_42_method_155_code, exceptionTable := #[], attributes := #[] }
def k7m10 : Method := { name := "checkIndex", desc := "(II)V", sig := { parameters := [.int, .int], returnType := none }, accessFlags := 8, code := some k7c10 }
/-- java/lang/String -/
def k7 : Class := { plain "java/lang/String" (some 0) with
  accessFlags := 49
  interfaces := #[2, 3, 4, 5, 6]
  cf := some (fileOf pool7 10 #[.nestMembers #[1103]] #[{ accessFlags := 1, nameIndex := 5, descriptorIndex := 6, attributes := #[] }, { accessFlags := 1, nameIndex := 5, descriptorIndex := 1010, attributes := #[] }, { accessFlags := 1, nameIndex := 507, descriptorIndex := 334, attributes := #[] }, { accessFlags := 1, nameIndex := 497, descriptorIndex := 427, attributes := #[] }, { accessFlags := 1, nameIndex := 635, descriptorIndex := 636, attributes := #[] }, { accessFlags := 1, nameIndex := 635, descriptorIndex := 672, attributes := #[] }, { accessFlags := 8, nameIndex := 635, descriptorIndex := 655, attributes := #[] }, { accessFlags := 2, nameIndex := 5, descriptorIndex := 29, attributes := #[] }, { accessFlags := 0, nameIndex := 17, descriptorIndex := 337, attributes := #[] }, { accessFlags := 0, nameIndex := 494, descriptorIndex := 142, attributes := #[] }, { accessFlags := 8, nameIndex := 501, descriptorIndex := 391, attributes := #[] }] 49 2 #[1106, 1108, 575, 1110, 1112] #[{ accessFlags := 18, nameIndex := 13, descriptorIndex := 14, attributes := #[] }, { accessFlags := 18, nameIndex := 17, descriptorIndex := 18, attributes := #[] }, { accessFlags := 2, nameIndex := 21, descriptorIndex := 22, attributes := #[] }, { accessFlags := 2, nameIndex := 25, descriptorIndex := 26, attributes := #[] }, { accessFlags := 26, nameIndex := 1116, descriptorIndex := 1117, attributes := #[] }, { accessFlags := 24, nameIndex := 40, descriptorIndex := 26, attributes := #[] }, { accessFlags := 26, nameIndex := 1101, descriptorIndex := 1102, attributes := #[] }, { accessFlags := 26, nameIndex := 1121, descriptorIndex := 1122, attributes := #[] }, { accessFlags := 25, nameIndex := 599, descriptorIndex := 600, attributes := #[] }, { accessFlags := 24, nameIndex := 1125, descriptorIndex := 18, attributes := #[] }, { accessFlags := 24, nameIndex := 1127, descriptorIndex := 18, attributes := #[] }])
  fields := #[{ name := "value", type := (.array .byte), accessFlags := 18, slot := 0, constantValue := 0 }, { name := "coder", type := .byte, accessFlags := 18, slot := 1, constantValue := 0 }, { name := "hash", type := .int, accessFlags := 2, slot := 2, constantValue := 0 }, { name := "hashIsZero", type := .boolean, accessFlags := 2, slot := 3, constantValue := 0 }, { name := "serialVersionUID", type := .long, accessFlags := 26, slot := 0, constantValue := 0 }, { name := "COMPACT_STRINGS", type := .boolean, accessFlags := 24, slot := 1, constantValue := 0 }, { name := "serialPersistentFields", type := (.array (.object "java/io/ObjectStreamField")), accessFlags := 26, slot := 2, constantValue := 0 }, { name := "REPL", type := .char, accessFlags := 26, slot := 3, constantValue := 0 }, { name := "CASE_INSENSITIVE_ORDER", type := (.object "java/util/Comparator"), accessFlags := 25, slot := 4, constantValue := 0 }, { name := "LATIN1", type := .byte, accessFlags := 24, slot := 5, constantValue := 0 }, { name := "UTF16", type := .byte, accessFlags := 24, slot := 6, constantValue := 0 }]
  methods := #[k7m0, k7m1, k7m2, k7m3, k7m4, k7m5, k7m6, k7m7, k7m8, k7m9, k7m10]
  instanceTypes := #[(.array .byte), .byte, .int, .boolean]
  staticTypes := #[.long, .boolean, (.array (.object "java/io/ObjectStreamField")), .char, (.object "java/util/Comparator"), .byte, .byte]
  resolved := Array.replicate 1451 none
  statics := some 0 }

def pool8 : Array CpInfo := pool [(6, .class_ 8), (1, u "java/lang/Object"), (0, u "<init>"), (0, u "()V"), (1, .class_ 14), (1, u "java/lang/StringUTF16"), (31, u "$assertionsDisabled"), (0, u "Z"), (13, u "HI_BYTE_SHIFT"), (0, u "I"), (2, u "LO_BYTE_SHIFT"), (49, .methodref 12 116), (0, .nameAndType 117 118), (0, u "compress"), (0, u "([CI[BII)I"), (3, u "([CII)[B"), (138, u "coderFromArrayLen"), (0, u "([BI)B"), (106, .class_ 371), (1, u "java/lang/StringUTF16$LinesSpliterator"), (58, u "MAX_LENGTH"), (196, .class_ 628), (0, u "java/lang/StringUTF16$CodePointsSpliterator"), (0, .class_ 630), (0, u "java/lang/StringUTF16$CharsSpliterator")] 4

def k8m0 : Method := { name := "<init>", desc := "()V", sig := { parameters := [], returnType := none }, accessFlags := 0, code := none }
def k8c1 : Code := { maxStack := 2, maxLocals := 2, code := jdk_52_method_15_code, exceptionTable := #[], attributes := #[] }
def k8m1 : Method := { name := "coderFromArrayLen", desc := "([BI)B", sig := { parameters := [(.array .byte), .int], returnType := some .byte }, accessFlags := 8, code := some k8c1 }
def k8c2 : Code := { maxStack := 5, maxLocals := 6, code := jdk_52_method_16_code, exceptionTable := #[], attributes := #[] }
def k8m2 : Method := { name := "compress", desc := "([CII)[B", sig := { parameters := [(.array .char), .int, .int], returnType := some (.array .byte) }, accessFlags := 9, code := some k8c2 }
def k8c3 : Code := { maxStack := 3, maxLocals := 7, code := jdk_52_method_21_code, exceptionTable := #[], attributes := #[] }
def k8m3 : Method := { name := "compress", desc := "([CI[BII)I", sig := { parameters := [(.array .char), .int, (.array .byte), .int, .int], returnType := some .int }, accessFlags := 9, code := some k8c3 }
/-- java/lang/StringUTF16 -/
def k8 : Class := { plain "java/lang/StringUTF16" (some 0) with
  accessFlags := 48
  interfaces := #[]
  cf := some (fileOf pool8 12 #[.nestMembers #[627, 629, 369]] #[{ accessFlags := 0, nameIndex := 9, descriptorIndex := 10, attributes := #[] }, { accessFlags := 8, nameIndex := 261, descriptorIndex := 262, attributes := #[] }, { accessFlags := 9, nameIndex := 117, descriptorIndex := 122, attributes := #[] }, { accessFlags := 9, nameIndex := 117, descriptorIndex := 118, attributes := #[] }] 48 6 #[] #[{ accessFlags := 26, nameIndex := 61, descriptorIndex := 62, attributes := #[] }, { accessFlags := 26, nameIndex := 65, descriptorIndex := 62, attributes := #[] }, { accessFlags := 24, nameIndex := 430, descriptorIndex := 62, attributes := #[] }, { accessFlags := 4120, nameIndex := 46, descriptorIndex := 47, attributes := #[] }])
  fields := #[{ name := "HI_BYTE_SHIFT", type := .int, accessFlags := 26, slot := 0, constantValue := 0 }, { name := "LO_BYTE_SHIFT", type := .int, accessFlags := 26, slot := 1, constantValue := 0 }, { name := "MAX_LENGTH", type := .int, accessFlags := 24, slot := 2, constantValue := 0 }, { name := "$assertionsDisabled", type := .boolean, accessFlags := 4120, slot := 3, constantValue := 0 }]
  methods := #[k8m0, k8m1, k8m2, k8m3]
  instanceTypes := #[]
  staticTypes := #[.int, .int, .int, .boolean]
  resolved := Array.replicate 635 none
  statics := none }

def pool9 : Array CpInfo := pool [(2, .class_ 4), (1, u "java/lang/Object"), (0, u "<init>"), (0, u "()V"), (5, .methodref 13 14), (0, .class_ 15), (0, .nameAndType 16 17), (0, u "java/lang/String"), (0, u "length"), (0, u "()I"), (4, .class_ 24), (1, u "anchorlog/AnchorPattern"), (0, u "nextAnchor"), (0, u "(Ljava/lang/String;I)I"), (17, .string 45), (0, u "{}"), (10, .methodref 13 57), (0, .nameAndType 58 59), (0, u "indexOf"), (0, u "(II)I"), (0, .methodref 13 61), (0, .nameAndType 62 63), (0, u "charAt"), (0, u "(I)C"), (0, .methodref 13 65), (0, .nameAndType 58 26), (6, .class_ 73), (0, u "anchorlog/AnchorPattern$Table"), (3, u "TABLE"), (0, u "Lanchorlog/AnchorPattern$Table;"), (0, u "ANCHOR"), (0, u "Ljava/lang/String;"), (1, u "ESCAPE"), (0, u "C")] 12

def k9m0 : Method := { name := "<init>", desc := "()V", sig := { parameters := [], returnType := none }, accessFlags := 2, code := none }
def k9c1 : Code := { maxStack := 4, maxLocals := 3, code := prog_1_method_3_code, exceptionTable := #[], attributes := #[] }
def k9m1 : Method := { name := "nextAnchor", desc := "(Ljava/lang/String;I)I", sig := { parameters := [(.object "java/lang/String"), .int], returnType := some .int }, accessFlags := 8, code := some k9c1 }
/-- anchorlog/AnchorPattern -/
def k9 : Class := { plain "anchorlog/AnchorPattern" (some 0) with
  accessFlags := 48
  interfaces := #[]
  cf := some (fileOf pool9 22 #[.nestMembers #[72]] #[{ accessFlags := 2, nameIndex := 5, descriptorIndex := 6, attributes := #[] }, { accessFlags := 8, nameIndex := 25, descriptorIndex := 26, attributes := #[] }] 48 2 #[] #[{ accessFlags := 24, nameIndex := 79, descriptorIndex := 80, attributes := #[] }, { accessFlags := 26, nameIndex := 82, descriptorIndex := 83, attributes := #[] }, { accessFlags := 24, nameIndex := 77, descriptorIndex := 78, attributes := #[] }])
  fields := #[{ name := "ANCHOR", type := (.object "java/lang/String"), accessFlags := 24, slot := 0, constantValue := 0 }, { name := "ESCAPE", type := .char, accessFlags := 26, slot := 1, constantValue := 0 }, { name := "TABLE", type := (.object "anchorlog/AnchorPattern$Table"), accessFlags := 24, slot := 2, constantValue := 0 }]
  methods := #[k9m0, k9m1]
  instanceTypes := #[]
  staticTypes := #[(.object "java/lang/String"), .char, (.object "anchorlog/AnchorPattern$Table")]
  resolved := Array.replicate 96 none
  statics := none }

def pool10 : Array CpInfo := pool [(1, .class_ 2), (0, u "java/lang/String"), (1, .class_ 6), (1, u "java/lang/Object"), (0, u "<init>"), (0, u "()V"), (0, .methodref 1 10), (0, .nameAndType 11 12), (0, u "checkIndex"), (0, u "(II)V"), (1, .class_ 16), (1, u "java/lang/StringLatin1"), (21, .methodref 39 40), (0, .class_ 41), (0, .nameAndType 42 43), (0, u "java/lang/Math"), (0, u "min"), (0, u "(II)I"), (9, u "([BI)C"), (34, .methodref 14 89), (0, .nameAndType 90 91), (0, u "canEncode"), (0, u "(I)Z"), (0, .methodref 39 93), (0, .nameAndType 94 43), (0, u "max"), (0, .methodref 14 96), (0, .nameAndType 97 98), (0, u "indexOfChar"), (0, u "([BIII)I"), (2, u "indexOf"), (0, u "([BI[BII)I"), (18, u "$assertionsDisabled"), (0, u "Z"), (98, .class_ 223), (1, u "java/lang/StringLatin1$LinesSpliterator"), (28, u "charAt"), (137, .class_ 391), (0, u "java/lang/StringLatin1$CharsSpliterator")] 3

def k10m0 : Method := { name := "<init>", desc := "()V", sig := { parameters := [], returnType := none }, accessFlags := 0, code := none }
def k10c1 : Code := { maxStack := 2, maxLocals := 2, code := jdk_43_method_2_code, exceptionTable := #[], attributes := #[] }
def k10m1 : Method := { name := "charAt", desc := "([BI)C", sig := { parameters := [(.array .byte), .int], returnType := some .char }, accessFlags := 9, code := some k10c1 }
def k10c2 : Code := { maxStack := 2, maxLocals := 1, code := jdk_43_method_4_code, exceptionTable := #[], attributes := #[] }
def k10m2 : Method := { name := "canEncode", desc := "(I)Z", sig := { parameters := [.int], returnType := some .boolean }, accessFlags := 9, code := some k10c2 }
def k10c3 : Code := { maxStack := 4, maxLocals := 4, code := jdk_43_method_22_code, exceptionTable := #[], attributes := #[] }
def k10m3 : Method := { name := "indexOf", desc := "([BIII)I", sig := { parameters := [(.array .byte), .int, .int, .int], returnType := some .int }, accessFlags := 9, code := some k10c3 }
def k10c4 : Code := { maxStack := 2, maxLocals := 6, code := jdk_43_method_23_code, exceptionTable := #[], attributes := #[] }
def k10m4 : Method := { name := "indexOfChar", desc := "([BIII)I", sig := { parameters := [(.array .byte), .int, .int, .int], returnType := some .int }, accessFlags := 10, code := some k10c4 }
def k10c5 : Code := { maxStack := 3, maxLocals := 11, code := jdk_43_method_25_code, exceptionTable := #[], attributes := #[] }
def k10m5 : Method := { name := "indexOf", desc := "([BI[BII)I", sig := { parameters := [(.array .byte), .int, (.array .byte), .int, .int], returnType := some .int }, accessFlags := 9, code := some k10c5 }
/-- java/lang/StringLatin1 -/
def k10 : Class := { plain "java/lang/StringLatin1" (some 0) with
  accessFlags := 48
  interfaces := #[]
  cf := some (fileOf pool10 14 #[.nestMembers #[390, 221]] #[{ accessFlags := 0, nameIndex := 7, descriptorIndex := 8, attributes := #[] }, { accessFlags := 9, nameIndex := 252, descriptorIndex := 53, attributes := #[] }, { accessFlags := 9, nameIndex := 90, descriptorIndex := 91, attributes := #[] }, { accessFlags := 9, nameIndex := 101, descriptorIndex := 98, attributes := #[] }, { accessFlags := 10, nameIndex := 97, descriptorIndex := 98, attributes := #[] }, { accessFlags := 9, nameIndex := 101, descriptorIndex := 102, attributes := #[] }] 48 4 #[] #[{ accessFlags := 4120, nameIndex := 121, descriptorIndex := 122, attributes := #[] }])
  fields := #[{ name := "$assertionsDisabled", type := .boolean, accessFlags := 4120, slot := 0, constantValue := 0 }]
  methods := #[k10m0, k10m1, k10m2, k10m3, k10m4, k10m5]
  instanceTypes := #[]
  staticTypes := #[.boolean]
  resolved := Array.replicate 395 none
  statics := none }

def pool11 : Array CpInfo := pool [(1, .class_ 2), (0, u "java/lang/Math"), (1, .class_ 6), (1, u "java/lang/Object"), (0, u "<init>"), (0, u "()V"), (89, .class_ 100), (1, u "java/lang/Math$RandomNumberGeneratorHolder"), (20, u "(JJ)J"), (50, u "negativeZeroFloatBits"), (0, u "J"), (2, u "negativeZeroDoubleBits"), (19, .methodref 1 197), (0, .nameAndType 198 121), (0, u "max"), (0, .methodref 1 200), (0, .nameAndType 201 121), (0, u "min"), (43, u "$assertionsDisabled"), (0, u "Z"), (88, u "(II)I"), (2, u "twoToTheDoubleScaleDown"), (0, u "D"), (4, u "twoToTheDoubleScaleUp"), (9, u "E"), (3, u "PI"), (2, u "TAU"), (2, u "DEGREES_TO_RADIANS"), (0, u "RADIANS_TO_DEGREES"), (56, u "clamp"), (0, u "(JII)I")] 36

def k11m0 : Method := { name := "<init>", desc := "()V", sig := { parameters := [], returnType := none }, accessFlags := 2, code := none }
def k11c1 : Code := { maxStack := 2, maxLocals := 2, code := jdk_29_method_65_code, exceptionTable := #[], attributes := #[] }
def k11m1 : Method := { name := "max", desc := "(II)I", sig := { parameters := [.int, .int], returnType := some .int }, accessFlags := 9, code := some k11c1 }
def k11c2 : Code := { maxStack := 4, maxLocals := 4, code := jdk_29_method_66_code, exceptionTable := #[], attributes := #[] }
def k11m2 : Method := { name := "max", desc := "(JJ)J", sig := { parameters := [.long, .long], returnType := some .long }, accessFlags := 9, code := some k11c2 }
def k11c3 : Code := { maxStack := 2, maxLocals := 2, code := jdk_29_method_69_code, exceptionTable := #[], attributes := #[] }
def k11m3 : Method := { name := "min", desc := "(II)I", sig := { parameters := [.int, .int], returnType := some .int }, accessFlags := 9, code := some k11c3 }
def k11c4 : Code := { maxStack := 4, maxLocals := 4, code := jdk_29_method_70_code, exceptionTable := #[], attributes := #[] }
def k11m4 : Method := { name := "min", desc := "(JJ)J", sig := { parameters := [.long, .long], returnType := some .long }, accessFlags := 9, code := some k11c4 }
def k11c5 : Code := { maxStack := 6, maxLocals := 4, code := jdk_29_method_73_code, exceptionTable := #[], attributes := #[] }
def k11m5 : Method := { name := "clamp", desc := "(JII)I", sig := { parameters := [.long, .int, .int], returnType := some .int }, accessFlags := 9, code := some k11c5 }
/-- java/lang/Math -/
def k11 : Class := { plain "java/lang/Math" (some 0) with
  accessFlags := 49
  interfaces := #[]
  cf := some (fileOf pool11 1 #[.nestMembers #[98]] #[{ accessFlags := 2, nameIndex := 7, descriptorIndex := 8, attributes := #[] }, { accessFlags := 9, nameIndex := 198, descriptorIndex := 335, attributes := #[] }, { accessFlags := 9, nameIndex := 198, descriptorIndex := 121, attributes := #[] }, { accessFlags := 9, nameIndex := 201, descriptorIndex := 335, attributes := #[] }, { accessFlags := 9, nameIndex := 201, descriptorIndex := 121, attributes := #[] }, { accessFlags := 9, nameIndex := 422, descriptorIndex := 423, attributes := #[] }] 49 4 #[] #[{ accessFlags := 25, nameIndex := 354, descriptorIndex := 339, attributes := #[] }, { accessFlags := 25, nameIndex := 358, descriptorIndex := 339, attributes := #[] }, { accessFlags := 25, nameIndex := 361, descriptorIndex := 339, attributes := #[] }, { accessFlags := 26, nameIndex := 364, descriptorIndex := 339, attributes := #[] }, { accessFlags := 26, nameIndex := 365, descriptorIndex := 339, attributes := #[] }, { accessFlags := 26, nameIndex := 172, descriptorIndex := 173, attributes := #[] }, { accessFlags := 26, nameIndex := 176, descriptorIndex := 173, attributes := #[] }, { accessFlags := 8, nameIndex := 344, descriptorIndex := 339, attributes := #[] }, { accessFlags := 8, nameIndex := 338, descriptorIndex := 339, attributes := #[] }, { accessFlags := 4120, nameIndex := 245, descriptorIndex := 246, attributes := #[] }])
  fields := #[{ name := "E", type := .double, accessFlags := 25, slot := 0, constantValue := 0 }, { name := "PI", type := .double, accessFlags := 25, slot := 1, constantValue := 0 }, { name := "TAU", type := .double, accessFlags := 25, slot := 2, constantValue := 0 }, { name := "DEGREES_TO_RADIANS", type := .double, accessFlags := 26, slot := 3, constantValue := 0 }, { name := "RADIANS_TO_DEGREES", type := .double, accessFlags := 26, slot := 4, constantValue := 0 }, { name := "negativeZeroFloatBits", type := .long, accessFlags := 26, slot := 5, constantValue := 0 }, { name := "negativeZeroDoubleBits", type := .long, accessFlags := 26, slot := 6, constantValue := 0 }, { name := "twoToTheDoubleScaleUp", type := .double, accessFlags := 8, slot := 7, constantValue := 0 }, { name := "twoToTheDoubleScaleDown", type := .double, accessFlags := 8, slot := 8, constantValue := 0 }, { name := "$assertionsDisabled", type := .boolean, accessFlags := 4120, slot := 9, constantValue := 0 }]
  methods := #[k11m0, k11m1, k11m2, k11m3, k11m4, k11m5]
  instanceTypes := #[]
  staticTypes := #[.double, .double, .double, .double, .double, .long, .long, .double, .double, .boolean]
  resolved := Array.replicate 460 none
  statics := none }

def pool12 : Array CpInfo := pool [(2, .class_ 4), (1, u "java/lang/Object"), (0, u "<init>"), (0, u "()V"), (17, .class_ 26), (1, u "jdk/internal/util/Preconditions"), (6, u "checkIndex"), (21, .class_ 56), (0, u "jdk/internal/util/Preconditions$4"), (57, .class_ 115), (0, u "jdk/internal/util/Preconditions$1"), (7, u "SIOOBE_FORMATTER"), (0, u "Ljava/util/function/BiFunction;"), (0, .class_ 126), (0, u "jdk/internal/util/Preconditions$2"), (3, u "AIOOBE_FORMATTER"), (0, .class_ 132), (0, u "jdk/internal/util/Preconditions$3"), (3, u "IOOBE_FORMATTER"), (41, u "(IILjava/util/function/BiFunction;)I")] 15

def k12m0 : Method := { name := "<init>", desc := "()V", sig := { parameters := [], returnType := none }, accessFlags := 1, code := none }
def k12c1 : Code := { maxStack := 3, maxLocals := 3, code := jdk_41_method_11_code, exceptionTable := #[], attributes := #[] }
def k12m1 : Method := { name := "checkIndex", desc := "(IILjava/util/function/BiFunction;)I", sig := { parameters := [.int, .int, (.object "java/util/function/BiFunction")], returnType := some .int }, accessFlags := 9, code := some k12c1 }
/-- jdk/internal/util/Preconditions -/
def k12 : Class := { plain "jdk/internal/util/Preconditions" (some 0) with
  accessFlags := 33
  interfaces := #[]
  cf := some (fileOf pool12 24 #[.nestMembers #[55, 131, 125, 114]] #[{ accessFlags := 1, nameIndex := 5, descriptorIndex := 6, attributes := #[] }, { accessFlags := 9, nameIndex := 33, descriptorIndex := 178, attributes := #[] }] 33 2 #[] #[{ accessFlags := 25, nameIndex := 123, descriptorIndex := 124, attributes := #[] }, { accessFlags := 25, nameIndex := 130, descriptorIndex := 124, attributes := #[] }, { accessFlags := 25, nameIndex := 136, descriptorIndex := 124, attributes := #[] }])
  fields := #[{ name := "SIOOBE_FORMATTER", type := (.object "java/util/function/BiFunction"), accessFlags := 25, slot := 0, constantValue := 0 }, { name := "AIOOBE_FORMATTER", type := (.object "java/util/function/BiFunction"), accessFlags := 25, slot := 1, constantValue := 0 }, { name := "IOOBE_FORMATTER", type := (.object "java/util/function/BiFunction"), accessFlags := 25, slot := 2, constantValue := 0 }]
  methods := #[k12m0, k12m1]
  instanceTypes := #[]
  staticTypes := #[(.object "java/util/function/BiFunction"), (.object "java/util/function/BiFunction"), (.object "java/util/function/BiFunction")]
  resolved := Array.replicate 194 none
  statics := some 1 }

def pool13 : Array CpInfo := pool [(9, u "<init>"), (6, .class_ 18), (1, u "java/lang/Object"), (0, u "()V"), (1, .class_ 23), (1, u "jdk/internal/util/ArraysSupport"), (0, u "LOG2_ARRAY_LONG_INDEX_SCALE"), (0, u "I"), (2, u "U"), (0, u "Ljdk/internal/misc/Unsafe;"), (8, u "BIG_ENDIAN"), (0, u "Z"), (8, u "LOG2_BYTE_BIT_SIZE"), (4, u "LOG2_ARRAY_INT_INDEX_SCALE"), (54, u "JLA"), (0, u "Ljdk/internal/access/JavaLangAccess;"), (11, u "LOG2_ARRAY_BOOLEAN_INDEX_SCALE"), (9, u "LOG2_ARRAY_BYTE_INDEX_SCALE"), (5, u "LOG2_ARRAY_CHAR_INDEX_SCALE"), (5, u "LOG2_ARRAY_SHORT_INDEX_SCALE"), (18, u "LOG2_ARRAY_FLOAT_INDEX_SCALE"), (24, u "LOG2_ARRAY_DOUBLE_INDEX_SCALE"), (89, u "T_BOOLEAN"), (2, u "T_CHAR"), (1, u "T_FLOAT"), (1, u "T_DOUBLE"), (1, u "T_BYTE"), (1, u "T_SHORT"), (1, u "T_INT"), (1, u "T_LONG"), (1, u "SOFT_MAX_ARRAY_LENGTH")] 83

def k13m0 : Method := { name := "<init>", desc := "()V", sig := { parameters := [], returnType := none }, accessFlags := 2, code := none }
/-- jdk/internal/util/ArraysSupport -/
def k13 : Class := { plain "jdk/internal/util/ArraysSupport" (some 0) with
  accessFlags := 33
  interfaces := #[]
  cf := some (fileOf pool13 21 #[] #[{ accessFlags := 2, nameIndex := 9, descriptorIndex := 19, attributes := #[] }] 33 16 #[] #[{ accessFlags := 24, nameIndex := 28, descriptorIndex := 29, attributes := #[] }, { accessFlags := 26, nameIndex := 38, descriptorIndex := 39, attributes := #[] }, { accessFlags := 25, nameIndex := 121, descriptorIndex := 25, attributes := #[] }, { accessFlags := 25, nameIndex := 131, descriptorIndex := 25, attributes := #[] }, { accessFlags := 25, nameIndex := 137, descriptorIndex := 25, attributes := #[] }, { accessFlags := 25, nameIndex := 143, descriptorIndex := 25, attributes := #[] }, { accessFlags := 25, nameIndex := 53, descriptorIndex := 25, attributes := #[] }, { accessFlags := 25, nameIndex := 24, descriptorIndex := 25, attributes := #[] }, { accessFlags := 25, nameIndex := 162, descriptorIndex := 25, attributes := #[] }, { accessFlags := 25, nameIndex := 187, descriptorIndex := 25, attributes := #[] }, { accessFlags := 26, nameIndex := 48, descriptorIndex := 25, attributes := #[] }, { accessFlags := 25, nameIndex := 277, descriptorIndex := 25, attributes := #[] }, { accessFlags := 25, nameIndex := 280, descriptorIndex := 25, attributes := #[] }, { accessFlags := 25, nameIndex := 282, descriptorIndex := 25, attributes := #[] }, { accessFlags := 25, nameIndex := 284, descriptorIndex := 25, attributes := #[] }, { accessFlags := 25, nameIndex := 286, descriptorIndex := 25, attributes := #[] }, { accessFlags := 25, nameIndex := 288, descriptorIndex := 25, attributes := #[] }, { accessFlags := 25, nameIndex := 290, descriptorIndex := 25, attributes := #[] }, { accessFlags := 25, nameIndex := 292, descriptorIndex := 25, attributes := #[] }, { accessFlags := 26, nameIndex := 108, descriptorIndex := 109, attributes := #[] }, { accessFlags := 25, nameIndex := 294, descriptorIndex := 25, attributes := #[] }])
  fields := #[{ name := "U", type := (.object "jdk/internal/misc/Unsafe"), accessFlags := 24, slot := 0, constantValue := 0 }, { name := "BIG_ENDIAN", type := .boolean, accessFlags := 26, slot := 1, constantValue := 0 }, { name := "LOG2_ARRAY_BOOLEAN_INDEX_SCALE", type := .int, accessFlags := 25, slot := 2, constantValue := 0 }, { name := "LOG2_ARRAY_BYTE_INDEX_SCALE", type := .int, accessFlags := 25, slot := 3, constantValue := 0 }, { name := "LOG2_ARRAY_CHAR_INDEX_SCALE", type := .int, accessFlags := 25, slot := 4, constantValue := 0 }, { name := "LOG2_ARRAY_SHORT_INDEX_SCALE", type := .int, accessFlags := 25, slot := 5, constantValue := 0 }, { name := "LOG2_ARRAY_INT_INDEX_SCALE", type := .int, accessFlags := 25, slot := 6, constantValue := 0 }, { name := "LOG2_ARRAY_LONG_INDEX_SCALE", type := .int, accessFlags := 25, slot := 7, constantValue := 0 }, { name := "LOG2_ARRAY_FLOAT_INDEX_SCALE", type := .int, accessFlags := 25, slot := 8, constantValue := 0 }, { name := "LOG2_ARRAY_DOUBLE_INDEX_SCALE", type := .int, accessFlags := 25, slot := 9, constantValue := 0 }, { name := "LOG2_BYTE_BIT_SIZE", type := .int, accessFlags := 26, slot := 10, constantValue := 0 }, { name := "T_BOOLEAN", type := .int, accessFlags := 25, slot := 11, constantValue := 0 }, { name := "T_CHAR", type := .int, accessFlags := 25, slot := 12, constantValue := 0 }, { name := "T_FLOAT", type := .int, accessFlags := 25, slot := 13, constantValue := 0 }, { name := "T_DOUBLE", type := .int, accessFlags := 25, slot := 14, constantValue := 0 }, { name := "T_BYTE", type := .int, accessFlags := 25, slot := 15, constantValue := 0 }, { name := "T_SHORT", type := .int, accessFlags := 25, slot := 16, constantValue := 0 }, { name := "T_INT", type := .int, accessFlags := 25, slot := 17, constantValue := 0 }, { name := "T_LONG", type := .int, accessFlags := 25, slot := 18, constantValue := 0 }, { name := "JLA", type := (.object "jdk/internal/access/JavaLangAccess"), accessFlags := 26, slot := 19, constantValue := 0 }, { name := "SOFT_MAX_ARRAY_LENGTH", type := .int, accessFlags := 25, slot := 20, constantValue := 0 }]
  methods := #[k13m0]
  instanceTypes := #[]
  staticTypes := #[(.object "jdk/internal/misc/Unsafe"), .boolean, .int, .int, .int, .int, .int, .int, .int, .int, .int, .int, .int, .int, .int, .int, .int, .int, .int, (.object "jdk/internal/access/JavaLangAccess"), .int]
  resolved := Array.replicate 378 none
  statics := none }

def pool14 : Array CpInfo := pool [(1, u "java/lang/Cloneable"), (0, .class_ 1), (0, u "java/lang/Object"), (0, .class_ 3)] 3

/-- java/lang/Cloneable -/
def k14 : Class := { plain "java/lang/Cloneable" (some 0) with
  accessFlags := 1537
  interfaces := #[]
  cf := some (fileOf pool14 2 #[] #[] 1537 4 #[] #[])
  fields := #[]
  methods := #[]
  instanceTypes := #[]
  staticTypes := #[]
  resolved := Array.replicate 8 none
  statics := none }

/-- the primitive byte -/
def k15 : Class := { plain "byte" none with kind := .primitive 'B', accessFlags := 0x411 }
/-- [B -/
def k16 : Class := { plain "[B" (some 0) with kind := .array 15 .byte, interfaces := #[14, 2], accessFlags := 1041 }

/-- the primitive char -/
def k17 : Class := { plain "char" none with kind := .primitive 'C', accessFlags := 0x411 }
/-- [C -/
def k18 : Class := { plain "[C" (some 0) with kind := .array 17 .char, interfaces := #[14, 2], accessFlags := 1041 }

/-- the primitive int -/
def k19 : Class := { plain "int" none with kind := .primitive 'I', accessFlags := 0x411 }
/-- [I -/
def k20 : Class := { plain "[I" (some 0) with kind := .array 19 .int, interfaces := #[14, 2], accessFlags := 1041 }

def heap : Heap := #[{ cls := 7, slots := #[.long 0, .int 1, .null, .int 0, .null, .int 0, .int 0], vm := .statics 7 },
  { cls := 12, slots := #[.null, .null, .null], vm := .statics 12 }]
def classes : Array Class := #[k0, k1, k2, k3, k4, k5, k6, k7, k8, k9, k10, k11, k12, k13, k14, k15, k16, k17, k18, k19, k20]
def interned : List (Array UInt16 × Addr) := []
def slotsUsed : Nat := 10
def theMethod : MethodId := ⟨1, 4⟩
def args0 : Array Value := #[.long 5, .int 6, .int 7]
def aboutOver (below : List Frame) : State where
  vm := { classes := classes, interned := interned.toArray }
  heap := heap
  slotsUsed := slotsUsed
  threads := #[{ frames := .invoking theMethod args0 :: below }]
def below0 : List Frame := [.native { method := ⟨0, 0⟩, args := #[] }]
def about1 : State := aboutOver below0
def p0 : Program := .bare "" "" ""
def e0 : Env := launch0.env 0 0 0
theorem w_frames : about1.frames = Frame.invoking theMethod args0 :: below0 := rfl
set_option maxRecDepth 65536 in
theorem w_args : argsFit about1.vm theMethod args0 = true := by decide +kernel
set_option maxRecDepth 65536 in
theorem w_heap : heapFits about1 = true := by decide +kernel
set_option maxRecDepth 65536 in
theorem w_runnable : about1.curStatus? = some .runnable := by decide +kernel
set_option maxRecDepth 65536 in
theorem w_alone : about1.alone = true := by decide +kernel
set_option maxRecDepth 65536 in
theorem w_named : about1.methodNamed? x = some theMethod := by decide +kernel
set_option maxRecDepth 65536 in
theorem w_hears : about1.hears theMethod below0 = true := by decide +kernel
set_option maxRecDepth 65536 in
theorem w_ripe : about1.ripe theMethod args0 below0 = true := by decide +kernel
theorem w_running : about1.status = .running := rfl
set_option maxRecDepth 65536 in
theorem w_room : about1.hasRoom e0.platform room_1 = true :=
  launch0.hasRoom_least _ room_1 (by decide +kernel) (by decide +kernel) (by decide +kernel) (by decide +kernel) (by decide +kernel) (by decide +kernel)
theorem allAtoms_all (ts : List Jvm.Cond) (a : Array Jvm.Value) (st : Jvm.State) : (allAtoms ts).before a st = ts.all (fun c => c.before a st) := by
  induction ts with
  | nil => rfl
  | cons c t ih =>
    show (Jvm.Cond.and c (allAtoms t)).before a st = _
    rw [Jvm.Cond.before_and, ih, List.all_cons]
def words1 : List Jvm.Cond := Jvm.Cond.code x code maxLocals ret :: tables_1
/-- a 'code' word, met by the world's own term for the bytes: nothing is compared byte by byte -/
theorem code_word {y : MethodName} {bytes : ByteArray} {mx : Nat} {rt : Option FieldType} {a : Array Value} {s : State} {m : MethodId} {meth : Method} {c : Code} (h1 : s.methodNamed? y = some m) (h2 : s.vm.method? m = some meth) (h3 : meth.code = some c) (h4 : c.code = bytes)
    (h5 : (c.maxLocals == mx && c.exceptionTable.isEmpty && decide (c.maxStack ≤ mostOperands) && decide (meth.sig.returnType = rt) && !meth.locks && decide (parseMethodDescriptor y.desc = some meth.sig)) = true) : (Jvm.Cond.code y bytes mx rt).before a s = true := by
  simp only [Bool.and_eq_true, beq_iff_eq, Bool.not_eq_true', decide_eq_true_eq] at h5
  obtain ⟨⟨⟨⟨⟨g1, g2⟩, g3⟩, g4⟩, g5⟩, g6⟩ := h5
  simp [Cond.before, Cond.holds, Cond.value, h1, h2, h3, h4, g1, g2, g3, g4, g5, g6]
def isCode : Jvm.Cond → Bool
  | .code _ _ _ _ => true
  | _ => false
theorem all_split {L : List Jvm.Cond} {P : Jvm.Cond → Bool} (h1 : L.all (fun c => isCode c || P c) = true) (h2 : ∀ c ∈ L.filter isCode, P c = true) : L.all P = true := by
  refine List.all_eq_true.mpr fun c hc => ?_
  have h := List.all_eq_true.mp h1 c hc
  rcases Bool.eq_false_or_eq_true (isCode c) with hi | hi
  · exact h2 c (List.mem_filter.mpr ⟨hc, hi⟩)
  · simpa [hi] using h
set_option maxRecDepth 65536 in
theorem w_c0 : (Jvm.Cond.code x code maxLocals ret).before args0 about1 = true := code_word (m := ⟨1, 4⟩) (meth := k1m4) (c := k1c4) (by decide +kernel) rfl rfl rfl (by decide +kernel)
set_option maxRecDepth 65536 in
theorem w_c1 : (Jvm.Cond.code ({ cls := "anchorlog/AnchorPatternNextAnchorPinLaw", name := "ch", desc := "(JI)C" } : Jvm.MethodName) method_2_code (6 : Nat) (Option.some Jvm.ClassFile.FieldType.char)).before args0 about1 = true := code_word (m := ⟨1, 1⟩) (meth := k1m1) (c := k1c1) (by decide +kernel) rfl rfl rfl (by decide +kernel)
set_option maxRecDepth 65536 in
theorem w_c2 : (Jvm.Cond.code ({ cls := "anchorlog/AnchorPatternNextAnchorPinLaw", name := "make", desc := "(I[C)Ljava/lang/String;" } : Jvm.MethodName) method_4_code (2 : Nat) (Option.some (Jvm.ClassFile.FieldType.object "java/lang/String"))).before args0 about1 = true := code_word (m := ⟨1, 3⟩) (meth := k1m3) (c := k1c3) (by decide +kernel) rfl rfl rfl (by decide +kernel)
set_option maxRecDepth 65536 in
theorem w_c3 : (Jvm.Cond.code ({ cls := "java/lang/String", name := "<init>", desc := "([C)V" } : Jvm.MethodName) jdk_42_method_3_code (2 : Nat) (Option.none : Option Jvm.ClassFile.FieldType)).before args0 about1 = true := code_word (m := ⟨7, 1⟩) (meth := k7m1) (c := k7c1) (by decide +kernel) rfl rfl rfl (by decide +kernel)
set_option maxRecDepth 65536 in
theorem w_c4 : (Jvm.Cond.code ({ cls := "java/lang/String", name := "<init>", desc := "([CIILjava/lang/Void;)V" } : Jvm.MethodName) jdk_42_method_149_code (6 : Nat) (Option.none : Option Jvm.ClassFile.FieldType)).before args0 about1 = true := code_word (m := ⟨7, 7⟩) (meth := k7m7) (c := k7c7) (by decide +kernel) rfl rfl rfl (by decide +kernel)
set_option maxRecDepth 65536 in
theorem w_c5 : (Jvm.Cond.code ({ cls := "java/lang/Object", name := "<init>", desc := "()V" } : Jvm.MethodName) object_method_1_code (1 : Nat) (Option.none : Option Jvm.ClassFile.FieldType)).before args0 about1 = true := code_word (m := ⟨0, 0⟩) (meth := k0m0) (c := k0c0) (by decide +kernel) rfl rfl rfl (by decide +kernel)
set_option maxRecDepth 65536 in
theorem w_c6 : (Jvm.Cond.code ({ cls := "java/lang/StringUTF16", name := "compress", desc := "([CII)[B" } : Jvm.MethodName) jdk_52_method_16_code (6 : Nat) (Option.some (Jvm.ClassFile.FieldType.array Jvm.ClassFile.FieldType.byte))).before args0 about1 = true := code_word (m := ⟨8, 2⟩) (meth := k8m2) (c := k8c2) (by decide +kernel) rfl rfl rfl (by decide +kernel)
set_option maxRecDepth 65536 in
theorem w_c7 : (Jvm.Cond.code ({ cls := "java/lang/StringUTF16", name := "compress", desc := "([CI[BII)I" } : Jvm.MethodName) jdk_52_method_21_code (7 : Nat) (Option.some Jvm.ClassFile.FieldType.int)).before args0 about1 = true := code_word (m := ⟨8, 3⟩) (meth := k8m3) (c := k8c3) (by decide +kernel) rfl rfl rfl (by decide +kernel)
set_option maxRecDepth 65536 in
theorem w_c8 : (Jvm.Cond.code ({ cls := "java/lang/StringUTF16", name := "coderFromArrayLen", desc := "([BI)B" } : Jvm.MethodName) jdk_52_method_15_code (2 : Nat) (Option.some Jvm.ClassFile.FieldType.byte)).before args0 about1 = true := code_word (m := ⟨8, 1⟩) (meth := k8m1) (c := k8c1) (by decide +kernel) rfl rfl rfl (by decide +kernel)
set_option maxRecDepth 65536 in
theorem w_c9 : (Jvm.Cond.code ({ cls := "anchorlog/AnchorPatternNextAnchorPinLaw", name := "at", desc := "([CIII)Z" } : Jvm.MethodName) method_3_code (4 : Nat) (Option.some Jvm.ClassFile.FieldType.boolean)).before args0 about1 = true := code_word (m := ⟨1, 2⟩) (meth := k1m2) (c := k1c2) (by decide +kernel) rfl rfl rfl (by decide +kernel)
set_option maxRecDepth 65536 in
theorem w_c10 : (Jvm.Cond.code ({ cls := "anchorlog/AnchorPattern", name := "nextAnchor", desc := "(Ljava/lang/String;I)I" } : Jvm.MethodName) prog_1_method_3_code (3 : Nat) (Option.some Jvm.ClassFile.FieldType.int)).before args0 about1 = true := code_word (m := ⟨9, 1⟩) (meth := k9m1) (c := k9c1) (by decide +kernel) rfl rfl rfl (by decide +kernel)
set_option maxRecDepth 65536 in
theorem w_c11 : (Jvm.Cond.code ({ cls := "java/lang/String", name := "indexOf", desc := "(II)I" } : Jvm.MethodName) jdk_42_method_80_code (3 : Nat) (Option.some Jvm.ClassFile.FieldType.int)).before args0 about1 = true := code_word (m := ⟨7, 4⟩) (meth := k7m4) (c := k7c4) (by decide +kernel) rfl rfl rfl (by decide +kernel)
set_option maxRecDepth 65536 in
theorem w_c12 : (Jvm.Cond.code ({ cls := "java/lang/String", name := "isLatin1", desc := "()Z" } : Jvm.MethodName) jdk_42_method_154_code (1 : Nat) (Option.some Jvm.ClassFile.FieldType.boolean)).before args0 about1 = true := code_word (m := ⟨7, 9⟩) (meth := k7m9) (c := k7c9) (by decide +kernel) rfl rfl rfl (by decide +kernel)
set_option maxRecDepth 65536 in
theorem w_c13 : (Jvm.Cond.code ({ cls := "java/lang/String", name := "length", desc := "()I" } : Jvm.MethodName) jdk_42_method_54_code (1 : Nat) (Option.some Jvm.ClassFile.FieldType.int)).before args0 about1 = true := code_word (m := ⟨7, 2⟩) (meth := k7m2) (c := k7c2) (by decide +kernel) rfl rfl rfl (by decide +kernel)
set_option maxRecDepth 65536 in
theorem w_c14 : (Jvm.Cond.code ({ cls := "java/lang/String", name := "coder", desc := "()B" } : Jvm.MethodName) jdk_42_method_152_code (1 : Nat) (Option.some Jvm.ClassFile.FieldType.byte)).before args0 about1 = true := code_word (m := ⟨7, 8⟩) (meth := k7m8) (c := k7c8) (by decide +kernel) rfl rfl rfl (by decide +kernel)
set_option maxRecDepth 65536 in
theorem w_c15 : (Jvm.Cond.code ({ cls := "java/lang/StringLatin1", name := "indexOf", desc := "([BIII)I" } : Jvm.MethodName) jdk_43_method_22_code (4 : Nat) (Option.some Jvm.ClassFile.FieldType.int)).before args0 about1 = true := code_word (m := ⟨10, 3⟩) (meth := k10m3) (c := k10c3) (by decide +kernel) rfl rfl rfl (by decide +kernel)
set_option maxRecDepth 65536 in
theorem w_c16 : (Jvm.Cond.code ({ cls := "java/lang/StringLatin1", name := "canEncode", desc := "(I)Z" } : Jvm.MethodName) jdk_43_method_4_code (1 : Nat) (Option.some Jvm.ClassFile.FieldType.boolean)).before args0 about1 = true := code_word (m := ⟨10, 2⟩) (meth := k10m2) (c := k10c2) (by decide +kernel) rfl rfl rfl (by decide +kernel)
set_option maxRecDepth 65536 in
theorem w_c17 : (Jvm.Cond.code ({ cls := "java/lang/Math", name := "max", desc := "(II)I" } : Jvm.MethodName) jdk_29_method_65_code (2 : Nat) (Option.some Jvm.ClassFile.FieldType.int)).before args0 about1 = true := code_word (m := ⟨11, 1⟩) (meth := k11m1) (c := k11c1) (by decide +kernel) rfl rfl rfl (by decide +kernel)
set_option maxRecDepth 65536 in
theorem w_c18 : (Jvm.Cond.code ({ cls := "java/lang/Math", name := "min", desc := "(II)I" } : Jvm.MethodName) jdk_29_method_69_code (2 : Nat) (Option.some Jvm.ClassFile.FieldType.int)).before args0 about1 = true := code_word (m := ⟨11, 3⟩) (meth := k11m3) (c := k11c3) (by decide +kernel) rfl rfl rfl (by decide +kernel)
set_option maxRecDepth 65536 in
theorem w_c19 : (Jvm.Cond.code ({ cls := "java/lang/StringLatin1", name := "indexOfChar", desc := "([BIII)I" } : Jvm.MethodName) jdk_43_method_23_code (6 : Nat) (Option.some Jvm.ClassFile.FieldType.int)).before args0 about1 = true := code_word (m := ⟨10, 4⟩) (meth := k10m4) (c := k10c4) (by decide +kernel) rfl rfl rfl (by decide +kernel)
set_option maxRecDepth 65536 in
theorem w_c20 : (Jvm.Cond.code ({ cls := "java/lang/String", name := "charAt", desc := "(I)C" } : Jvm.MethodName) jdk_42_method_56_code (2 : Nat) (Option.some Jvm.ClassFile.FieldType.char)).before args0 about1 = true := code_word (m := ⟨7, 3⟩) (meth := k7m3) (c := k7c3) (by decide +kernel) rfl rfl rfl (by decide +kernel)
set_option maxRecDepth 65536 in
theorem w_c21 : (Jvm.Cond.code ({ cls := "java/lang/StringLatin1", name := "charAt", desc := "([BI)C" } : Jvm.MethodName) jdk_43_method_2_code (2 : Nat) (Option.some Jvm.ClassFile.FieldType.char)).before args0 about1 = true := code_word (m := ⟨10, 1⟩) (meth := k10m1) (c := k10c1) (by decide +kernel) rfl rfl rfl (by decide +kernel)
set_option maxRecDepth 65536 in
theorem w_c22 : (Jvm.Cond.code ({ cls := "java/lang/String", name := "checkIndex", desc := "(II)V" } : Jvm.MethodName) jdk_42_method_155_code (2 : Nat) (Option.none : Option Jvm.ClassFile.FieldType)).before args0 about1 = true := code_word (m := ⟨7, 10⟩) (meth := k7m10) (c := k7c10) (by decide +kernel) rfl rfl rfl (by decide +kernel)
set_option maxRecDepth 65536 in
theorem w_c23 : (Jvm.Cond.code ({ cls := "jdk/internal/util/Preconditions", name := "checkIndex", desc := "(IILjava/util/function/BiFunction;)I" } : Jvm.MethodName) jdk_41_method_11_code (3 : Nat) (Option.some Jvm.ClassFile.FieldType.int)).before args0 about1 = true := code_word (m := ⟨12, 1⟩) (meth := k12m1) (c := k12c1) (by decide +kernel) rfl rfl rfl (by decide +kernel)
set_option maxRecDepth 65536 in
theorem w_c24 : (Jvm.Cond.code ({ cls := "java/lang/String", name := "indexOf", desc := "(Ljava/lang/String;I)I" } : Jvm.MethodName) jdk_42_method_85_code (3 : Nat) (Option.some Jvm.ClassFile.FieldType.int)).before args0 about1 = true := code_word (m := ⟨7, 5⟩) (meth := k7m5) (c := k7c5) (by decide +kernel) rfl rfl rfl (by decide +kernel)
set_option maxRecDepth 65536 in
theorem w_c25 : (Jvm.Cond.code ({ cls := "java/lang/String", name := "indexOf", desc := "([BBILjava/lang/String;I)I" } : Jvm.MethodName) jdk_42_method_87_code (8 : Nat) (Option.some Jvm.ClassFile.FieldType.int)).before args0 about1 = true := code_word (m := ⟨7, 6⟩) (meth := k7m6) (c := k7c6) (by decide +kernel) rfl rfl rfl (by decide +kernel)
set_option maxRecDepth 65536 in
theorem w_c26 : (Jvm.Cond.code ({ cls := "java/lang/Math", name := "clamp", desc := "(JII)I" } : Jvm.MethodName) jdk_29_method_73_code (4 : Nat) (Option.some Jvm.ClassFile.FieldType.int)).before args0 about1 = true := code_word (m := ⟨11, 5⟩) (meth := k11m5) (c := k11c5) (by decide +kernel) rfl rfl rfl (by decide +kernel)
set_option maxRecDepth 65536 in
theorem w_c27 : (Jvm.Cond.code ({ cls := "java/lang/Math", name := "max", desc := "(JJ)J" } : Jvm.MethodName) jdk_29_method_66_code (4 : Nat) (Option.some Jvm.ClassFile.FieldType.long)).before args0 about1 = true := code_word (m := ⟨11, 2⟩) (meth := k11m2) (c := k11c2) (by decide +kernel) rfl rfl rfl (by decide +kernel)
set_option maxRecDepth 65536 in
theorem w_c28 : (Jvm.Cond.code ({ cls := "java/lang/Math", name := "min", desc := "(JJ)J" } : Jvm.MethodName) jdk_29_method_70_code (4 : Nat) (Option.some Jvm.ClassFile.FieldType.long)).before args0 about1 = true := code_word (m := ⟨11, 4⟩) (meth := k11m4) (c := k11c4) (by decide +kernel) rfl rfl rfl (by decide +kernel)
set_option maxRecDepth 65536 in
theorem w_c29 : (Jvm.Cond.code ({ cls := "java/lang/StringLatin1", name := "indexOf", desc := "([BI[BII)I" } : Jvm.MethodName) jdk_43_method_25_code (11 : Nat) (Option.some Jvm.ClassFile.FieldType.int)).before args0 about1 = true := code_word (m := ⟨10, 5⟩) (meth := k10m5) (c := k10c5) (by decide +kernel) rfl rfl rfl (by decide +kernel)
def codes1 : List Jvm.Cond := [Jvm.Cond.code x code maxLocals ret, Jvm.Cond.code ({ cls := "anchorlog/AnchorPatternNextAnchorPinLaw", name := "ch", desc := "(JI)C" } : Jvm.MethodName) method_2_code (6 : Nat) (Option.some Jvm.ClassFile.FieldType.char), Jvm.Cond.code ({ cls := "anchorlog/AnchorPatternNextAnchorPinLaw", name := "make", desc := "(I[C)Ljava/lang/String;" } : Jvm.MethodName) method_4_code (2 : Nat) (Option.some (Jvm.ClassFile.FieldType.object "java/lang/String")), Jvm.Cond.code ({ cls := "java/lang/String", name := "<init>", desc := "([C)V" } : Jvm.MethodName) jdk_42_method_3_code (2 : Nat) (Option.none : Option Jvm.ClassFile.FieldType), Jvm.Cond.code ({ cls := "java/lang/String", name := "<init>", desc := "([CIILjava/lang/Void;)V" } : Jvm.MethodName) jdk_42_method_149_code (6 : Nat) (Option.none : Option Jvm.ClassFile.FieldType), Jvm.Cond.code ({ cls := "java/lang/Object", name := "<init>", desc := "()V" } : Jvm.MethodName) object_method_1_code (1 : Nat) (Option.none : Option Jvm.ClassFile.FieldType), Jvm.Cond.code ({ cls := "java/lang/StringUTF16", name := "compress", desc := "([CII)[B" } : Jvm.MethodName) jdk_52_method_16_code (6 : Nat) (Option.some (Jvm.ClassFile.FieldType.array Jvm.ClassFile.FieldType.byte)), Jvm.Cond.code ({ cls := "java/lang/StringUTF16", name := "compress", desc := "([CI[BII)I" } : Jvm.MethodName) jdk_52_method_21_code (7 : Nat) (Option.some Jvm.ClassFile.FieldType.int), Jvm.Cond.code ({ cls := "java/lang/StringUTF16", name := "coderFromArrayLen", desc := "([BI)B" } : Jvm.MethodName) jdk_52_method_15_code (2 : Nat) (Option.some Jvm.ClassFile.FieldType.byte), Jvm.Cond.code ({ cls := "anchorlog/AnchorPatternNextAnchorPinLaw", name := "at", desc := "([CIII)Z" } : Jvm.MethodName) method_3_code (4 : Nat) (Option.some Jvm.ClassFile.FieldType.boolean), Jvm.Cond.code ({ cls := "anchorlog/AnchorPattern", name := "nextAnchor", desc := "(Ljava/lang/String;I)I" } : Jvm.MethodName) prog_1_method_3_code (3 : Nat) (Option.some Jvm.ClassFile.FieldType.int), Jvm.Cond.code ({ cls := "java/lang/String", name := "indexOf", desc := "(II)I" } : Jvm.MethodName) jdk_42_method_80_code (3 : Nat) (Option.some Jvm.ClassFile.FieldType.int), Jvm.Cond.code ({ cls := "java/lang/String", name := "isLatin1", desc := "()Z" } : Jvm.MethodName) jdk_42_method_154_code (1 : Nat) (Option.some Jvm.ClassFile.FieldType.boolean), Jvm.Cond.code ({ cls := "java/lang/String", name := "length", desc := "()I" } : Jvm.MethodName) jdk_42_method_54_code (1 : Nat) (Option.some Jvm.ClassFile.FieldType.int), Jvm.Cond.code ({ cls := "java/lang/String", name := "coder", desc := "()B" } : Jvm.MethodName) jdk_42_method_152_code (1 : Nat) (Option.some Jvm.ClassFile.FieldType.byte), Jvm.Cond.code ({ cls := "java/lang/StringLatin1", name := "indexOf", desc := "([BIII)I" } : Jvm.MethodName) jdk_43_method_22_code (4 : Nat) (Option.some Jvm.ClassFile.FieldType.int), Jvm.Cond.code ({ cls := "java/lang/StringLatin1", name := "canEncode", desc := "(I)Z" } : Jvm.MethodName) jdk_43_method_4_code (1 : Nat) (Option.some Jvm.ClassFile.FieldType.boolean), Jvm.Cond.code ({ cls := "java/lang/Math", name := "max", desc := "(II)I" } : Jvm.MethodName) jdk_29_method_65_code (2 : Nat) (Option.some Jvm.ClassFile.FieldType.int), Jvm.Cond.code ({ cls := "java/lang/Math", name := "min", desc := "(II)I" } : Jvm.MethodName) jdk_29_method_69_code (2 : Nat) (Option.some Jvm.ClassFile.FieldType.int), Jvm.Cond.code ({ cls := "java/lang/StringLatin1", name := "indexOfChar", desc := "([BIII)I" } : Jvm.MethodName) jdk_43_method_23_code (6 : Nat) (Option.some Jvm.ClassFile.FieldType.int), Jvm.Cond.code ({ cls := "java/lang/String", name := "charAt", desc := "(I)C" } : Jvm.MethodName) jdk_42_method_56_code (2 : Nat) (Option.some Jvm.ClassFile.FieldType.char), Jvm.Cond.code ({ cls := "java/lang/StringLatin1", name := "charAt", desc := "([BI)C" } : Jvm.MethodName) jdk_43_method_2_code (2 : Nat) (Option.some Jvm.ClassFile.FieldType.char), Jvm.Cond.code ({ cls := "java/lang/String", name := "checkIndex", desc := "(II)V" } : Jvm.MethodName) jdk_42_method_155_code (2 : Nat) (Option.none : Option Jvm.ClassFile.FieldType), Jvm.Cond.code ({ cls := "jdk/internal/util/Preconditions", name := "checkIndex", desc := "(IILjava/util/function/BiFunction;)I" } : Jvm.MethodName) jdk_41_method_11_code (3 : Nat) (Option.some Jvm.ClassFile.FieldType.int), Jvm.Cond.code ({ cls := "java/lang/String", name := "indexOf", desc := "(Ljava/lang/String;I)I" } : Jvm.MethodName) jdk_42_method_85_code (3 : Nat) (Option.some Jvm.ClassFile.FieldType.int), Jvm.Cond.code ({ cls := "java/lang/String", name := "indexOf", desc := "([BBILjava/lang/String;I)I" } : Jvm.MethodName) jdk_42_method_87_code (8 : Nat) (Option.some Jvm.ClassFile.FieldType.int), Jvm.Cond.code ({ cls := "java/lang/Math", name := "clamp", desc := "(JII)I" } : Jvm.MethodName) jdk_29_method_73_code (4 : Nat) (Option.some Jvm.ClassFile.FieldType.int), Jvm.Cond.code ({ cls := "java/lang/Math", name := "max", desc := "(JJ)J" } : Jvm.MethodName) jdk_29_method_66_code (4 : Nat) (Option.some Jvm.ClassFile.FieldType.long), Jvm.Cond.code ({ cls := "java/lang/Math", name := "min", desc := "(JJ)J" } : Jvm.MethodName) jdk_29_method_70_code (4 : Nat) (Option.some Jvm.ClassFile.FieldType.long), Jvm.Cond.code ({ cls := "java/lang/StringLatin1", name := "indexOf", desc := "([BI[BII)I" } : Jvm.MethodName) jdk_43_method_25_code (11 : Nat) (Option.some Jvm.ClassFile.FieldType.int)]
set_option maxRecDepth 65536 in
theorem codes_eq : words1.filter isCode = codes1 := rfl
theorem w_codes : ∀ c ∈ words1.filter isCode, c.before args0 about1 = true := by
  rw [codes_eq]
  intro c hc
  simp only [codes1, List.mem_cons, List.not_mem_nil, or_false] at hc
  rcases hc with rfl | rfl | rfl | rfl | rfl | rfl | rfl | rfl | rfl | rfl | rfl | rfl | rfl | rfl | rfl | rfl | rfl | rfl | rfl | rfl | rfl | rfl | rfl | rfl | rfl | rfl | rfl | rfl | rfl | rfl
  · exact w_c0
  · exact w_c1
  · exact w_c2
  · exact w_c3
  · exact w_c4
  · exact w_c5
  · exact w_c6
  · exact w_c7
  · exact w_c8
  · exact w_c9
  · exact w_c10
  · exact w_c11
  · exact w_c12
  · exact w_c13
  · exact w_c14
  · exact w_c15
  · exact w_c16
  · exact w_c17
  · exact w_c18
  · exact w_c19
  · exact w_c20
  · exact w_c21
  · exact w_c22
  · exact w_c23
  · exact w_c24
  · exact w_c25
  · exact w_c26
  · exact w_c27
  · exact w_c28
  · exact w_c29
set_option maxRecDepth 65536 in
theorem w_t1 : (words1.take 24).all (fun c => isCode c || c.before args0 about1) = true := by decide +kernel
set_option maxRecDepth 65536 in
theorem w_t2 : ((words1.drop 24).take 24).all (fun c => isCode c || c.before args0 about1) = true := by decide +kernel
set_option maxRecDepth 65536 in
theorem w_t3 : (((words1.drop 24).drop 24).take 24).all (fun c => isCode c || c.before args0 about1) = true := by decide +kernel
set_option maxRecDepth 65536 in
theorem w_t4 : ((((words1.drop 24).drop 24).drop 24).take 24).all (fun c => isCode c || c.before args0 about1) = true := by decide +kernel
set_option maxRecDepth 65536 in
theorem w_t5 : (((((words1.drop 24).drop 24).drop 24).drop 24).take 24).all (fun c => isCode c || c.before args0 about1) = true := by decide +kernel
set_option maxRecDepth 65536 in
theorem w_t6 : (((((words1.drop 24).drop 24).drop 24).drop 24).drop 24).all (fun c => isCode c || c.before args0 about1) = true := by decide +kernel
theorem w_tables : (allAtoms (Jvm.Cond.code x code maxLocals ret :: tables_1)).before args0 about1 = true := by
  rw [allAtoms_all]
  show words1.all (fun c => c.before args0 about1) = true
  refine all_split ?_ w_codes
  rw [← List.take_append_drop 24 words1, List.all_append, w_t1, ← List.take_append_drop 24 (words1.drop 24), List.all_append, w_t2, ← List.take_append_drop 24 ((words1.drop 24).drop 24), List.all_append, w_t3, ← List.take_append_drop 24 (((words1.drop 24).drop 24).drop 24), List.all_append, w_t4, ← List.take_append_drop 24 ((((words1.drop 24).drop 24).drop 24).drop 24), List.all_append, w_t5, w_t6]
  rfl
set_option maxRecDepth 65536 in
theorem w_rest : rest_1_c.before args0 about1 = true := by decide +kernel
set_option maxRecDepth 65536 in
theorem w_case : (Jvm.Cond.and given_1 narrow_1).before args0 about1 = true := by decide +kernel
set_option maxRecDepth 65536 in
theorem w_consts : constsHeld consts_1 about1 := Jvm.Lit.constsHeldB_iff.mp (by decide +kernel)
theorem w_applies : (headSpec (Jvm.Cond.code x code maxLocals ret :: tables_1) room_1).applies x e0.platform about1 = true :=
  (Spec.applies_iff w_frames).mpr ⟨w_running, w_runnable, w_alone, w_named, w_hears, w_ripe, w_room, w_tables⟩
theorem atStart : AtStart classFile x code maxLocals ret World_1 tables_1 room_1 Calls_1 rest_1 Pre_1 launch0 p0 e0 about1 theMethod args0 below0 :=
  ⟨lists_1, trivial, launch0.admits_env _ _ _, launch0.least_env, fairChoices_fair.cas, fairChoices_fair.clock, w_frames, w_args, w_heap, w_applies, ⟨w_consts, trivial⟩, w_rest, w_case⟩
end start1
theorem witness_1 : WitnessClaimed_1 := ⟨start1.p0, start1.e0, start1.about1, start1.theMethod, start1.args0, start1.below0, start1.atStart⟩
end Jvm.Pilot.@@N@@
