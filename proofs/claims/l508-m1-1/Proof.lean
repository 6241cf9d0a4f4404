import JvmDerived
import JvmDerived.Pilot.@@N@@Statement
import JvmDerived.Pilot.@@N@@Code
set_option linter.unusedVariables false
set_option linter.unusedSimpArgs false

/- laws to paste: Road.lenW (cut by pick.py; bodies as the Statement names them) -/
namespace Jvm.Pilot.@@N@@
namespace StrChars
open Jvm Sem ClassFile Op Lib Jvm.Stand Jvm.Free.XT Jvm.Free.ALB Jvm.Free.JM Jvm.Free
open Jvm.Lib.Cold (StaticIs)
/-- the byte that i2b leaves of a char -/
def lo8 (x : Int32) : Int32 := x.toInt8.toInt32
def U16 : String := "java/lang/StringUTF16"
namespace Cmp5
def yN : MethodName := ⟨"java/lang/StringUTF16", "compress", "([CI[BII)I"⟩
abbrev yB : ByteArray := jdk_52_method_21_code
end Cmp5
namespace Cmp3
def yN : MethodName := ⟨"java/lang/StringUTF16", "compress", "([CII)[B"⟩
abbrev yB : ByteArray := jdk_52_method_16_code
end Cmp3
namespace CodL
def yN : MethodName := ⟨"java/lang/StringUTF16", "coderFromArrayLen", "([BI)B"⟩
abbrev yB : ByteArray := jdk_52_method_15_code
end CodL
namespace New4
def yN : MethodName := ⟨"java/lang/String", "<init>", "([CIILjava/lang/Void;)V"⟩
abbrev yB : ByteArray := jdk_42_method_149_code
end New4
namespace New1
def yN : MethodName := ⟨"java/lang/String", "<init>", "([C)V"⟩
abbrev yB : ByteArray := jdk_42_method_3_code
end New1
end StrChars
namespace StrChars.Road
open Jvm Sem ClassFile Op Lib Jvm.Stand Jvm.Free Jvm.Free.XT
open Jvm.Lib.Cold (StaticIs)
abbrev ST : String := "java/lang/String"
/-- every table word that New1's law asks, flat -/
abbrev words : List Jvm.Cond := [.code New1.yN New1.yB 2 none, .initialized ST, .methodLink ST 27 New4.yN, .instanceMethod New4.yN,
  .code New4.yN New4.yB 6 none, .fieldLink ST 38 ST "COMPACT_STRINGS" "Z", .laysFinal ST ST "value" "[B", .fieldLink ST 9 ST "value" "[B", .laysFinal ST ST "coder" "B", .fieldLink ST 15 ST "coder" "B",
  .methodLink ST 1 Lib.objectInit, .instanceMethod Lib.objectInit, .code Lib.objectInit ⟨#[0xb1]⟩ 1 none, .methodLink ST 177 Cmp3.yN, .static Cmp3.yN, .methodLink ST 47 CodL.yN, .static CodL.yN,
  .code Cmp3.yN Cmp3.yB 6 (some (.array .byte)), .initialized U16, .arrayClass .byte, .methodLink U16 115 Cmp5.yN, .static Cmp5.yN, .code Cmp5.yN Cmp5.yB 7 (some .int), .code CodL.yN CodL.yB 2 (some .byte)]
end StrChars.Road
namespace StrChars
open Jvm Sem ClassFile Op Lib Jvm.Stand Jvm.Free.XT Jvm.Free.ALB Jvm.Free.JM Jvm.Free
open Jvm.Lib.Cold (StaticIs)
def hi8 (x : Int32) : Int32 := lo8 (x >>> ((8 : Int32) &&& 31))
theorem shr0 (c : Int32) : c >>> ((0 : Int32) &&& 31) = c := by
  have e : ((0 : Int32) &&& 31) = 0 := by decide
  rw [e]
  apply Int32.toBitVec_inj.mp
  rw [Int32.toBitVec_shiftRight]
  have e1 : ((0 : Int32).toBitVec.smod 32) = 0#32 := by decide
  rw [e1, BitVec.sshiftRight_eq']
  exact BitVec.sshiftRight_zero
end StrChars
namespace StrChars
open Jvm Sem ClassFile Op Lib Jvm.Stand Jvm.Free.XT Jvm.Free.ALB Jvm.Free.JM Jvm.Free
open Jvm.Lib.Cold (StaticIs)
theorem shr1 {n : Nat} (h : 2 * n < 2 ^ 31) : Int32.ofNat (2 * n) >>> ((1 : Int32) &&& 31) = Int32.ofNat n := by
  have e : ((1 : Int32) &&& 31) = 1 := by decide
  rw [e]
  apply Int32.toBitVec_inj.mp
  rw [Int32.toBitVec_shiftRight]
  have e1 : ((1 : Int32).toBitVec.smod 32) = 1#32 := by decide
  have hm : (BitVec.ofNat 32 (2 * n)).toNat = 2 * n := by rw [BitVec.toNat_ofNat, Nat.mod_eq_of_lt (by omega)]
  rw [e1, BitVec.sshiftRight_eq']
  apply BitVec.eq_of_toNat_eq
  show ((BitVec.ofNat 32 (2 * n)).sshiftRight 1).toNat = (BitVec.ofNat 32 n).toNat
  rw [BitVec.toNat_sshiftRight_of_msb_false (by rw [BitVec.msb_eq_false_iff_two_mul_lt, hm]; omega), hm, BitVec.toNat_ofNat, Nat.shiftRight_eq_div_pow]
  omega
/-- the array's cell V codes the n chars f 0 .. f (n - 1) by the coder cd, as the JDK does: coder 1 just where some char is above 255 -/
def Cod (cd : Int32) (n : Nat) (f : Nat → Int32) (V : Cell) : Prop := (cd = 0 ∧ V.slots.size = n ∧ ∀ j, j < n → V.slots[j]? = some (.int (lo8 (f j))) ∧ ¬ 255 < f j) ∨ (cd = 1 ∧ V.slots.size = 2 * n ∧ (∀ j, j < n → V.slots[2 * j]? = some (.int (lo8 (f j))) ∧ V.slots[2 * j + 1]? = some (.int (hi8 (f j)))) ∧ ∃ j, j < n ∧ 255 < f j)
theorem Cod.cd {cd : Int32} {n : Nat} {f : Nat → Int32} {V : Cell} (h : Cod cd n f V) : cd = 0 ∨ cd = 1 := h.imp (fun q => q.1) fun q => q.1
theorem Cod.len {cd : Int32} {n : Nat} {f : Nat → Int32} {V : Cell} (h : Cod cd n f V) (hs : V.slots.size < 2 ^ 31) : Int32.ofNat V.slots.size >>> (cd &&& 31) = Int32.ofNat n := by
  rcases h with ⟨rfl, h, -⟩ | ⟨rfl, h, -⟩
  · rw [shr0, h]
  · rw [h, shr1 (by omega)]
/-- **x is a String of the n chars f 0 .. f (n - 1)**, Latin-1 or UTF-16; its array at t has the cell V -/
def Txt (x t : Addr) (V : Cell) (cd : Int32) (n : Nat) (f : Nat → Int32) (U : State) : Prop := Exact "java/lang/String" x U ∧ Has x "java/lang/String" "value" "[B" (.ref t) U ∧ Has x "java/lang/String" "coder" "B" (.int cd) U ∧ XT.Arr .byte t V U ∧ Cod cd n f V ∧ ∀ j, j < n → ¬ f j < 0 ∧ ¬ 65535 < f j
theorem Txt.mv {x t : Addr} {V : Cell} {cd : Int32} {n : Nat} {f : Nat → Int32} {U U' : State} (h : Txt x t V cd n f U) (hal : U.vm.Alike U'.vm) (hh : U'.heap = U.heap) : Txt x t V cd n f U' := ⟨h.1.mv hal hh, h.2.1.mv hal hh, h.2.2.1.mv hal hh, h.2.2.2.1.mv hal hh, h.2.2.2.2⟩
namespace Cdr
def yN : MethodName := ⟨"java/lang/String", "coder", "()B"⟩
abbrev yB : ByteArray := jdk_42_method_152_code
theorem d0 : decode yB 0 = .ok (.getstatic 38, 3) := by decide +kernel
theorem d3 : decode yB 3 = .ok (.ifCond (.eq) 10, 3) := by decide +kernel
theorem d6 : decode yB 6 = .ok (.aload_n 0, 1) := by decide +kernel
theorem d7 : decode yB 7 = .ok (.getfield 15, 3) := by decide +kernel
theorem d10 : decode yB 10 = .ok (.goto 4, 3) := by decide +kernel
theorem d14 : decode yB 14 = .ok (.ireturn, 1) := by decide +kernel
def site : List Cond := [.fieldLink "java/lang/String" 38 "java/lang/String" "COMPACT_STRINGS" "Z", .fieldLink "java/lang/String" 15 "java/lang/String" "coder" "B"]
def tab : Cond := tabOf yN yB 1 (some .byte) site
def P (x : Addr) (cd z : Int32) (args : Array Value) (s : State) : Prop := args = #[.ref x] ∧ Has x "java/lang/String" "coder" "B" (.int cd) s ∧ (cd = 0 ∨ cd = 1) ∧ StaticIs s "java/lang/String" "COMPACT_STRINGS" "Z" (.int z) ∧ ¬ z = 0
def E (cd : Int32) (r : Option Value) (s u : State) : Prop := XT.PureE (some (.int cd)) r s u
theorem law (l : Launch) (x : Addr) (cd z : Int32) : Law l yN 1 0 0 0 yB 1 (some .byte) site (P x cd z) (E cd) [] 0 0 := by
  refine Law.of_walk (plainFor_of_name (by decide +kernel)) (by decide +kernel) (by decide +kernel) (by decide) (fun _ _ h => by rw [h.1]; rfl) (fun _ U U' hal hh h => ⟨h.1, h.2.1.mv hal hh, h.2.2.1, h.2.2.2.1.there hal hh, h.2.2.2.2⟩) (fun r U U' V V' h1 hal h2 h => XT.PureE.mv r U U' V V' h1 hal h2 h) ?_
  intro p e s m args below meth c s₁ X0 hexec hbytes hml hret hlk hnm hown hh0 W hP
  obtain ⟨rfl, hx, hc, s1, hz⟩ := hP
  have c1 : Steps p.tables e below (s₁.setTop (entryFrame m #[.ref x] 1)) (s₁.setTop (mkF m 0 #[.val (.ref x)] [])) := entry rfl
  obtain ⟨T2, X2, q2, st2⟩ := X0.sget hexec hown (wk W (.fieldLink "java/lang/String" 38 "java/lang/String" "COMPACT_STRINGS" "Z")) s1 (fun _ _ h => by rw [hh0]; exact h) (g := (mkF m 0 #[.val (.ref x)] [])) rfl (hb hbytes d0)
  have hh2 := q2.trans hh0
  have c3 : Steps p.tables e below (s₁.setTop (entryFrame m #[.ref x] 1)) (T2.setTop (mkF m 7 #[.val (.ref x)] [.ref x])) := (c1.trans (st2 _ (Steps.refl _))).trans (by
    refine XS.ifNo X2.here hexec rfl (hb hbytes d3) rfl (i0_eq_f hz) ?_
    refine XS.aloadN X2.here hexec rfl (hb hbytes d6) rfl rfl ?_
    exact Steps.refl _)
  obtain ⟨T4, X4, q4, st4⟩ := X2.hget hexec hown (wk W (.fieldLink "java/lang/String" 15 "java/lang/String" "coder" "B")) (hx.mv X2.warmed.alike hh2) (g := (mkF m 7 #[.val (.ref x)] [.ref x])) rfl (rest := []) rfl (hb hbytes d7)
  have c5 : Steps p.tables e below (s₁.setTop (entryFrame m #[.ref x] 1)) (T4.setTop (mkF m 14 #[.val (.ref x)] [.int cd])) := (c3.trans (st4 _ (Steps.refl _))).trans (by
    refine XS.goto X4.here hexec rfl (pc0 := 10) rfl (hb hbytes d10) (by decide) rfl ?_
    exact Steps.refl _)
  exact ⟨T4, some (.int cd), _, _, _, X4, rfl, rfl, rfl, (fun h => by cases h), ⟨rfl, q4.trans hh2⟩, fun fs hl => c5.trans (X4.ireturnOut hexec hret (by rcases hc with rfl | rfl <;> rfl) (Or.inr (Or.inr (Or.inl rfl))) (hb hbytes d14) hl)⟩
end Cdr
namespace Len
def yN : MethodName := ⟨"java/lang/String", "length", "()I"⟩
abbrev yB : ByteArray := jdk_42_method_54_code
theorem d0 : decode yB 0 = .ok (.aload_n 0, 1) := by decide +kernel
theorem d1 : decode yB 1 = .ok (.getfield 9, 3) := by decide +kernel
theorem d4 : decode yB 4 = .ok (.arraylength, 1) := by decide +kernel
theorem d5 : decode yB 5 = .ok (.aload_n 0, 1) := by decide +kernel
theorem d6 : decode yB 6 = .ok (.invokevirtual 335, 3) := by decide +kernel
theorem d9 : decode yB 9 = .ok (.ishr, 1) := by decide +kernel
theorem d10 : decode yB 10 = .ok (.ireturn, 1) := by decide +kernel
def site : List Cond := [.fieldLink "java/lang/String" 9 "java/lang/String" "value" "[B", Cdr.tab] ++ virtW "java/lang/String" 335 "java/lang/String" Cdr.yN Cdr.yN
def tab : Cond := tabOf yN yB 1 (some .int) site
def P (x t : Addr) (V : Cell) (cd : Int32) (n : Nat) (f : Nat → Int32) (z : Int32) (args : Array Value) (s : State) : Prop := args = #[.ref x] ∧ Txt x t V cd n f s ∧ StaticIs s "java/lang/String" "COMPACT_STRINGS" "Z" (.int z) ∧ ¬ z = 0
def E (n : Nat) (r : Option Value) (s u : State) : Prop := XT.PureE (some (.int (Int32.ofNat n))) r s u
/-- length() of a String of n chars, in either coding -/
theorem law (l : Launch) (x t : Addr) (V : Cell) (cd : Int32) (n : Nat) (f : Nat → Int32) (z : Int32) : Law l yN 1 0 1 13 yB 1 (some .int) site (P x t V cd n f z) (E n) [] 0 0 := by
  refine Law.of_walk (plainFor_of_name (by decide +kernel)) (by decide +kernel) (by decide +kernel) (by decide) (fun _ _ h => by rw [h.1]; rfl) (fun _ U U' hal hh h => ⟨h.1, h.2.1.mv hal hh, h.2.2.1.there hal hh, h.2.2.2⟩) (fun r U U' V V' h1 hal h2 h => XT.PureE.mv r U U' V V' h1 hal h2 h) ?_
  intro p e s m args below meth c s₁ X0 hexec hbytes hml hret hlk hnm hown hh0 W hP
  obtain ⟨rfl, hx, s1, hz⟩ := hP
  have v31 := hx.2.2.2.1.2.2.2
  have c1 : Steps p.tables e below (s₁.setTop (entryFrame m #[.ref x] 1)) (s₁.setTop (mkF m 1 #[.val (.ref x)] [.ref x])) := Steps.trans (entry rfl) (by
    show Steps p.tables e below (s₁.setTop (mkF m 0 #[.val (.ref x)] [])) _
    refine XS.aloadN X0.here hexec rfl (hb hbytes d0) rfl rfl ?_
    exact Steps.refl _)
  obtain ⟨T2, X2, q2, st2⟩ := X0.hget hexec hown (wk W (.fieldLink "java/lang/String" 9 "java/lang/String" "value" "[B")) (hx.mv X0.warmed.alike hh0).2.1 (g := (mkF m 1 #[.val (.ref x)] [.ref x])) rfl (rest := []) rfl (hb hbytes d1)
  have hh2 := q2.trans hh0
  have hx2 := hx.mv X2.warmed.alike hh2
  have c3 : Steps p.tables e below (s₁.setTop (entryFrame m #[.ref x] 1)) (T2.setTop (mkF m 6 #[.val (.ref x)] [.ref x, .int (Int32.ofNat V.slots.size)])) := (c1.trans (st2 _ (Steps.refl _))).trans (by
    refine X2.alen hexec hx2.2.2.2.1 rfl rfl (hb hbytes d4) ?_
    refine XS.aloadN X2.here hexec rfl (hb hbytes d5) rfl rfl ?_
    exact Steps.refl _)
  obtain ⟨v4, T4, X4, E4, g4⟩ := X2.callV hexec (Cdr.law l x cd z) hown (wks W (virtW "java/lang/String" 335 "java/lang/String" Cdr.yN Cdr.yN)) rfl (by decide) (wk W Cdr.tab) (W := 1) (Nat.le_of_ble_eq_true rfl) (Nat.le_of_ble_eq_true rfl) (Nat.le_refl _) (Nat.le_refl _) (hx2.1.fc X2.warmed.alike) hx2.1.is (g := (mkF m 6 #[.val (.ref x)] [.ref x, .int (Int32.ofNat V.slots.size)])) rfl (by rw [hml]; rfl) c3 (argsL := []) (rest := [.int (Int32.ofNat V.slots.size)]) rfl rfl (by show 2 * 0 + (1 + 0) ≤ _; decide) (hb hbytes d6) (⟨rfl, hx2.2.2.1, hx.2.2.2.2.1.cd, s1.there X2.warmed.alike hh2, hz⟩)
  obtain ⟨rfl, q4⟩ := E4
  have c5 : Steps p.tables e below (s₁.setTop (entryFrame m #[.ref x] 1)) (T4.setTop (mkF m 10 #[.val (.ref x)] [.int (Int32.ofNat V.slots.size >>> (cd &&& 31))])) := Steps.trans g4 (by
    refine ishr X4.here hexec rfl (hb hbytes d9) rfl ?_
    exact Steps.refl _)
  rw [hx.2.2.2.2.1.len v31] at c5
  exact ⟨T4, some (.int (Int32.ofNat n)), _, _, _, X4, rfl, rfl, rfl, (fun h => by cases h), ⟨rfl, q4.trans hh2⟩, fun fs hl => c5.trans (X4.ireturnOut hexec hret rfl (Or.inl rfl) (hb hbytes d10) hl)⟩
theorem pays {l : Launch} {R : Room} {p : Program} {e : Env} {below : List Frame} {s : State} {sargs : Array Value} {len W : Nat} (x t : Addr) (V : Cell) (cd : Int32) (n : Nat) (f : Nat → Int32) (z : Int32) (htab : tab.before sargs s = true) (hfr : 2 ≤ R.frames) (hlo : W + 25 ≤ R.locals) :
    Back l R p e below s sargs yN len W (fun A₁ a₁ => A₁.cells + 0 ≤ R.cells ∧ A₁.slots + 0 ≤ R.slots ∧ P x t V cd n f z a₁ A₁.U) (fun A₁ _ v₁ B₁ => E n v₁ A₁.U B₁.U ∧ B₁.locs = A₁.locs ++ [] ∧ B₁.cells = A₁.cells + 0 ∧ B₁.slots = A₁.slots + 0) :=
  (law l x t V cd n f z).pays htab hfr (by omega)
end Len
end StrChars
namespace StrChars.Road
open Jvm Sem ClassFile Op Lib Jvm.Stand Jvm.Free Jvm.Free.XT
open Jvm.Lib.Cold (StaticIs)
theorem consq {a : Array Value} {s : State} {c : Jvm.Cond} {L : List Jvm.Cond} (h0 : c.before a s = true) (h : ∀ w ∈ L, w.before a s = true) : ∀ w ∈ c :: L, w.before a s = true := fun w hw => (List.mem_cons.mp hw).elim (fun e => e ▸ h0) (h w)
/-- the words of String.length(), either coding -/
abbrev wordsLen : List Jvm.Cond := [.code Len.yN Len.yB 1 (some .int), .initialized ST, .fieldLink ST 9 ST "value" "[B", .fieldLink ST 38 ST "COMPACT_STRINGS" "Z", .fieldLink ST 15 ST "coder" "B", .code Cdr.yN Cdr.yB 1 (some .byte), .methodLink ST 335 Cdr.yN, .declares Cdr.yN, .selects ST Cdr.yN Cdr.yN, .instanceMethod Cdr.yN]
theorem tabLen_of {a : Array Value} {s : State} (h : ∀ w ∈ wordsLen, w.before a s = true) : Len.tab.before a s = true := by
  have hc : Cdr.tab.before a s = true := unparts (wk h (.code Cdr.yN Cdr.yB 1 (some .byte))) (wks h (.initialized Cdr.yN.cls :: Cdr.site))
  have q := consq hc h
  exact unparts (wk q (.code Len.yN Len.yB 1 (some .int))) (wks q (.initialized Len.yN.cls :: Len.site))
theorem movedLen {Z s : State} {a0 args : Array Value} (hZ : Z.Warmed39 s.vm) (hw : ∀ d ∈ wordsLen, d.before a0 Z = true) : ∀ d ∈ wordsLen, d.before args s = true := fun d hd => by
  have q := hw d hd
  have t : ∀ d ∈ wordsLen, d = .arrayClass .byte ∨ (d.onTables && d.keepsFace) = true := by decide +kernel
  rcases t d hd with rfl | t
  · exact RoadKit.mvA hZ q
  · exact RoadKit.mv hZ q t
/-- the bytes of the chars cs, low before high -/
def wideBytes : List Int32 → List Value
  | [] => []
  | c :: cs => .int (lo8 c) :: .int (hi8 c) :: wideBytes cs
theorem wide_lo (d : Value) : ∀ (cs : List Int32) (j : Nat), j < cs.length → (wideBytes cs).getD (2 * j) d = .int (lo8 (cs.getD j 0))
  | [], j, h => absurd h (Nat.not_lt_zero j)
  | c :: cs, 0, _ => rfl
  | c :: cs, j + 1, h => by
    have q := wide_lo d cs j (by simpa using h)
    rw [show 2 * (j + 1) = 2 * j + 1 + 1 from by omega]
    simpa [wideBytes] using q
theorem wide_hi (d : Value) : ∀ (cs : List Int32) (j : Nat), j < cs.length → (wideBytes cs).getD (2 * j + 1) d = .int (hi8 (cs.getD j 0))
  | [], j, h => absurd h (Nat.not_lt_zero j)
  | c :: cs, 0, _ => rfl
  | c :: cs, j + 1, h => by
    have q := wide_hi d cs j (by simpa using h)
    rw [show 2 * (j + 1) + 1 = 2 * j + 1 + 1 + 1 from by omega]
    simpa [wideBytes] using q
theorem low_at (d : Value) (cs : List Int32) (j : Nat) (h : j < cs.length) : (cs.map fun c => Value.int (lo8 c)).getD j d = .int (lo8 (cs.getD j 0)) := by
  simp [List.getD_eq_getElem?_getD, h]
/-- an array of N2 bytes vs codes the chars cs by the coder cd -/
def CodA (cs : List Int32) (cd N2 : Int32) (vs : List Value) : Prop := (cd = 0 ∧ N2 = Int32.ofNat cs.length ∧ vs = (cs.map fun c => Value.int (lo8 c)) ∧ ∀ c ∈ cs, ¬ 255 < c) ∨ (cd = 1 ∧ N2 = Int32.ofNat (2 * cs.length) ∧ vs = wideBytes cs ∧ ∃ c ∈ cs, 255 < c)
theorem CodA.cod {cs : List Int32} {cd N2 : Int32} {vs : List Value} {V : Cell} (h : CodA cs cd N2 vs) (hn : 2 * cs.length < 2 ^ 31) (hs : V.slots.size = N2.toNatClampNeg) (hv : RoadKit.Has V vs (.int 0)) : Cod cd cs.length (fun j => cs.getD j 0) V := by
  rcases h with ⟨rfl, rfl, rfl, h⟩ | ⟨rfl, rfl, rfl, c, hc, hw⟩
  · rw [n32 (by omega)] at hs
    exact Or.inl ⟨rfl, hs, fun j hj => ⟨by rw [hv j (by omega), low_at _ _ _ hj], by
      have e : cs.getD j 0 = cs[j] := by simp [List.getD_eq_getElem?_getD, hj]
      show ¬ 255 < cs.getD j 0
      rw [e]; exact h _ (List.getElem_mem _)⟩⟩
  · rw [n32 (by omega)] at hs
    obtain ⟨j, hj, rfl⟩ := List.getElem_of_mem hc
    exact Or.inr ⟨rfl, hs, fun j hj => ⟨by rw [hv _ (by omega), wide_lo _ _ _ hj], by rw [hv _ (by omega), wide_hi _ _ _ hj]⟩, j, hj, by
      have e : cs.getD j 0 = cs[j] := by simp [List.getD_eq_getElem?_getD, hj]
      show 255 < cs.getD j 0
      rw [e]; exact hw⟩
/-- an object of exactly java/lang/String, its two fields found: as the laws ask it -/
theorem strObj {Z U : State} {a0 : Array Value} {kI : Nat} (wi : (Jvm.Cond.instantiable ST kI).before a0 Z = true) (al : Z.vm.Alike U.vm) {x : Addr} {v0 c0 : Value} (E : RoadKit.Exa Z U.heap x ST) (V : RoadKit.Fld Z U.heap x ST "value" "[B" v0) (C : RoadKit.Fld Z U.heap x ST "coder" "B" c0) :
    ∃ (D : Cell) (fV fC : Field), Blank ST x D U ∧ Found ST "value" "[B" fV U ∧ Found ST "coder" "B" fC U ∧ D.slots[fV.slot]? = some v0 ∧ D.slots[fC.slot]? = some c0 ∧ RoadKit.slotOf Z ST "value" "[B" = fV.slot ∧ RoadKit.slotOf Z ST "coder" "B" = fC.slot := by
  obtain ⟨D, cfV, kV, iV, fV, hD, gV, stV, knV, obV, asV, slV⟩ := V
  obtain ⟨D', cfC, kC, iC, fC, hD', gC, stC, -, -, asC, slC⟩ := C
  cases hD.symm.trans hD'
  obtain ⟨D2, kD, e1, e2, e3, e4, e5⟩ := E
  cases hD.symm.trans e1
  obtain ⟨c2, k2, i1, i2, i3, -⟩ := Cond.instantiable_spec wi
  cases e2.symm.trans i1
  cases e3.symm.trans i2
  obtain ⟨kU, u1, u2⟩ := al.2.2 _ _ e3
  exact ⟨D, fV, fC, ⟨hD, ⟨knV, fun q hq => by rw [hq] at obV; cases obV⟩, by rw [al.findClass]; exact e2, kU, u1, by rw [u2]; exact i3, by rw [u2]; exact e5 i3⟩, ⟨SBG.found_only al ⟨cfV, kV, iV, gV⟩, stV⟩, ⟨SBG.found_only al ⟨cfC, kC, iC, gC⟩, stC⟩, slV, slC, by simp [RoadKit.slotOf, gV], by simp [RoadKit.slotOf, gC]⟩
theorem sta_is {Z U : State} (al : Z.vm.Alike U.vm) {C n d : String} {v : Value} (S : RoadKit.Sta Z U.heap C n d v) : StaticIs U C n d v := by
  obtain ⟨cfS, iS, kS, fS, st, cS, t1, t2, t3, t4, t5, t6, t7⟩ := S
  exact StaticIs.there (s := { Z with heap := U.heap }) ⟨cfS, iS, kS, fS, st, cS, t1, t2, t3, t4, t5, (fun q => by rw [q] at t6; cases t6), t7⟩ al rfl
/-- **length() OF SUCH A STRING** -/
theorem lenW {p : Program} {l : Launch} {e : Env} {R : Room} {s : State} {args : Array Value} {below : List Frame} {len W : Nat} {Z : State} {a0 : Array Value} {h : Heap} (hZ : Z.Warmed39 s.vm) (hw : ∀ d ∈ wordsLen, d.before a0 Z = true) {kI : Nat} (wi : (Jvm.Cond.instantiable ST kI).before a0 Z = true)
    {x t : Addr} {kb : ClassId} {cs : List Int32} {cd N2 z : Int32} {vs : List Value} (E : RoadKit.Exa Z h x ST) (V : RoadKit.Fld Z h x ST "value" "[B" (.ref t)) (C : RoadKit.Fld Z h x ST "coder" "B" (.int cd)) (K : RoadKit.Arv Z h t kb .byte N2 vs (.int 0)) (hc : CodA cs cd N2 vs) (hb : ∀ c ∈ cs, ¬ c < 0 ∧ ¬ (65535 : Int32) < c)
    (S : RoadKit.Sta Z h ST "COMPACT_STRINGS" "Z" (.int z)) (hz : ¬ z = 0) (l2 : cs.length ≤ 4000) (hfr : 2 ≤ R.frames) (hlo : W + 25 ≤ R.locals) :
    Back l R p e below s args (⟨"java/lang/String", "length", "()I"⟩ : MethodName) len W (fun P a => a = #[.ref x] ∧ P.U.heap = h ∧ P.cells + 0 ≤ R.cells ∧ P.slots + 0 ≤ R.slots)
      (fun P _ v B => ∃ L, (v = some (.int (Int32.ofNat cs.length)) ∧ L = [] ∧ B.U.heap = h) ∧ B.locs = P.locs ++ L ∧ B.cells = P.cells + 0 ∧ B.slots = P.slots + 0) := by
  obtain ⟨A, K1, K2, K3, K4, K5, K6⟩ := K
  have hcod := hc.cod (by omega) K3 K5
  intro m meth c P g ig mk a X hg hsize hdg hW hn hp'
  obtain ⟨rfl, rfl, r1, r2⟩ := hp'
  have al : Z.vm.Alike P.U.vm := hZ.alike.trans X.warmed.alike
  obtain ⟨D, fV, fC, hB, F1, F2, g1, g2, -, -⟩ := strObj wi al E V C
  have hx : Txt x t A cd cs.length (fun j => cs.getD j 0) P.U := ⟨⟨_, hB.2.2.1, D, hB.1, rfl, by cases q : D.vm <;> first | rfl | exact absurd q (hB.2.1.2 _)⟩, Has.of hB F1 g1, Has.of hB F2 g2, ⟨K1.1, State.isArrayOf_alike al K1.2.1, K1.2.2, by rcases hcod with ⟨-, q, -⟩ | ⟨-, q, -⟩ <;> omega⟩, hcod, fun j hj => by
    have e : cs.getD j 0 = cs[j] := by simp [List.getD_eq_getElem?_getD, hj]
    show ¬ cs.getD j 0 < 0 ∧ ¬ 65535 < cs.getD j 0
    rw [e]; exact hb _ (List.getElem_mem _)⟩
  obtain ⟨v, B, X', ⟨⟨hv, hh⟩, hl, hk, hs⟩, st⟩ := Len.pays x t A cd cs.length (fun j => cs.getD j 0) z (tabLen_of (movedLen hZ hw)) hfr hlo m meth c P g ig mk _ X hg hsize hdg hW hn ⟨r1, r2, rfl, hx, sta_is al S, hz⟩
  exact ⟨v, B, X', ⟨[], ⟨hv, rfl, hh⟩, hl, hk, hs⟩, st⟩
end StrChars.Road
end Jvm.Pilot.@@N@@

namespace Jvm.Pilot.@@N@@
open Jvm Jvm.ClassFile Sem Op Lib Jvm.Free Jvm.Stand Jvm.LawKit Jvm.RoadKit Bundle Jvm.Pilot.@@N@@.Jvm.D
section OwnKit
/-- where a walk stands that may intern String constants: the library's Stand over the tables at hand, and what stays the same throughout; EL: the constants whose text is known -/
def On (l : Launch) (Z : State) (EL : List (String × Nat)) (p : Program) (e : Env) (R : Room) (s : State) (m : MethodId) (args : Array Value) (below : List Frame) (meth : Method) (c : Code) (y : MethodName) (code : ByteArray) (maxL : Nat) (ret : Option FieldType) (vm : Vm) (T : State) (h : Heap) (locs : List Loc) (cells slots : Nat) : Prop :=
  Stand p l e R (s.setVm vm) m args below meth c T locs cells slots ∧ (p.tables.exec = Jvm.exec ∧ c.code = code ∧ Z.Warmed39 vm ∧ vm.findClass y.cls = some m.cls ∧ meth.sig.returnType = ret ∧ meth.locks = false ∧ meth.name = y.name ∧ c.maxLocals = maxL) ∧ T.heap = h ∧ Fr Z.heap.size locs ∧ Ext Z.heap h ∧ (∃ k0, s.Since vm k0 ∧ k0 ≤ h.size) ∧ CHr Z EL s.vm s.heap vm h ∧ ∃ a1, EW Z a1 EL
/-- the run from here ends as F says -/
def Goes (p : Program) (e : Env) (below : List Frame) (F : State → Outcome → Prop) (T : State) (g : JFrame) : Prop :=
  ∃ s₂ o, Steps p.tables e below (T.setTop g) s₂ ∧ s₂.status = .running ∧ Ended s₂ below o ∧ F s₂ o
def FinQ (Z : State) (EL : List (String × Nat)) (s : State) (Q : Option Value → Heap → (Addr → Prop) → Prop) (rc rs : Nat) (s₂ : State) (o : Outcome) : Prop :=
  ∃ v L, o = .returned v ∧ (Q v s₂.heap (Safe Z EL s₂.vm s₂.heap) ∧ Fr Z.heap.size L ∧ Ext Z.heap s₂.heap) ∧ CHr Z EL s.vm s.heap s₂.vm s₂.heap ∧ ReturnedEndW s o s₂ L rc rs
/-- a method's contract: called with these arguments on this heap it returns, and Q holds; ss: places that are no constant's -/
def Con (l : Launch) (Z : State) (EL : List (String × Nat)) (y : MethodName) (code : ByteArray) (maxL : Nat) (ret : Option FieldType) (rm : Room) (as : Array Value) (h : Heap) (ss : List Addr) (Q : Option Value → Heap → (Addr → Prop) → Prop) : Prop :=
  (∃ a1, EW Z a1 EL) → Ext Z.heap h → ∀ ws : List Jvm.Cond, MetFree l y (head1 (Jvm.Cond.code y code maxL ret :: ws) rm) (fun a U => a = as ∧ Z.Warmed39 U.vm ∧ U.heap = h ∧ CHv Z EL U.vm h ∧ ∀ x ∈ ss, Safe Z EL U.vm h x) (fun _ _ _ _ _ => True) (fun _ U o U' => ∃ v L, o = .returned v ∧ (Q v U'.heap (Safe Z EL U'.vm U'.heap) ∧ Fr Z.heap.size L ∧ Ext Z.heap U'.heap) ∧ CHr Z EL U.vm U.heap U'.vm U'.heap ∧ ReturnedEndW U o U' L rm.cells rm.slots)
theorem Goes.step {p : Program} {e : Env} {below : List Frame} {F : State → Outcome → Prop} {T T' : State} {g g' : JFrame} (st : ∀ t, Steps p.tables e below (T'.setTop g') t → Steps p.tables e below (T.setTop g) t) (k : Goes p e below F T' g') : Goes p e below F T g := by
  obtain ⟨s₂, o, h1, h2⟩ := k
  exact ⟨s₂, o, st _ h1, h2⟩
theorem Goes.cast {p : Program} {e : Env} {below : List Frame} {F : State → Outcome → Prop} {T : State} {g g' : JFrame} (q : g = g') (k : Goes p e below F T g') : Goes p e below F T g := q ▸ k
theorem Goes.mono {p : Program} {e : Env} {below : List Frame} {F F' : State → Outcome → Prop} {T : State} {g : JFrame} (q : ∀ s o, F s o → F' s o) (k : Goes p e below F T g) : Goes p e below F' T g := by
  obtain ⟨s₂, o, h1, h2, h3, h4⟩ := k
  exact ⟨s₂, o, h1, h2, h3, q _ _ h4⟩
variable {l : Launch} {Z : State} {EL : List (String × Nat)} {p : Program} {e : Env} {R : Room} {s : State} {m : MethodId} {args : Array Value} {below : List Frame} {meth : Method} {c : Code} {y : MethodName} {code : ByteArray} {maxL : Nat} {ret : Option FieldType} {vm : Vm} {T : State} {h : Heap} {locs : List Loc} {cells slots : Nat} {F : State → Outcome → Prop} {pc : Nat} {L L' : Array Slot} {S : List Value} {a0 : Array Value} {ss : List Addr}
theorem Con.intro {rm : Room} {as : Array Value} {Q : Option Value → Heap → (Addr → Prop) → Prop} (hp : plainFor y = true)
    (body : ∀ (p : Program) (e : Env) (s : State) (m : MethodId) (below : List Frame) (meth : Method) (c : Code) (T : State), On l Z EL p e rm s m as below meth c y code maxL ret s.vm T h [] 0 0 → (∀ x ∈ ss, Safe Z EL s.vm h x) → Goes p e below (FinQ Z EL s Q rm.cells rm.slots) T (entryFrame m as maxL)) : Con l Z EL y code maxL ret rm as h ss Q := by
  intro hEW hE ws
  refine MetFree.of_bodySF hp hisR ?_
  intro p e s m args below meth c s₁ Bd hml0 hP hK
  obtain ⟨rfl, hZ, hh, hC, hs⟩ := hP
  have hnm := (name_of_methodNamed Bd.named Bd.method).1
  subst hh
  obtain ⟨s₂, o, k1, k2, k3, k4⟩ := body p e s m below meth c s₁ ⟨Stand.of_body Bd, ⟨Bd.exec, Bd.bytes, hZ, findClass_of_methodNamed Bd.named, Bd.returns, Bd.notSynchronized, hnm, hml0⟩, by rw [Bd.state]; rfl, Fr.nil _, hE, ⟨0, (State.WarmedH.refl s).since 0, Nat.zero_le _⟩, CHr.refl hC, hEW⟩ hs
  exact ⟨s₂, o, k1, k2, k3, k4⟩
theorem Con.mono {rm : Room} {as : Array Value} {Q Q' : Option Value → Heap → (Addr → Prop) → Prop} (hC : Con l Z EL y code maxL ret rm as h ss Q) (hq : ∀ v h' S, Q v h' S → Q' v h' S) : Con l Z EL y code maxL ret rm as h ss Q' := by
  intro hEW hE ws p e ha hc hk s m args below hf happ hP hK
  obtain ⟨n, o, h1, h2, h3, v, L, h4, ⟨h5, h6⟩, h7⟩ := hC hEW hE ws p e ha hc hk s m args below hf happ hP hK
  exact ⟨n, o, h1, h2, h3, v, L, h4, ⟨hq _ _ _ h5, h6⟩, h7⟩
theorem On.size (X : On l Z EL p e R s m args below meth c y code maxL ret vm T h locs cells slots) : Z.heap.size ≤ h.size := X.2.2.2.2.1.1
theorem On.ext (X : On l Z EL p e R s m args below meth c y code maxL ret vm T h locs cells slots) : Ext Z.heap h := X.2.2.2.2.1
theorem On.chv (X : On l Z EL p e R s m args below meth c y code maxL ret vm T h locs cells slots) : CHv Z EL vm h := X.2.2.2.2.2.2.1.1
theorem On.alike (X : On l Z EL p e R s m args below meth c y code maxL ret vm T h locs cells slots) : Z.vm.Alike vm := X.2.1.2.2.1.alike
theorem On.sta (X : On l Z EL p e R s m args below meth c y code maxL ret vm T h locs cells slots) {C n d : String} {v : Value} (S : Sta Z Z.heap C n d v) : Sta Z h C n d v := S.ext X.ext
theorem ext_wr {Z : State} {h h' : Heap} {a : Addr} {sl : Nat} {v : Value} (E : Ext Z.heap h) (W : Wr h h' a sl v) (q : Z.heap.size ≤ a) : Ext Z.heap h' := (Old.wr (Z := Z) (n0 := Z.heap.size) ⟨rfl, E⟩ W q).2
theorem ext_keep {Z : State} {h h' : Heap} {ws : List Addr} (E : Ext Z.heap h) (K : Keep h h' ws) (q : ∀ x ∈ ws, Z.heap.size ≤ x) : Ext Z.heap h' := (Old.keep (Z := Z) (n0 := Z.heap.size) ⟨rfl, E⟩ K q).2
theorem ext_trans {h h' h'' : Heap} (E : Ext h h') (E' : Ext h' h'') : Ext h h'' := ⟨Nat.le_trans E.1 E'.1, fun a c q => E'.2 a c (E.2 a c q)⟩
theorem keep_ext {h h' : Heap} (E : Ext h h') : Keep h h' [] := (Keep.refl h []).ext E
theorem ext_of_keep {h h' : Heap} (K : Keep h h' []) : Ext h h' := ⟨K.1, fun a c q => K.2.1 a c q nin0⟩
/-- the walk goes on at a later heap over the same tables -/
theorem On.later (X : On l Z EL p e R s m args below meth c y code maxL ret vm T h locs cells slots) {T' : State} {h' : Heap} {locs' : List Loc} {cells' slots' : Nat} (X' : Stand p l e R (s.setVm vm) m args below meth c T' locs' cells' slots') (e' : T'.heap = h') (N' : Fr Z.heap.size locs') (E' : Ext Z.heap h') (R' : CHr Z EL vm h vm h') : On l Z EL p e R s m args below meth c y code maxL ret vm T' h' locs' cells' slots' := by
  obtain ⟨X1, C1, e1, N1, E1, ⟨k0, s0, q0⟩, H1, hw⟩ := X
  exact ⟨X', C1, e', N', E', ⟨k0, s0, Nat.le_trans q0 R'.2.1⟩, H1.trans R', hw⟩
/-- .. or over later tables -/
theorem On.laterV (X : On l Z EL p e R s m args below meth c y code maxL ret vm T h locs cells slots) {vm' : Vm} {T' : State} {h' : Heap} {locs' : List Loc} {cells' slots' n : Nat} (X' : Stand p l e R ((s.setVm vm).setVm vm') m args below meth c T' locs' cells' slots') (S' : (s.setVm vm).Since vm' n) (hn : n = h'.size) (e' : T'.heap = h') (N' : Fr Z.heap.size locs') (E' : Ext Z.heap h') (R' : CHr Z EL vm h vm' h') : On l Z EL p e R s m args below meth c y code maxL ret vm' T' h' locs' cells' slots' := by
  obtain ⟨X1, C1, e1, N1, E1, ⟨k0, s0, q0⟩, H1, hw⟩ := X
  subst hn
  exact ⟨X', ⟨C1.1, C1.2.1, State.Warmed39.trans (t := s.setVm vm) C1.2.2.1 S'.1, (S'.1.alike.findClass _ _).trans C1.2.2.2.1, C1.2.2.2.2⟩, e', N', E', ⟨h'.size, s0.trans S' (Nat.le_trans q0 R'.2.1), Nat.le_refl _⟩, H1.trans R', hw⟩
theorem o_iload (X : On l Z EL p e R s m args below meth c y code maxL ret vm T h locs cells slots) {k : Nat} {v : Int32} {q : Nat} (hd : decode code pc = .ok (.iload k, 2)) (hl : L[k]? = some (.val (.int v))) (hp : pc + 2 = q) (K : Goes p e below F T (mkF m q L (.int v :: S))) : Goes p e below F T (mkF m pc L S) := by
  subst hp
  exact Goes.step (fun _ k => XS.iload X.1.here X.2.1.1 (g := mkF m pc L S) rfl (hb X.2.1.2.1 hd) hl k) K
theorem o_iloadN (X : On l Z EL p e R s m args below meth c y code maxL ret vm T h locs cells slots) {k : Fin 4} {v : Int32} {q : Nat} (hd : decode code pc = .ok (.iload_n k, 1)) (hl : L[k.val]? = some (.val (.int v))) (hp : pc + 1 = q) (K : Goes p e below F T (mkF m q L (.int v :: S))) : Goes p e below F T (mkF m pc L S) := by
  subst hp
  exact Goes.step (fun _ k => XS.iloadN X.1.here X.2.1.1 (g := mkF m pc L S) rfl (hb X.2.1.2.1 hd) hl k) K
theorem o_lload (X : On l Z EL p e R s m args below meth c y code maxL ret vm T h locs cells slots) {k : Nat} {v : Int64} {q : Nat} (hd : decode code pc = .ok (.lload k, 2)) (hl : L[k]? = some (.val (.long v))) (hp : pc + 2 = q) (K : Goes p e below F T (mkF m q L (.long v :: S))) : Goes p e below F T (mkF m pc L S) := by
  subst hp
  exact Goes.step (fun _ k => XS.lload X.1.here X.2.1.1 (g := mkF m pc L S) rfl (hb X.2.1.2.1 hd) hl k) K
theorem o_lloadN (X : On l Z EL p e R s m args below meth c y code maxL ret vm T h locs cells slots) {k : Fin 4} {v : Int64} {q : Nat} (hd : decode code pc = .ok (.lload_n k, 1)) (hl : L[k.val]? = some (.val (.long v))) (hp : pc + 1 = q) (K : Goes p e below F T (mkF m q L (.long v :: S))) : Goes p e below F T (mkF m pc L S) := by
  subst hp
  exact Goes.step (fun _ k => XS.lloadN X.1.here X.2.1.1 (g := mkF m pc L S) rfl (hb X.2.1.2.1 hd) hl k) K
theorem o_aload (X : On l Z EL p e R s m args below meth c y code maxL ret vm T h locs cells slots) {k : Nat} {v : Value} {q : Nat} (hd : decode code pc = .ok (.aload k, 2)) (hl : L[k]? = some (.val v)) (hv : v.isRef = true) (hp : pc + 2 = q) (K : Goes p e below F T (mkF m q L (v :: S))) : Goes p e below F T (mkF m pc L S) := by
  subst hp
  exact Goes.step (fun _ k => XS.aload X.1.here X.2.1.1 (g := mkF m pc L S) rfl (hb X.2.1.2.1 hd) hl hv k) K
theorem o_aloadN (X : On l Z EL p e R s m args below meth c y code maxL ret vm T h locs cells slots) {k : Fin 4} {v : Value} {q : Nat} (hd : decode code pc = .ok (.aload_n k, 1)) (hl : L[k.val]? = some (.val v)) (hv : v.isRef = true) (hp : pc + 1 = q) (K : Goes p e below F T (mkF m q L (v :: S))) : Goes p e below F T (mkF m pc L S) := by
  subst hp
  exact Goes.step (fun _ k => XS.aloadN X.1.here X.2.1.1 (g := mkF m pc L S) rfl (hb X.2.1.2.1 hd) hl hv k) K
theorem o_istore (X : On l Z EL p e R s m args below meth c y code maxL ret vm T h locs cells slots) {k : Nat} {x z : Int32} {q : Nat} (hd : decode code pc = .ok (.istore k, 2)) (hz : x = z) (hl : storeLocals L k (.int z) = some L') (hp : pc + 2 = q) (K : Goes p e below F T (mkF m q L' S)) : Goes p e below F T (mkF m pc L (.int x :: S)) := by
  subst hz hp
  exact Goes.step (fun _ k => XS.istore X.1.here X.2.1.1 (g := mkF m pc L (.int x :: S)) rfl (hb X.2.1.2.1 hd) rfl hl k) K
theorem o_istoreN (X : On l Z EL p e R s m args below meth c y code maxL ret vm T h locs cells slots) {k : Fin 4} {x z : Int32} {q : Nat} (hd : decode code pc = .ok (.istore_n k, 1)) (hz : x = z) (hl : storeLocals L k.val (.int z) = some L') (hp : pc + 1 = q) (K : Goes p e below F T (mkF m q L' S)) : Goes p e below F T (mkF m pc L (.int x :: S)) := by
  subst hz hp
  exact Goes.step (fun _ k => XS.istoreN X.1.here X.2.1.1 (g := mkF m pc L (.int x :: S)) rfl (hb X.2.1.2.1 hd) rfl hl k) K
theorem o_lstore (X : On l Z EL p e R s m args below meth c y code maxL ret vm T h locs cells slots) {k : Nat} {x z : Int64} {q : Nat} (hd : decode code pc = .ok (.lstore k, 2)) (hz : x = z) (hl : storeLocals L k (.long z) = some L') (hp : pc + 2 = q) (K : Goes p e below F T (mkF m q L' S)) : Goes p e below F T (mkF m pc L (.long x :: S)) := by
  subst hz hp
  exact Goes.step (fun _ k => XS.lstore X.1.here X.2.1.1 (g := mkF m pc L (.long x :: S)) rfl (hb X.2.1.2.1 hd) rfl hl k) K
theorem o_lstoreN (X : On l Z EL p e R s m args below meth c y code maxL ret vm T h locs cells slots) {k : Fin 4} {x z : Int64} {q : Nat} (hd : decode code pc = .ok (.lstore_n k, 1)) (hz : x = z) (hl : storeLocals L k.val (.long z) = some L') (hp : pc + 1 = q) (K : Goes p e below F T (mkF m q L' S)) : Goes p e below F T (mkF m pc L (.long x :: S)) := by
  subst hz hp
  exact Goes.step (fun _ k => XS.lstoreN X.1.here X.2.1.1 (g := mkF m pc L (.long x :: S)) rfl (hb X.2.1.2.1 hd) rfl hl k) K
theorem o_astore (X : On l Z EL p e R s m args below meth c y code maxL ret vm T h locs cells slots) {k : Nat} {x : Value} {q : Nat} (hd : decode code pc = .ok (.astore k, 2)) (hv : x.isRef = true) (hl : storeLocals L k x = some L') (hp : pc + 2 = q) (K : Goes p e below F T (mkF m q L' S)) : Goes p e below F T (mkF m pc L (x :: S)) := by
  subst hp
  exact Goes.step (fun _ k => XS.astore X.1.here X.2.1.1 (g := mkF m pc L (x :: S)) rfl (hb X.2.1.2.1 hd) rfl hv hl k) K
theorem o_astoreN (X : On l Z EL p e R s m args below meth c y code maxL ret vm T h locs cells slots) {k : Fin 4} {x : Value} {q : Nat} (hd : decode code pc = .ok (.astore_n k, 1)) (hv : x.isRef = true) (hl : storeLocals L k.val x = some L') (hp : pc + 1 = q) (K : Goes p e below F T (mkF m q L' S)) : Goes p e below F T (mkF m pc L (x :: S)) := by
  subst hp
  exact Goes.step (fun _ k => XS.astoreN X.1.here X.2.1.1 (g := mkF m pc L (x :: S)) rfl (hb X.2.1.2.1 hd) rfl hv hl k) K
theorem o_iconst (X : On l Z EL p e R s m args below meth c y code maxL ret vm T h locs cells slots) {i : Int} {w : Int32} {q : Nat} (hd : decode code pc = .ok (.iconst i, 1)) (hw : Int32.ofInt i = w) (hp : pc + 1 = q) (K : Goes p e below F T (mkF m q L (.int w :: S))) : Goes p e below F T (mkF m pc L S) := by
  subst hw hp
  exact Goes.step (fun _ k => XS.iconst X.1.here X.2.1.1 (g := mkF m pc L S) rfl (hb X.2.1.2.1 hd) k) K
theorem o_bipush (X : On l Z EL p e R s m args below meth c y code maxL ret vm T h locs cells slots) {i : Int} {w : Int32} {q : Nat} (hd : decode code pc = .ok (.bipush i, 2)) (hw : (Int8.ofInt i).toInt32 = w) (hp : pc + 2 = q) (K : Goes p e below F T (mkF m q L (.int w :: S))) : Goes p e below F T (mkF m pc L S) := by
  subst hw hp
  exact Goes.step (fun _ k => XS.bipush X.1.here X.2.1.1 (g := mkF m pc L S) rfl (hb X.2.1.2.1 hd) k) K
theorem o_sipush (X : On l Z EL p e R s m args below meth c y code maxL ret vm T h locs cells slots) {i : Int} {w : Int32} {q : Nat} (hd : decode code pc = .ok (.sipush i, 3)) (hw : (Int16.ofInt i).toInt32 = w) (hp : pc + 3 = q) (K : Goes p e below F T (mkF m q L (.int w :: S))) : Goes p e below F T (mkF m pc L S) := by
  subst hw hp
  exact Goes.step (fun _ k => XS.sipush X.1.here X.2.1.1 (g := mkF m pc L S) rfl (hb X.2.1.2.1 hd) k) K
theorem o_lconst (X : On l Z EL p e R s m args below meth c y code maxL ret vm T h locs cells slots) {i : Fin 2} {w : Int64} {q : Nat} (hd : decode code pc = .ok (.lconst i, 1)) (hw : Int64.ofNat i = w) (hp : pc + 1 = q) (K : Goes p e below F T (mkF m q L (.long w :: S))) : Goes p e below F T (mkF m pc L S) := by
  subst hw hp
  exact Goes.step (fun _ k => XS.lconst X.1.here X.2.1.1 (g := mkF m pc L S) rfl (hb X.2.1.2.1 hd) k) K
theorem o_null (X : On l Z EL p e R s m args below meth c y code maxL ret vm T h locs cells slots)  {q : Nat} (hd : decode code pc = .ok (.aconst_null, 1)) (hp : pc + 1 = q) (K : Goes p e below F T (mkF m q L (.null :: S))) : Goes p e below F T (mkF m pc L S) := by
  subst hp
  exact Goes.step (fun _ k => XS.aconstNull X.1.here X.2.1.1 (g := mkF m pc L S) rfl (hb X.2.1.2.1 hd)  k) K
theorem o_iadd (X : On l Z EL p e R s m args below meth c y code maxL ret vm T h locs cells slots) {x : Int32} {z : Int32} {w : Int32} {q : Nat} (hd : decode code pc = .ok (.iadd, 1)) (hw : x + z = w) (hp : pc + 1 = q) (K : Goes p e below F T (mkF m q L (.int w :: S))) : Goes p e below F T (mkF m pc L (.int z :: .int x :: S)) := by
  subst hw hp
  exact Goes.step (fun _ k => XS.iadd X.1.here X.2.1.1 (g := mkF m pc L (.int z :: .int x :: S)) rfl (hb X.2.1.2.1 hd) rfl  k) K
theorem o_isub (X : On l Z EL p e R s m args below meth c y code maxL ret vm T h locs cells slots) {x : Int32} {z : Int32} {w : Int32} {q : Nat} (hd : decode code pc = .ok (.isub, 1)) (hw : x - z = w) (hp : pc + 1 = q) (K : Goes p e below F T (mkF m q L (.int w :: S))) : Goes p e below F T (mkF m pc L (.int z :: .int x :: S)) := by
  subst hw hp
  exact Goes.step (fun _ k => XS.isub X.1.here X.2.1.1 (g := mkF m pc L (.int z :: .int x :: S)) rfl (hb X.2.1.2.1 hd) rfl  k) K
theorem o_imul (X : On l Z EL p e R s m args below meth c y code maxL ret vm T h locs cells slots) {x : Int32} {z : Int32} {w : Int32} {q : Nat} (hd : decode code pc = .ok (.imul, 1)) (hw : x * z = w) (hp : pc + 1 = q) (K : Goes p e below F T (mkF m q L (.int w :: S))) : Goes p e below F T (mkF m pc L (.int z :: .int x :: S)) := by
  subst hw hp
  exact Goes.step (fun _ k => XS.imul X.1.here X.2.1.1 (g := mkF m pc L (.int z :: .int x :: S)) rfl (hb X.2.1.2.1 hd) rfl  k) K
theorem o_iand (X : On l Z EL p e R s m args below meth c y code maxL ret vm T h locs cells slots) {x : Int32} {z : Int32} {w : Int32} {q : Nat} (hd : decode code pc = .ok (.iand, 1)) (hw : x &&& z = w) (hp : pc + 1 = q) (K : Goes p e below F T (mkF m q L (.int w :: S))) : Goes p e below F T (mkF m pc L (.int z :: .int x :: S)) := by
  subst hw hp
  exact Goes.step (fun _ k => XS.iand X.1.here X.2.1.1 (g := mkF m pc L (.int z :: .int x :: S)) rfl (hb X.2.1.2.1 hd) rfl  k) K
theorem o_ior (X : On l Z EL p e R s m args below meth c y code maxL ret vm T h locs cells slots) {x : Int32} {z : Int32} {w : Int32} {q : Nat} (hd : decode code pc = .ok (.ior, 1)) (hw : x ||| z = w) (hp : pc + 1 = q) (K : Goes p e below F T (mkF m q L (.int w :: S))) : Goes p e below F T (mkF m pc L (.int z :: .int x :: S)) := by
  subst hw hp
  exact Goes.step (fun _ k => XS.ior X.1.here X.2.1.1 (g := mkF m pc L (.int z :: .int x :: S)) rfl (hb X.2.1.2.1 hd) rfl  k) K
theorem o_ixor (X : On l Z EL p e R s m args below meth c y code maxL ret vm T h locs cells slots) {x : Int32} {z : Int32} {w : Int32} {q : Nat} (hd : decode code pc = .ok (.ixor, 1)) (hw : x ^^^ z = w) (hp : pc + 1 = q) (K : Goes p e below F T (mkF m q L (.int w :: S))) : Goes p e below F T (mkF m pc L (.int z :: .int x :: S)) := by
  subst hw hp
  exact Goes.step (fun _ k => XS.ixor X.1.here X.2.1.1 (g := mkF m pc L (.int z :: .int x :: S)) rfl (hb X.2.1.2.1 hd) rfl  k) K
theorem o_ishl (X : On l Z EL p e R s m args below meth c y code maxL ret vm T h locs cells slots) {x : Int32} {z : Int32} {w : Int32} {q : Nat} (hd : decode code pc = .ok (.ishl, 1)) (hw : x <<< (z &&& 31) = w) (hp : pc + 1 = q) (K : Goes p e below F T (mkF m q L (.int w :: S))) : Goes p e below F T (mkF m pc L (.int z :: .int x :: S)) := by
  subst hw hp
  exact Goes.step (fun _ k => XS.ishl X.1.here X.2.1.1 (g := mkF m pc L (.int z :: .int x :: S)) rfl (hb X.2.1.2.1 hd) rfl  k) K
theorem o_ishr (X : On l Z EL p e R s m args below meth c y code maxL ret vm T h locs cells slots) {x : Int32} {z : Int32} {w : Int32} {q : Nat} (hd : decode code pc = .ok (.ishr, 1)) (hw : x >>> (z &&& 31) = w) (hp : pc + 1 = q) (K : Goes p e below F T (mkF m q L (.int w :: S))) : Goes p e below F T (mkF m pc L (.int z :: .int x :: S)) := by
  subst hw hp
  exact Goes.step (fun _ k => XS.ishr X.1.here X.2.1.1 (g := mkF m pc L (.int z :: .int x :: S)) rfl (hb X.2.1.2.1 hd) rfl  k) K
theorem o_iushr (X : On l Z EL p e R s m args below meth c y code maxL ret vm T h locs cells slots) {x : Int32} {z : Int32} {w : Int32} {q : Nat} (hd : decode code pc = .ok (.iushr, 1)) (hw : (x.toUInt32 >>> (z &&& 31).toUInt32).toInt32 = w) (hp : pc + 1 = q) (K : Goes p e below F T (mkF m q L (.int w :: S))) : Goes p e below F T (mkF m pc L (.int z :: .int x :: S)) := by
  subst hw hp
  exact Goes.step (fun _ k => XS.iushr X.1.here X.2.1.1 (g := mkF m pc L (.int z :: .int x :: S)) rfl (hb X.2.1.2.1 hd) rfl  k) K
theorem o_ladd (X : On l Z EL p e R s m args below meth c y code maxL ret vm T h locs cells slots) {x : Int64} {z : Int64} {w : Int64} {q : Nat} (hd : decode code pc = .ok (.ladd, 1)) (hw : x + z = w) (hp : pc + 1 = q) (K : Goes p e below F T (mkF m q L (.long w :: S))) : Goes p e below F T (mkF m pc L (.long z :: .long x :: S)) := by
  subst hw hp
  exact Goes.step (fun _ k => XS.ladd X.1.here X.2.1.1 (g := mkF m pc L (.long z :: .long x :: S)) rfl (hb X.2.1.2.1 hd) rfl  k) K
theorem o_lsub (X : On l Z EL p e R s m args below meth c y code maxL ret vm T h locs cells slots) {x : Int64} {z : Int64} {w : Int64} {q : Nat} (hd : decode code pc = .ok (.lsub, 1)) (hw : x - z = w) (hp : pc + 1 = q) (K : Goes p e below F T (mkF m q L (.long w :: S))) : Goes p e below F T (mkF m pc L (.long z :: .long x :: S)) := by
  subst hw hp
  exact Goes.step (fun _ k => XS.lsub X.1.here X.2.1.1 (g := mkF m pc L (.long z :: .long x :: S)) rfl (hb X.2.1.2.1 hd) rfl  k) K
theorem o_lmul (X : On l Z EL p e R s m args below meth c y code maxL ret vm T h locs cells slots) {x : Int64} {z : Int64} {w : Int64} {q : Nat} (hd : decode code pc = .ok (.lmul, 1)) (hw : x * z = w) (hp : pc + 1 = q) (K : Goes p e below F T (mkF m q L (.long w :: S))) : Goes p e below F T (mkF m pc L (.long z :: .long x :: S)) := by
  subst hw hp
  exact Goes.step (fun _ k => XS.lmul X.1.here X.2.1.1 (g := mkF m pc L (.long z :: .long x :: S)) rfl (hb X.2.1.2.1 hd) rfl  k) K
theorem o_land (X : On l Z EL p e R s m args below meth c y code maxL ret vm T h locs cells slots) {x : Int64} {z : Int64} {w : Int64} {q : Nat} (hd : decode code pc = .ok (.land, 1)) (hw : x &&& z = w) (hp : pc + 1 = q) (K : Goes p e below F T (mkF m q L (.long w :: S))) : Goes p e below F T (mkF m pc L (.long z :: .long x :: S)) := by
  subst hw hp
  exact Goes.step (fun _ k => XS.land X.1.here X.2.1.1 (g := mkF m pc L (.long z :: .long x :: S)) rfl (hb X.2.1.2.1 hd) rfl  k) K
theorem o_lor (X : On l Z EL p e R s m args below meth c y code maxL ret vm T h locs cells slots) {x : Int64} {z : Int64} {w : Int64} {q : Nat} (hd : decode code pc = .ok (.lor, 1)) (hw : x ||| z = w) (hp : pc + 1 = q) (K : Goes p e below F T (mkF m q L (.long w :: S))) : Goes p e below F T (mkF m pc L (.long z :: .long x :: S)) := by
  subst hw hp
  exact Goes.step (fun _ k => XS.lor X.1.here X.2.1.1 (g := mkF m pc L (.long z :: .long x :: S)) rfl (hb X.2.1.2.1 hd) rfl  k) K
theorem o_lxor (X : On l Z EL p e R s m args below meth c y code maxL ret vm T h locs cells slots) {x : Int64} {z : Int64} {w : Int64} {q : Nat} (hd : decode code pc = .ok (.lxor, 1)) (hw : x ^^^ z = w) (hp : pc + 1 = q) (K : Goes p e below F T (mkF m q L (.long w :: S))) : Goes p e below F T (mkF m pc L (.long z :: .long x :: S)) := by
  subst hw hp
  exact Goes.step (fun _ k => XS.lxor X.1.here X.2.1.1 (g := mkF m pc L (.long z :: .long x :: S)) rfl (hb X.2.1.2.1 hd) rfl  k) K
theorem o_lshl (X : On l Z EL p e R s m args below meth c y code maxL ret vm T h locs cells slots) {x : Int64} {z : Int32} {w : Int64} {q : Nat} (hd : decode code pc = .ok (.lshl, 1)) (hw : x <<< (z &&& 0x3f).toInt64 = w) (hp : pc + 1 = q) (K : Goes p e below F T (mkF m q L (.long w :: S))) : Goes p e below F T (mkF m pc L (.int z :: .long x :: S)) := by
  subst hw hp
  exact Goes.step (fun _ k => XS.lshl X.1.here X.2.1.1 (g := mkF m pc L (.int z :: .long x :: S)) rfl (hb X.2.1.2.1 hd) rfl  k) K
theorem o_lshr (X : On l Z EL p e R s m args below meth c y code maxL ret vm T h locs cells slots) {x : Int64} {z : Int32} {w : Int64} {q : Nat} (hd : decode code pc = .ok (.lshr, 1)) (hw : x >>> (z &&& 0x3f).toInt64 = w) (hp : pc + 1 = q) (K : Goes p e below F T (mkF m q L (.long w :: S))) : Goes p e below F T (mkF m pc L (.int z :: .long x :: S)) := by
  subst hw hp
  exact Goes.step (fun _ k => XS.lshr X.1.here X.2.1.1 (g := mkF m pc L (.int z :: .long x :: S)) rfl (hb X.2.1.2.1 hd) rfl  k) K
theorem o_lushr (X : On l Z EL p e R s m args below meth c y code maxL ret vm T h locs cells slots) {x : Int64} {z : Int32} {w : Int64} {q : Nat} (hd : decode code pc = .ok (.lushr, 1)) (hw : (x.toUInt64 >>> (z &&& 0x3f).toInt64.toUInt64).toInt64 = w) (hp : pc + 1 = q) (K : Goes p e below F T (mkF m q L (.long w :: S))) : Goes p e below F T (mkF m pc L (.int z :: .long x :: S)) := by
  subst hw hp
  exact Goes.step (fun _ k => XS.lushr X.1.here X.2.1.1 (g := mkF m pc L (.int z :: .long x :: S)) rfl (hb X.2.1.2.1 hd) rfl  k) K
theorem o_idiv (X : On l Z EL p e R s m args below meth c y code maxL ret vm T h locs cells slots) {x : Int32} {z : Int32} {w : Int32} {q : Nat} (hd : decode code pc = .ok (.idiv, 1)) (hn : z ≠ 0) (hw : x / z = w) (hp : pc + 1 = q) (K : Goes p e below F T (mkF m q L (.int w :: S))) : Goes p e below F T (mkF m pc L (.int z :: .int x :: S)) := by
  subst hw hp
  exact Goes.step (fun _ k => XS.idiv X.1.here X.2.1.1 (g := mkF m pc L (.int z :: .int x :: S)) rfl (hb X.2.1.2.1 hd) rfl hn k) K
theorem o_irem (X : On l Z EL p e R s m args below meth c y code maxL ret vm T h locs cells slots) {x : Int32} {z : Int32} {w : Int32} {q : Nat} (hd : decode code pc = .ok (.irem, 1)) (hn : z ≠ 0) (hw : x % z = w) (hp : pc + 1 = q) (K : Goes p e below F T (mkF m q L (.int w :: S))) : Goes p e below F T (mkF m pc L (.int z :: .int x :: S)) := by
  subst hw hp
  exact Goes.step (fun _ k => iremM (g := mkF m pc L (.int z :: .int x :: S)) X.1 X.2.1.1 rfl (hb X.2.1.2.1 hd) rfl hn k) K
theorem o_lcmp (X : On l Z EL p e R s m args below meth c y code maxL ret vm T h locs cells slots) {x : Int64} {z : Int64} {w : Int32} {q : Nat} (hd : decode code pc = .ok (.lcmp, 1)) (hw : lcmpW x z = w) (hp : pc + 1 = q) (K : Goes p e below F T (mkF m q L (.int w :: S))) : Goes p e below F T (mkF m pc L (.long z :: .long x :: S)) := by
  subst hw hp
  exact Goes.step (fun _ k => XS.lcmp X.1.here X.2.1.1 (g := mkF m pc L (.long z :: .long x :: S)) rfl (hb X.2.1.2.1 hd) rfl  k) K
theorem o_ineg (X : On l Z EL p e R s m args below meth c y code maxL ret vm T h locs cells slots) {x : Int32} {w : Int32} {q : Nat} (hd : decode code pc = .ok (.ineg, 1)) (hw : -x = w) (hp : pc + 1 = q) (K : Goes p e below F T (mkF m q L (.int w :: S))) : Goes p e below F T (mkF m pc L (.int x :: S)) := by
  subst hw hp
  exact Goes.step (fun _ k => XS.ineg X.1.here X.2.1.1 (g := mkF m pc L (.int x :: S)) rfl (hb X.2.1.2.1 hd) rfl k) K
theorem o_lneg (X : On l Z EL p e R s m args below meth c y code maxL ret vm T h locs cells slots) {x : Int64} {w : Int64} {q : Nat} (hd : decode code pc = .ok (.lneg, 1)) (hw : -x = w) (hp : pc + 1 = q) (K : Goes p e below F T (mkF m q L (.long w :: S))) : Goes p e below F T (mkF m pc L (.long x :: S)) := by
  subst hw hp
  exact Goes.step (fun _ k => XS.lneg X.1.here X.2.1.1 (g := mkF m pc L (.long x :: S)) rfl (hb X.2.1.2.1 hd) rfl k) K
theorem o_i2l (X : On l Z EL p e R s m args below meth c y code maxL ret vm T h locs cells slots) {x : Int32} {w : Int64} {q : Nat} (hd : decode code pc = .ok (.i2l, 1)) (hw : x.toInt64 = w) (hp : pc + 1 = q) (K : Goes p e below F T (mkF m q L (.long w :: S))) : Goes p e below F T (mkF m pc L (.int x :: S)) := by
  subst hw hp
  exact Goes.step (fun _ k => XS.i2l X.1.here X.2.1.1 (g := mkF m pc L (.int x :: S)) rfl (hb X.2.1.2.1 hd) rfl k) K
theorem o_l2i (X : On l Z EL p e R s m args below meth c y code maxL ret vm T h locs cells slots) {x : Int64} {w : Int32} {q : Nat} (hd : decode code pc = .ok (.l2i, 1)) (hw : x.toInt32 = w) (hp : pc + 1 = q) (K : Goes p e below F T (mkF m q L (.int w :: S))) : Goes p e below F T (mkF m pc L (.long x :: S)) := by
  subst hw hp
  exact Goes.step (fun _ k => XS.l2i X.1.here X.2.1.1 (g := mkF m pc L (.long x :: S)) rfl (hb X.2.1.2.1 hd) rfl k) K
theorem o_i2b (X : On l Z EL p e R s m args below meth c y code maxL ret vm T h locs cells slots) {x : Int32} {w : Int32} {q : Nat} (hd : decode code pc = .ok (.i2b, 1)) (hw : x.toInt8.toInt32 = w) (hp : pc + 1 = q) (K : Goes p e below F T (mkF m q L (.int w :: S))) : Goes p e below F T (mkF m pc L (.int x :: S)) := by
  subst hw hp
  exact Goes.step (fun _ k => XS.i2b X.1.here X.2.1.1 (g := mkF m pc L (.int x :: S)) rfl (hb X.2.1.2.1 hd) rfl k) K
theorem o_i2c (X : On l Z EL p e R s m args below meth c y code maxL ret vm T h locs cells slots) {x : Int32} {w : Int32} {q : Nat} (hd : decode code pc = .ok (.i2c, 1)) (hw : x.toUInt32.toUInt16.toUInt32.toInt32 = w) (hp : pc + 1 = q) (K : Goes p e below F T (mkF m q L (.int w :: S))) : Goes p e below F T (mkF m pc L (.int x :: S)) := by
  subst hw hp
  exact Goes.step (fun _ k => XS.i2c X.1.here X.2.1.1 (g := mkF m pc L (.int x :: S)) rfl (hb X.2.1.2.1 hd) rfl k) K
theorem o_i2s (X : On l Z EL p e R s m args below meth c y code maxL ret vm T h locs cells slots) {x : Int32} {w : Int32} {q : Nat} (hd : decode code pc = .ok (.i2s, 1)) (hw : x.toInt16.toInt32 = w) (hp : pc + 1 = q) (K : Goes p e below F T (mkF m q L (.int w :: S))) : Goes p e below F T (mkF m pc L (.int x :: S)) := by
  subst hw hp
  exact Goes.step (fun _ k => XS.i2s X.1.here X.2.1.1 (g := mkF m pc L (.int x :: S)) rfl (hb X.2.1.2.1 hd) rfl k) K
theorem o_dup (X : On l Z EL p e R s m args below meth c y code maxL ret vm T h locs cells slots) {x : Value} {q : Nat} (hd : decode code pc = .ok (.dup, 1)) (hc : x.category = 1) (hp : pc + 1 = q) (K : Goes p e below F T (mkF m q L (x :: x :: S))) : Goes p e below F T (mkF m pc L (x :: S)) := by
  subst hp
  exact Goes.step (fun _ k => XS.dup X.1.here X.2.1.1 (g := mkF m pc L (x :: S)) rfl (hb X.2.1.2.1 hd) rfl hc k) K
theorem o_pop (X : On l Z EL p e R s m args below meth c y code maxL ret vm T h locs cells slots) {x : Value} {q : Nat} (hd : decode code pc = .ok (.pop, 1)) (hc : x.category = 1) (hp : pc + 1 = q) (K : Goes p e below F T (mkF m q L S)) : Goes p e below F T (mkF m pc L (x :: S)) := by
  subst hp
  exact Goes.step (fun _ k => XS.pop X.1.here X.2.1.1 (g := mkF m pc L (x :: S)) rfl (hb X.2.1.2.1 hd) rfl hc k) K
theorem o_dupX1 (X : On l Z EL p e R s m args below meth c y code maxL ret vm T h locs cells slots) {x z : Value} {q : Nat} (hd : decode code pc = .ok (.dup_x1, 1)) (hc : x.category = 1) (hc' : z.category = 1) (hp : pc + 1 = q) (K : Goes p e below F T (mkF m q L (x :: z :: x :: S))) : Goes p e below F T (mkF m pc L (x :: z :: S)) := by
  subst hp
  exact Goes.step (fun _ k => XS.dupX1 X.1.here X.2.1.1 (g := mkF m pc L (x :: z :: S)) rfl (hb X.2.1.2.1 hd) rfl hc hc' k) K
theorem o_dup2 (X : On l Z EL p e R s m args below meth c y code maxL ret vm T h locs cells slots) {x z : Value} {q : Nat} (hd : decode code pc = .ok (.dup2, 1)) (hc : x.category = 1) (hc' : z.category = 1) (hp : pc + 1 = q) (K : Goes p e below F T (mkF m q L (x :: z :: x :: z :: S))) : Goes p e below F T (mkF m pc L (x :: z :: S)) := by
  subst hp
  exact Goes.step (fun _ k => Jvm.Free.XT.dup2 X.1.here X.2.1.1 (g := mkF m pc L (x :: z :: S)) rfl (hb X.2.1.2.1 hd) rfl hc hc' k) K
theorem o_iinc (X : On l Z EL p e R s m args below meth c y code maxL ret vm T h locs cells slots) {k : Nat} {i : Int} {x z : Int32} {q : Nat} (hd : decode code pc = .ok (.iinc k i, 3)) (hl : L[k]? = some (.val (.int x))) (hz : x + Int32.ofInt i = z) (hl' : storeLocals L k (.int z) = some L') (hp : pc + 3 = q) (K : Goes p e below F T (mkF m q L' S)) : Goes p e below F T (mkF m pc L S) := by
  subst hz hp
  exact Goes.step (fun _ k => XS.iinc X.1.here X.2.1.1 (g := mkF m pc L S) rfl (hb X.2.1.2.1 hd) hl hl' k) K
theorem o_goto (X : On l Z EL p e R s m args below meth c y code maxL ret vm T h locs cells slots) {i : Int} {q : Nat} (hd : decode code pc = .ok (.goto i, 3)) (ho : 0 ≤ (pc : Int) + i) (hp : ((pc : Int) + i).toNat = q) (K : Goes p e below F T (mkF m q L S)) : Goes p e below F T (mkF m pc L S) := Goes.step (fun _ k => XS.goto X.1.here X.2.1.1 (g := mkF m pc L S) (pc0 := pc) rfl rfl (hb X.2.1.2.1 hd) ho hp k) K
theorem o_ifY (X : On l Z EL p e R s m args below meth c y code maxL ret vm T h locs cells slots) {cd : ClassFile.Cond} {i : Int} {x : Int32} {q : Nat} (hd : decode code pc = .ok (.ifCond cd i, 3)) (hc : if_icmp.holds cd x 0 = true) (ho : 0 ≤ (pc : Int) + i) (hp : ((pc : Int) + i).toNat = q) (K : Goes p e below F T (mkF m q L S)) : Goes p e below F T (mkF m pc L (.int x :: S)) := Goes.step (fun _ k => XS.ifYes X.1.here X.2.1.1 (g := mkF m pc L (.int x :: S)) rfl (pc0 := pc) rfl (hb X.2.1.2.1 hd) rfl ((if0 _ _).trans hc) ho hp k) K
theorem o_ifN (X : On l Z EL p e R s m args below meth c y code maxL ret vm T h locs cells slots) {cd : ClassFile.Cond} {i : Int} {x : Int32} {q : Nat} (hd : decode code pc = .ok (.ifCond cd i, 3)) (hc : if_icmp.holds cd x 0 = false) (hp : pc + 3 = q) (K : Goes p e below F T (mkF m q L S)) : Goes p e below F T (mkF m pc L (.int x :: S)) := by
  subst hp
  exact Goes.step (fun _ k => XS.ifNo X.1.here X.2.1.1 (g := mkF m pc L (.int x :: S)) rfl (hb X.2.1.2.1 hd) rfl ((if0 _ _).trans hc) k) K
theorem o_icmpY (X : On l Z EL p e R s m args below meth c y code maxL ret vm T h locs cells slots) {cd : ClassFile.Cond} {i : Int} {x z : Int32} {q : Nat} (hd : decode code pc = .ok (.if_icmp cd i, 3)) (hc : if_icmp.holds cd x z = true) (ho : 0 ≤ (pc : Int) + i) (hp : ((pc : Int) + i).toNat = q) (K : Goes p e below F T (mkF m q L S)) : Goes p e below F T (mkF m pc L (.int z :: .int x :: S)) := Goes.step (fun _ k => XS.icmpYes X.1.here X.2.1.1 (g := mkF m pc L (.int z :: .int x :: S)) rfl (pc0 := pc) rfl (hb X.2.1.2.1 hd) rfl hc ho hp k) K
theorem o_icmpN (X : On l Z EL p e R s m args below meth c y code maxL ret vm T h locs cells slots) {cd : ClassFile.Cond} {i : Int} {x z : Int32} {q : Nat} (hd : decode code pc = .ok (.if_icmp cd i, 3)) (hc : if_icmp.holds cd x z = false) (hp : pc + 3 = q) (K : Goes p e below F T (mkF m q L S)) : Goes p e below F T (mkF m pc L (.int z :: .int x :: S)) := by
  subst hp
  exact Goes.step (fun _ k => XS.icmpNo X.1.here X.2.1.1 (g := mkF m pc L (.int z :: .int x :: S)) rfl (hb X.2.1.2.1 hd) rfl hc k) K
theorem o_ifnullY (X : On l Z EL p e R s m args below meth c y code maxL ret vm T h locs cells slots) {i : Int} {q : Nat} (hd : decode code pc = .ok (.ifnull i, 3)) (ho : 0 ≤ (pc : Int) + i) (hp : ((pc : Int) + i).toNat = q) (K : Goes p e below F T (mkF m q L S)) : Goes p e below F T (mkF m pc L (.null :: S)) := Goes.step (fun _ k => XS.ifnullYes X.1.here X.2.1.1 (g := mkF m pc L (.null :: S)) rfl (pc0 := pc) rfl (hb X.2.1.2.1 hd) rfl ho hp k) K
theorem o_ifnullN (X : On l Z EL p e R s m args below meth c y code maxL ret vm T h locs cells slots) {i : Int} {q : Nat} {b : Addr} (hd : decode code pc = .ok (.ifnull i, 3)) (hp : pc + 3 = q) (K : Goes p e below F T (mkF m q L S)) : Goes p e below F T (mkF m pc L ((.ref b) :: S)) := by
  subst hp
  exact Goes.step (fun _ k => XS.ifnullNo X.1.here X.2.1.1 (g := mkF m pc L ((.ref b) :: S)) rfl (hb X.2.1.2.1 hd) rfl k) K
theorem o_ifnonnullY (X : On l Z EL p e R s m args below meth c y code maxL ret vm T h locs cells slots) {i : Int} {q : Nat} {b : Addr} (hd : decode code pc = .ok (.ifnonnull i, 3)) (ho : 0 ≤ (pc : Int) + i) (hp : ((pc : Int) + i).toNat = q) (K : Goes p e below F T (mkF m q L S)) : Goes p e below F T (mkF m pc L ((.ref b) :: S)) := Goes.step (fun _ k => XS.ifnonnullYes X.1.here X.2.1.1 (g := mkF m pc L ((.ref b) :: S)) rfl (pc0 := pc) rfl (hb X.2.1.2.1 hd) rfl ho hp k) K
theorem o_ifnonnullN (X : On l Z EL p e R s m args below meth c y code maxL ret vm T h locs cells slots) {i : Int} {q : Nat} (hd : decode code pc = .ok (.ifnonnull i, 3)) (hp : pc + 3 = q) (K : Goes p e below F T (mkF m q L S)) : Goes p e below F T (mkF m pc L (.null :: S)) := by
  subst hp
  exact Goes.step (fun _ k => XS.ifnonnullNo X.1.here X.2.1.1 (g := mkF m pc L (.null :: S)) rfl (hb X.2.1.2.1 hd) rfl k) K
theorem o_acmp (X : On l Z EL p e R s m args below meth c y code maxL ret vm T h locs cells slots) {cd : ACond} {i : Int} {x z : Value} {q : Nat} {same : Bool} (hd : decode code pc = .ok (.if_acmp cd i, 3)) (h1 : x.isRef = true) (h2 : z.isRef = true) (hq : decide (x = z) = same) (ho : 0 ≤ (pc : Int) + i) (hp : q = if acV cd same = true then ((pc : Int) + i).toNat else pc + 3) (K : Goes p e below F T (mkF m q L S)) : Goes p e below F T (mkF m pc L (z :: x :: S)) := Goes.step (fun _ k => Jvm.RoadKit.acmp (g := mkF m pc L (z :: x :: S)) X.1 X.2.1.1 rfl h1 h2 (pc0 := pc) rfl (hb X.2.1.2.1 hd) rfl hq ho hp k) K
theorem o_ldcI (X : On l Z EL p e R s m args below meth c y code maxL ret vm T h locs cells slots) {index : Nat} {v : Int32} {q : Nat} (w : (Jvm.Cond.constant y.cls index v).before a0 Z = true) (hd : decode code pc = .ok (.ldc index, 2)) (hp : pc + 2 = q) (K : Goes p e below F T (mkF m q L (.int v :: S))) : Goes p e below F T (mkF m pc L S) := by
  subst hp
  exact Goes.step (X.1.ldcInt X.2.1.1 X.2.1.2.2.2.1 (mvT (s := s.setVm vm) X.2.1.2.2.1 w) (g := mkF m pc L S) rfl (hb X.2.1.2.1 hd)) K
theorem o_ldcJ (X : On l Z EL p e R s m args below meth c y code maxL ret vm T h locs cells slots) {index : Nat} {v : Int64} {q : Nat} (w : (Jvm.Cond.constantLong y.cls index v).before a0 Z = true) (hd : decode code pc = .ok (.ldc2_w index, 3)) (hp : pc + 3 = q) (K : Goes p e below F T (mkF m q L (.long v :: S))) : Goes p e below F T (mkF m pc L S) := by
  subst hp
  exact Goes.step (X.1.ldc2Long X.2.1.1 X.2.1.2.2.2.1 (mvT (s := s.setVm vm) X.2.1.2.2.1 w) (g := mkF m pc L S) rfl (hb X.2.1.2.1 hd)) K
theorem o_ldcS (X : On l Z EL p e R s m args below meth c y code maxL ret vm T h locs cells slots) {text : String} {index q n : Nat} {vs : List Value} {z : Int32} (w : (Jvm.Cond.stringLink y.cls index text).before a0 Z = true) (wS : ∀ a ∈ Bundle.stringAtoms, a.before a0 Z = true) (hmem : (y.cls, index) ∈ EL) (ht : (∀ c ∈ text.toList, c.toNat < 256) ∧ text.toList.map (fun c => Value.int (Jvm.Lit.byteI c.toNat.toUInt16)) = vs) (hz : ¬ z < 0) (hl : z.toNatClampNeg = vs.length) (hd : decode code pc = .ok (.ldc index, 2)) (hn : 4 * text.toList.length ≤ n) (hbig : n ≤ 536870912) (hc : cells + 2 ≤ R.cells) (hl' : slots + (n + 4) ≤ R.slots) (hp : pc + 2 = q)
    (K : ∀ (vm' : Vm) (T' : State) (h' : Heap) (a b : Addr) (k : ClassId), On l Z EL p e R s m args below meth c y code maxL ret vm' T' h' locs (cells + 2) (slots + (n + 4)) → Ext h h' → CHr Z EL vm h vm' h' → Exa Z h' a "java/lang/String" → Fld Z h' a "java/lang/String" "coder" "B" (.int 0) → Fld Z h' a "java/lang/String" "value" "[B" (.ref b) → Arv Z h' b k .byte z vs (.int 0) → (∀ x, Safe Z EL vm' h' x → x ≠ a ∧ x ≠ b) → Goes p e below F T' (mkF m q L (.ref a :: S))) : Goes p e below F T (mkF m pc L S) := by
  subst hp
  obtain ⟨X1, C1, e1, N1, E1, ⟨k0, s0, q0⟩, H1, ⟨a1, hw⟩⟩ := X
  have hEL : EW Z a0 EL := fun p hp => by
    obtain ⟨t, q1, q2⟩ := hw p hp
    exact ⟨t, by simpa [Cond.before, Cond.holds, Cond.value] using q1, q2⟩
  obtain ⟨a, T', h', k1, b, k, X', e', E', S', q', hZ', ho', r1, r2, r3, r4, -, -, R', -, r5, st⟩ := ldcCH X1 C1.1 C1.2.2.1 C1.2.2.2.1 w wS e1 s0 q0 hEL hmem H1.1 ht hz hl (g := mkF m pc L S) rfl (hb C1.2.1 hd) hn hbig hc hl'
  exact Goes.step st (K T'.vm T' h' a b k ⟨X', ⟨C1.1, C1.2.1, hZ', ho', C1.2.2.2.2⟩, e', N1, ext_trans E1 E', ⟨k1, S', q'⟩, H1.trans R', ⟨a1, hw⟩⟩ E' R' r1 r2 r3 r4 r5)
theorem o_ldcO (X : On l Z EL p e R s m args below meth c y code maxL ret vm T h locs cells slots) {text : String} {index q n : Nat} (w : (Jvm.Cond.stringLink y.cls index text).before a0 Z = true) (wS : ∀ a ∈ Bundle.stringAtoms, a.before a0 Z = true) (hd : decode code pc = .ok (.ldc index, 2)) (hn : 4 * text.toList.length ≤ n) (hbig : n ≤ 536870912) (hc : cells + 2 ≤ R.cells) (hl' : slots + (n + 4) ≤ R.slots) (hp : pc + 2 = q)
    (K : ∀ (vm' : Vm) (T' : State) (h' : Heap) (a : Addr), On l Z EL p e R s m args below meth c y code maxL ret vm' T' h' locs (cells + 2) (slots + (n + 4)) → Ext h h' → CHr Z EL vm h vm' h' → Goes p e below F T' (mkF m q L (.ref a :: S))) : Goes p e below F T (mkF m pc L S) := by
  subst hp
  obtain ⟨X1, C1, e1, N1, E1, ⟨k0, s0, q0⟩, H1, ⟨a1, hw⟩⟩ := X
  have hEL : EW Z a0 EL := fun p hp => by
    obtain ⟨t, q1, q2⟩ := hw p hp
    exact ⟨t, by simpa [Cond.before, Cond.holds, Cond.value] using q1, q2⟩
  obtain ⟨a, T', h', k1, X', e', E', S', q', hZ', ho', R', -, st⟩ := ldcOH X1 C1.1 C1.2.2.1 C1.2.2.2.1 w wS e1 s0 q0 hEL H1.1 (g := mkF m pc L S) rfl (hb C1.2.1 hd) hn hbig hc hl'
  exact Goes.step st (K T'.vm T' h' a ⟨X', ⟨C1.1, C1.2.1, hZ', ho', C1.2.2.2.2⟩, e', N1, ext_trans E1 E', ⟨k1, S', q'⟩, H1.trans R', ⟨a1, hw⟩⟩ E' R')
theorem o_new (X : On l Z EL p e R s m args below meth c y code maxL ret vm T h locs cells slots) {C : String} {index n q : Nat} (w : (Jvm.Cond.classLink y.cls index C).before a0 Z = true) (wi : (Jvm.Cond.instantiable C n).before a0 Z = true) (wz : (Jvm.Cond.initialized C).before a0 Z = true) (hd : decode code pc = .ok (.new index, 3)) (hc : cells + 1 ≤ R.cells) (hl : slots + n ≤ R.slots) (hp : pc + 3 = q)
    (K : ∀ (T' : State) (h' : Heap) (a : Addr), a = h.size → On l Z EL p e R s m args below meth c y code maxL ret vm T' h' locs (cells + 1) (slots + n) → Ext h h' → CHr Z EL vm h vm h' → Safe Z EL vm h' a → Exa Z h' a C → (∀ {O nm d : String} {ty : FieldType}, Laid Z a0 C O nm d → parseFieldDescriptor d = some ty → Fld Z h' a O nm d (defaultValue ty)) → Z.heap.size ≤ a → Goes p e below F T' (mkF m q L (.ref a :: S))) : Goes p e below F T (mkF m pc L S) := by
  subst hp
  obtain ⟨T', h', X', e', E', A', D', -, st⟩ := newO X.1 X.2.1.1 (show Z.Warmed39 (s.setVm vm).vm from X.2.1.2.2.1) X.2.1.2.2.2.1 w wi wz X.2.2.1 (g := mkF m pc L S) rfl (hb X.2.1.2.1 hd) hc hl
  exact Goes.step st (K T' h' h.size rfl (X.later X' e' X.2.2.2.1 (ext_trans X.ext E') (CHr.ext E' X.chv)) E' (CHr.ext E' X.chv) (Safe.ext E' X.chv (Safe.new (Nat.le_refl _))) A' D' X.size)
theorem o_newarr (X : On l Z EL p e R s m args below meth c y code maxL ret vm T h locs cells slots) {aty : ArrayType} {n : Int32} {cap q : Nat} (N : Nat) (w : (Jvm.Cond.arrayClass (newarray.typeOf aty)).before a0 Z = true) (hd : decode code pc = .ok (.newarray aty, 2)) (hn : ¬ n < 0) (hcap : n.toNatClampNeg ≤ cap) (hb8 : cap * 8 ≤ 536870912) (hc : cells + 1 ≤ R.cells) (hl : slots + cap ≤ R.slots) (hp : pc + 2 = q)
    (K : ∀ (T' : State) (h' : Heap) (a : Addr) (k : ClassId), a = h.size → On l Z EL p e R s m args below meth c y code maxL ret vm T' h' locs (cells + 1) (slots + cap) → Ext h h' → CHr Z EL vm h vm h' → Safe Z EL vm h' a → Arv Z h' a k (newarray.typeOf aty) n (List.replicate N (defaultValue (newarray.typeOf aty))) (defaultValue (newarray.typeOf aty)) → Z.heap.size ≤ a → Goes p e below F T' (mkF m q L (.ref a :: S))) : Goes p e below F T (mkF m pc L (.int n :: S)) := by
  subst hp
  obtain ⟨T', h', k, X', e', E', A', st⟩ := newP X.1 X.2.1.1 (show Z.Warmed39 (s.setVm vm).vm from X.2.1.2.2.1) w X.2.2.1 (g := mkF m pc L (.int n :: S)) rfl (hb X.2.1.2.1 hd) rfl hn hcap hb8 hc hl
  exact Goes.step st (K T' h' h.size k rfl (X.later X' e' X.2.2.2.1 (ext_trans X.ext E') (CHr.ext E' X.chv)) E' (CHr.ext E' X.chv) (Safe.ext E' X.chv (Safe.new (Nat.le_refl _))) ((Arv.new A' hn).pad (pad_rep [] _ N)) X.size)
theorem o_getF (X : On l Z EL p e R s m args below meth c y code maxL ret vm T h locs cells slots) {R0 O n d host : String} {index q : Nat} {a : Addr} {v : Value} (Fx : Fld Z h a O n d v) (w : (Jvm.Cond.fieldLink y.cls index R0 n d).before a0 Z = true ∨ (Jvm.Cond.fieldLinkNest y.cls index R0 n d host).before a0 Z = true) (via : Via Z R0 O n d) (hd : decode code pc = .ok (.getfield index, 3)) (hp : pc + 3 = q)
    (K : ∀ T' : State, On l Z EL p e R s m args below meth c y code maxL ret vm T' h locs cells slots → Goes p e below F T' (mkF m q L (v :: S))) : Goes p e below F T (mkF m pc L (.ref a :: S)) := by
  subst hp
  obtain ⟨T', X', e', st⟩ := getF X.1 X.2.1.1 (show Z.Warmed39 (s.setVm vm).vm from X.2.1.2.2.1) X.2.1.2.2.2.1 w via X.2.2.1 Fx (g := mkF m pc L (.ref a :: S)) rfl rfl (hb X.2.1.2.1 hd)
  exact Goes.step st (K T' (X.later X' e' X.2.2.2.1 X.ext (CHr.refl X.chv)))
theorem o_getS (X : On l Z EL p e R s m args below meth c y code maxL ret vm T h locs cells slots) {R0 O n d host : String} {index q : Nat} {v : Value} (Fx : Sta Z Z.heap O n d v) (w : (Jvm.Cond.fieldLink y.cls index R0 n d).before a0 Z = true ∨ (Jvm.Cond.fieldLinkNest y.cls index R0 n d host).before a0 Z = true) (via : Via Z R0 O n d) (hd : decode code pc = .ok (.getstatic index, 3)) (hp : pc + 3 = q)
    (K : ∀ T' : State, On l Z EL p e R s m args below meth c y code maxL ret vm T' h locs cells slots → Goes p e below F T' (mkF m q L (v :: S))) : Goes p e below F T (mkF m pc L S) := by
  subst hp
  obtain ⟨T', X', e', st⟩ := getS2 X.1 X.2.1.1 (show Z.Warmed39 (s.setVm vm).vm from X.2.1.2.2.1) X.2.1.2.2.2.1 w via X.2.2.1 (Fx.ext X.ext) (g := mkF m pc L S) rfl (hb X.2.1.2.1 hd)
  exact Goes.step st (K T' (X.later X' e' X.2.2.2.1 X.ext (CHr.refl X.chv)))
theorem o_putF (X : On l Z EL p e R s m args below meth c y code maxL ret vm T h locs cells slots) {R0 O n d host C : String} {index kk q : Nat} {ty : FieldType} {a : Addr} {v old : Value} (Fx : Fld Z h a O n d old) (E : Exa Z h a C) (ha : Z.heap.size ≤ a) (hsf : Safe Z EL vm h a) (w : (Jvm.Cond.fieldLink y.cls index R0 n d).before a0 Z = true ∨ (Jvm.Cond.fieldLinkNest y.cls index R0 n d host).before a0 Z = true) (via : Via Z R0 O n d)
    (Lw : (Jvm.Cond.lays C O n d).before a0 Z = true ∨ ((Jvm.Cond.laysFinal C O n d).before a0 Z = true ∧ y.cls = O ∧ y.name = "<init>")) (wi : (Jvm.Cond.instantiable C kk).before a0 Z = true) (hty : parseFieldDescriptor d = some ty) (hn : narrow ty v = v) (hf : fits ty v = true) (hd : decode code pc = .ok (.putfield index, 3)) (hp : pc + 3 = q)
    (K : ∀ (T' : State) (h' : Heap) (locs' : List Loc), On l Z EL p e R s m args below meth c y code maxL ret vm T' h' locs' cells slots → Wr h h' a (Jvm.RoadKit.slotOf Z O n d) v → CHr Z EL vm h vm h' → Fld Z h' a O n d v → Goes p e below F T' (mkF m q L S)) : Goes p e below F T (mkF m pc L (v :: .ref a :: S)) := by
  subst hp
  obtain ⟨T', h', X', e', W', st⟩ := putF X.1 X.2.1.1 (show Z.Warmed39 (s.setVm vm).vm from X.2.1.2.2.1) X.2.1.2.2.2.1 w via X.2.2.1 Fx E (Lw.imp_right fun q => ⟨q.1, q.2.1, X.2.1.2.2.2.2.2.2.1.trans q.2.2⟩) wi hty hn hf (g := mkF m pc L (v :: .ref a :: S)) rfl rfl (hb X.2.1.2.1 hd)
  exact Goes.step st (K T' h' _ (X.later X' e' (Fr.snoc X' X.2.2.2.1 ha) (ext_wr X.ext W' ha) (CHr.wr W' hsf X.chv)) W' (CHr.wr W' hsf X.chv) (Fx.same W'))
theorem o_len (X : On l Z EL p e R s m args below meth c y code maxL ret vm T h locs cells slots) {a : Addr} {k : ClassId} {ty : FieldType} {n : Int32} {vs : List Value} {dv : Value} {q : Nat} (A : Arv Z h a k ty n vs dv) (hd : decode code pc = .ok (.arraylength, 1)) (hp : pc + 1 = q) (K : Goes p e below F T (mkF m q L (.int n :: S))) : Goes p e below F T (mkF m pc L (.ref a :: S)) := by
  subst hp
  obtain ⟨cl, Ar, -, Sz, Nn, -⟩ := A
  refine Goes.step (X.1.arraylength X.2.1.1 (by rw [X.2.2.1]; exact Ar.1) (State.isArrayOf_alike X.alike Ar.2.1) (g := mkF m pc L (.ref a :: S)) rfl rfl (hb X.2.1.2.1 hd)) ?_
  rw [len_of Sz Nn]
  exact K
theorem o_iaload (X : On l Z EL p e R s m args below meth c y code maxL ret vm T h locs cells slots) {a : Addr} {k : ClassId} {n j : Int32} {vs : List Value} {dv v : Value} {q : Nat} (A : Arv Z h a k .int n vs dv) (hj : ¬ j < 0 ∧ j < n) (hv : vs.getD j.toNatClampNeg dv = v) (hd : decode code pc = .ok (.iaload, 1)) (hp : pc + 1 = q) (K : Goes p e below F T (mkF m q L (v :: S))) : Goes p e below F T (mkF m pc L (.int j :: .ref a :: S)) := by
  subst hp
  obtain ⟨cl, Ar, -, Sz, Nn, H, -⟩ := A
  have hin := inb_of Sz hj
  exact Goes.step (X.1.iaload X.2.1.1 (j := j) (v := v) (by rw [X.2.2.1]; exact Ar.1) (State.isArrayOf_alike X.alike Ar.2.1) Ar.2.2 hin (H.at hin hv) (g := mkF m pc L (.int j :: .ref a :: S)) rfl rfl (hb X.2.1.2.1 hd)) K
theorem o_laload (X : On l Z EL p e R s m args below meth c y code maxL ret vm T h locs cells slots) {a : Addr} {k : ClassId} {n j : Int32} {vs : List Value} {dv v : Value} {q : Nat} (A : Arv Z h a k .long n vs dv) (hj : ¬ j < 0 ∧ j < n) (hv : vs.getD j.toNatClampNeg dv = v) (hd : decode code pc = .ok (.laload, 1)) (hp : pc + 1 = q) (K : Goes p e below F T (mkF m q L (v :: S))) : Goes p e below F T (mkF m pc L (.int j :: .ref a :: S)) := by
  subst hp
  obtain ⟨cl, Ar, -, Sz, Nn, H, -⟩ := A
  have hin := inb_of Sz hj
  exact Goes.step (X.1.laload X.2.1.1 (j := j) (v := v) (by rw [X.2.2.1]; exact Ar.1) (State.isArrayOf_alike X.alike Ar.2.1) Ar.2.2 hin (H.at hin hv) (g := mkF m pc L (.int j :: .ref a :: S)) rfl rfl (hb X.2.1.2.1 hd)) K
theorem o_caload (X : On l Z EL p e R s m args below meth c y code maxL ret vm T h locs cells slots) {a : Addr} {k : ClassId} {n j : Int32} {vs : List Value} {dv v : Value} {q : Nat} (A : Arv Z h a k .char n vs dv) (hj : ¬ j < 0 ∧ j < n) (hv : vs.getD j.toNatClampNeg dv = v) (hd : decode code pc = .ok (.caload, 1)) (hp : pc + 1 = q) (K : Goes p e below F T (mkF m q L (v :: S))) : Goes p e below F T (mkF m pc L (.int j :: .ref a :: S)) := by
  subst hp
  obtain ⟨cl, Ar, -, Sz, Nn, H, -⟩ := A
  have hin := inb_of Sz hj
  exact Goes.step (X.1.caload X.2.1.1 (j := j) (v := v) (by rw [X.2.2.1]; exact Ar.1) (State.isArrayOf_alike X.alike Ar.2.1) Ar.2.2 hin (H.at hin hv) (g := mkF m pc L (.int j :: .ref a :: S)) rfl rfl (hb X.2.1.2.1 hd)) K
theorem o_baload (X : On l Z EL p e R s m args below meth c y code maxL ret vm T h locs cells slots) {a : Addr} {k : ClassId} {n j : Int32} {vs : List Value} {dv v : Value} {q : Nat} (A : Arv Z h a k .byte n vs dv) (hj : ¬ j < 0 ∧ j < n) (hv : vs.getD j.toNatClampNeg dv = v) (hd : decode code pc = .ok (.baload, 1)) (hp : pc + 1 = q) (K : Goes p e below F T (mkF m q L (v :: S))) : Goes p e below F T (mkF m pc L (.int j :: .ref a :: S)) := by
  subst hp
  obtain ⟨cl, Ar, -, Sz, Nn, H, -⟩ := A
  have hin := inb_of Sz hj
  exact Goes.step (X.1.baloadBytes X.2.1.1 (j := j) (v := v) (by rw [X.2.2.1]; exact Ar.1) (State.isArrayOf_alike X.alike Ar.2.1) Ar.2.2 hin (H.at hin hv) (g := mkF m pc L (.int j :: .ref a :: S)) rfl rfl (hb X.2.1.2.1 hd)) K
theorem o_aaload (X : On l Z EL p e R s m args below meth c y code maxL ret vm T h locs cells slots) {a : Addr} {k : ClassId} {ty : FieldType} {n j : Int32} {vs : List Value} {dv v : Value} {q : Nat} (A : Arv Z h a k ty n vs dv) (hty : ty.isReference = true) (hj : ¬ j < 0 ∧ j < n) (hv : vs.getD j.toNatClampNeg dv = v) (hd : decode code pc = .ok (.aaload, 1)) (hp : pc + 1 = q) (K : Goes p e below F T (mkF m q L (v :: S))) : Goes p e below F T (mkF m pc L (.int j :: .ref a :: S)) := by
  subst hp
  obtain ⟨cl, Ar, -, Sz, Nn, H, -⟩ := A
  have hin := inb_of Sz hj
  exact Goes.step (X.1.aaload X.2.1.1 (j := j) (v := v) (by rw [X.2.2.1]; exact Ar.1) (State.isArrayOf_alike X.alike Ar.2.1) hty Ar.2.2 hin (H.at hin hv) (g := mkF m pc L (.int j :: .ref a :: S)) rfl rfl (hb X.2.1.2.1 hd)) K
theorem o_iastore (X : On l Z EL p e R s m args below meth c y code maxL ret vm T h locs cells slots) {a : Addr} {k : ClassId} {n j : Int32} {x : Int32} {v : Value} {vs : List Value} {dv : Value} {q : Nat} (i : Nat) (A : Arv Z h a k .int n vs dv) (ha : Z.heap.size ≤ a) (hsf : Safe Z EL vm h a) (hj : ¬ j < 0 ∧ j < n) (hi : j.toNatClampNeg = i) (hlt : i < vs.length) (hv : (.int x : Value) = v) (hd : decode code pc = .ok (.iastore, 1)) (hp : pc + 1 = q)
    (K : ∀ (T' : State) (h' : Heap) (locs' : List Loc), On l Z EL p e R s m args below meth c y code maxL ret vm T' h' locs' cells slots → Wr h h' a i v → CHr Z EL vm h vm h' → Arv Z h' a k .int n (vs.set i v) dv → Goes p e below F T' (mkF m q L S)) : Goes p e below F T (mkF m pc L (.int x :: .int j :: .ref a :: S)) := by
  subst hp hv
  obtain ⟨cl, Ar, q1, Sz, Nn, H, G⟩ := A
  obtain ⟨T', h', X', e', W', st⟩ := stI X.1 X.2.1.1 (show Z.Warmed39 (s.setVm vm).vm from X.2.1.2.2.1) X.2.2.1 Ar (j := j) (inb_of Sz hj) (g := mkF m pc L (.int x :: .int j :: .ref a :: S)) rfl rfl (hb X.2.1.2.1 hd)
  exact Goes.step st (K T' h' _ (X.later X' e' (Fr.snoc X' X.2.2.2.1 ha) (ext_wr X.ext W' ha) (CHr.wr W' hsf X.chv)) (hi ▸ W') (CHr.wr W' hsf X.chv) (Arv.set Ar q1 Sz Nn H G rfl W' i hi hlt))
theorem o_lastore (X : On l Z EL p e R s m args below meth c y code maxL ret vm T h locs cells slots) {a : Addr} {k : ClassId} {n j : Int32} {x : Int64} {v : Value} {vs : List Value} {dv : Value} {q : Nat} (i : Nat) (A : Arv Z h a k .long n vs dv) (ha : Z.heap.size ≤ a) (hsf : Safe Z EL vm h a) (hj : ¬ j < 0 ∧ j < n) (hi : j.toNatClampNeg = i) (hlt : i < vs.length) (hv : (.long x : Value) = v) (hd : decode code pc = .ok (.lastore, 1)) (hp : pc + 1 = q)
    (K : ∀ (T' : State) (h' : Heap) (locs' : List Loc), On l Z EL p e R s m args below meth c y code maxL ret vm T' h' locs' cells slots → Wr h h' a i v → CHr Z EL vm h vm h' → Arv Z h' a k .long n (vs.set i v) dv → Goes p e below F T' (mkF m q L S)) : Goes p e below F T (mkF m pc L (.long x :: .int j :: .ref a :: S)) := by
  subst hp hv
  obtain ⟨cl, Ar, q1, Sz, Nn, H, G⟩ := A
  obtain ⟨T', h', X', e', W', st⟩ := stJ X.1 X.2.1.1 (show Z.Warmed39 (s.setVm vm).vm from X.2.1.2.2.1) X.2.2.1 Ar (j := j) (inb_of Sz hj) (g := mkF m pc L (.long x :: .int j :: .ref a :: S)) rfl rfl (hb X.2.1.2.1 hd)
  exact Goes.step st (K T' h' _ (X.later X' e' (Fr.snoc X' X.2.2.2.1 ha) (ext_wr X.ext W' ha) (CHr.wr W' hsf X.chv)) (hi ▸ W') (CHr.wr W' hsf X.chv) (Arv.set Ar q1 Sz Nn H G rfl W' i hi hlt))
theorem o_castore (X : On l Z EL p e R s m args below meth c y code maxL ret vm T h locs cells slots) {a : Addr} {k : ClassId} {n j : Int32} {x : Int32} {v : Value} {vs : List Value} {dv : Value} {q : Nat} (i : Nat) (A : Arv Z h a k .char n vs dv) (ha : Z.heap.size ≤ a) (hsf : Safe Z EL vm h a) (hj : ¬ j < 0 ∧ j < n) (hi : j.toNatClampNeg = i) (hlt : i < vs.length) (hv : (.int (nar .char x) : Value) = v) (hd : decode code pc = .ok (.castore, 1)) (hp : pc + 1 = q)
    (K : ∀ (T' : State) (h' : Heap) (locs' : List Loc), On l Z EL p e R s m args below meth c y code maxL ret vm T' h' locs' cells slots → Wr h h' a i v → CHr Z EL vm h vm h' → Arv Z h' a k .char n (vs.set i v) dv → Goes p e below F T' (mkF m q L S)) : Goes p e below F T (mkF m pc L (.int x :: .int j :: .ref a :: S)) := by
  subst hp hv
  obtain ⟨cl, Ar, q1, Sz, Nn, H, G⟩ := A
  obtain ⟨T', h', X', e', W', st⟩ := stC X.1 X.2.1.1 (show Z.Warmed39 (s.setVm vm).vm from X.2.1.2.2.1) X.2.2.1 Ar (j := j) (inb_of Sz hj) (g := mkF m pc L (.int x :: .int j :: .ref a :: S)) rfl rfl (hb X.2.1.2.1 hd)
  exact Goes.step st (K T' h' _ (X.later X' e' (Fr.snoc X' X.2.2.2.1 ha) (ext_wr X.ext W' ha) (CHr.wr W' hsf X.chv)) (hi ▸ W') (CHr.wr W' hsf X.chv) (Arv.set Ar q1 Sz Nn H G (fits_nar_char x) W' i hi hlt))
theorem o_bastore (X : On l Z EL p e R s m args below meth c y code maxL ret vm T h locs cells slots) {a : Addr} {k : ClassId} {n j : Int32} {x : Int32} {v : Value} {vs : List Value} {dv : Value} {q : Nat} (i : Nat) (A : Arv Z h a k .byte n vs dv) (ha : Z.heap.size ≤ a) (hsf : Safe Z EL vm h a) (hj : ¬ j < 0 ∧ j < n) (hi : j.toNatClampNeg = i) (hlt : i < vs.length) (hv : (.int (nar .byte x) : Value) = v) (hd : decode code pc = .ok (.bastore, 1)) (hp : pc + 1 = q)
    (K : ∀ (T' : State) (h' : Heap) (locs' : List Loc), On l Z EL p e R s m args below meth c y code maxL ret vm T' h' locs' cells slots → Wr h h' a i v → CHr Z EL vm h vm h' → Arv Z h' a k .byte n (vs.set i v) dv → Goes p e below F T' (mkF m q L S)) : Goes p e below F T (mkF m pc L (.int x :: .int j :: .ref a :: S)) := by
  subst hp hv
  obtain ⟨cl, Ar, q1, Sz, Nn, H, G⟩ := A
  obtain ⟨T', h', X', e', W', st⟩ := stB X.1 X.2.1.1 (show Z.Warmed39 (s.setVm vm).vm from X.2.1.2.2.1) X.2.2.1 Ar (j := j) (inb_of Sz hj) (g := mkF m pc L (.int x :: .int j :: .ref a :: S)) rfl rfl (hb X.2.1.2.1 hd)
  exact Goes.step st (K T' h' _ (X.later X' e' (Fr.snoc X' X.2.2.2.1 ha) (ext_wr X.ext W' ha) (CHr.wr W' hsf X.chv)) (hi ▸ W') (CHr.wr W' hsf X.chv) (Arv.set Ar q1 Sz Nn H G (fits_nar_byte x) W' i hi hlt))
/-- the end of a walk -/
theorem fin_of (X : On l Z EL p e R s m args below meth c y code maxL ret vm T h locs cells slots) {Q : Option Value → Heap → (Addr → Prop) → Prop} {rc rs : Nat} {v : Option Value} (hv : ret = none → v = none) (hQ : ∀ Sf : Addr → Prop, (∀ x, x < h.size → Safe Z EL vm h x → Sf x) → Q v h Sf) (hc : cells ≤ rc) (hs : slots ≤ rs)
    (hr : ∀ fs, (∀ (f : JFrame) (acts : List Action), f.method = m → f.locked = none → f.entered = [] → (doReturn e (T.setTop f) acts v).1 = T.setFrames fs) → Steps p.tables e below (T.setTop (mkF m pc L S)) (T.setFrames fs)) : Goes p e below (FinQ Z EL s Q rc rs) T (mkF m pc L S) := by
  obtain ⟨X1, C1, e1, N1, E1, ⟨k0, s0, q0⟩, H1, ⟨a1, hw⟩⟩ := X
  obtain ⟨fs, h1, h2, h3, h4⟩ := X1.leaveW s0 (by rw [e1]; exact q0) (v := v) (fun q => hv (C1.2.2.2.2.1.symm.trans q)) C1.2.2.2.2.2.1
  have A := CHv.at X1 C1.2.2.1 hw H1.1
  obtain ⟨g1, g2, g3, g4⟩ := h4
  refine ⟨_, _, hr fs h1, h2, h3, v, locs, rfl, ⟨?_, N1, ?_⟩, ?_, g1, g2, g3, g4.mono hc hs⟩
  · show Q v T.heap (Safe Z EL T.vm T.heap)
    rw [e1]
    exact hQ _ fun x hx S => A.safe hx S
  · show Ext Z.heap T.heap
    rw [e1]; exact E1
  · show CHr Z EL s.vm s.heap T.vm T.heap
    rw [e1]; exact H1.trans A
theorem o_ret (X : On l Z EL p e R s m args below meth c y code maxL none vm T h locs cells slots) {Q : Option Value → Heap → (Addr → Prop) → Prop} {rc rs : Nat} (hd : decode code pc = .ok (.return_, 1)) (hQ : ∀ Sf : Addr → Prop, (∀ x, x < h.size → Safe Z EL vm h x → Sf x) → Q none h Sf) (hc : cells ≤ rc) (hs : slots ≤ rs) : Goes p e below (FinQ Z EL s Q rc rs) T (mkF m pc L []) :=
  fin_of X (fun _ => rfl) hQ hc hs (fun fs hr => X.1.returnOut X.2.1.1 X.2.1.2.2.2.2.1 (hb X.2.1.2.1 hd) hr)
theorem o_retI (X : On l Z EL p e R s m args below meth c y code maxL (some .int) vm T h locs cells slots) {Q : Option Value → Heap → (Addr → Prop) → Prop} {rc rs : Nat} {z : Int32} (hd : decode code pc = .ok (.ireturn, 1)) (hQ : ∀ Sf : Addr → Prop, (∀ x, x < h.size → Safe Z EL vm h x → Sf x) → Q (some (.int z)) h Sf) (hc : cells ≤ rc) (hs : slots ≤ rs) : Goes p e below (FinQ Z EL s Q rc rs) T (mkF m pc L (.int z :: S)) :=
  fin_of X (fun q => nomatch q) hQ hc hs (fun fs hr => retOut X.1 X.2.1.1 X.2.1.2.2.2.2.1 rfl (Or.inl ⟨rfl, Or.inl rfl, z, rfl⟩) (hb X.2.1.2.1 hd) hr)
theorem o_retN {t : FieldType} (X : On l Z EL p e R s m args below meth c y code maxL (some t) vm T h locs cells slots) {Q : Option Value → Heap → (Addr → Prop) → Prop} {rc rs : Nat} {z : Int32} (hd : decode code pc = .ok (.ireturn, 1)) (ht : t = .boolean ∨ t = .byte ∨ t = .char ∨ t = .short) (hQ : ∀ Sf : Addr → Prop, (∀ x, x < h.size → Safe Z EL vm h x → Sf x) → Q (some (.int (nar t z))) h Sf) (hc : cells ≤ rc) (hs : slots ≤ rs) : Goes p e below (FinQ Z EL s Q rc rs) T (mkF m pc L (.int z :: S)) :=
  fin_of X (fun q => nomatch q) hQ hc hs (fun fs hr => retN X.1 X.2.1.1 X.2.1.2.2.2.2.1 ht (hb X.2.1.2.1 hd) hr)
theorem o_retR {t : FieldType} (X : On l Z EL p e R s m args below meth c y code maxL (some t) vm T h locs cells slots) {Q : Option Value → Heap → (Addr → Prop) → Prop} {rc rs : Nat} {v : Value} (hd : decode code pc = .ok (.areturn, 1)) (ht : t.isReference = true) (hv : v.isRef = true) (hn : narrow t v = v) (hQ : ∀ Sf : Addr → Prop, (∀ x, x < h.size → Safe Z EL vm h x → Sf x) → Q (some v) h Sf) (hc : cells ≤ rc) (hs : slots ≤ rs) : Goes p e below (FinQ Z EL s Q rc rs) T (mkF m pc L (v :: S)) :=
  fin_of X (fun q => nomatch q) hQ hc hs (fun fs hr => retOut X.1 X.2.1.1 X.2.1.2.2.2.2.1 hn (Or.inr (Or.inr (Or.inr (Or.inr ⟨rfl, ht, hv⟩)))) (hb X.2.1.2.1 hd) hr)
theorem o_retJ (X : On l Z EL p e R s m args below meth c y code maxL (some .long) vm T h locs cells slots) {Q : Option Value → Heap → (Addr → Prop) → Prop} {rc rs : Nat} {z : Int64} (hd : decode code pc = .ok (.lreturn, 1)) (hQ : ∀ Sf : Addr → Prop, (∀ x, x < h.size → Safe Z EL vm h x → Sf x) → Q (some (.long z)) h Sf) (hc : cells ≤ rc) (hs : slots ≤ rs) : Goes p e below (FinQ Z EL s Q rc rs) T (mkF m pc L (.long z :: S)) :=
  fin_of X (fun q => nomatch q) hQ hc hs (fun fs hr => retOut X.1 X.2.1.1 X.2.1.2.2.2.2.1 rfl (Or.inr (Or.inl ⟨rfl, rfl, z, rfl⟩)) (hb X.2.1.2.1 hd) hr)
theorem o_initO (X : On l Z EL p e R s m args below meth c y code maxL ret vm T h locs cells slots) {idx q : Nat} {a : Addr} (w1 : (Jvm.Cond.methodLink y.cls idx Lib.objectInit).before a0 Z = true) (w2 : (Jvm.Cond.instanceMethod Lib.objectInit).before a0 Z = true) (w3 : (Jvm.Cond.code Lib.objectInit ⟨#[0xb1]⟩ 1 none).before a0 Z = true) (hd : decode code pc = .ok (.invokespecial idx, 3)) (hL : L.size = maxL) (hf : 1 ≤ R.frames) (hl : (S.map fun v => v.category).sum + 12 ≤ R.locals) (hp : pc + 3 = q)
    (K : ∀ T' : State, On l Z EL p e R s m args below meth c y code maxL ret vm T' h locs cells slots → Goes p e below F T' (mkF m q L S)) : Goes p e below F T (mkF m pc L (.ref a :: S)) := by
  subst hp
  obtain ⟨T', X', e', st⟩ := initO X.1 X.2.1.1 (show Z.Warmed39 (s.setVm vm).vm from X.2.1.2.2.1) X.2.1.2.2.2.1 w1 w2 w3 X.2.2.1 (g := mkF m pc L (.ref a :: S)) rfl (hL.trans X.2.1.2.2.2.2.2.2.2.symm) rfl (hb X.2.1.2.1 hd) hf (W := (S.map fun v => v.category).sum) (by show 2 * 0 + _ ≤ _; omega) hl
  exact Goes.step st (K T' (X.later X' e' X.2.2.2.1 X.ext (CHr.refl X.chv)))
/-- a contract as a BackS -/
theorem Con.back {y' : MethodName} {bytes : ByteArray} {maxL' : Nat} {ret' : Option FieldType} {rm : Room} {as : Array Value} {Q : Option Value → Heap → (Addr → Prop) → Prop} {len W : Nat} (X : On l Z EL p e R s m args below meth c y code maxL ret vm T h locs cells slots) (hC : Con l Z EL y' bytes maxL' ret' rm as h ss Q) (hss : ∀ x ∈ ss, x < h.size ∧ Safe Z EL vm h x) (w4 : (Jvm.Cond.code y' bytes maxL' ret').before a0 Z = true) (w3 : (Jvm.Cond.initialized y'.cls).before a0 Z = true) (hf : rm.frames + 1 ≤ R.frames) (hl : W + (maxL' + 11) + rm.locals ≤ R.locals) :
    BackS l R p e below (s.setVm vm) args y' len W (fun A b => b = as ∧ A.U.heap = h ∧ A.cells + rm.cells ≤ R.cells ∧ A.slots + rm.slots ≤ R.slots) (fun A _ v B => ∃ L, (Q v B.U.heap (Safe Z EL B.U.vm B.U.heap) ∧ Fr Z.heap.size L ∧ Ext Z.heap B.U.heap) ∧ B.locs = A.locs ++ L ∧ B.cells = A.cells + rm.cells ∧ B.slots = A.slots + rm.slots ∧ CHr Z EL vm h B.U.vm B.U.heap) := by
  obtain ⟨X1, C1, e1, N1, E1, ⟨k0, s0, q0⟩, H1, ⟨a1, hw⟩⟩ := X
  exact BackS.of_freeW (bytes := bytes) (maxL := maxL') (ret := ret') (E := fun _ first o t L k n => k = rm.cells ∧ n = rm.slots ∧ (∃ v, o = .returned v ∧ Q v t.heap (Safe Z EL t.vm t.heap) ∧ Fr Z.heap.size L ∧ Ext Z.heap t.heap) ∧ CHr Z EL first.vm first.heap t.vm t.heap) (hC ⟨a1, hw⟩ E1 []) hf hl
    (fun m meth c A a Y hp => have hU : Z.Warmed39 A.U.vm := wtrans (s := s.setVm vm) C1.2.2.1 Y.warmed
      ⟨by show (Cond.and _ .tt).before a A.U = true; rw [Cond.before_and, mv hU w4]; rfl, mv hU w4, mv hU w3, hp.2.2.1, hp.2.2.2⟩)
    (fun m meth c A a g mk Y hp => ⟨hp.1, wtrans (s := s.setVm vm) C1.2.2.1 Y.warmed, hp.2.1, (CHv.at Y C1.2.2.1 hw H1.1).1, fun x hx => (CHv.at Y C1.2.2.1 hw H1.1).safe (hss x hx).1 (hss x hx).2⟩) (fun _ _ _ _ _ _ _ _ _ => trivial)
    (fun _ _ _ _ ⟨v, L, h1, h2, h3, h4⟩ => ⟨L, _, _, h4, rfl, rfl, ⟨v, h1, h2⟩, h3⟩)
    (fun m meth c A a g mk v t L k n Y hp _ _ ⟨e1, e2, ⟨v', e3, e4⟩, e5⟩ => by
      cases e3; subst e1 e2
      refine ⟨L, e4, rfl, rfl, rfl, (CHv.at Y C1.2.2.1 hw H1.1).trans ?_⟩
      rw [← hp.2.1]; exact e5)
theorem o_spec (X : On l Z EL p e R s m args below meth c y code maxL ret vm T h locs cells slots) {y' : MethodName} {index q : Nat} {bytes : ByteArray} {maxL' : Nat} {rm : Room} {as : Array Value} {Q : Option Value → Heap → (Addr → Prop) → Prop} (argsL : List Value) {a : Addr} {rest : List Value} (hC : Con l Z EL y' bytes maxL' none rm as h ss Q) (hss : ∀ x ∈ ss, x < h.size ∧ Safe Z EL vm h x)
    (hy1 : y'.name = "<init>") (w1 : (Jvm.Cond.methodLink y.cls index y').before a0 Z = true) (w2 : (Jvm.Cond.instanceMethod y').before a0 Z = true) (w3 : (Jvm.Cond.code y' bytes maxL' none).before a0 Z = true) (w4 : (Jvm.Cond.initialized y'.cls).before a0 Z = true) (hy : y'.cls ≠ "java/lang/invoke/MethodHandle" ∧ y'.cls ≠ "java/lang/invoke/VarHandle")
    (hd : decode code pc = .ok (.invokespecial index, 3)) (has : (.ref a :: argsL).toArray = as) (hL : L.size = maxL) (hlen : ∀ sig, parseMethodDescriptor y'.desc = some sig → argsL.length = sig.parameters.length) (hS : S = argsL.reverse ++ .ref a :: rest) (hf : rm.frames + 1 ≤ R.frames) (hl : (rest.map fun v => v.category).sum + (maxL' + 11) + rm.locals ≤ R.locals) (hc : cells + rm.cells ≤ R.cells) (hs : slots + rm.slots ≤ R.slots) (hp : pc + 3 = q)
    (K : ∀ (v : Option Value) (vm' : Vm) (T' : State) (h' : Heap) (locs' : List Loc), On l Z EL p e R s m args below meth c y code maxL ret vm' T' h' locs' (cells + rm.cells) (slots + rm.slots) → CHr Z EL vm h vm' h' → Q v h' (Safe Z EL vm' h') → Goes p e below F T' (mkF m q L (v.toList ++ rest))) : Goes p e below F T (mkF m pc L S) := by
  subst hp hS has
  obtain ⟨v, vm1, ⟨T', L1, k1, n1⟩, -, X', S', g', ⟨Lc, hQ, e2, e3, e4, R'⟩, st⟩ := X.1.specialBackS X.2.1.1 hy1 X.2.1.2.2.2.1 (mvT (s := s.setVm vm) X.2.1.2.2.1 w1) (mvT (s := s.setVm vm) X.2.1.2.2.1 w2) (mvT (s := s.setVm vm) X.2.1.2.2.1 w3) hy (Con.back X hC hss w3 w4 hf hl) (g := mkF m pc L (argsL.reverse ++ .ref a :: rest)) rfl (hL.trans X.2.1.2.2.2.2.2.2.2.symm) (Steps.refl _) hlen rfl (by show 2 * 0 + _ ≤ _; omega) (hb X.2.1.2.1 hd) (fun _ _ => ⟨rfl, X.2.2.1, hc, hs⟩)
  dsimp only [Pt.U, Pt.locs, Pt.cells, Pt.slots] at X' S' g' hQ e2 e3 e4 R' st
  subst e2 e3 e4
  exact Goes.step (fun _ k => st.trans k) (K v T'.vm T' T'.heap _ (X.laterV X' S' rfl rfl (Fr.app X.2.2.2.1 hQ.2.1) hQ.2.2 R') R' hQ.1)
theorem o_virt (X : On l Z EL p e R s m args below meth c y code maxL ret vm T h locs cells slots) {C : String} {y' : MethodName} {index q : Nat} {bytes : ByteArray} {maxL' : Nat} {ret' : Option FieldType} {rm : Room} {as : Array Value} {Q : Option Value → Heap → (Addr → Prop) → Prop} (argsL : List Value) {a : Addr} {rest : List Value} (E : Exa Z h a C) (hC : Con l Z EL y' bytes maxL' ret' rm as h ss Q) (hss : ∀ x ∈ ss, x < h.size ∧ Safe Z EL vm h x)
    (w1 : (Jvm.Cond.methodLink y.cls index y').before a0 Z = true) (w2 : (Jvm.Cond.declares y').before a0 Z = true) (w3 : (Jvm.Cond.selects C y' y').before a0 Z = true) (w4 : (Jvm.Cond.instanceMethod y').before a0 Z = true) (w5 : (Jvm.Cond.code y' bytes maxL' ret').before a0 Z = true) (w6 : (Jvm.Cond.initialized y'.cls).before a0 Z = true) (hy : y'.cls ≠ "java/lang/invoke/MethodHandle" ∧ y'.cls ≠ "java/lang/invoke/VarHandle")
    (hd : decode code pc = .ok (.invokevirtual index, 3)) (has : (.ref a :: argsL).toArray = as) (hL : L.size = maxL) (hlen : ∀ sig, parseMethodDescriptor y'.desc = some sig → argsL.length = sig.parameters.length) (hS : S = argsL.reverse ++ .ref a :: rest) (hf : rm.frames + 1 ≤ R.frames) (hl : (rest.map fun v => v.category).sum + (maxL' + 11) + rm.locals ≤ R.locals) (hc : cells + rm.cells ≤ R.cells) (hs : slots + rm.slots ≤ R.slots) (hp : pc + 3 = q)
    (K : ∀ (v : Option Value) (vm' : Vm) (T' : State) (h' : Heap) (locs' : List Loc), On l Z EL p e R s m args below meth c y code maxL ret vm' T' h' locs' (cells + rm.cells) (slots + rm.slots) → CHr Z EL vm h vm' h' → Q v h' (Safe Z EL vm' h') → Goes p e below F T' (mkF m q L (v.toList ++ rest))) : Goes p e below F T (mkF m pc L S) := by
  subst hp hS has
  obtain ⟨cB, kB, q1, q2, q3⟩ := isOf (show Z.Warmed39 (s.setVm vm).vm from X.2.1.2.2.1) X.2.2.1 E
  obtain ⟨v, vm1, ⟨T', L1, k1, n1⟩, -, X', S', g', ⟨Lc, hQ, e2, e3, e4, R'⟩, st⟩ := X.1.virtualBackS X.2.1.1 (y := y') (z := y') X.2.1.2.2.2.1 (mvT (s := s.setVm vm) X.2.1.2.2.1 w1) (mvT (s := s.setVm vm) X.2.1.2.2.1 w2) (notFace_of_selects (args := #[]) (mvT (s := s.setVm vm) X.2.1.2.2.1 w3)) (mvT (s := s.setVm vm) X.2.1.2.2.1 w3) (mvT (s := s.setVm vm) X.2.1.2.2.1 w4) hy (Con.back X hC hss w5 w6 hf hl) q1 q3 (g := mkF m pc L (argsL.reverse ++ .ref a :: rest)) rfl (hL.trans X.2.1.2.2.2.2.2.2.2.symm) (Steps.refl _) hlen rfl (by show 2 * 0 + _ ≤ _; omega) (hb X.2.1.2.1 hd) (fun _ _ => ⟨rfl, X.2.2.1, hc, hs⟩)
  dsimp only [Pt.U, Pt.locs, Pt.cells, Pt.slots] at X' S' g' hQ e2 e3 e4 R' st
  subst e2 e3 e4
  exact Goes.step (fun _ k => st.trans k) (K v T'.vm T' T'.heap _ (X.laterV X' S' rfl rfl (Fr.app X.2.2.2.1 hQ.2.1) hQ.2.2 R') R' hQ.1)
theorem o_stat (X : On l Z EL p e R s m args below meth c y code maxL ret vm T h locs cells slots) {y' : MethodName} {index q : Nat} {bytes : ByteArray} {maxL' : Nat} {ret' : Option FieldType} {rm : Room} {as : Array Value} {Q : Option Value → Heap → (Addr → Prop) → Prop} (argsL : List Value) {rest : List Value} (hC : Con l Z EL y' bytes maxL' ret' rm as h ss Q) (hss : ∀ x ∈ ss, x < h.size ∧ Safe Z EL vm h x)
    (w1 : (Jvm.Cond.methodLink y.cls index y').before a0 Z = true) (w2 : (Jvm.Cond.static y').before a0 Z = true) (w3 : (Jvm.Cond.initialized y'.cls).before a0 Z = true) (w4 : (Jvm.Cond.code y' bytes maxL' ret').before a0 Z = true) (hy : y'.cls ≠ "java/lang/invoke/MethodHandle" ∧ y'.cls ≠ "java/lang/invoke/VarHandle")
    (hd : decode code pc = .ok (.invokestatic index, 3)) (has : argsL.toArray = as) (hL : L.size = maxL) (hlen : ∀ sig, parseMethodDescriptor y'.desc = some sig → argsL.length = sig.parameters.length) (hS : S = argsL.reverse ++ rest) (hf : rm.frames + 1 ≤ R.frames) (hl : (rest.map fun v => v.category).sum + (maxL' + 11) + rm.locals ≤ R.locals) (hc : cells + rm.cells ≤ R.cells) (hs : slots + rm.slots ≤ R.slots) (hp : pc + 3 = q)
    (K : ∀ (v : Option Value) (vm' : Vm) (T' : State) (h' : Heap) (locs' : List Loc), On l Z EL p e R s m args below meth c y code maxL ret vm' T' h' locs' (cells + rm.cells) (slots + rm.slots) → CHr Z EL vm h vm' h' → Q v h' (Safe Z EL vm' h') → Goes p e below F T' (mkF m q L (v.toList ++ rest))) : Goes p e below F T (mkF m pc L S) := by
  subst hp hS has
  obtain ⟨v, vm1, ⟨T', L1, k1, n1⟩, -, X', S', g', ⟨Lc, hQ, e2, e3, e4, R'⟩, st⟩ := callSS X.1 X.2.1.1 X.2.1.2.2.2.1 (mvT (s := s.setVm vm) X.2.1.2.2.1 w1) (mvT (s := s.setVm vm) X.2.1.2.2.1 w2) (mvT (s := s.setVm vm) X.2.1.2.2.1 w3) (mvT (s := s.setVm vm) X.2.1.2.2.1 w4) hy (Con.back X hC hss w4 w3 hf hl) (g := mkF m pc L (argsL.reverse ++ rest)) rfl (hL.trans X.2.1.2.2.2.2.2.2.2.symm) hlen rfl (by show 2 * 0 + _ ≤ _; omega) (hb X.2.1.2.1 hd) (fun _ _ => ⟨rfl, X.2.2.1, hc, hs⟩)
  dsimp only [Pt.U, Pt.locs, Pt.cells, Pt.slots] at X' S' g' hQ e2 e3 e4 R' st
  subst e2 e3 e4
  exact Goes.step (fun _ k => st.trans k) (K v T'.vm T' T'.heap _ (X.laterV X' S' rfl rfl (Fr.app X.2.2.2.1 hQ.2.1) hQ.2.2 R') R' hQ.1)
theorem o_specB (X : On l Z EL p e R s m args below meth c y code maxL ret vm T h locs cells slots) {y' : MethodName} {index W q : Nat} {bytes : ByteArray} {maxL' : Nat} {Q : Option Value → Heap → List Loc → Prop} {rc rs : Nat} {as : Array Value} {ws : List Addr} (argsL : List Value) {a : Addr} {rest : List Value}
    (hK : Back l R p e below (s.setVm vm) args y' 3 W (fun A b => b = as ∧ A.U.heap = h ∧ A.cells + rc ≤ R.cells ∧ A.slots + rs ≤ R.slots) (fun A _ v B => ∃ L, Q v B.U.heap L ∧ B.locs = A.locs ++ L ∧ B.cells = A.cells + rc ∧ B.slots = A.slots + rs))
    (hq : ∀ v h' L, Q v h' L → Fr Z.heap.size L ∧ Keep h h' ws) (hws : ∀ x ∈ ws, Z.heap.size ≤ x ∧ Safe Z EL vm h x)
    (hy1 : y'.name = "<init>") (w1 : (Jvm.Cond.methodLink y.cls index y').before a0 Z = true) (w2 : (Jvm.Cond.instanceMethod y').before a0 Z = true) (w3 : (Jvm.Cond.code y' bytes maxL' none).before a0 Z = true) (hy : y'.cls ≠ "java/lang/invoke/MethodHandle" ∧ y'.cls ≠ "java/lang/invoke/VarHandle")
    (hd : decode code pc = .ok (.invokespecial index, 3)) (has : (.ref a :: argsL).toArray = as) (hL : L.size = maxL) (hlen : ∀ sig, parseMethodDescriptor y'.desc = some sig → argsL.length = sig.parameters.length) (hS : S = argsL.reverse ++ .ref a :: rest) (hW : (rest.map fun v => v.category).sum ≤ W) (hc : cells + rc ≤ R.cells) (hs : slots + rs ≤ R.slots) (hp : pc + 3 = q)
    (K : ∀ (v : Option Value) (T' : State) (h' : Heap) (L' locs' : List Loc), On l Z EL p e R s m args below meth c y code maxL ret vm T' h' locs' (cells + rc) (slots + rs) → CHr Z EL vm h vm h' → Q v h' L' → Goes p e below F T' (mkF m q L (v.toList ++ rest))) : Goes p e below F T (mkF m pc L S) := by
  subst hp hS has
  obtain ⟨v, vm1, ⟨T', L1, k1, n1⟩, -, X', ⟨Lc, hQ, e2, e3, e4⟩, st⟩ := X.1.specialBack X.2.1.1 hy1 X.2.1.2.2.2.1 (mvT (s := s.setVm vm) X.2.1.2.2.1 w1) (mvT (s := s.setVm vm) X.2.1.2.2.1 w2) (mvT (s := s.setVm vm) X.2.1.2.2.1 w3) hy hK (g := mkF m pc L (argsL.reverse ++ .ref a :: rest)) rfl (hL.trans X.2.1.2.2.2.2.2.2.2.symm) (Steps.refl _) hlen rfl (by show 2 * 0 + _ ≤ _; omega) (hb X.2.1.2.1 hd) (fun _ _ => ⟨rfl, X.2.2.1, hc, hs⟩)
  dsimp only [Pt.U, Pt.locs, Pt.cells, Pt.slots] at X' hQ e2 e3 e4 st
  subst e2 e3 e4
  obtain ⟨f1, f2⟩ := hq _ _ _ hQ
  have R' : CHr Z EL vm h vm T'.heap := CHr.keep f2 (fun x hx => (hws x hx).2) X.chv
  exact Goes.step (fun _ k => st.trans k) (K v T' T'.heap Lc _ (X.later X' rfl (Fr.app X.2.2.2.1 f1) (ext_keep X.ext f2 fun x hx => (hws x hx).1) R') R' hQ)
theorem o_virtB (X : On l Z EL p e R s m args below meth c y code maxL ret vm T h locs cells slots) {C : String} {y' : MethodName} {index W q : Nat} {Q : Option Value → Heap → List Loc → Prop} {rc rs : Nat} {as : Array Value} {ws : List Addr} (argsL : List Value) {a : Addr} {rest : List Value} (E : Exa Z h a C)
    (hK : Back l R p e below (s.setVm vm) args y' 3 W (fun A b => b = as ∧ A.U.heap = h ∧ A.cells + rc ≤ R.cells ∧ A.slots + rs ≤ R.slots) (fun A _ v B => ∃ L, Q v B.U.heap L ∧ B.locs = A.locs ++ L ∧ B.cells = A.cells + rc ∧ B.slots = A.slots + rs))
    (hq : ∀ v h' L, Q v h' L → Fr Z.heap.size L ∧ Keep h h' ws) (hws : ∀ x ∈ ws, Z.heap.size ≤ x ∧ Safe Z EL vm h x)
    (w1 : (Jvm.Cond.methodLink y.cls index y').before a0 Z = true) (w2 : (Jvm.Cond.declares y').before a0 Z = true) (w3 : (Jvm.Cond.selects C y' y').before a0 Z = true) (w4 : (Jvm.Cond.instanceMethod y').before a0 Z = true) (hy : y'.cls ≠ "java/lang/invoke/MethodHandle" ∧ y'.cls ≠ "java/lang/invoke/VarHandle")
    (hd : decode code pc = .ok (.invokevirtual index, 3)) (has : (.ref a :: argsL).toArray = as) (hL : L.size = maxL) (hlen : ∀ sig, parseMethodDescriptor y'.desc = some sig → argsL.length = sig.parameters.length) (hS : S = argsL.reverse ++ .ref a :: rest) (hW : (rest.map fun v => v.category).sum ≤ W) (hc : cells + rc ≤ R.cells) (hs : slots + rs ≤ R.slots) (hp : pc + 3 = q)
    (K : ∀ (v : Option Value) (T' : State) (h' : Heap) (L' locs' : List Loc), On l Z EL p e R s m args below meth c y code maxL ret vm T' h' locs' (cells + rc) (slots + rs) → CHr Z EL vm h vm h' → Q v h' L' → Goes p e below F T' (mkF m q L (v.toList ++ rest))) : Goes p e below F T (mkF m pc L S) := by
  subst hp hS has
  obtain ⟨cB, kB, q1, q2, q3⟩ := isOf (show Z.Warmed39 (s.setVm vm).vm from X.2.1.2.2.1) X.2.2.1 E
  obtain ⟨v, vm1, ⟨T', L1, k1, n1⟩, -, X', ⟨Lc, hQ, e2, e3, e4⟩, st⟩ := X.1.virtualBack X.2.1.1 (y := y') (z := y') X.2.1.2.2.2.1 (mvT (s := s.setVm vm) X.2.1.2.2.1 w1) (mvT (s := s.setVm vm) X.2.1.2.2.1 w2) (notFace_of_selects (args := #[]) (mvT (s := s.setVm vm) X.2.1.2.2.1 w3)) (mvT (s := s.setVm vm) X.2.1.2.2.1 w3) (mvT (s := s.setVm vm) X.2.1.2.2.1 w4) hy hK q1 q3 (g := mkF m pc L (argsL.reverse ++ .ref a :: rest)) rfl (hL.trans X.2.1.2.2.2.2.2.2.2.symm) (Steps.refl _) hlen rfl (by show 2 * 0 + _ ≤ _; omega) (hb X.2.1.2.1 hd) (fun _ _ => ⟨rfl, X.2.2.1, hc, hs⟩)
  dsimp only [Pt.U, Pt.locs, Pt.cells, Pt.slots] at X' hQ e2 e3 e4 st
  subst e2 e3 e4
  obtain ⟨f1, f2⟩ := hq _ _ _ hQ
  have R' : CHr Z EL vm h vm T'.heap := CHr.keep f2 (fun x hx => (hws x hx).2) X.chv
  exact Goes.step (fun _ k => st.trans k) (K v T' T'.heap Lc _ (X.later X' rfl (Fr.app X.2.2.2.1 f1) (ext_keep X.ext f2 fun x hx => (hws x hx).1) R') R' hQ)
theorem o_statB (X : On l Z EL p e R s m args below meth c y code maxL ret vm T h locs cells slots) {y' : MethodName} {index W q : Nat} {bytes : ByteArray} {maxL' : Nat} {ret' : Option FieldType} {Q : Option Value → Heap → List Loc → Prop} {rc rs : Nat} {as : Array Value} {ws : List Addr} (argsL : List Value) {rest : List Value}
    (hK : Back l R p e below (s.setVm vm) args y' 3 W (fun A b => b = as ∧ A.U.heap = h ∧ A.cells + rc ≤ R.cells ∧ A.slots + rs ≤ R.slots) (fun A _ v B => ∃ L, Q v B.U.heap L ∧ B.locs = A.locs ++ L ∧ B.cells = A.cells + rc ∧ B.slots = A.slots + rs))
    (hq : ∀ v h' L, Q v h' L → Fr Z.heap.size L ∧ Keep h h' ws) (hws : ∀ x ∈ ws, Z.heap.size ≤ x ∧ Safe Z EL vm h x)
    (w1 : (Jvm.Cond.methodLink y.cls index y').before a0 Z = true) (w2 : (Jvm.Cond.static y').before a0 Z = true) (w3 : (Jvm.Cond.initialized y'.cls).before a0 Z = true) (w4 : (Jvm.Cond.code y' bytes maxL' ret').before a0 Z = true) (hy : y'.cls ≠ "java/lang/invoke/MethodHandle" ∧ y'.cls ≠ "java/lang/invoke/VarHandle")
    (hd : decode code pc = .ok (.invokestatic index, 3)) (has : argsL.toArray = as) (hL : L.size = maxL) (hlen : ∀ sig, parseMethodDescriptor y'.desc = some sig → argsL.length = sig.parameters.length) (hS : S = argsL.reverse ++ rest) (hW : (rest.map fun v => v.category).sum ≤ W) (hc : cells + rc ≤ R.cells) (hs : slots + rs ≤ R.slots) (hp : pc + 3 = q)
    (K : ∀ (v : Option Value) (T' : State) (h' : Heap) (L' locs' : List Loc), On l Z EL p e R s m args below meth c y code maxL ret vm T' h' locs' (cells + rc) (slots + rs) → CHr Z EL vm h vm h' → Q v h' L' → Goes p e below F T' (mkF m q L (v.toList ++ rest))) : Goes p e below F T (mkF m pc L S) := by
  subst hp hS has
  obtain ⟨v, vm1, ⟨T', L1, k1, n1⟩, -, X', ⟨Lc, hQ, e2, e3, e4⟩, st⟩ := Jvm.LawKit.callS X.1 X.2.1.1 X.2.1.2.2.2.1 (mvT (s := s.setVm vm) X.2.1.2.2.1 w1) (mvT (s := s.setVm vm) X.2.1.2.2.1 w2) (mvT (s := s.setVm vm) X.2.1.2.2.1 w3) (mvT (s := s.setVm vm) X.2.1.2.2.1 w4) hy hK (g := mkF m pc L (argsL.reverse ++ rest)) rfl (hL.trans X.2.1.2.2.2.2.2.2.2.symm) hlen rfl (by show 2 * 0 + _ ≤ _; omega) (hb X.2.1.2.1 hd) (fun _ _ => ⟨rfl, X.2.2.1, hc, hs⟩)
  dsimp only [Pt.U, Pt.locs, Pt.cells, Pt.slots] at X' hQ e2 e3 e4 st
  subst e2 e3 e4
  obtain ⟨f1, f2⟩ := hq _ _ _ hQ
  have R' : CHr Z EL vm h vm T'.heap := CHr.keep f2 (fun x hx => (hws x hx).2) X.chv
  exact Goes.step st (K v T' T'.heap Lc _ (X.later X' rfl (Fr.app X.2.2.2.1 f1) (ext_keep X.ext f2 fun x hx => (hws x hx).1) R') R' hQ)
end OwnKit
end Jvm.Pilot.@@N@@

namespace Jvm.Pilot.@@N@@
open Jvm Jvm.ClassFile Sem Op Lib Jvm.Free Jvm.Stand Jvm.LawKit Jvm.RoadKit Bundle Jvm.Pilot.@@N@@.Jvm.D
section OwnStr
/-- a Latin-1 String: the object a, its byte[] b, its chars cs -/
def LS (Z : State) (h : Heap) (a b : Addr) (kb : ClassId) (cs : List Int32) : Prop := Exa Z h a "java/lang/String" ∧ Fld Z h a "java/lang/String" "coder" "B" (.int 0) ∧ Fld Z h a "java/lang/String" "value" "[B" (.ref b) ∧ Arv Z h b kb .byte (Int32.ofNat cs.length) ((cs.map fun c => c.toInt8.toInt32).map Value.int) (.int 0) ∧ (∀ c ∈ cs, ¬ c < 0 ∧ ¬ (255 : Int32) < c) ∧ cs.length ≤ 4000
theorem LS.ext {Z : State} {h h' : Heap} {a b : Addr} {kb : ClassId} {cs : List Int32} (H : LS Z h a b kb cs) (E : Ext h h') : LS Z h' a b kb cs := ⟨H.1.ext E, H.2.1.ext E, H.2.2.1.ext E, H.2.2.2.1.ext E, H.2.2.2.2⟩
theorem LS.keep {Z : State} {h h' : Heap} {a b : Addr} {kb : ClassId} {cs : List Int32} {ws : List Addr} (H : LS Z h a b kb cs) (K : Keep h h' ws) (n1 : a ∉ ws) (n2 : b ∉ ws) : LS Z h' a b kb cs := ⟨H.1.keep K, H.2.1.keep K n1, H.2.2.1.keep K n1, H.2.2.2.1.keep K n2, H.2.2.2.2⟩
theorem LS.other {Z : State} {h h' : Heap} {a b x : Addr} {sl : Nat} {v : Value} {kb : ClassId} {cs : List Int32} (H : LS Z h a b kb cs) (W : Wr h h' x sl v) (n1 : a ≠ x) (n2 : b ≠ x) : LS Z h' a b kb cs := ⟨H.1.wr W, H.2.1.other W (Or.inl n1), H.2.2.1.other W (Or.inl n1), H.2.2.2.1.other W n2, H.2.2.2.2⟩
theorem LS.lt {Z : State} {h : Heap} {a b : Addr} {kb : ClassId} {cs : List Int32} (H : LS Z h a b kb cs) : a < h.size := H.1.lt
theorem LS.up {Z : State} {h : Heap} {a b : Addr} {kb : ClassId} {cs : List Int32} (H : LS Z h a b kb cs) : ∀ c ∈ cs, ¬ c < 0 ∧ ¬ (65535 : Int32) < c := fun c hc => ⟨(H.2.2.2.2.1 c hc).1, fun q => (H.2.2.2.2.1 c hc).2 (by rw [Int32.lt_iff_toInt_lt] at q ⊢; have e1 : (65535 : Int32).toInt = 65535 := rfl; have e2 : (255 : Int32).toInt = 255 := rfl; omega)⟩
theorem own_codOf {cs : List Int32} (hb : ∀ c ∈ cs, ¬ (255 : Int32) < c) : StrChars.Road.CodA cs 0 (Int32.ofNat cs.length) ((cs.map fun c => c.toInt8.toInt32).map Value.int) := Or.inl ⟨rfl, rfl, by rw [List.map_map]; rfl, hb⟩
variable {l : Launch} {Z : State} {EL : List (String × Nat)} {p : Program} {e : Env} {R : Room} {s : State} {m : MethodId} {args : Array Value} {below : List Frame} {meth : Method} {c : Code} {y : MethodName} {code : ByteArray} {maxL : Nat} {ret : Option FieldType} {vm : Vm} {T : State} {h : Heap} {locs : List Loc} {cells slots : Nat} {F : State → Outcome → Prop} {pc : Nat} {L L' : Array Slot} {S : List Value} {a0 : Array Value} {ss : List Addr}
theorem o_strlen (X : On l Z EL p e R s m args below meth c y code maxL ret vm T h locs cells slots) {a b : Addr} {kb : ClassId} {cs : List Int32} {z : Int32} {index q : Nat} (H : LS Z h a b kb cs) (O2 : Sta Z Z.heap "java/lang/String" "COMPACT_STRINGS" "Z" (.int z)) (P5 : ¬ z = 0) (hln : ∀ d ∈ StrChars.Road.wordsLen, d.before a0 Z = true) (wi : (Jvm.Cond.instantiable "java/lang/String" 4).before a0 Z = true)
    (w1 : (Jvm.Cond.methodLink y.cls index ⟨"java/lang/String", "length", "()I"⟩).before a0 Z = true) (w2 : (Jvm.Cond.declares ⟨"java/lang/String", "length", "()I"⟩).before a0 Z = true) (w3 : (Jvm.Cond.selects "java/lang/String" ⟨"java/lang/String", "length", "()I"⟩ ⟨"java/lang/String", "length", "()I"⟩).before a0 Z = true) (w4 : (Jvm.Cond.instanceMethod ⟨"java/lang/String", "length", "()I"⟩).before a0 Z = true)
    (hd : decode code pc = .ok (.invokevirtual index, 3)) (hL : L.size = maxL) (hf : 2 ≤ R.frames) (hlo : (S.map fun v => v.category).sum + 25 ≤ R.locals) (hc : cells ≤ R.cells) (hs : slots ≤ R.slots) (hp : pc + 3 = q)
    (K : ∀ (T' : State) (locs' : List Loc), On l Z EL p e R s m args below meth c y code maxL ret vm T' h locs' cells slots → Goes p e below F T' (mkF m q L (.int (Int32.ofNat cs.length) :: S))) : Goes p e below F T (mkF m pc L (.ref a :: S)) := by
  have hcd : StrChars.Road.CodA cs 0 (Int32.ofNat cs.length) ((cs.map fun c => c.toInt8.toInt32).map Value.int) := own_codOf (fun c hc => (H.2.2.2.2.1 c hc).2)
  refine o_virtB X [] (rest := S) (ws := []) (Q := fun v h' L => v = some (.int (Int32.ofNat cs.length)) ∧ L = [] ∧ h' = h) H.1 (StrChars.Road.lenW (W := (S.map fun v => v.category).sum) (s := s.setVm vm) X.2.1.2.2.1 hln (kI := 4) wi H.1 H.2.2.1 H.2.1 H.2.2.2.1 hcd H.up (X.sta O2) P5 H.2.2.2.2.2 hf hlo) (fun v h' L q => ?_) all0 w1 w2 w3 w4 (by decide) hd rfl hL (fun sig q => ?_) rfl (Nat.le_refl _) hc hs hp (fun v T' h' L' locs' X' R' q => ?_)
  · obtain ⟨-, rfl, rfl⟩ := q
    exact ⟨Fr.nil _, Keep.refl _ _⟩
  · exact lenOf (by decide +kernel : parseMethodDescriptor "()I" = some ⟨[], some .int⟩) rfl sig q
  · obtain ⟨rfl, rfl, rfl⟩ := q
    exact K T' locs' X'
end OwnStr
end Jvm.Pilot.@@N@@

namespace Jvm.Pilot.@@N@@
open Jvm Jvm.ClassFile Sem Op Lib Jvm.Free Jvm.Stand Jvm.LawKit Jvm.RoadKit Bundle Jvm.Pilot.@@N@@.Jvm.D
section OwnUstr
def Rg (c : Int32) : Prop := ¬ c < 0 ∧ ¬ (65535 : Int32) < c
/-- a UTF-16 String: the object a, its byte[] b, its chars cs, one of them above 255 -/
def HS (Z : State) (h : Heap) (a b : Addr) (kb : ClassId) (cs : List Int32) : Prop := Exa Z h a "java/lang/String" ∧ Fld Z h a "java/lang/String" "coder" "B" (.int 1) ∧ Fld Z h a "java/lang/String" "value" "[B" (.ref b) ∧ Arv Z h b kb .byte (Int32.ofNat (2 * cs.length)) (StrChars.Road.wideBytes cs) (.int 0) ∧ (∃ c ∈ cs, (255 : Int32) < c) ∧ (∀ c ∈ cs, Rg c) ∧ cs.length ≤ 4000
theorem HS.ext {Z : State} {h h' : Heap} {a b : Addr} {kb : ClassId} {cs : List Int32} (H : HS Z h a b kb cs) (E : Ext h h') : HS Z h' a b kb cs := ⟨H.1.ext E, H.2.1.ext E, H.2.2.1.ext E, H.2.2.2.1.ext E, H.2.2.2.2⟩
theorem HS.keep {Z : State} {h h' : Heap} {a b : Addr} {kb : ClassId} {cs : List Int32} {ws : List Addr} (H : HS Z h a b kb cs) (K : Keep h h' ws) (n1 : a ∉ ws) (n2 : b ∉ ws) : HS Z h' a b kb cs := ⟨H.1.keep K, H.2.1.keep K n1, H.2.2.1.keep K n1, H.2.2.2.1.keep K n2, H.2.2.2.2⟩
theorem HS.other {Z : State} {h h' : Heap} {a b x : Addr} {sl : Nat} {v : Value} {kb : ClassId} {cs : List Int32} (H : HS Z h a b kb cs) (W : Wr h h' x sl v) (n1 : a ≠ x) (n2 : b ≠ x) : HS Z h' a b kb cs := ⟨H.1.wr W, H.2.1.other W (Or.inl n1), H.2.2.1.other W (Or.inl n1), H.2.2.2.1.other W n2, H.2.2.2.2⟩
/-- a String of chars, Latin-1 or UTF-16 -/
def US (Z : State) (h : Heap) (a b : Addr) (kb : ClassId) (cs : List Int32) : Prop := LS Z h a b kb cs ∨ HS Z h a b kb cs
theorem US.ext {Z : State} {h h' : Heap} {a b : Addr} {kb : ClassId} {cs : List Int32} (H : US Z h a b kb cs) (E : Ext h h') : US Z h' a b kb cs := H.imp (fun q => q.ext E) (fun q => q.ext E)
theorem US.keep {Z : State} {h h' : Heap} {a b : Addr} {kb : ClassId} {cs : List Int32} {ws : List Addr} (H : US Z h a b kb cs) (K : Keep h h' ws) (n1 : a ∉ ws) (n2 : b ∉ ws) : US Z h' a b kb cs := H.imp (fun q => q.keep K n1 n2) (fun q => q.keep K n1 n2)
theorem US.other {Z : State} {h h' : Heap} {a b x : Addr} {sl : Nat} {v : Value} {kb : ClassId} {cs : List Int32} (H : US Z h a b kb cs) (W : Wr h h' x sl v) (n1 : a ≠ x) (n2 : b ≠ x) : US Z h' a b kb cs := H.imp (fun q => q.other W n1 n2) (fun q => q.other W n1 n2)
theorem US.exa {Z : State} {h : Heap} {a b : Addr} {kb : ClassId} {cs : List Int32} (H : US Z h a b kb cs) : Exa Z h a "java/lang/String" := H.elim (fun q => q.1) (fun q => q.1)
theorem US.lt {Z : State} {h : Heap} {a b : Addr} {kb : ClassId} {cs : List Int32} (H : US Z h a b kb cs) : a < h.size := H.exa.lt
theorem US.blt {Z : State} {h : Heap} {a b : Addr} {kb : ClassId} {cs : List Int32} (H : US Z h a b kb cs) : b < h.size := H.elim (fun q => q.2.2.2.1.lt) (fun q => q.2.2.2.1.lt)
theorem US.le {Z : State} {h : Heap} {a b : Addr} {kb : ClassId} {cs : List Int32} (H : US Z h a b kb cs) : cs.length ≤ 4000 := H.elim (fun q => q.2.2.2.2.2) (fun q => q.2.2.2.2.2.2)
theorem US.rg {Z : State} {h : Heap} {a b : Addr} {kb : ClassId} {cs : List Int32} (H : US Z h a b kb cs) : ∀ c ∈ cs, Rg c := H.elim (fun q => q.up) (fun q => q.2.2.2.2.2.1)
variable {l : Launch} {Z : State} {EL : List (String × Nat)} {p : Program} {e : Env} {R : Room} {s : State} {m : MethodId} {args : Array Value} {below : List Frame} {meth : Method} {c : Code} {y : MethodName} {code : ByteArray} {maxL : Nat} {ret : Option FieldType} {vm : Vm} {T : State} {h : Heap} {locs : List Loc} {cells slots : Nat} {F : State → Outcome → Prop} {pc : Nat} {L L' : Array Slot} {S : List Value} {a0 : Array Value} {ss : List Addr}
theorem o_strlenU (X : On l Z EL p e R s m args below meth c y code maxL ret vm T h locs cells slots) {a b : Addr} {kb : ClassId} {cs : List Int32} {z : Int32} {index q : Nat} (H : US Z h a b kb cs) (O2 : Sta Z Z.heap "java/lang/String" "COMPACT_STRINGS" "Z" (.int z)) (P5 : ¬ z = 0) (hln : ∀ d ∈ StrChars.Road.wordsLen, d.before a0 Z = true) (wi : (Jvm.Cond.instantiable "java/lang/String" 4).before a0 Z = true)
    (w1 : (Jvm.Cond.methodLink y.cls index ⟨"java/lang/String", "length", "()I"⟩).before a0 Z = true) (w2 : (Jvm.Cond.declares ⟨"java/lang/String", "length", "()I"⟩).before a0 Z = true) (w3 : (Jvm.Cond.selects "java/lang/String" ⟨"java/lang/String", "length", "()I"⟩ ⟨"java/lang/String", "length", "()I"⟩).before a0 Z = true) (w4 : (Jvm.Cond.instanceMethod ⟨"java/lang/String", "length", "()I"⟩).before a0 Z = true)
    (hd : decode code pc = .ok (.invokevirtual index, 3)) (hL : L.size = maxL) (hf : 2 ≤ R.frames) (hlo : (S.map fun v => v.category).sum + 25 ≤ R.locals) (hc : cells ≤ R.cells) (hs : slots ≤ R.slots) (hp : pc + 3 = q)
    (K : ∀ (T' : State) (locs' : List Loc), On l Z EL p e R s m args below meth c y code maxL ret vm T' h locs' cells slots → Goes p e below F T' (mkF m q L (.int (Int32.ofNat cs.length) :: S))) : Goes p e below F T (mkF m pc L (.ref a :: S)) := by
  rcases H with H | H
  · exact o_strlen X H O2 P5 hln wi w1 w2 w3 w4 hd hL hf hlo hc hs hp K
  have hcd : StrChars.Road.CodA cs 1 (Int32.ofNat (2 * cs.length)) (StrChars.Road.wideBytes cs) := Or.inr ⟨rfl, rfl, rfl, H.2.2.2.2.1⟩
  refine o_virtB X [] (rest := S) (ws := []) (Q := fun v h' L => v = some (.int (Int32.ofNat cs.length)) ∧ L = [] ∧ h' = h) H.1 (StrChars.Road.lenW (W := (S.map fun v => v.category).sum) (s := s.setVm vm) X.2.1.2.2.1 hln (kI := 4) wi H.1 H.2.2.1 H.2.1 H.2.2.2.1 hcd H.2.2.2.2.2.1 (X.sta O2) P5 H.2.2.2.2.2.2 hf hlo) (fun v h' L q => ?_) all0 w1 w2 w3 w4 (by decide) hd rfl hL (fun sig q => ?_) rfl (Nat.le_refl _) hc hs hp (fun v T' h' L' locs' X' R' q => ?_)
  · obtain ⟨-, rfl, rfl⟩ := q
    exact ⟨Fr.nil _, Keep.refl _ _⟩
  · exact lenOf (by decide +kernel : parseMethodDescriptor "()I" = some ⟨[], some .int⟩) rfl sig q
  · obtain ⟨rfl, rfl, rfl⟩ := q
    exact K T' locs' X'
end OwnUstr
end Jvm.Pilot.@@N@@

namespace Jvm.Pilot.@@N@@
open Jvm Jvm.ClassFile Sem Op Lib Jvm.Free Jvm.Stand Jvm.LawKit Jvm.RoadKit Bundle Jvm.Pilot.@@N@@.Jvm.D
section OwnCol
variable {l : Launch} {Z : State} {EL : List (String × Nat)} {p : Program} {e : Env} {R : Room} {s : State} {m : MethodId} {args : Array Value} {below : List Frame} {meth : Method} {c : Code} {y : MethodName} {code : ByteArray} {maxL : Nat} {ret : Option FieldType} {vm : Vm} {T : State} {h : Heap} {locs : List Loc} {cells slots : Nat} {F : State → Outcome → Prop} {pc : Nat} {L L' : Array Slot} {S : List Value} {a0 : Array Value} {ss : List Addr}
theorem o_anew (X : On l Z EL p e R s m args below meth c y code maxL ret vm T h locs cells slots) {C ad : String} {index : Nat} {n : Int32} {cap q : Nat} (N : Nat) (w1 : (Jvm.Cond.classLink y.cls index C).before a0 Z = true) (w2 : (Jvm.Cond.arrayOver (.object C)).before a0 Z = true) (had : "[" ++ (FieldType.object C).toString = ad) (hd : decode code pc = .ok (.anewarray index, 3)) (hn : ¬ n < 0) (hcap : n.toNatClampNeg ≤ cap) (hb8 : cap * 8 ≤ 536870912) (hc : cells + 1 ≤ R.cells) (hl : slots + cap ≤ R.slots) (hp : pc + 3 = q)
    (K : ∀ (T' : State) (h' : Heap) (a : Addr) (k : ClassId), a = h.size → On l Z EL p e R s m args below meth c y code maxL ret vm T' h' locs (cells + 1) (slots + cap) → Ext h h' → CHr Z EL vm h vm h' → Safe Z EL vm h' a → Arv Z h' a k (.object C) n (List.replicate N .null) .null → Exa Z h' a ad → Ovr Z k C → Z.heap.size ≤ a → Goes p e below F T' (mkF m q L (.ref a :: S))) : Goes p e below F T (mkF m pc L (.int n :: S)) := by
  subst hp
  obtain ⟨T', h', k, X', e', E', A', Ex, O', st⟩ := newRE X.1 X.2.1.1 (show Z.Warmed39 (s.setVm vm).vm from X.2.1.2.2.1) X.2.1.2.2.2.1 w1 w2 X.2.2.1 (g := mkF m pc L (.int n :: S)) rfl (hb X.2.1.2.1 hd) rfl hn hcap hb8 hc hl had
  exact Goes.step st (K T' h' h.size k rfl (X.later X' e' X.2.2.2.1 (ext_trans X.ext E') (CHr.ext E' X.chv)) E' (CHr.ext E' X.chv) (Safe.ext E' X.chv (Safe.new (Nat.le_refl _))) ((Arv.new A' hn).pad (pad_rep [] _ N)) Ex O' X.size)
theorem o_aastore (X : On l Z EL p e R s m args below meth c y code maxL ret vm T h locs cells slots) {a : Addr} {k : ClassId} {ty : FieldType} {n j : Int32} {v : Value} {vs : List Value} {dv : Value} {q : Nat} (i : Nat) (A : Arv Z h a k ty n vs dv) (ha : Z.heap.size ≤ a) (hsf : Safe Z EL vm h a) (hty : ty.isReference = true) (hfit : fits ty v = true) (Sx : Sto Z h a v) (hj : ¬ j < 0 ∧ j < n) (hi : j.toNatClampNeg = i) (hlt : i < vs.length) (hd : decode code pc = .ok (.aastore, 1)) (hp : pc + 1 = q)
    (K : ∀ (T' : State) (h' : Heap) (locs' : List Loc), On l Z EL p e R s m args below meth c y code maxL ret vm T' h' locs' cells slots → Wr h h' a i v → CHr Z EL vm h vm h' → Arv Z h' a k ty n (vs.set i v) dv → Goes p e below F T' (mkF m q L S)) : Goes p e below F T (mkF m pc L (v :: .int j :: .ref a :: S)) := by
  subst hp
  obtain ⟨cl, Ar, q1, Sz, Nn, H, G⟩ := A
  obtain ⟨T', h', X', e', W', st⟩ := stR X.1 X.2.1.1 (show Z.Warmed39 (s.setVm vm).vm from X.2.1.2.2.1) X.2.2.1 Ar (j := j) (inb_of Sz hj) hty Sx (g := mkF m pc L (v :: .int j :: .ref a :: S)) rfl rfl (hb X.2.1.2.1 hd)
  exact Goes.step st (K T' h' _ (X.later X' e' (Fr.snoc X' X.2.2.2.1 ha) (ext_wr X.ext W' ha) (CHr.wr W' hsf X.chv)) (hi ▸ W') (CHr.wr W' hsf X.chv) (Arv.set Ar q1 Sz Nn H G hfit W' i hi hlt))
theorem sto_of {Z : State} {h : Heap} {a x : Addr} {k : ClassId} {ty : FieldType} {C D : String} {n : Int32} {vs : List Value} {dv : Value} {a0 : Array Value} (A : Arv Z h a k ty n vs dv) (O : Ovr Z k C) (E : Exa Z h x D) (w : (Jvm.Cond.castable D C).before a0 Z = true) : Sto Z h a (.ref x) := by
  obtain ⟨cl, Ar, q1, -⟩ := A
  exact Sto.ofV Ar q1 O (Ins.of_exa E w)
theorem o_cast (X : On l Z EL p e R s m args below meth c y code maxL ret vm T h locs cells slots) {K' : String} {index q : Nat} {a : Addr} (I : Ins Z h a K' true) (w : (Jvm.Cond.classLink y.cls index K').before a0 Z = true) (hd : decode code pc = .ok (.checkcast index, 3)) (hp : pc + 3 = q)
    (K : ∀ T' : State, On l Z EL p e R s m args below meth c y code maxL ret vm T' h locs cells slots → Goes p e below F T' (mkF m q L (.ref a :: S))) : Goes p e below F T (mkF m pc L (.ref a :: S)) := by
  subst hp
  obtain ⟨T', X', e', st⟩ := castY X.1 X.2.1.1 (show Z.Warmed39 (s.setVm vm).vm from X.2.1.2.2.1) X.2.1.2.2.2.1 w X.2.2.1 I (g := mkF m pc L (.ref a :: S)) rfl rfl (hb X.2.1.2.1 hd)
  exact Goes.step st (K T' (X.later X' e' X.2.2.2.1 X.ext (CHr.refl X.chv)))
theorem o_instY (X : On l Z EL p e R s m args below meth c y code maxL ret vm T h locs cells slots) {K' : String} {index q : Nat} {a : Addr} (I : Ins Z h a K' true) (w : (Jvm.Cond.classLink y.cls index K').before a0 Z = true) (hd : decode code pc = .ok (.instanceof index, 3)) (hp : pc + 3 = q)
    (K : ∀ T' : State, On l Z EL p e R s m args below meth c y code maxL ret vm T' h locs cells slots → Goes p e below F T' (mkF m q L (.int 1 :: S))) : Goes p e below F T (mkF m pc L (.ref a :: S)) := by
  subst hp
  obtain ⟨T', X', e', st⟩ := instY X.1 X.2.1.1 (show Z.Warmed39 (s.setVm vm).vm from X.2.1.2.2.1) X.2.1.2.2.2.1 w X.2.2.1 I (g := mkF m pc L (.ref a :: S)) rfl rfl (hb X.2.1.2.1 hd)
  exact Goes.step st (K T' (X.later X' e' X.2.2.2.1 X.ext (CHr.refl X.chv)))
theorem o_instNo (X : On l Z EL p e R s m args below meth c y code maxL ret vm T h locs cells slots) {C K' : String} {index q : Nat} {a : Addr} (E : Exa Z h a C) (N : ∃ c t, Z.vm.findClass C = some c ∧ Z.vm.findClass K' = some t ∧ Z.vm.assignable c t = false) (w : (Jvm.Cond.classLink y.cls index K').before a0 Z = true) (hd : decode code pc = .ok (.instanceof index, 3)) (hp : pc + 3 = q)
    (K : ∀ T' : State, On l Z EL p e R s m args below meth c y code maxL ret vm T' h locs cells slots → Goes p e below F T' (mkF m q L (.int 0 :: S))) : Goes p e below F T (mkF m pc L (.ref a :: S)) := by
  subst hp
  obtain ⟨T', X', e', st⟩ := instNo X.1 X.2.1.1 (show Z.Warmed39 (s.setVm vm).vm from X.2.1.2.2.1) X.2.1.2.2.2.1 w X.2.2.1 E N (g := mkF m pc L (.ref a :: S)) rfl rfl (hb X.2.1.2.1 hd)
  exact Goes.step st (K T' (X.later X' e' X.2.2.2.1 X.ext (CHr.refl X.chv)))
/-- C's chain of superclasses does not meet the class K, which can be made -/
theorem ns_root {Z : State} {a0 : Array Value} {O K : String} {n : Nat} (w : (Jvm.Cond.noSuperclass O).before a0 Z = true) (wk : (Jvm.Cond.instantiable K n).before a0 Z = true) (hn : O ≠ K) : NS Z O K := by
  obtain ⟨c, k, h1, h2, h3, -, -⟩ := Cond.noSuperclass_spec w
  obtain ⟨t, kt, g1, -⟩ := Cond.instantiable_spec wk
  have ne := ids_ne h1 g1 hn
  refine ⟨c, t, h1, g1, fun fuel => ?_⟩
  cases fuel with
  | zero => rfl
  | succ f => simp [Vm.isSubclassAux, ne, h2, h3]
theorem ns_no {Z : State} {a0 : Array Value} {C S K : String} {n : Nat} (w : (Jvm.Cond.superclass C S).before a0 Z = true) (wk : (Jvm.Cond.instantiable K n).before a0 Z = true) (N : NS Z C K) (hn : C ≠ K) : ∃ c t, Z.vm.findClass C = some c ∧ Z.vm.findClass K = some t ∧ Z.vm.assignable c t = false := by
  obtain ⟨c, t, h0, g0, n3⟩ := N
  obtain ⟨p, k, kp, h1, h2, h3, h4, h5, -, h7⟩ := Cond.superclass_spec h0 w
  obtain ⟨t', kt, g1, g2, g3, g4, -⟩ := Cond.instantiable_spec wk
  cases g0.symm.trans g1
  have ne := ids_ne h0 g0 hn
  have g5 : kt.isInterface = false := by
    cases q : kt.isInterface
    · rfl
    · rw [q] at g4; simp at g4
  refine ⟨c, t, h0, g0, ?_⟩
  show Z.vm.assignableAux (255 + 1) c t = false
  simp [Vm.assignableAux, ne, h2, g2, h5, g3, g5, Vm.isSubclass, n3]
theorem o_ldcM (X : On l Z EL p e R s m args below meth c y code maxL ret vm T h locs cells slots) {C : String} {index q : Nat} {mr : Addr} (M : Mir Z C mr) (w : (Jvm.Cond.classLink y.cls index C).before a0 Z = true) (hd : decode code pc = .ok (.ldc index, 2)) (hp : pc + 2 = q)
    (K : ∀ T' : State, On l Z EL p e R s m args below meth c y code maxL ret vm T' h locs cells slots → Goes p e below F T' (mkF m q L (.ref mr :: S))) : Goes p e below F T (mkF m pc L S) := by
  subst hp
  obtain ⟨c0, k0, m1, m2, m3, -⟩ := M
  obtain ⟨k', q1, ek⟩ := (show Z.Warmed39 (s.setVm vm).vm from X.2.1.2.2.1).alike.2.2 _ _ m2
  have hm : k'.mirror = some mr := by rw [ek]; exact m3
  obtain ⟨vm', X', st⟩ := X.1.ldcMirror X.2.1.1 X.2.1.2.2.2.1 (mvT (s := (s.setVm vm)) X.2.1.2.2.1 w) (a := mr) (by
    have q2 : (s.setVm vm).vm.findClass C = some c0 := by rw [(show Z.Warmed39 (s.setVm vm).vm from X.2.1.2.2.1).alike.findClass]; exact m1
    simp only [Term.eval, q2, Option.bind_eq_bind, Option.bind_some, q1, hm, Option.pure_def]) (g := mkF m pc L S) rfl (hb X.2.1.2.1 hd)
  have e' : (T.setVm vm').heap = h := X.2.2.1
  exact Goes.step st (K _ (X.later X' e' X.2.2.2.1 X.ext (CHr.refl X.chv)))
theorem o_gcls (X : On l Z EL p e R s m args below meth c y code maxL ret vm T h locs cells slots) {C : String} {index q : Nat} {a mr : Addr} (E : Exa Z h a C) (M : Mir Z C mr) (w1 : (Jvm.Cond.methodLink y.cls index ⟨"java/lang/Object", "getClass", "()Ljava/lang/Class;"⟩).before a0 Z = true) (w2 : (Jvm.Cond.declares ⟨"java/lang/Object", "getClass", "()Ljava/lang/Class;"⟩).before a0 Z = true) (w3 : (Jvm.Cond.noSuperclass "java/lang/Object").before a0 Z = true) (w4 : (Jvm.Cond.selects C ⟨"java/lang/Object", "getClass", "()Ljava/lang/Class;"⟩ ⟨"java/lang/Object", "getClass", "()Ljava/lang/Class;"⟩).before a0 Z = true) (w5 : (Jvm.Cond.instanceMethod ⟨"java/lang/Object", "getClass", "()Ljava/lang/Class;"⟩).before a0 Z = true) (w6 : (Jvm.Cond.native ⟨"java/lang/Object", "getClass", "()Ljava/lang/Class;"⟩).before a0 Z = true)
    (hd : decode code pc = .ok (.invokevirtual index, 3)) (hL : L.size = maxL) (hf : 1 ≤ R.frames) (hl : (S.map fun v => v.category).sum + (nativeFrameWords "java/lang/Object" "getClass" 1 + 11) ≤ R.locals) (hp : pc + 3 = q)
    (K : ∀ T' : State, On l Z EL p e R s m args below meth c y code maxL ret vm T' h locs cells slots → Goes p e below F T' (mkF m q L (.ref mr :: S))) : Goes p e below F T (mkF m pc L (.ref a :: S)) := by
  subst hp
  obtain ⟨T', X', e', st⟩ := gcls X.1 X.2.1.1 (show Z.Warmed39 (s.setVm vm).vm from X.2.1.2.2.1) X.2.1.2.2.2.1 w1 w2 w3 w4 w5 w6 X.2.2.1 E M (g := mkF m pc L (.ref a :: S)) rfl (hL.trans X.2.1.2.2.2.2.2.2.2.symm) rfl (hb X.2.1.2.1 hd) hf (W := (S.map fun v => v.category).sum) (by show 2 * 0 + _ ≤ _; omega) hl
  exact Goes.step st (K T' (X.later X' e' X.2.2.2.1 X.ext (CHr.refl X.chv)))
theorem o_copy (X : On l Z EL p e R s m args below meth c y code maxL ret vm T h locs cells slots) {index q : Nat} {a b : Addr} {k k' : ClassId} {ty ty' : FieldType} {z z' sp dp nn : Int32} {vs vd us vs' : List Value} {dv dd : Value} (A : Arv Z h a k ty z vs dv) (B : Arv Z h b k' ty' z' vd dd) (hty : (ty = ty' ∧ refKind ty = false) ∨ (refKind ty = true ∧ refKind ty' = true ∧ StoL Z h b us)) (hgb : Z.heap.size ≤ b) (hsf : Safe Z EL vm h b)
    (h1 : ¬ sp < 0) (h2 : ¬ dp < 0) (h3 : ¬ nn < 0) (h4 : sp.toNatClampNeg + nn.toNatClampNeg ≤ z.toNatClampNeg) (h5 : dp.toNatClampNeg + nn.toNatClampNeg ≤ z'.toNatClampNeg) (hus : us = (List.range nn.toNatClampNeg).map fun i => vs.getD (sp.toNatClampNeg + i) dv) (hlv : dp.toNatClampNeg + nn.toNatClampNeg ≤ vd.length) (hvs : vd.take dp.toNatClampNeg ++ us ++ vd.drop (dp.toNatClampNeg + nn.toNatClampNeg) = vs')
    (w1 : (Jvm.Cond.methodLink y.cls index Jvm.Stand.acN).before a0 Z = true) (w2 : (Jvm.Cond.native Jvm.Stand.acN).before a0 Z = true) (w3 : (Jvm.Cond.static Jvm.Stand.acN).before a0 Z = true) (w4 : (Jvm.Cond.initialized "java/lang/System").before a0 Z = true)
    (hd : decode code pc = .ok (.invokestatic index, 3)) (hL : L.size = maxL) (hf : 1 ≤ R.frames) (hl : (S.map fun v => v.category).sum + (nativeFrameWords "java/lang/System" "arraycopy" 5 + 11) ≤ R.locals) (hp : pc + 3 = q)
    (K : ∀ (T' : State) (h' : Heap) (locs' : List Loc), On l Z EL p e R s m args below meth c y code maxL ret vm T' h' locs' cells slots → Keep h h' [b] → CHr Z EL vm h vm h' → Arv Z h' b k' ty' z' vs' dd → Goes p e below F T' (mkF m q L S)) : Goes p e below F T (mkF m pc L (.int nn :: .int dp :: .ref b :: .int sp :: .ref a :: S)) := by
  subst hp hvs
  obtain ⟨T', h', Lc, X', e', N', K', A', st⟩ := cpA X.1 X.2.1.1 (show Z.Warmed39 (s.setVm vm).vm from X.2.1.2.2.1) X.2.1.2.2.2.1 w1 w2 w3 w4 X.2.2.1 A B hty h1 h2 h3 h4 h5 hus hlv X.2.2.2.1 hgb (g := mkF m pc L (.int nn :: .int dp :: .ref b :: .int sp :: .ref a :: S)) rfl (hL.trans X.2.1.2.2.2.2.2.2.2.symm) rfl (hb X.2.1.2.1 hd) hf (W := (S.map fun v => v.category).sum) (by show 2 * 0 + _ ≤ _; omega) hl
  exact Goes.step st (K T' h' Lc (X.later X' e' N' (ext_keep X.ext K' (allS hgb all0)) (CHr.keep K' (fun x hx => by cases List.mem_singleton.mp hx; exact hsf) X.chv)) K' (CHr.keep K' (fun x hx => by cases List.mem_singleton.mp hx; exact hsf) X.chv) A')
theorem o_tsw (X : On l Z EL p e R s m args below meth c y code maxL ret vm T h locs cells slots) {dflt low high : Int} {offs : Array Int} {len : Nat} {i : Int} {x : Int32} {q : Nat} (hd : decode code pc = .ok (.tableswitch dflt low high offs, len)) (h1 : low ≤ x.toInt) (h2 : x.toInt ≤ high) (hi : offs[(x.toInt - low).toNat]? = some i) (ho : 0 ≤ (pc : Int) + i) (hp : ((pc : Int) + i).toNat = q) (K : Goes p e below F T (mkF m q L S)) : Goes p e below F T (mkF m pc L (.int x :: S)) :=
  Goes.step (fun _ k => Jvm.Free.XS.tswIn X.1.here X.2.1.1 (g := mkF m pc L (.int x :: S)) rfl (pc0 := pc) rfl (hb X.2.1.2.1 hd) rfl (fun q => q.elim (fun r => by omega) (fun r => by omega)) hi ho hp k) K
theorem o_tswD (X : On l Z EL p e R s m args below meth c y code maxL ret vm T h locs cells slots) {dflt low high : Int} {offs : Array Int} {len : Nat} {x : Int32} {q : Nat} (hd : decode code pc = .ok (.tableswitch dflt low high offs, len)) (h1 : x.toInt < low ∨ high < x.toInt) (ho : 0 ≤ (pc : Int) + dflt) (hp : ((pc : Int) + dflt).toNat = q) (K : Goes p e below F T (mkF m q L S)) : Goes p e below F T (mkF m pc L (.int x :: S)) :=
  Goes.step (fun _ k => Jvm.Free.XS.tswOut X.1.here X.2.1.1 (g := mkF m pc L (.int x :: S)) rfl (pc0 := pc) rfl (hb X.2.1.2.1 hd) rfl h1 ho hp k) K
theorem o_iface (X : On l Z EL p e R s m args below meth c y code maxL ret vm T h locs cells slots) {C : String} {xi y' : MethodName} {index count q : Nat} {bytes : ByteArray} {maxL' : Nat} {ret' : Option FieldType} {rm : Room} {as : Array Value} {Q : Option Value → Heap → (Addr → Prop) → Prop} (argsL : List Value) {a : Addr} {rest : List Value} (E : Exa Z h a C) (hC : Con l Z EL y' bytes maxL' ret' rm as h ss Q) (hss : ∀ x ∈ ss, x < h.size ∧ Safe Z EL vm h x)
    (w1 : (Jvm.Cond.methodLink y.cls index xi).before a0 Z = true) (w2 : (Jvm.Cond.declares xi).before a0 Z = true) (w3 : (Jvm.Cond.interfaceMethod xi.cls xi.cls xi.name xi.desc).before a0 Z = true) (w4 : (Jvm.Cond.selects C xi y').before a0 Z = true) (w5 : (Jvm.Cond.instanceMethod y').before a0 Z = true) (w6 : (Jvm.Cond.publicMethod y').before a0 Z = true) (w7 : (Jvm.Cond.unhidden C xi.name xi.desc).before a0 Z = true) (w8 : (Jvm.Cond.castable C xi.cls).before a0 Z = true) (w9 : (Jvm.Cond.code y' bytes maxL' ret').before a0 Z = true) (w10 : (Jvm.Cond.initialized y'.cls).before a0 Z = true) (hy : xi.cls ≠ "java/lang/invoke/MethodHandle" ∧ xi.cls ≠ "java/lang/invoke/VarHandle")
    (hd : decode code pc = .ok (.invokeinterface index count, 5)) (has : (.ref a :: argsL).toArray = as) (hL : L.size = maxL) (hlen : ∀ sig, parseMethodDescriptor xi.desc = some sig → argsL.length = sig.parameters.length) (hS : S = argsL.reverse ++ .ref a :: rest) (hf : rm.frames + 1 ≤ R.frames) (hl : (rest.map fun v => v.category).sum + (maxL' + 11) + rm.locals ≤ R.locals) (hc : cells + rm.cells ≤ R.cells) (hs : slots + rm.slots ≤ R.slots) (hp : pc + 5 = q)
    (K : ∀ (v : Option Value) (vm' : Vm) (T' : State) (h' : Heap) (locs' : List Loc), On l Z EL p e R s m args below meth c y code maxL ret vm' T' h' locs' (cells + rm.cells) (slots + rm.slots) → CHr Z EL vm h vm' h' → Q v h' (Safe Z EL vm' h') → Goes p e below F T' (mkF m q L (v.toList ++ rest))) : Goes p e below F T (mkF m pc L S) := by
  subst hp hS has
  obtain ⟨cB, kB, q1, q2, q3⟩ := isOf (show Z.Warmed39 (s.setVm vm).vm from X.2.1.2.2.1) X.2.2.1 E
  obtain ⟨v, vm1, ⟨T', L1, k1, n1⟩, -, X', S', g', ⟨Lc, hQ, e2, e3, e4, R'⟩, st⟩ := X.1.interfaceBackS X.2.1.1 (xi := xi) (y := y') X.2.1.2.2.2.1 (mvT (s := (s.setVm vm)) X.2.1.2.2.1 w1) (mvT (s := (s.setVm vm)) X.2.1.2.2.1 w2) (mvT (s := (s.setVm vm)) X.2.1.2.2.1 w3 (by simp [Cond.onTables, Cond.keepsFace, Cond.keeps, Cond.steady, Cond.faceAtom]; exact hy)) (mvT (s := (s.setVm vm)) X.2.1.2.2.1 w4) (mvT (s := (s.setVm vm)) X.2.1.2.2.1 w5) (mvT (s := (s.setVm vm)) X.2.1.2.2.1 w6) (mvT (s := (s.setVm vm)) X.2.1.2.2.1 w7) (mvT (s := (s.setVm vm)) X.2.1.2.2.1 w8) hy (Con.back X hC hss w9 w10 hf hl) q1 q2 q3 (g := mkF m pc L (argsL.reverse ++ .ref a :: rest)) rfl (hL.trans X.2.1.2.2.2.2.2.2.2.symm) (Steps.refl _) hlen rfl (by show 2 * 0 + _ ≤ _; omega) (hb X.2.1.2.1 hd) (fun _ _ => ⟨rfl, X.2.2.1, hc, hs⟩)
  dsimp only [Pt.U, Pt.locs, Pt.cells, Pt.slots] at X' S' g' hQ e2 e3 e4 R' st
  subst e2 e3 e4
  exact Goes.step (fun _ k => st.trans k) (K v T'.vm T' T'.heap _ (X.laterV X' S' rfl rfl (Fr.app X.2.2.2.1 hQ.2.1) hQ.2.2 R') R' hQ.1)
theorem o_priv (X : On l Z EL p e R s m args below meth c y code maxL ret vm T h locs cells slots) {D : String} {y' : MethodName} {index q : Nat} {bytes : ByteArray} {maxL' : Nat} {ret' : Option FieldType} {rm : Room} {as : Array Value} {Q : Option Value → Heap → (Addr → Prop) → Prop} (argsL : List Value) {a : Addr} {rest : List Value} (E : Exa Z h a D) (hC : Con l Z EL y' bytes maxL' ret' rm as h ss Q) (hss : ∀ x ∈ ss, x < h.size ∧ Safe Z EL vm h x)
    (w1 : (Jvm.Cond.methodLink y.cls index y').before a0 Z = true) (w2 : (Jvm.Cond.instanceMethod y').before a0 Z = true) (w3 : (Jvm.Cond.selects y'.cls y' y').before a0 Z = true) (w4 : (Jvm.Cond.privateMethod y').before a0 Z = true) (w5 : (Jvm.Cond.code y' bytes maxL' ret').before a0 Z = true) (w6 : (Jvm.Cond.initialized y'.cls).before a0 Z = true) (hy : y'.cls ≠ "java/lang/invoke/MethodHandle" ∧ y'.cls ≠ "java/lang/invoke/VarHandle")
    (hd : decode code pc = .ok (.invokevirtual index, 3)) (has : (.ref a :: argsL).toArray = as) (hL : L.size = maxL) (hlen : ∀ sig, parseMethodDescriptor y'.desc = some sig → argsL.length = sig.parameters.length) (hS : S = argsL.reverse ++ .ref a :: rest) (hf : rm.frames + 1 ≤ R.frames) (hl : (rest.map fun v => v.category).sum + (maxL' + 11) + rm.locals ≤ R.locals) (hc : cells + rm.cells ≤ R.cells) (hs : slots + rm.slots ≤ R.slots) (hp : pc + 3 = q)
    (K : ∀ (v : Option Value) (vm' : Vm) (T' : State) (h' : Heap) (locs' : List Loc), On l Z EL p e R s m args below meth c y code maxL ret vm' T' h' locs' (cells + rm.cells) (slots + rm.slots) → CHr Z EL vm h vm' h' → Q v h' (Safe Z EL vm' h') → Goes p e below F T' (mkF m q L (v.toList ++ rest))) : Goes p e below F T (mkF m pc L S) := by
  subst hp hS has
  obtain ⟨cl, hcl, hst⟩ := E.cell
  obtain ⟨v, vm1, ⟨T', L1, k1, n1⟩, -, X', S', g', ⟨Lc, hQ, e2, e3, e4, R'⟩, st⟩ := X.1.privateBackS X.2.1.1 (y := y') X.2.1.2.2.2.1 (mvT (s := (s.setVm vm)) X.2.1.2.2.1 w1) (mvT (s := (s.setVm vm)) X.2.1.2.2.1 w2) (mvT (s := (s.setVm vm)) X.2.1.2.2.1 w3) (Cond.privateMethod_at (mvP (show Z.Warmed39 (s.setVm vm).vm from X.2.1.2.2.1) w4 (args := #[]))) (mvT (s := (s.setVm vm)) X.2.1.2.2.1 w5) hy (Con.back X hC hss w5 w6 hf hl) (g := mkF m pc L (argsL.reverse ++ .ref a :: rest)) rfl (hL.trans X.2.1.2.2.2.2.2.2.2.symm) (Steps.refl _) (a := a) (cell := cl) (by rw [X.2.2.1]; exact hcl) hst hlen rfl (by show 2 * 0 + _ ≤ _; omega) (hb X.2.1.2.1 hd) (fun _ _ => ⟨rfl, X.2.2.1, hc, hs⟩)
  dsimp only [Pt.U, Pt.locs, Pt.cells, Pt.slots] at X' S' g' hQ e2 e3 e4 R' st
  subst e2 e3 e4
  exact Goes.step (fun _ k => st.trans k) (K v T'.vm T' T'.heap _ (X.laterV X' S' rfl rfl (Fr.app X.2.2.2.1 hQ.2.1) hQ.2.2 R') R' hQ.1)
theorem o_specN (X : On l Z EL p e R s m args below meth c y code maxL ret vm T h locs cells slots) {host : String} {y' : MethodName} {index q : Nat} {bytes : ByteArray} {maxL' : Nat} {rm : Room} {as : Array Value} {Q : Option Value → Heap → (Addr → Prop) → Prop} (argsL : List Value) {a : Addr} {rest : List Value} (hC : Con l Z EL y' bytes maxL' none rm as h ss Q) (hss : ∀ x ∈ ss, x < h.size ∧ Safe Z EL vm h x)
    (hy1 : y'.name = "<init>") (w1 : (Jvm.Cond.methodLinkNest y.cls index y' host).before a0 Z = true) (w2 : (Jvm.Cond.instanceMethod y').before a0 Z = true) (w3 : (Jvm.Cond.code y' bytes maxL' none).before a0 Z = true) (w4 : (Jvm.Cond.initialized y'.cls).before a0 Z = true) (hy : y'.cls ≠ "java/lang/invoke/MethodHandle" ∧ y'.cls ≠ "java/lang/invoke/VarHandle")
    (hd : decode code pc = .ok (.invokespecial index, 3)) (has : (.ref a :: argsL).toArray = as) (hL : L.size = maxL) (hlen : ∀ sig, parseMethodDescriptor y'.desc = some sig → argsL.length = sig.parameters.length) (hS : S = argsL.reverse ++ .ref a :: rest) (hf : rm.frames + 1 ≤ R.frames) (hl : (rest.map fun v => v.category).sum + (maxL' + 11) + rm.locals ≤ R.locals) (hc : cells + rm.cells ≤ R.cells) (hs : slots + rm.slots ≤ R.slots) (hp : pc + 3 = q)
    (K : ∀ (v : Option Value) (vm' : Vm) (T' : State) (h' : Heap) (locs' : List Loc), On l Z EL p e R s m args below meth c y code maxL ret vm' T' h' locs' (cells + rm.cells) (slots + rm.slots) → CHr Z EL vm h vm' h' → Q v h' (Safe Z EL vm' h') → Goes p e below F T' (mkF m q L (v.toList ++ rest))) : Goes p e below F T (mkF m pc L S) := by
  subst hp hS has
  obtain ⟨v, vm1, ⟨T', L1, k1, n1⟩, -, X', S', g', ⟨Lc, hQ, e2, e3, e4, R'⟩, st⟩ := X.1.specialBackNestS X.2.1.1 hy1 X.2.1.2.2.2.1 ((Cond.methodLinkNest_wide (show Z.Warmed39 (s.setVm vm).vm from X.2.1.2.2.1) w1 :)) (mvT (s := (s.setVm vm)) X.2.1.2.2.1 w2) (mvT (s := (s.setVm vm)) X.2.1.2.2.1 w3) hy (Con.back X hC hss w3 w4 hf hl) (g := mkF m pc L (argsL.reverse ++ .ref a :: rest)) rfl (hL.trans X.2.1.2.2.2.2.2.2.2.symm) (Steps.refl _) hlen rfl (by show 2 * 0 + _ ≤ _; omega) (hb X.2.1.2.1 hd) (fun _ _ => ⟨rfl, X.2.2.1, hc, hs⟩)
  dsimp only [Pt.U, Pt.locs, Pt.cells, Pt.slots] at X' S' g' hQ e2 e3 e4 R' st
  subst e2 e3 e4
  exact Goes.step (fun _ k => st.trans k) (K v T'.vm T' T'.heap _ (X.laterV X' S' rfl rfl (Fr.app X.2.2.2.1 hQ.2.1) hQ.2.2 R') R' hQ.1)
/-- a private method's word for its own class, from the word for a subclass -/
theorem sel_up {Z : State} {a0 : Array Value} {C : String} {y : MethodName} (w1 : (Jvm.Cond.selects C y y).before a0 Z = true) (w2 : (Jvm.Cond.instanceMethod y).before a0 Z = true) (w3 : (Jvm.Cond.privateMethod y).before a0 Z = true) (hy : y.cls ≠ "java/lang/invoke/MethodHandle" ∧ y.cls ≠ "java/lang/invoke/VarHandle") : (Jvm.Cond.selects y.cls y y).before a0 Z = true := by
  obtain ⟨mk, methM, hn, hm, -, -⟩ := Cond.instanceMethod_spec w2
  obtain ⟨c, r, m, q1, q2, q3, q4, kk, q5, q6⟩ := Cond.selects_spec w1
  cases hn.symm.trans q3
  have hf := State.methodFound?_of_named hn hy
  have hc := findClass_of_methodNamed hn
  have hs : selectMethod {} Z.vm mk.cls mk = .method mk := selectMethod_private hm (Cond.privateMethod_at w3 mk methM hn hm)
  simp [Cond.before, Cond.holds, Cond.value, hc, hf, hn, hs, q5, q6]
/-- a method of a class (no interface, by another word) is the one its own class finds -/
theorem same_up {Z : State} {a0 : Array Value} {C : String} {y z : MethodName} (w1 : (Jvm.Cond.selects C z z).before a0 Z = true) (w2 : (Jvm.Cond.instanceMethod y).before a0 Z = true) (hz : z.cls = y.cls) (hy : y.cls ≠ "java/lang/invoke/MethodHandle" ∧ y.cls ≠ "java/lang/invoke/VarHandle") : (Jvm.Cond.sameMethod y.cls y.cls y.name y.desc).before a0 Z = true := by
  obtain ⟨mk, methM, hn, hm, -, -⟩ := Cond.instanceMethod_spec w2
  obtain ⟨c, r, m, q1, q2, q3, q4, kk, q5, q6⟩ := Cond.selects_spec w1
  have hf := State.methodFound?_of_named hn hy
  have hc := findClass_of_methodNamed hn
  have hc2 := findClass_of_methodNamed q3
  rw [hz, hc] at hc2
  have e := Option.some.inj hc2
  rw [← e] at q5
  simp [Cond.before, Cond.holds, Cond.value, hc, hf, show Z.methodNamed? ⟨y.cls, y.name, y.desc⟩ = some mk from hn, q5, q6]
theorem o_super (X : On l Z EL p e R s m args below meth c y code maxL ret vm T h locs cells slots) {D : String} {y' : MethodName} {index q : Nat} {bytes : ByteArray} {maxL' : Nat} {ret' : Option FieldType} {rm : Room} {as : Array Value} {Q : Option Value → Heap → (Addr → Prop) → Prop} (argsL : List Value) {a : Addr} {rest : List Value} (E : Exa Z h a D) (hC : Con l Z EL y' bytes maxL' ret' rm as h ss Q) (hss : ∀ x ∈ ss, x < h.size ∧ Safe Z EL vm h x)
    (w1 : (Jvm.Cond.methodLink y.cls index y').before a0 Z = true) (w2 : (Jvm.Cond.sameMethod y'.cls y'.cls y'.name y'.desc).before a0 Z = true) (w3 : (Jvm.Cond.instanceMethod y').before a0 Z = true) (w4 : (Jvm.Cond.superclass y.cls y'.cls).before a0 Z = true) (hn : y'.name ≠ "<init>") (w5 : (Jvm.Cond.code y' bytes maxL' ret').before a0 Z = true) (w6 : (Jvm.Cond.initialized y'.cls).before a0 Z = true)
    (hd : decode code pc = .ok (.invokespecial index, 3)) (has : (.ref a :: argsL).toArray = as) (hL : L.size = maxL) (hlen : ∀ sig, parseMethodDescriptor y'.desc = some sig → argsL.length = sig.parameters.length) (hS : S = argsL.reverse ++ .ref a :: rest) (hf : rm.frames + 1 ≤ R.frames) (hl : (rest.map fun v => v.category).sum + (maxL' + 11) + rm.locals ≤ R.locals) (hc : cells + rm.cells ≤ R.cells) (hs : slots + rm.slots ≤ R.slots) (hp : pc + 3 = q)
    (K : ∀ (v : Option Value) (vm' : Vm) (T' : State) (h' : Heap) (locs' : List Loc), On l Z EL p e R s m args below meth c y code maxL ret vm' T' h' locs' (cells + rm.cells) (slots + rm.slots) → CHr Z EL vm h vm' h' → Q v h' (Safe Z EL vm' h') → Goes p e below F T' (mkF m q L (v.toList ++ rest))) : Goes p e below F T (mkF m pc L S) := by
  subst hp hS has
  obtain ⟨v, vm1, ⟨T', L1, k1, n1⟩, -, X', S', g', ⟨Lc, hQ, e2, e3, e4, R'⟩, st⟩ := superBackS X.1 X.2.1.1 (show Z.Warmed39 (s.setVm vm).vm from X.2.1.2.2.1) X.2.1.2.2.2.1 w1 w2 w3 w4 hn (Con.back X hC hss w5 w6 hf hl) X.2.2.1 (Ins.self E) (g := mkF m pc L (argsL.reverse ++ .ref a :: rest)) rfl (hL.trans X.2.1.2.2.2.2.2.2.2.symm) w5 hlen rfl (by show 2 * 0 + _ ≤ _; omega) (hb X.2.1.2.1 hd) (fun _ _ => ⟨rfl, X.2.2.1, hc, hs⟩)
  dsimp only [Pt.U, Pt.locs, Pt.cells, Pt.slots] at X' S' g' hQ e2 e3 e4 R' st
  subst e2 e3 e4
  exact Goes.step (fun _ k => st.trans k) (K v T'.vm T' T'.heap _ (X.laterV X' S' rfl rfl (Fr.app X.2.2.2.1 hQ.2.1) hQ.2.2 R') R' hQ.1)
theorem o_virt2 (X : On l Z EL p e R s m args below meth c y code maxL ret vm T h locs cells slots) {C : String} {z' y' : MethodName} {index q : Nat} {bytes : ByteArray} {maxL' : Nat} {ret' : Option FieldType} {rm : Room} {as : Array Value} {Q : Option Value → Heap → (Addr → Prop) → Prop} (argsL : List Value) {a : Addr} {rest : List Value} (E : Exa Z h a C) (hC : Con l Z EL y' bytes maxL' ret' rm as h ss Q) (hss : ∀ x ∈ ss, x < h.size ∧ Safe Z EL vm h x)
    (w1 : (Jvm.Cond.methodLink y.cls index z').before a0 Z = true) (w2 : (Jvm.Cond.declares z').before a0 Z = true) (w3 : (Jvm.Cond.selects C z' y').before a0 Z = true) {D : String} {u : MethodName} (wn : (Jvm.Cond.selects D u u).before a0 Z = true) (hu : u.cls = z'.cls) (w4 : (Jvm.Cond.instanceMethod y').before a0 Z = true) (w5 : (Jvm.Cond.code y' bytes maxL' ret').before a0 Z = true) (w6 : (Jvm.Cond.initialized y'.cls).before a0 Z = true) (hy : z'.cls ≠ "java/lang/invoke/MethodHandle" ∧ z'.cls ≠ "java/lang/invoke/VarHandle")
    (hd : decode code pc = .ok (.invokevirtual index, 3)) (has : (.ref a :: argsL).toArray = as) (hL : L.size = maxL) (hlen : ∀ sig, parseMethodDescriptor z'.desc = some sig → argsL.length = sig.parameters.length) (hS : S = argsL.reverse ++ .ref a :: rest) (hf : rm.frames + 1 ≤ R.frames) (hl : (rest.map fun v => v.category).sum + (maxL' + 11) + rm.locals ≤ R.locals) (hc : cells + rm.cells ≤ R.cells) (hs : slots + rm.slots ≤ R.slots) (hp : pc + 3 = q)
    (K : ∀ (v : Option Value) (vm' : Vm) (T' : State) (h' : Heap) (locs' : List Loc), On l Z EL p e R s m args below meth c y code maxL ret vm' T' h' locs' (cells + rm.cells) (slots + rm.slots) → CHr Z EL vm h vm' h' → Q v h' (Safe Z EL vm' h') → Goes p e below F T' (mkF m q L (v.toList ++ rest))) : Goes p e below F T (mkF m pc L S) := by
  subst hp hS has
  obtain ⟨cB, kB, q1, q2, q3⟩ := isOf (show Z.Warmed39 (s.setVm vm).vm from X.2.1.2.2.1) X.2.2.1 E
  have hnf : NotFace (s.setVm vm) z' := by
    intro r0 h0
    obtain ⟨c2, r2, m2, -, -, u3, -, kP, hkP, hkPi⟩ := Cond.selects_spec (mvT (args := #[]) (s := (s.setVm vm)) X.2.1.2.2.1 wn)
    have e1 := findClass_of_methodNamed h0
    have e2 := findClass_of_methodNamed u3
    rw [hu, e1] at e2
    rw [Option.some.inj e2]
    exact ⟨kP, hkP, hkPi⟩
  obtain ⟨v, vm1, ⟨T', L1, k1, n1⟩, -, X', S', g', ⟨Lc, hQ, e2, e3, e4, R'⟩, st⟩ := X.1.virtualBackS X.2.1.1 (y := z') (z := y') X.2.1.2.2.2.1 (mvT (s := (s.setVm vm)) X.2.1.2.2.1 w1) (mvT (s := (s.setVm vm)) X.2.1.2.2.1 w2) hnf (mvT (s := (s.setVm vm)) X.2.1.2.2.1 w3) (mvT (s := (s.setVm vm)) X.2.1.2.2.1 w4) hy (Con.back X hC hss w5 w6 hf hl) q1 q3 (g := mkF m pc L (argsL.reverse ++ .ref a :: rest)) rfl (hL.trans X.2.1.2.2.2.2.2.2.2.symm) (Steps.refl _) hlen rfl (by show 2 * 0 + _ ≤ _; omega) (hb X.2.1.2.1 hd) (fun _ _ => ⟨rfl, X.2.2.1, hc, hs⟩)
  dsimp only [Pt.U, Pt.locs, Pt.cells, Pt.slots] at X' S' g' hQ e2 e3 e4 R' st
  subst e2 e3 e4
  exact Goes.step (fun _ k => st.trans k) (K v T'.vm T' T'.heap _ (X.laterV X' S' rfl rfl (Fr.app X.2.2.2.1 hQ.2.1) hQ.2.2 R') R' hQ.1)
theorem o_virtUp (X : On l Z EL p e R s m args below meth c y code maxL ret vm T h locs cells slots) {C owner : String} {z' y' : MethodName} {index q : Nat} {bytes : ByteArray} {maxL' : Nat} {ret' : Option FieldType} {rm : Room} {as : Array Value} {Q : Option Value → Heap → (Addr → Prop) → Prop} (argsL : List Value) {a : Addr} {rest : List Value} (E : Exa Z h a C) (hC : Con l Z EL y' bytes maxL' ret' rm as h ss Q) (hss : ∀ x ∈ ss, x < h.size ∧ Safe Z EL vm h x)
    (w1 : (Jvm.Cond.methodLink y.cls index z').before a0 Z = true) (w2 : (Jvm.Cond.sameMethod z'.cls owner z'.name z'.desc).before a0 Z = true) (w3 : (Jvm.Cond.declares ⟨owner, z'.name, z'.desc⟩).before a0 Z = true) (ho : owner ≠ "java/lang/invoke/MethodHandle" ∧ owner ≠ "java/lang/invoke/VarHandle") (w4 : (Jvm.Cond.selects C z' y').before a0 Z = true) (w5 : (Jvm.Cond.instanceMethod y').before a0 Z = true) (w6 : (Jvm.Cond.code y' bytes maxL' ret').before a0 Z = true) (w7 : (Jvm.Cond.initialized y'.cls).before a0 Z = true) (hy : z'.cls ≠ "java/lang/invoke/MethodHandle" ∧ z'.cls ≠ "java/lang/invoke/VarHandle")
    (hd : decode code pc = .ok (.invokevirtual index, 3)) (has : (.ref a :: argsL).toArray = as) (hL : L.size = maxL) (hlen : ∀ sig, parseMethodDescriptor z'.desc = some sig → argsL.length = sig.parameters.length) (hS : S = argsL.reverse ++ .ref a :: rest) (hf : rm.frames + 1 ≤ R.frames) (hl : (rest.map fun v => v.category).sum + (maxL' + 11) + rm.locals ≤ R.locals) (hc : cells + rm.cells ≤ R.cells) (hs : slots + rm.slots ≤ R.slots) (hp : pc + 3 = q)
    (K : ∀ (v : Option Value) (vm' : Vm) (T' : State) (h' : Heap) (locs' : List Loc), On l Z EL p e R s m args below meth c y code maxL ret vm' T' h' locs' (cells + rm.cells) (slots + rm.slots) → CHr Z EL vm h vm' h' → Q v h' (Safe Z EL vm' h') → Goes p e below F T' (mkF m q L (v.toList ++ rest))) : Goes p e below F T (mkF m pc L S) := by
  subst hp hS has
  obtain ⟨cB, kB, q1, q2, q3⟩ := isOf (show Z.Warmed39 (s.setVm vm).vm from X.2.1.2.2.1) X.2.2.1 E
  obtain ⟨v, vm1, ⟨T', L1, k1, n1⟩, -, X', S', g', ⟨Lc, hQ, e2, e3, e4, R'⟩, st⟩ := X.1.virtualBackUpS X.2.1.1 (x := z') (y := y') X.2.1.2.2.2.1 (mvT (s := (s.setVm vm)) X.2.1.2.2.1 w1) (mv (show Z.Warmed39 (s.setVm vm).vm from X.2.1.2.2.1) w2) (mvT (s := (s.setVm vm)) X.2.1.2.2.1 w3) ho (mvT (s := (s.setVm vm)) X.2.1.2.2.1 w4) (mvT (s := (s.setVm vm)) X.2.1.2.2.1 w5) (Con.back X hC hss w6 w7 hf hl) q1 q3 (g := mkF m pc L (argsL.reverse ++ .ref a :: rest)) rfl (hL.trans X.2.1.2.2.2.2.2.2.2.symm) (Steps.refl _) hlen rfl (by show 2 * 0 + _ ≤ _; omega) (hb X.2.1.2.1 hd) (fun _ _ => ⟨rfl, X.2.2.1, hc, hs⟩)
  dsimp only [Pt.U, Pt.locs, Pt.cells, Pt.slots] at X' S' g' hQ e2 e3 e4 R' st
  subst e2 e3 e4
  exact Goes.step (fun _ k => st.trans k) (K v T'.vm T' T'.heap _ (X.laterV X' S' rfl rfl (Fr.app X.2.2.2.1 hQ.2.1) hQ.2.2 R') R' hQ.1)
theorem o_instNull (X : On l Z EL p e R s m args below meth c y code maxL ret vm T h locs cells slots) {index q : Nat} (hd : decode code pc = .ok (.instanceof index, 3)) (hp : pc + 3 = q) (K : Goes p e below F T (mkF m q L (.int 0 :: S))) : Goes p e below F T (mkF m pc L (.null :: S)) := by
  subst hp
  exact Goes.step (fun _ k => X.1.instanceofNull X.2.1.1 (g := mkF m pc L (.null :: S)) rfl (rest := S) rfl (hb X.2.1.2.1 hd) _ k) K
end OwnCol
end Jvm.Pilot.@@N@@

namespace Jvm.Pilot.@@N@@
open Jvm Jvm.ClassFile Sem Op Lib Jvm.Free Jvm.Stand Jvm.LawKit Jvm.RoadKit Bundle Jvm.Pilot.@@N@@.Jvm.D
def W (a0 : Array Value) (Z : State) : Prop := ∀ d ∈ tables_1, d.before a0 Z = true
def EL0 : List (String × Nat) := [("java/lang/String", 7)]
theorem w0 {a0 : Array Value} {Z : State} (hw : W a0 Z) : (Jvm.Cond.arrayClass Jvm.ClassFile.FieldType.char).before a0 Z = true := hw _ (List.mem_of_getElem? (i := 0) rfl)
theorem w1 {a0 : Array Value} {Z : State} (hw : W a0 Z) : (Jvm.Cond.methodLink "com/example/refinement/refinement/io/CodePointOrderComparePinLaw" (7 : Nat) ({ cls := "com/example/refinement/refinement/io/CodePointOrderComparePinLaw", name := "draw", desc := "(JI)C" } : Jvm.MethodName)).before a0 Z = true := hw _ (List.mem_of_getElem? (i := 1) rfl)
theorem w2 {a0 : Array Value} {Z : State} (hw : W a0 Z) : (Jvm.Cond.static ({ cls := "com/example/refinement/refinement/io/CodePointOrderComparePinLaw", name := "draw", desc := "(JI)C" } : Jvm.MethodName)).before a0 Z = true := hw _ (List.mem_of_getElem? (i := 2) rfl)
theorem w3 {a0 : Array Value} {Z : State} (hw : W a0 Z) : (Jvm.Cond.initialized "com/example/refinement/refinement/io/CodePointOrderComparePinLaw").before a0 Z = true := hw _ (List.mem_of_getElem? (i := 3) rfl)
theorem w4 {a0 : Array Value} {Z : State} (hw : W a0 Z) : (Jvm.Cond.code ({ cls := "com/example/refinement/refinement/io/CodePointOrderComparePinLaw", name := "draw", desc := "(JI)C" } : Jvm.MethodName) method_3_code (4 : Nat) (Option.some Jvm.ClassFile.FieldType.char)).before a0 Z = true := hw _ (List.mem_of_getElem? (i := 4) rfl)
theorem w5 {a0 : Array Value} {Z : State} (hw : W a0 Z) : (Jvm.Cond.constantLong "com/example/refinement/refinement/io/CodePointOrderComparePinLaw" (33 : Nat) (65535 : Int64)).before a0 Z = true := hw _ (List.mem_of_getElem? (i := 5) rfl)
theorem w6 {a0 : Array Value} {Z : State} (hw : W a0 Z) : (Jvm.Cond.constantLong "com/example/refinement/refinement/io/CodePointOrderComparePinLaw" (13 : Nat) (3 : Int64)).before a0 Z = true := hw _ (List.mem_of_getElem? (i := 6) rfl)
theorem w7 {a0 : Array Value} {Z : State} (hw : W a0 Z) : (Jvm.Cond.methodLink "com/example/refinement/refinement/io/CodePointOrderComparePinLaw" (15 : Nat) ({ cls := "com/example/refinement/refinement/io/CodePointOrderComparePinLaw", name := "make", desc := "([CI)Ljava/lang/String;" } : Jvm.MethodName)).before a0 Z = true := hw _ (List.mem_of_getElem? (i := 7) rfl)
theorem w8 {a0 : Array Value} {Z : State} (hw : W a0 Z) : (Jvm.Cond.static ({ cls := "com/example/refinement/refinement/io/CodePointOrderComparePinLaw", name := "make", desc := "([CI)Ljava/lang/String;" } : Jvm.MethodName)).before a0 Z = true := hw _ (List.mem_of_getElem? (i := 8) rfl)
theorem w9 {a0 : Array Value} {Z : State} (hw : W a0 Z) : (Jvm.Cond.code ({ cls := "com/example/refinement/refinement/io/CodePointOrderComparePinLaw", name := "make", desc := "([CI)Ljava/lang/String;" } : Jvm.MethodName) method_4_code (2 : Nat) (Option.some (Jvm.ClassFile.FieldType.object "java/lang/String"))).before a0 Z = true := hw _ (List.mem_of_getElem? (i := 9) rfl)
theorem w10 {a0 : Array Value} {Z : State} (hw : W a0 Z) : (Jvm.Cond.classLink "com/example/refinement/refinement/io/CodePointOrderComparePinLaw" (36 : Nat) "java/lang/String").before a0 Z = true := hw _ (List.mem_of_getElem? (i := 10) rfl)
theorem w11 {a0 : Array Value} {Z : State} (hw : W a0 Z) : (Jvm.Cond.instantiable "java/lang/String" (4 : Nat)).before a0 Z = true := hw _ (List.mem_of_getElem? (i := 11) rfl)
theorem w12 {a0 : Array Value} {Z : State} (hw : W a0 Z) : (Jvm.Cond.initialized "java/lang/String").before a0 Z = true := hw _ (List.mem_of_getElem? (i := 12) rfl)
theorem w13 {a0 : Array Value} {Z : State} (hw : W a0 Z) : (Jvm.Cond.methodLink "com/example/refinement/refinement/io/CodePointOrderComparePinLaw" (38 : Nat) ({ cls := "java/lang/String", name := "<init>", desc := "([C)V" } : Jvm.MethodName)).before a0 Z = true := hw _ (List.mem_of_getElem? (i := 13) rfl)
theorem w14 {a0 : Array Value} {Z : State} (hw : W a0 Z) : (Jvm.Cond.instanceMethod ({ cls := "java/lang/String", name := "<init>", desc := "([C)V" } : Jvm.MethodName)).before a0 Z = true := hw _ (List.mem_of_getElem? (i := 14) rfl)
theorem w15 {a0 : Array Value} {Z : State} (hw : W a0 Z) : (Jvm.Cond.code ({ cls := "java/lang/String", name := "<init>", desc := "([C)V" } : Jvm.MethodName) jdk_42_method_3_code (2 : Nat) (Option.none : Option Jvm.ClassFile.FieldType)).before a0 Z = true := hw _ (List.mem_of_getElem? (i := 15) rfl)
theorem w16 {a0 : Array Value} {Z : State} (hw : W a0 Z) : (Jvm.Cond.methodLink "java/lang/String" (27 : Nat) ({ cls := "java/lang/String", name := "<init>", desc := "([CIILjava/lang/Void;)V" } : Jvm.MethodName)).before a0 Z = true := hw _ (List.mem_of_getElem? (i := 16) rfl)
theorem w17 {a0 : Array Value} {Z : State} (hw : W a0 Z) : (Jvm.Cond.instanceMethod ({ cls := "java/lang/String", name := "<init>", desc := "([CIILjava/lang/Void;)V" } : Jvm.MethodName)).before a0 Z = true := hw _ (List.mem_of_getElem? (i := 17) rfl)
theorem w19 {a0 : Array Value} {Z : State} (hw : W a0 Z) : (Jvm.Cond.code ({ cls := "java/lang/String", name := "<init>", desc := "([CIILjava/lang/Void;)V" } : Jvm.MethodName) jdk_42_method_149_code (6 : Nat) (Option.none : Option Jvm.ClassFile.FieldType)).before a0 Z = true := hw _ (List.mem_of_getElem? (i := 19) rfl)
theorem w20 {a0 : Array Value} {Z : State} (hw : W a0 Z) : (Jvm.Cond.methodLink "java/lang/String" (1 : Nat) ({ cls := "java/lang/Object", name := "<init>", desc := "()V" } : Jvm.MethodName)).before a0 Z = true := hw _ (List.mem_of_getElem? (i := 20) rfl)
theorem w21 {a0 : Array Value} {Z : State} (hw : W a0 Z) : (Jvm.Cond.instanceMethod ({ cls := "java/lang/Object", name := "<init>", desc := "()V" } : Jvm.MethodName)).before a0 Z = true := hw _ (List.mem_of_getElem? (i := 21) rfl)
theorem w22 {a0 : Array Value} {Z : State} (hw : W a0 Z) : (Jvm.Cond.code ({ cls := "java/lang/Object", name := "<init>", desc := "()V" } : Jvm.MethodName) object_method_1_code (1 : Nat) (Option.none : Option Jvm.ClassFile.FieldType)).before a0 Z = true := hw _ (List.mem_of_getElem? (i := 22) rfl)
theorem w23 {a0 : Array Value} {Z : State} (hw : W a0 Z) : (Jvm.Cond.stringLink "java/lang/String" (7 : Nat) "").before a0 Z = true := hw _ (List.mem_of_getElem? (i := 23) rfl)
theorem w24 {a0 : Array Value} {Z : State} (hw : W a0 Z) : (Jvm.Cond.arrayClass Jvm.ClassFile.FieldType.byte).before a0 Z = true := hw _ (List.mem_of_getElem? (i := 24) rfl)
theorem w25 {a0 : Array Value} {Z : State} (hw : W a0 Z) : (Jvm.Cond.laysFinal "java/lang/String" "java/lang/String" "value" "[B").before a0 Z = true := hw _ (List.mem_of_getElem? (i := 25) rfl)
theorem w26 {a0 : Array Value} {Z : State} (hw : W a0 Z) : (Jvm.Cond.laysFinal "java/lang/String" "java/lang/String" "coder" "B").before a0 Z = true := hw _ (List.mem_of_getElem? (i := 26) rfl)
theorem w29 {a0 : Array Value} {Z : State} (hw : W a0 Z) : (Jvm.Cond.fieldLink "java/lang/String" (9 : Nat) "java/lang/String" "value" "[B").before a0 Z = true := hw _ (List.mem_of_getElem? (i := 29) rfl)
theorem w30 {a0 : Array Value} {Z : State} (hw : W a0 Z) : (Jvm.Cond.fieldLink "java/lang/String" (15 : Nat) "java/lang/String" "coder" "B").before a0 Z = true := hw _ (List.mem_of_getElem? (i := 30) rfl)
theorem w31 {a0 : Array Value} {Z : State} (hw : W a0 Z) : (Jvm.Cond.arrayClass Jvm.ClassFile.FieldType.int).before a0 Z = true := hw _ (List.mem_of_getElem? (i := 31) rfl)
theorem w32 {a0 : Array Value} {Z : State} (hw : W a0 Z) : (Jvm.Cond.methodLink "com/example/refinement/refinement/io/CodePointOrderComparePinLaw" (19 : Nat) ({ cls := "com/example/refinement/refinement/io/CodePointOrderComparePinLaw", name := "decode", desc := "([CI[I)V" } : Jvm.MethodName)).before a0 Z = true := hw _ (List.mem_of_getElem? (i := 32) rfl)
theorem w33 {a0 : Array Value} {Z : State} (hw : W a0 Z) : (Jvm.Cond.static ({ cls := "com/example/refinement/refinement/io/CodePointOrderComparePinLaw", name := "decode", desc := "([CI[I)V" } : Jvm.MethodName)).before a0 Z = true := hw _ (List.mem_of_getElem? (i := 33) rfl)
theorem w34 {a0 : Array Value} {Z : State} (hw : W a0 Z) : (Jvm.Cond.code ({ cls := "com/example/refinement/refinement/io/CodePointOrderComparePinLaw", name := "decode", desc := "([CI[I)V" } : Jvm.MethodName) method_9_code (8 : Nat) (Option.none : Option Jvm.ClassFile.FieldType)).before a0 Z = true := hw _ (List.mem_of_getElem? (i := 34) rfl)
theorem w35 {a0 : Array Value} {Z : State} (hw : W a0 Z) : (Jvm.Cond.methodLink "com/example/refinement/refinement/io/CodePointOrderComparePinLaw" (52 : Nat) ({ cls := "com/example/refinement/refinement/io/CodePointOrderComparePinLaw", name := "width", desc := "([CII)I" } : Jvm.MethodName)).before a0 Z = true := hw _ (List.mem_of_getElem? (i := 35) rfl)
theorem w36 {a0 : Array Value} {Z : State} (hw : W a0 Z) : (Jvm.Cond.static ({ cls := "com/example/refinement/refinement/io/CodePointOrderComparePinLaw", name := "width", desc := "([CII)I" } : Jvm.MethodName)).before a0 Z = true := hw _ (List.mem_of_getElem? (i := 36) rfl)
theorem w37 {a0 : Array Value} {Z : State} (hw : W a0 Z) : (Jvm.Cond.code ({ cls := "com/example/refinement/refinement/io/CodePointOrderComparePinLaw", name := "width", desc := "([CII)I" } : Jvm.MethodName) method_7_code (3 : Nat) (Option.some Jvm.ClassFile.FieldType.int)).before a0 Z = true := hw _ (List.mem_of_getElem? (i := 37) rfl)
theorem w38 {a0 : Array Value} {Z : State} (hw : W a0 Z) : (Jvm.Cond.methodLink "com/example/refinement/refinement/io/CodePointOrderComparePinLaw" (56 : Nat) ({ cls := "com/example/refinement/refinement/io/CodePointOrderComparePinLaw", name := "value", desc := "([CII)I" } : Jvm.MethodName)).before a0 Z = true := hw _ (List.mem_of_getElem? (i := 38) rfl)
theorem w39 {a0 : Array Value} {Z : State} (hw : W a0 Z) : (Jvm.Cond.static ({ cls := "com/example/refinement/refinement/io/CodePointOrderComparePinLaw", name := "value", desc := "([CII)I" } : Jvm.MethodName)).before a0 Z = true := hw _ (List.mem_of_getElem? (i := 39) rfl)
theorem w40 {a0 : Array Value} {Z : State} (hw : W a0 Z) : (Jvm.Cond.code ({ cls := "com/example/refinement/refinement/io/CodePointOrderComparePinLaw", name := "value", desc := "([CII)I" } : Jvm.MethodName) method_8_code (3 : Nat) (Option.some Jvm.ClassFile.FieldType.int)).before a0 Z = true := hw _ (List.mem_of_getElem? (i := 40) rfl)
theorem w41 {a0 : Array Value} {Z : State} (hw : W a0 Z) : (Jvm.Cond.methodLink "com/example/refinement/refinement/io/CodePointOrderComparePinLaw" (23 : Nat) ({ cls := "com/example/refinement/refinement/io/CodePointOrderComparePinLaw", name := "lex", desc := "([I[I)I" } : Jvm.MethodName)).before a0 Z = true := hw _ (List.mem_of_getElem? (i := 41) rfl)
theorem w42 {a0 : Array Value} {Z : State} (hw : W a0 Z) : (Jvm.Cond.static ({ cls := "com/example/refinement/refinement/io/CodePointOrderComparePinLaw", name := "lex", desc := "([I[I)I" } : Jvm.MethodName)).before a0 Z = true := hw _ (List.mem_of_getElem? (i := 42) rfl)
theorem w43 {a0 : Array Value} {Z : State} (hw : W a0 Z) : (Jvm.Cond.code ({ cls := "com/example/refinement/refinement/io/CodePointOrderComparePinLaw", name := "lex", desc := "([I[I)I" } : Jvm.MethodName) method_10_code (4 : Nat) (Option.some Jvm.ClassFile.FieldType.int)).before a0 Z = true := hw _ (List.mem_of_getElem? (i := 43) rfl)
theorem w44 {a0 : Array Value} {Z : State} (hw : W a0 Z) : (Jvm.Cond.methodLink "com/example/refinement/refinement/io/CodePointOrderComparePinLaw" (27 : Nat) ({ cls := "com/example/refinement/refinement/io/CodePointOrder", name := "compare", desc := "(Ljava/lang/String;Ljava/lang/String;)I" } : Jvm.MethodName)).before a0 Z = true := hw _ (List.mem_of_getElem? (i := 44) rfl)
theorem w45 {a0 : Array Value} {Z : State} (hw : W a0 Z) : (Jvm.Cond.static ({ cls := "com/example/refinement/refinement/io/CodePointOrder", name := "compare", desc := "(Ljava/lang/String;Ljava/lang/String;)I" } : Jvm.MethodName)).before a0 Z = true := hw _ (List.mem_of_getElem? (i := 45) rfl)
theorem w46 {a0 : Array Value} {Z : State} (hw : W a0 Z) : (Jvm.Cond.initialized "com/example/refinement/refinement/io/CodePointOrder").before a0 Z = true := hw _ (List.mem_of_getElem? (i := 46) rfl)
theorem w47 {a0 : Array Value} {Z : State} (hw : W a0 Z) : (Jvm.Cond.code ({ cls := "com/example/refinement/refinement/io/CodePointOrder", name := "compare", desc := "(Ljava/lang/String;Ljava/lang/String;)I" } : Jvm.MethodName) prog_1_method_2_code (5 : Nat) (Option.some Jvm.ClassFile.FieldType.int)).before a0 Z = true := hw _ (List.mem_of_getElem? (i := 47) rfl)
theorem w48 {a0 : Array Value} {Z : State} (hw : W a0 Z) : (Jvm.Cond.methodLink "com/example/refinement/refinement/io/CodePointOrder" (7 : Nat) ({ cls := "java/lang/String", name := "length", desc := "()I" } : Jvm.MethodName)).before a0 Z = true := hw _ (List.mem_of_getElem? (i := 48) rfl)
theorem w49 {a0 : Array Value} {Z : State} (hw : W a0 Z) : (Jvm.Cond.declares ({ cls := "java/lang/String", name := "length", desc := "()I" } : Jvm.MethodName)).before a0 Z = true := hw _ (List.mem_of_getElem? (i := 49) rfl)
theorem w50 {a0 : Array Value} {Z : State} (hw : W a0 Z) : (Jvm.Cond.instanceMethod ({ cls := "java/lang/String", name := "length", desc := "()I" } : Jvm.MethodName)).before a0 Z = true := hw _ (List.mem_of_getElem? (i := 50) rfl)
theorem w51 {a0 : Array Value} {Z : State} (hw : W a0 Z) : (Jvm.Cond.selects "java/lang/String" ({ cls := "java/lang/String", name := "length", desc := "()I" } : Jvm.MethodName) ({ cls := "java/lang/String", name := "length", desc := "()I" } : Jvm.MethodName)).before a0 Z = true := hw _ (List.mem_of_getElem? (i := 51) rfl)
theorem w58 {a0 : Array Value} {Z : State} (hw : W a0 Z) : (Jvm.Cond.fieldLink "java/lang/String" (38 : Nat) "java/lang/String" "COMPACT_STRINGS" "Z").before a0 Z = true := hw _ (List.mem_of_getElem? (i := 58) rfl)
theorem w59 {a0 : Array Value} {Z : State} (hw : W a0 Z) : (Jvm.Cond.methodLink "com/example/refinement/refinement/io/CodePointOrder" (17 : Nat) ({ cls := "java/lang/Integer", name := "compare", desc := "(II)I" } : Jvm.MethodName)).before a0 Z = true := hw _ (List.mem_of_getElem? (i := 59) rfl)
theorem w60 {a0 : Array Value} {Z : State} (hw : W a0 Z) : (Jvm.Cond.static ({ cls := "java/lang/Integer", name := "compare", desc := "(II)I" } : Jvm.MethodName)).before a0 Z = true := hw _ (List.mem_of_getElem? (i := 60) rfl)
theorem w61 {a0 : Array Value} {Z : State} (hw : W a0 Z) : (Jvm.Cond.initialized "java/lang/Integer").before a0 Z = true := hw _ (List.mem_of_getElem? (i := 61) rfl)
theorem w62 {a0 : Array Value} {Z : State} (hw : W a0 Z) : (Jvm.Cond.code ({ cls := "java/lang/Integer", name := "compare", desc := "(II)I" } : Jvm.MethodName) jdk_33_method_40_code (2 : Nat) (Option.some Jvm.ClassFile.FieldType.int)).before a0 Z = true := hw _ (List.mem_of_getElem? (i := 62) rfl)
theorem w63 {a0 : Array Value} {Z : State} (hw : W a0 Z) : (Jvm.Cond.constant "com/example/refinement/refinement/io/CodePointOrderComparePinLaw" (35 : Nat) (55296 : Int32)).before a0 Z = true := hw _ (List.mem_of_getElem? (i := 63) rfl)
theorem w64 {a0 : Array Value} {Z : State} (hw : W a0 Z) : (Jvm.Cond.methodLink "java/lang/String" (177 : Nat) ({ cls := "java/lang/StringUTF16", name := "compress", desc := "([CII)[B" } : Jvm.MethodName)).before a0 Z = true := hw _ (List.mem_of_getElem? (i := 64) rfl)
theorem w65 {a0 : Array Value} {Z : State} (hw : W a0 Z) : (Jvm.Cond.static ({ cls := "java/lang/StringUTF16", name := "compress", desc := "([CII)[B" } : Jvm.MethodName)).before a0 Z = true := hw _ (List.mem_of_getElem? (i := 65) rfl)
theorem w66 {a0 : Array Value} {Z : State} (hw : W a0 Z) : (Jvm.Cond.initialized "java/lang/StringUTF16").before a0 Z = true := hw _ (List.mem_of_getElem? (i := 66) rfl)
theorem w67 {a0 : Array Value} {Z : State} (hw : W a0 Z) : (Jvm.Cond.code ({ cls := "java/lang/StringUTF16", name := "compress", desc := "([CII)[B" } : Jvm.MethodName) jdk_52_method_16_code (6 : Nat) (Option.some (Jvm.ClassFile.FieldType.array Jvm.ClassFile.FieldType.byte))).before a0 Z = true := hw _ (List.mem_of_getElem? (i := 67) rfl)
theorem w68 {a0 : Array Value} {Z : State} (hw : W a0 Z) : (Jvm.Cond.methodLink "java/lang/StringUTF16" (115 : Nat) ({ cls := "java/lang/StringUTF16", name := "compress", desc := "([CI[BII)I" } : Jvm.MethodName)).before a0 Z = true := hw _ (List.mem_of_getElem? (i := 68) rfl)
theorem w69 {a0 : Array Value} {Z : State} (hw : W a0 Z) : (Jvm.Cond.static ({ cls := "java/lang/StringUTF16", name := "compress", desc := "([CI[BII)I" } : Jvm.MethodName)).before a0 Z = true := hw _ (List.mem_of_getElem? (i := 69) rfl)
theorem w70 {a0 : Array Value} {Z : State} (hw : W a0 Z) : (Jvm.Cond.code ({ cls := "java/lang/StringUTF16", name := "compress", desc := "([CI[BII)I" } : Jvm.MethodName) jdk_52_method_21_code (7 : Nat) (Option.some Jvm.ClassFile.FieldType.int)).before a0 Z = true := hw _ (List.mem_of_getElem? (i := 70) rfl)
theorem w71 {a0 : Array Value} {Z : State} (hw : W a0 Z) : (Jvm.Cond.methodLink "java/lang/StringUTF16" (119 : Nat) ({ cls := "java/lang/StringUTF16", name := "toBytes", desc := "([CII)[B" } : Jvm.MethodName)).before a0 Z = true := hw _ (List.mem_of_getElem? (i := 71) rfl)
theorem w72 {a0 : Array Value} {Z : State} (hw : W a0 Z) : (Jvm.Cond.static ({ cls := "java/lang/StringUTF16", name := "toBytes", desc := "([CII)[B" } : Jvm.MethodName)).before a0 Z = true := hw _ (List.mem_of_getElem? (i := 72) rfl)
theorem w73 {a0 : Array Value} {Z : State} (hw : W a0 Z) : (Jvm.Cond.code ({ cls := "java/lang/StringUTF16", name := "toBytes", desc := "([CII)[B" } : Jvm.MethodName) jdk_52_method_14_code (5 : Nat) (Option.some (Jvm.ClassFile.FieldType.array Jvm.ClassFile.FieldType.byte))).before a0 Z = true := hw _ (List.mem_of_getElem? (i := 73) rfl)
theorem w74 {a0 : Array Value} {Z : State} (hw : W a0 Z) : (Jvm.Cond.methodLink "java/lang/StringUTF16" (107 : Nat) ({ cls := "java/lang/StringUTF16", name := "newBytesFor", desc := "(I)[B" } : Jvm.MethodName)).before a0 Z = true := hw _ (List.mem_of_getElem? (i := 74) rfl)
theorem w75 {a0 : Array Value} {Z : State} (hw : W a0 Z) : (Jvm.Cond.static ({ cls := "java/lang/StringUTF16", name := "newBytesFor", desc := "(I)[B" } : Jvm.MethodName)).before a0 Z = true := hw _ (List.mem_of_getElem? (i := 75) rfl)
theorem w76 {a0 : Array Value} {Z : State} (hw : W a0 Z) : (Jvm.Cond.code ({ cls := "java/lang/StringUTF16", name := "newBytesFor", desc := "(I)[B" } : Jvm.MethodName) jdk_52_method_2_code (1 : Nat) (Option.some (Jvm.ClassFile.FieldType.array Jvm.ClassFile.FieldType.byte))).before a0 Z = true := hw _ (List.mem_of_getElem? (i := 76) rfl)
theorem w77 {a0 : Array Value} {Z : State} (hw : W a0 Z) : (Jvm.Cond.methodLink "java/lang/StringUTF16" (11 : Nat) ({ cls := "java/lang/StringUTF16", name := "newBytesLength", desc := "(I)I" } : Jvm.MethodName)).before a0 Z = true := hw _ (List.mem_of_getElem? (i := 77) rfl)
theorem w78 {a0 : Array Value} {Z : State} (hw : W a0 Z) : (Jvm.Cond.static ({ cls := "java/lang/StringUTF16", name := "newBytesLength", desc := "(I)I" } : Jvm.MethodName)).before a0 Z = true := hw _ (List.mem_of_getElem? (i := 78) rfl)
theorem w79 {a0 : Array Value} {Z : State} (hw : W a0 Z) : (Jvm.Cond.code ({ cls := "java/lang/StringUTF16", name := "newBytesLength", desc := "(I)I" } : Jvm.MethodName) jdk_52_method_3_code (1 : Nat) (Option.some Jvm.ClassFile.FieldType.int)).before a0 Z = true := hw _ (List.mem_of_getElem? (i := 79) rfl)
theorem w80 {a0 : Array Value} {Z : State} (hw : W a0 Z) : (Jvm.Cond.constant "java/lang/StringUTF16" (20 : Nat) (1073741823 : Int32)).before a0 Z = true := hw _ (List.mem_of_getElem? (i := 80) rfl)
theorem w81 {a0 : Array Value} {Z : State} (hw : W a0 Z) : (Jvm.Cond.methodLink "java/lang/StringUTF16" (111 : Nat) ({ cls := "java/lang/StringUTF16", name := "putChar", desc := "([BII)V" } : Jvm.MethodName)).before a0 Z = true := hw _ (List.mem_of_getElem? (i := 81) rfl)
theorem w82 {a0 : Array Value} {Z : State} (hw : W a0 Z) : (Jvm.Cond.static ({ cls := "java/lang/StringUTF16", name := "putChar", desc := "([BII)V" } : Jvm.MethodName)).before a0 Z = true := hw _ (List.mem_of_getElem? (i := 82) rfl)
theorem w83 {a0 : Array Value} {Z : State} (hw : W a0 Z) : (Jvm.Cond.code ({ cls := "java/lang/StringUTF16", name := "putChar", desc := "([BII)V" } : Jvm.MethodName) jdk_52_method_4_code (3 : Nat) (Option.none : Option Jvm.ClassFile.FieldType)).before a0 Z = true := hw _ (List.mem_of_getElem? (i := 83) rfl)
theorem w84 {a0 : Array Value} {Z : State} (hw : W a0 Z) : (Jvm.Cond.fieldLink "java/lang/StringUTF16" (44 : Nat) "java/lang/StringUTF16" "$assertionsDisabled" "Z").before a0 Z = true := hw _ (List.mem_of_getElem? (i := 84) rfl)
theorem w85 {a0 : Array Value} {Z : State} (hw : W a0 Z) : (Jvm.Cond.fieldLink "java/lang/StringUTF16" (59 : Nat) "java/lang/StringUTF16" "HI_BYTE_SHIFT" "I").before a0 Z = true := hw _ (List.mem_of_getElem? (i := 85) rfl)
theorem w86 {a0 : Array Value} {Z : State} (hw : W a0 Z) : (Jvm.Cond.fieldLink "java/lang/StringUTF16" (63 : Nat) "java/lang/StringUTF16" "LO_BYTE_SHIFT" "I").before a0 Z = true := hw _ (List.mem_of_getElem? (i := 86) rfl)
theorem w87 {a0 : Array Value} {Z : State} (hw : W a0 Z) : (Jvm.Cond.methodLink "java/lang/StringUTF16" (71 : Nat) ({ cls := "java/lang/StringUTF16", name := "getChar", desc := "([BI)C" } : Jvm.MethodName)).before a0 Z = true := hw _ (List.mem_of_getElem? (i := 87) rfl)
theorem w88 {a0 : Array Value} {Z : State} (hw : W a0 Z) : (Jvm.Cond.static ({ cls := "java/lang/StringUTF16", name := "getChar", desc := "([BI)C" } : Jvm.MethodName)).before a0 Z = true := hw _ (List.mem_of_getElem? (i := 88) rfl)
theorem w89 {a0 : Array Value} {Z : State} (hw : W a0 Z) : (Jvm.Cond.code ({ cls := "java/lang/StringUTF16", name := "getChar", desc := "([BI)C" } : Jvm.MethodName) jdk_52_method_5_code (2 : Nat) (Option.some Jvm.ClassFile.FieldType.char)).before a0 Z = true := hw _ (List.mem_of_getElem? (i := 89) rfl)
theorem w90 {a0 : Array Value} {Z : State} (hw : W a0 Z) : (Jvm.Cond.methodLink "java/lang/String" (47 : Nat) ({ cls := "java/lang/StringUTF16", name := "coderFromArrayLen", desc := "([BI)B" } : Jvm.MethodName)).before a0 Z = true := hw _ (List.mem_of_getElem? (i := 90) rfl)
theorem w91 {a0 : Array Value} {Z : State} (hw : W a0 Z) : (Jvm.Cond.static ({ cls := "java/lang/StringUTF16", name := "coderFromArrayLen", desc := "([BI)B" } : Jvm.MethodName)).before a0 Z = true := hw _ (List.mem_of_getElem? (i := 91) rfl)
theorem w92 {a0 : Array Value} {Z : State} (hw : W a0 Z) : (Jvm.Cond.code ({ cls := "java/lang/StringUTF16", name := "coderFromArrayLen", desc := "([BI)B" } : Jvm.MethodName) jdk_52_method_15_code (2 : Nat) (Option.some Jvm.ClassFile.FieldType.byte)).before a0 Z = true := hw _ (List.mem_of_getElem? (i := 92) rfl)
theorem w93 {a0 : Array Value} {Z : State} (hw : W a0 Z) : (Jvm.Cond.methodLink "com/example/refinement/refinement/io/CodePointOrderComparePinLaw" (44 : Nat) ({ cls := "com/example/refinement/refinement/io/CodePointOrderComparePinLaw", name := "isHigh", desc := "(C)Z" } : Jvm.MethodName)).before a0 Z = true := hw _ (List.mem_of_getElem? (i := 93) rfl)
theorem w94 {a0 : Array Value} {Z : State} (hw : W a0 Z) : (Jvm.Cond.static ({ cls := "com/example/refinement/refinement/io/CodePointOrderComparePinLaw", name := "isHigh", desc := "(C)Z" } : Jvm.MethodName)).before a0 Z = true := hw _ (List.mem_of_getElem? (i := 94) rfl)
theorem w95 {a0 : Array Value} {Z : State} (hw : W a0 Z) : (Jvm.Cond.code ({ cls := "com/example/refinement/refinement/io/CodePointOrderComparePinLaw", name := "isHigh", desc := "(C)Z" } : Jvm.MethodName) method_5_code (1 : Nat) (Option.some Jvm.ClassFile.FieldType.boolean)).before a0 Z = true := hw _ (List.mem_of_getElem? (i := 95) rfl)
theorem w96 {a0 : Array Value} {Z : State} (hw : W a0 Z) : (Jvm.Cond.constant "com/example/refinement/refinement/io/CodePointOrderComparePinLaw" (41 : Nat) (56319 : Int32)).before a0 Z = true := hw _ (List.mem_of_getElem? (i := 96) rfl)
theorem w97 {a0 : Array Value} {Z : State} (hw : W a0 Z) : (Jvm.Cond.methodLink "com/example/refinement/refinement/io/CodePointOrderComparePinLaw" (48 : Nat) ({ cls := "com/example/refinement/refinement/io/CodePointOrderComparePinLaw", name := "isLow", desc := "(C)Z" } : Jvm.MethodName)).before a0 Z = true := hw _ (List.mem_of_getElem? (i := 97) rfl)
theorem w98 {a0 : Array Value} {Z : State} (hw : W a0 Z) : (Jvm.Cond.static ({ cls := "com/example/refinement/refinement/io/CodePointOrderComparePinLaw", name := "isLow", desc := "(C)Z" } : Jvm.MethodName)).before a0 Z = true := hw _ (List.mem_of_getElem? (i := 98) rfl)
theorem w99 {a0 : Array Value} {Z : State} (hw : W a0 Z) : (Jvm.Cond.code ({ cls := "com/example/refinement/refinement/io/CodePointOrderComparePinLaw", name := "isLow", desc := "(C)Z" } : Jvm.MethodName) method_6_code (1 : Nat) (Option.some Jvm.ClassFile.FieldType.boolean)).before a0 Z = true := hw _ (List.mem_of_getElem? (i := 99) rfl)
theorem w100 {a0 : Array Value} {Z : State} (hw : W a0 Z) : (Jvm.Cond.constant "com/example/refinement/refinement/io/CodePointOrderComparePinLaw" (42 : Nat) (56320 : Int32)).before a0 Z = true := hw _ (List.mem_of_getElem? (i := 100) rfl)
theorem w101 {a0 : Array Value} {Z : State} (hw : W a0 Z) : (Jvm.Cond.constant "com/example/refinement/refinement/io/CodePointOrderComparePinLaw" (43 : Nat) (57343 : Int32)).before a0 Z = true := hw _ (List.mem_of_getElem? (i := 101) rfl)
theorem w102 {a0 : Array Value} {Z : State} (hw : W a0 Z) : (Jvm.Cond.constant "com/example/refinement/refinement/io/CodePointOrderComparePinLaw" (51 : Nat) (65536 : Int32)).before a0 Z = true := hw _ (List.mem_of_getElem? (i := 102) rfl)
theorem w103 {a0 : Array Value} {Z : State} (hw : W a0 Z) : (Jvm.Cond.methodLink "com/example/refinement/refinement/io/CodePointOrder" (13 : Nat) ({ cls := "java/lang/String", name := "codePointAt", desc := "(I)I" } : Jvm.MethodName)).before a0 Z = true := hw _ (List.mem_of_getElem? (i := 103) rfl)
theorem w104 {a0 : Array Value} {Z : State} (hw : W a0 Z) : (Jvm.Cond.declares ({ cls := "java/lang/String", name := "codePointAt", desc := "(I)I" } : Jvm.MethodName)).before a0 Z = true := hw _ (List.mem_of_getElem? (i := 104) rfl)
theorem w105 {a0 : Array Value} {Z : State} (hw : W a0 Z) : (Jvm.Cond.instanceMethod ({ cls := "java/lang/String", name := "codePointAt", desc := "(I)I" } : Jvm.MethodName)).before a0 Z = true := hw _ (List.mem_of_getElem? (i := 105) rfl)
theorem w106 {a0 : Array Value} {Z : State} (hw : W a0 Z) : (Jvm.Cond.selects "java/lang/String" ({ cls := "java/lang/String", name := "codePointAt", desc := "(I)I" } : Jvm.MethodName) ({ cls := "java/lang/String", name := "codePointAt", desc := "(I)I" } : Jvm.MethodName)).before a0 Z = true := hw _ (List.mem_of_getElem? (i := 106) rfl)
theorem w107 {a0 : Array Value} {Z : State} (hw : W a0 Z) : (Jvm.Cond.code ({ cls := "java/lang/String", name := "codePointAt", desc := "(I)I" } : Jvm.MethodName) jdk_42_method_57_code (3 : Nat) (Option.some Jvm.ClassFile.FieldType.int)).before a0 Z = true := hw _ (List.mem_of_getElem? (i := 107) rfl)
theorem w108 {a0 : Array Value} {Z : State} (hw : W a0 Z) : (Jvm.Cond.methodLink "java/lang/String" (492 : Nat) ({ cls := "java/lang/String", name := "isLatin1", desc := "()Z" } : Jvm.MethodName)).before a0 Z = true := hw _ (List.mem_of_getElem? (i := 108) rfl)
theorem w109 {a0 : Array Value} {Z : State} (hw : W a0 Z) : (Jvm.Cond.declares ({ cls := "java/lang/String", name := "isLatin1", desc := "()Z" } : Jvm.MethodName)).before a0 Z = true := hw _ (List.mem_of_getElem? (i := 109) rfl)
theorem w110 {a0 : Array Value} {Z : State} (hw : W a0 Z) : (Jvm.Cond.instanceMethod ({ cls := "java/lang/String", name := "isLatin1", desc := "()Z" } : Jvm.MethodName)).before a0 Z = true := hw _ (List.mem_of_getElem? (i := 110) rfl)
theorem w111 {a0 : Array Value} {Z : State} (hw : W a0 Z) : (Jvm.Cond.selects "java/lang/String" ({ cls := "java/lang/String", name := "isLatin1", desc := "()Z" } : Jvm.MethodName) ({ cls := "java/lang/String", name := "isLatin1", desc := "()Z" } : Jvm.MethodName)).before a0 Z = true := hw _ (List.mem_of_getElem? (i := 111) rfl)
theorem w112 {a0 : Array Value} {Z : State} (hw : W a0 Z) : (Jvm.Cond.code ({ cls := "java/lang/String", name := "isLatin1", desc := "()Z" } : Jvm.MethodName) jdk_42_method_154_code (1 : Nat) (Option.some Jvm.ClassFile.FieldType.boolean)).before a0 Z = true := hw _ (List.mem_of_getElem? (i := 112) rfl)
theorem w113 {a0 : Array Value} {Z : State} (hw : W a0 Z) : (Jvm.Cond.methodLink "java/lang/String" (499 : Nat) ({ cls := "java/lang/String", name := "checkIndex", desc := "(II)V" } : Jvm.MethodName)).before a0 Z = true := hw _ (List.mem_of_getElem? (i := 113) rfl)
theorem w114 {a0 : Array Value} {Z : State} (hw : W a0 Z) : (Jvm.Cond.static ({ cls := "java/lang/String", name := "checkIndex", desc := "(II)V" } : Jvm.MethodName)).before a0 Z = true := hw _ (List.mem_of_getElem? (i := 114) rfl)
theorem w115 {a0 : Array Value} {Z : State} (hw : W a0 Z) : (Jvm.Cond.code ({ cls := "java/lang/String", name := "checkIndex", desc := "(II)V" } : Jvm.MethodName) jdk_42_method_155_code (2 : Nat) (Option.none : Option Jvm.ClassFile.FieldType)).before a0 Z = true := hw _ (List.mem_of_getElem? (i := 115) rfl)
theorem w116 {a0 : Array Value} {Z : State} (hw : W a0 Z) : (Jvm.Cond.fieldLink "java/lang/String" (1053 : Nat) "jdk/internal/util/Preconditions" "SIOOBE_FORMATTER" "Ljava/util/function/BiFunction;").before a0 Z = true := hw _ (List.mem_of_getElem? (i := 116) rfl)
theorem w117 {a0 : Array Value} {Z : State} (hw : W a0 Z) : (Jvm.Cond.initialized "jdk/internal/util/Preconditions").before a0 Z = true := hw _ (List.mem_of_getElem? (i := 117) rfl)
theorem w118 {a0 : Array Value} {Z : State} (hw : W a0 Z) : (Jvm.Cond.methodLink "java/lang/String" (1059 : Nat) ({ cls := "jdk/internal/util/Preconditions", name := "checkIndex", desc := "(IILjava/util/function/BiFunction;)I" } : Jvm.MethodName)).before a0 Z = true := hw _ (List.mem_of_getElem? (i := 118) rfl)
theorem w119 {a0 : Array Value} {Z : State} (hw : W a0 Z) : (Jvm.Cond.static ({ cls := "jdk/internal/util/Preconditions", name := "checkIndex", desc := "(IILjava/util/function/BiFunction;)I" } : Jvm.MethodName)).before a0 Z = true := hw _ (List.mem_of_getElem? (i := 119) rfl)
theorem w120 {a0 : Array Value} {Z : State} (hw : W a0 Z) : (Jvm.Cond.code ({ cls := "jdk/internal/util/Preconditions", name := "checkIndex", desc := "(IILjava/util/function/BiFunction;)I" } : Jvm.MethodName) jdk_41_method_11_code (3 : Nat) (Option.some Jvm.ClassFile.FieldType.int)).before a0 Z = true := hw _ (List.mem_of_getElem? (i := 120) rfl)
theorem w121 {a0 : Array Value} {Z : State} (hw : W a0 Z) : (Jvm.Cond.methodLink "java/lang/String" (502 : Nat) ({ cls := "java/lang/StringUTF16", name := "codePointAt", desc := "([BII)I" } : Jvm.MethodName)).before a0 Z = true := hw _ (List.mem_of_getElem? (i := 121) rfl)
theorem w122 {a0 : Array Value} {Z : State} (hw : W a0 Z) : (Jvm.Cond.static ({ cls := "java/lang/StringUTF16", name := "codePointAt", desc := "([BII)I" } : Jvm.MethodName)).before a0 Z = true := hw _ (List.mem_of_getElem? (i := 122) rfl)
theorem w123 {a0 : Array Value} {Z : State} (hw : W a0 Z) : (Jvm.Cond.code ({ cls := "java/lang/StringUTF16", name := "codePointAt", desc := "([BII)I" } : Jvm.MethodName) jdk_52_method_8_code (3 : Nat) (Option.some Jvm.ClassFile.FieldType.int)).before a0 Z = true := hw _ (List.mem_of_getElem? (i := 123) rfl)
theorem w124 {a0 : Array Value} {Z : State} (hw : W a0 Z) : (Jvm.Cond.methodLink "java/lang/StringUTF16" (88 : Nat) ({ cls := "java/lang/StringUTF16", name := "codePointAt", desc := "([BIIZ)I" } : Jvm.MethodName)).before a0 Z = true := hw _ (List.mem_of_getElem? (i := 124) rfl)
theorem w125 {a0 : Array Value} {Z : State} (hw : W a0 Z) : (Jvm.Cond.static ({ cls := "java/lang/StringUTF16", name := "codePointAt", desc := "([BIIZ)I" } : Jvm.MethodName)).before a0 Z = true := hw _ (List.mem_of_getElem? (i := 125) rfl)
theorem w126 {a0 : Array Value} {Z : State} (hw : W a0 Z) : (Jvm.Cond.code ({ cls := "java/lang/StringUTF16", name := "codePointAt", desc := "([BIIZ)I" } : Jvm.MethodName) jdk_52_method_7_code (6 : Nat) (Option.some Jvm.ClassFile.FieldType.int)).before a0 Z = true := hw _ (List.mem_of_getElem? (i := 126) rfl)
theorem w127 {a0 : Array Value} {Z : State} (hw : W a0 Z) : (Jvm.Cond.methodLink "java/lang/StringUTF16" (75 : Nat) ({ cls := "java/lang/Character", name := "isHighSurrogate", desc := "(C)Z" } : Jvm.MethodName)).before a0 Z = true := hw _ (List.mem_of_getElem? (i := 127) rfl)
theorem w128 {a0 : Array Value} {Z : State} (hw : W a0 Z) : (Jvm.Cond.static ({ cls := "java/lang/Character", name := "isHighSurrogate", desc := "(C)Z" } : Jvm.MethodName)).before a0 Z = true := hw _ (List.mem_of_getElem? (i := 128) rfl)
theorem w129 {a0 : Array Value} {Z : State} (hw : W a0 Z) : (Jvm.Cond.initialized "java/lang/Character").before a0 Z = true := hw _ (List.mem_of_getElem? (i := 129) rfl)
theorem w130 {a0 : Array Value} {Z : State} (hw : W a0 Z) : (Jvm.Cond.code ({ cls := "java/lang/Character", name := "isHighSurrogate", desc := "(C)Z" } : Jvm.MethodName) jdk_89_method_14_code (1 : Nat) (Option.some Jvm.ClassFile.FieldType.boolean)).before a0 Z = true := hw _ (List.mem_of_getElem? (i := 130) rfl)
theorem w131 {a0 : Array Value} {Z : State} (hw : W a0 Z) : (Jvm.Cond.constant "java/lang/Character" (75 : Nat) (55296 : Int32)).before a0 Z = true := hw _ (List.mem_of_getElem? (i := 131) rfl)
theorem w132 {a0 : Array Value} {Z : State} (hw : W a0 Z) : (Jvm.Cond.constant "java/lang/Character" (76 : Nat) (56320 : Int32)).before a0 Z = true := hw _ (List.mem_of_getElem? (i := 132) rfl)
theorem w133 {a0 : Array Value} {Z : State} (hw : W a0 Z) : (Jvm.Cond.methodLink "java/lang/StringUTF16" (81 : Nat) ({ cls := "java/lang/Character", name := "isLowSurrogate", desc := "(C)Z" } : Jvm.MethodName)).before a0 Z = true := hw _ (List.mem_of_getElem? (i := 133) rfl)
theorem w134 {a0 : Array Value} {Z : State} (hw : W a0 Z) : (Jvm.Cond.static ({ cls := "java/lang/Character", name := "isLowSurrogate", desc := "(C)Z" } : Jvm.MethodName)).before a0 Z = true := hw _ (List.mem_of_getElem? (i := 134) rfl)
theorem w135 {a0 : Array Value} {Z : State} (hw : W a0 Z) : (Jvm.Cond.code ({ cls := "java/lang/Character", name := "isLowSurrogate", desc := "(C)Z" } : Jvm.MethodName) jdk_89_method_15_code (1 : Nat) (Option.some Jvm.ClassFile.FieldType.boolean)).before a0 Z = true := hw _ (List.mem_of_getElem? (i := 135) rfl)
theorem w136 {a0 : Array Value} {Z : State} (hw : W a0 Z) : (Jvm.Cond.methodLink "com/example/refinement/refinement/io/CodePointOrder" (23 : Nat) ({ cls := "java/lang/Character", name := "charCount", desc := "(I)I" } : Jvm.MethodName)).before a0 Z = true := hw _ (List.mem_of_getElem? (i := 136) rfl)
theorem w137 {a0 : Array Value} {Z : State} (hw : W a0 Z) : (Jvm.Cond.static ({ cls := "java/lang/Character", name := "charCount", desc := "(I)I" } : Jvm.MethodName)).before a0 Z = true := hw _ (List.mem_of_getElem? (i := 137) rfl)
theorem w138 {a0 : Array Value} {Z : State} (hw : W a0 Z) : (Jvm.Cond.code ({ cls := "java/lang/Character", name := "charCount", desc := "(I)I" } : Jvm.MethodName) jdk_89_method_18_code (1 : Nat) (Option.some Jvm.ClassFile.FieldType.int)).before a0 Z = true := hw _ (List.mem_of_getElem? (i := 138) rfl)
theorem w139 {a0 : Array Value} {Z : State} (hw : W a0 Z) : (Jvm.Cond.constant "java/lang/Character" (73 : Nat) (65536 : Int32)).before a0 Z = true := hw _ (List.mem_of_getElem? (i := 139) rfl)
theorem w140 {a0 : Array Value} {Z : State} (hw : W a0 Z) : (Jvm.Cond.constant "java/lang/Character" (77 : Nat) (57344 : Int32)).before a0 Z = true := hw _ (List.mem_of_getElem? (i := 140) rfl)
theorem w141 {a0 : Array Value} {Z : State} (hw : W a0 Z) : (Jvm.Cond.methodLink "java/lang/StringUTF16" (84 : Nat) ({ cls := "java/lang/Character", name := "toCodePoint", desc := "(CC)I" } : Jvm.MethodName)).before a0 Z = true := hw _ (List.mem_of_getElem? (i := 141) rfl)
theorem w142 {a0 : Array Value} {Z : State} (hw : W a0 Z) : (Jvm.Cond.static ({ cls := "java/lang/Character", name := "toCodePoint", desc := "(CC)I" } : Jvm.MethodName)).before a0 Z = true := hw _ (List.mem_of_getElem? (i := 142) rfl)
theorem w143 {a0 : Array Value} {Z : State} (hw : W a0 Z) : (Jvm.Cond.code ({ cls := "java/lang/Character", name := "toCodePoint", desc := "(CC)I" } : Jvm.MethodName) jdk_89_method_19_code (2 : Nat) (Option.some Jvm.ClassFile.FieldType.int)).before a0 Z = true := hw _ (List.mem_of_getElem? (i := 143) rfl)
theorem w144 {a0 : Array Value} {Z : State} (hw : W a0 Z) : (Jvm.Cond.constant "java/lang/Character" (85 : Nat) (-56613888 : Int32)).before a0 Z = true := hw _ (List.mem_of_getElem? (i := 144) rfl)
theorem d_jdk_42_method_149_0 : decode jdk_42_method_149_code 0 = .ok (.aload_n 0, 1) := by decide +kernel
theorem d_jdk_42_method_149_1 : decode jdk_42_method_149_code 1 = .ok (.invokespecial 1, 3) := by decide +kernel
theorem d_jdk_42_method_149_4 : decode jdk_42_method_149_code 4 = .ok (.iload_n 3, 1) := by decide +kernel
theorem d_jdk_42_method_149_5 : decode jdk_42_method_149_code 5 = .ok (.ifCond .ne 22, 3) := by decide +kernel
theorem d_jdk_42_method_149_8 : decode jdk_42_method_149_code 8 = .ok (.aload_n 0, 1) := by decide +kernel
theorem d_jdk_42_method_149_9 : decode jdk_42_method_149_code 9 = .ok (.ldc 7, 2) := by decide +kernel
theorem d_jdk_42_method_149_11 : decode jdk_42_method_149_code 11 = .ok (.getfield 9, 3) := by decide +kernel
theorem d_jdk_42_method_149_14 : decode jdk_42_method_149_code 14 = .ok (.putfield 9, 3) := by decide +kernel
theorem d_jdk_42_method_149_17 : decode jdk_42_method_149_code 17 = .ok (.aload_n 0, 1) := by decide +kernel
theorem d_jdk_42_method_149_18 : decode jdk_42_method_149_code 18 = .ok (.ldc 7, 2) := by decide +kernel
theorem d_jdk_42_method_149_20 : decode jdk_42_method_149_code 20 = .ok (.getfield 15, 3) := by decide +kernel
theorem d_jdk_42_method_149_23 : decode jdk_42_method_149_code 23 = .ok (.putfield 15, 3) := by decide +kernel
theorem d_jdk_42_method_149_26 : decode jdk_42_method_149_code 26 = .ok (.return_, 1) := by decide +kernel
theorem d_jdk_42_method_3_0 : decode jdk_42_method_3_code 0 = .ok (.aload_n 0, 1) := by decide +kernel
theorem d_jdk_42_method_3_1 : decode jdk_42_method_3_code 1 = .ok (.aload_n 1, 1) := by decide +kernel
theorem d_jdk_42_method_3_2 : decode jdk_42_method_3_code 2 = .ok (.iconst 0, 1) := by decide +kernel
theorem d_jdk_42_method_3_3 : decode jdk_42_method_3_code 3 = .ok (.aload_n 1, 1) := by decide +kernel
theorem d_jdk_42_method_3_4 : decode jdk_42_method_3_code 4 = .ok (.arraylength, 1) := by decide +kernel
theorem d_jdk_42_method_3_5 : decode jdk_42_method_3_code 5 = .ok (.aconst_null, 1) := by decide +kernel
theorem d_jdk_42_method_3_6 : decode jdk_42_method_3_code 6 = .ok (.invokespecial 27, 3) := by decide +kernel
theorem d_jdk_42_method_3_9 : decode jdk_42_method_3_code 9 = .ok (.return_, 1) := by decide +kernel
theorem d_jdk_52_method_21_0 : decode jdk_52_method_21_code 0 = .ok (.iconst 0, 1) := by decide +kernel
theorem d_jdk_52_method_21_1 : decode jdk_52_method_21_code 1 = .ok (.istore 5, 2) := by decide +kernel
theorem d_jdk_52_method_21_3 : decode jdk_52_method_21_code 3 = .ok (.iload 5, 2) := by decide +kernel
theorem d_jdk_52_method_21_5 : decode jdk_52_method_21_code 5 = .ok (.iload 4, 2) := by decide +kernel
theorem d_jdk_52_method_21_7 : decode jdk_52_method_21_code 7 = .ok (.if_icmp .ge 37, 3) := by decide +kernel
theorem d_jdk_52_method_21_10 : decode jdk_52_method_21_code 10 = .ok (.aload_n 0, 1) := by decide +kernel
theorem d_jdk_52_method_21_11 : decode jdk_52_method_21_code 11 = .ok (.iload_n 1, 1) := by decide +kernel
theorem d_jdk_52_method_21_12 : decode jdk_52_method_21_code 12 = .ok (.caload, 1) := by decide +kernel
theorem d_jdk_52_method_21_13 : decode jdk_52_method_21_code 13 = .ok (.istore 6, 2) := by decide +kernel
theorem d_jdk_52_method_21_15 : decode jdk_52_method_21_code 15 = .ok (.iload 6, 2) := by decide +kernel
theorem d_jdk_52_method_21_17 : decode jdk_52_method_21_code 17 = .ok (.sipush 255, 3) := by decide +kernel
theorem d_jdk_52_method_21_20 : decode jdk_52_method_21_code 20 = .ok (.if_icmp .le 6, 3) := by decide +kernel
theorem d_jdk_52_method_21_23 : decode jdk_52_method_21_code 23 = .ok (.iload 5, 2) := by decide +kernel
theorem d_jdk_52_method_21_25 : decode jdk_52_method_21_code 25 = .ok (.ireturn, 1) := by decide +kernel
theorem d_jdk_52_method_21_26 : decode jdk_52_method_21_code 26 = .ok (.aload_n 2, 1) := by decide +kernel
theorem d_jdk_52_method_21_27 : decode jdk_52_method_21_code 27 = .ok (.iload_n 3, 1) := by decide +kernel
theorem d_jdk_52_method_21_28 : decode jdk_52_method_21_code 28 = .ok (.iload 6, 2) := by decide +kernel
theorem d_jdk_52_method_21_30 : decode jdk_52_method_21_code 30 = .ok (.i2b, 1) := by decide +kernel
theorem d_jdk_52_method_21_31 : decode jdk_52_method_21_code 31 = .ok (.bastore, 1) := by decide +kernel
theorem d_jdk_52_method_21_32 : decode jdk_52_method_21_code 32 = .ok (.iinc 1 1, 3) := by decide +kernel
theorem d_jdk_52_method_21_35 : decode jdk_52_method_21_code 35 = .ok (.iinc 3 1, 3) := by decide +kernel
theorem d_jdk_52_method_21_38 : decode jdk_52_method_21_code 38 = .ok (.iinc 5 1, 3) := by decide +kernel
theorem d_jdk_52_method_21_41 : decode jdk_52_method_21_code 41 = .ok (.goto (-38), 3) := by decide +kernel
theorem d_jdk_52_method_21_44 : decode jdk_52_method_21_code 44 = .ok (.iload 4, 2) := by decide +kernel
theorem d_jdk_52_method_21_46 : decode jdk_52_method_21_code 46 = .ok (.ireturn, 1) := by decide +kernel
theorem d_jdk_52_method_3_0 : decode jdk_52_method_3_code 0 = .ok (.iload_n 0, 1) := by decide +kernel
theorem d_jdk_52_method_3_1 : decode jdk_52_method_3_code 1 = .ok (.ifCond .ge 11, 3) := by decide +kernel
theorem d_jdk_52_method_3_12 : decode jdk_52_method_3_code 12 = .ok (.iload_n 0, 1) := by decide +kernel
theorem d_jdk_52_method_3_13 : decode jdk_52_method_3_code 13 = .ok (.ldc 20, 2) := by decide +kernel
theorem d_jdk_52_method_3_15 : decode jdk_52_method_3_code 15 = .ok (.if_icmp .lt 40, 3) := by decide +kernel
theorem d_jdk_52_method_3_55 : decode jdk_52_method_3_code 55 = .ok (.iload_n 0, 1) := by decide +kernel
theorem d_jdk_52_method_3_56 : decode jdk_52_method_3_code 56 = .ok (.iconst 1, 1) := by decide +kernel
theorem d_jdk_52_method_3_57 : decode jdk_52_method_3_code 57 = .ok (.ishl, 1) := by decide +kernel
theorem d_jdk_52_method_3_58 : decode jdk_52_method_3_code 58 = .ok (.ireturn, 1) := by decide +kernel
theorem d_jdk_52_method_2_0 : decode jdk_52_method_2_code 0 = .ok (.iload_n 0, 1) := by decide +kernel
theorem d_jdk_52_method_2_1 : decode jdk_52_method_2_code 1 = .ok (.invokestatic 11, 3) := by decide +kernel
theorem d_jdk_52_method_2_4 : decode jdk_52_method_2_code 4 = .ok (.newarray .byte, 2) := by decide +kernel
theorem d_jdk_52_method_2_6 : decode jdk_52_method_2_code 6 = .ok (.areturn, 1) := by decide +kernel
theorem d_jdk_52_method_4_0 : decode jdk_52_method_4_code 0 = .ok (.getstatic 44, 3) := by decide +kernel
theorem d_jdk_52_method_4_3 : decode jdk_52_method_4_code 3 = .ok (.ifCond .ne 25, 3) := by decide +kernel
theorem d_jdk_52_method_4_28 : decode jdk_52_method_4_code 28 = .ok (.iload_n 1, 1) := by decide +kernel
theorem d_jdk_52_method_4_29 : decode jdk_52_method_4_code 29 = .ok (.iconst 1, 1) := by decide +kernel
theorem d_jdk_52_method_4_30 : decode jdk_52_method_4_code 30 = .ok (.ishl, 1) := by decide +kernel
theorem d_jdk_52_method_4_31 : decode jdk_52_method_4_code 31 = .ok (.istore_n 1, 1) := by decide +kernel
theorem d_jdk_52_method_4_32 : decode jdk_52_method_4_code 32 = .ok (.aload_n 0, 1) := by decide +kernel
theorem d_jdk_52_method_4_33 : decode jdk_52_method_4_code 33 = .ok (.iload_n 1, 1) := by decide +kernel
theorem d_jdk_52_method_4_34 : decode jdk_52_method_4_code 34 = .ok (.iinc 1 1, 3) := by decide +kernel
theorem d_jdk_52_method_4_37 : decode jdk_52_method_4_code 37 = .ok (.iload_n 2, 1) := by decide +kernel
theorem d_jdk_52_method_4_38 : decode jdk_52_method_4_code 38 = .ok (.getstatic 59, 3) := by decide +kernel
theorem d_jdk_52_method_4_41 : decode jdk_52_method_4_code 41 = .ok (.ishr, 1) := by decide +kernel
theorem d_jdk_52_method_4_42 : decode jdk_52_method_4_code 42 = .ok (.i2b, 1) := by decide +kernel
theorem d_jdk_52_method_4_43 : decode jdk_52_method_4_code 43 = .ok (.bastore, 1) := by decide +kernel
theorem d_jdk_52_method_4_44 : decode jdk_52_method_4_code 44 = .ok (.aload_n 0, 1) := by decide +kernel
theorem d_jdk_52_method_4_45 : decode jdk_52_method_4_code 45 = .ok (.iload_n 1, 1) := by decide +kernel
theorem d_jdk_52_method_4_46 : decode jdk_52_method_4_code 46 = .ok (.iload_n 2, 1) := by decide +kernel
theorem d_jdk_52_method_4_47 : decode jdk_52_method_4_code 47 = .ok (.getstatic 63, 3) := by decide +kernel
theorem d_jdk_52_method_4_50 : decode jdk_52_method_4_code 50 = .ok (.ishr, 1) := by decide +kernel
theorem d_jdk_52_method_4_51 : decode jdk_52_method_4_code 51 = .ok (.i2b, 1) := by decide +kernel
theorem d_jdk_52_method_4_52 : decode jdk_52_method_4_code 52 = .ok (.bastore, 1) := by decide +kernel
theorem d_jdk_52_method_4_53 : decode jdk_52_method_4_code 53 = .ok (.return_, 1) := by decide +kernel
theorem d_jdk_52_method_14_0 : decode jdk_52_method_14_code 0 = .ok (.iload_n 2, 1) := by decide +kernel
theorem d_jdk_52_method_14_1 : decode jdk_52_method_14_code 1 = .ok (.invokestatic 107, 3) := by decide +kernel
theorem d_jdk_52_method_14_4 : decode jdk_52_method_14_code 4 = .ok (.astore_n 3, 1) := by decide +kernel
theorem d_jdk_52_method_14_5 : decode jdk_52_method_14_code 5 = .ok (.iconst 0, 1) := by decide +kernel
theorem d_jdk_52_method_14_6 : decode jdk_52_method_14_code 6 = .ok (.istore 4, 2) := by decide +kernel
theorem d_jdk_52_method_14_8 : decode jdk_52_method_14_code 8 = .ok (.iload 4, 2) := by decide +kernel
theorem d_jdk_52_method_14_10 : decode jdk_52_method_14_code 10 = .ok (.iload_n 2, 1) := by decide +kernel
theorem d_jdk_52_method_14_11 : decode jdk_52_method_14_code 11 = .ok (.if_icmp .ge 21, 3) := by decide +kernel
theorem d_jdk_52_method_14_14 : decode jdk_52_method_14_code 14 = .ok (.aload_n 3, 1) := by decide +kernel
theorem d_jdk_52_method_14_15 : decode jdk_52_method_14_code 15 = .ok (.iload 4, 2) := by decide +kernel
theorem d_jdk_52_method_14_17 : decode jdk_52_method_14_code 17 = .ok (.aload_n 0, 1) := by decide +kernel
theorem d_jdk_52_method_14_18 : decode jdk_52_method_14_code 18 = .ok (.iload_n 1, 1) := by decide +kernel
theorem d_jdk_52_method_14_19 : decode jdk_52_method_14_code 19 = .ok (.caload, 1) := by decide +kernel
theorem d_jdk_52_method_14_20 : decode jdk_52_method_14_code 20 = .ok (.invokestatic 111, 3) := by decide +kernel
theorem d_jdk_52_method_14_23 : decode jdk_52_method_14_code 23 = .ok (.iinc 1 1, 3) := by decide +kernel
theorem d_jdk_52_method_14_26 : decode jdk_52_method_14_code 26 = .ok (.iinc 4 1, 3) := by decide +kernel
theorem d_jdk_52_method_14_29 : decode jdk_52_method_14_code 29 = .ok (.goto (-21), 3) := by decide +kernel
theorem d_jdk_52_method_14_32 : decode jdk_52_method_14_code 32 = .ok (.aload_n 3, 1) := by decide +kernel
theorem d_jdk_52_method_14_33 : decode jdk_52_method_14_code 33 = .ok (.areturn, 1) := by decide +kernel
theorem d_jdk_52_method_5_0 : decode jdk_52_method_5_code 0 = .ok (.getstatic 44, 3) := by decide +kernel
theorem d_jdk_52_method_5_3 : decode jdk_52_method_5_code 3 = .ok (.ifCond .ne 25, 3) := by decide +kernel
theorem d_jdk_52_method_5_28 : decode jdk_52_method_5_code 28 = .ok (.iload_n 1, 1) := by decide +kernel
theorem d_jdk_52_method_5_29 : decode jdk_52_method_5_code 29 = .ok (.iconst 1, 1) := by decide +kernel
theorem d_jdk_52_method_5_30 : decode jdk_52_method_5_code 30 = .ok (.ishl, 1) := by decide +kernel
theorem d_jdk_52_method_5_31 : decode jdk_52_method_5_code 31 = .ok (.istore_n 1, 1) := by decide +kernel
theorem d_jdk_52_method_5_32 : decode jdk_52_method_5_code 32 = .ok (.aload_n 0, 1) := by decide +kernel
theorem d_jdk_52_method_5_33 : decode jdk_52_method_5_code 33 = .ok (.iload_n 1, 1) := by decide +kernel
theorem d_jdk_52_method_5_34 : decode jdk_52_method_5_code 34 = .ok (.iinc 1 1, 3) := by decide +kernel
theorem d_jdk_52_method_5_37 : decode jdk_52_method_5_code 37 = .ok (.baload, 1) := by decide +kernel
theorem d_jdk_52_method_5_38 : decode jdk_52_method_5_code 38 = .ok (.sipush 255, 3) := by decide +kernel
theorem d_jdk_52_method_5_41 : decode jdk_52_method_5_code 41 = .ok (.iand, 1) := by decide +kernel
theorem d_jdk_52_method_5_42 : decode jdk_52_method_5_code 42 = .ok (.getstatic 59, 3) := by decide +kernel
theorem d_jdk_52_method_5_45 : decode jdk_52_method_5_code 45 = .ok (.ishl, 1) := by decide +kernel
theorem d_jdk_52_method_5_46 : decode jdk_52_method_5_code 46 = .ok (.aload_n 0, 1) := by decide +kernel
theorem d_jdk_52_method_5_47 : decode jdk_52_method_5_code 47 = .ok (.iload_n 1, 1) := by decide +kernel
theorem d_jdk_52_method_5_48 : decode jdk_52_method_5_code 48 = .ok (.baload, 1) := by decide +kernel
theorem d_jdk_52_method_5_49 : decode jdk_52_method_5_code 49 = .ok (.sipush 255, 3) := by decide +kernel
theorem d_jdk_52_method_5_52 : decode jdk_52_method_5_code 52 = .ok (.iand, 1) := by decide +kernel
theorem d_jdk_52_method_5_53 : decode jdk_52_method_5_code 53 = .ok (.getstatic 63, 3) := by decide +kernel
theorem d_jdk_52_method_5_56 : decode jdk_52_method_5_code 56 = .ok (.ishl, 1) := by decide +kernel
theorem d_jdk_52_method_5_57 : decode jdk_52_method_5_code 57 = .ok (.ior, 1) := by decide +kernel
theorem d_jdk_52_method_5_58 : decode jdk_52_method_5_code 58 = .ok (.i2c, 1) := by decide +kernel
theorem d_jdk_52_method_5_59 : decode jdk_52_method_5_code 59 = .ok (.ireturn, 1) := by decide +kernel
theorem d_jdk_52_method_16_0 : decode jdk_52_method_16_code 0 = .ok (.iload_n 2, 1) := by decide +kernel
theorem d_jdk_52_method_16_1 : decode jdk_52_method_16_code 1 = .ok (.newarray .byte, 2) := by decide +kernel
theorem d_jdk_52_method_16_3 : decode jdk_52_method_16_code 3 = .ok (.astore_n 3, 1) := by decide +kernel
theorem d_jdk_52_method_16_4 : decode jdk_52_method_16_code 4 = .ok (.aload_n 0, 1) := by decide +kernel
theorem d_jdk_52_method_16_5 : decode jdk_52_method_16_code 5 = .ok (.iload_n 1, 1) := by decide +kernel
theorem d_jdk_52_method_16_6 : decode jdk_52_method_16_code 6 = .ok (.aload_n 3, 1) := by decide +kernel
theorem d_jdk_52_method_16_7 : decode jdk_52_method_16_code 7 = .ok (.iconst 0, 1) := by decide +kernel
theorem d_jdk_52_method_16_8 : decode jdk_52_method_16_code 8 = .ok (.iload_n 2, 1) := by decide +kernel
theorem d_jdk_52_method_16_9 : decode jdk_52_method_16_code 9 = .ok (.invokestatic 115, 3) := by decide +kernel
theorem d_jdk_52_method_16_12 : decode jdk_52_method_16_code 12 = .ok (.istore 4, 2) := by decide +kernel
theorem d_jdk_52_method_16_14 : decode jdk_52_method_16_code 14 = .ok (.iload 4, 2) := by decide +kernel
theorem d_jdk_52_method_16_16 : decode jdk_52_method_16_code 16 = .ok (.iload_n 2, 1) := by decide +kernel
theorem d_jdk_52_method_16_17 : decode jdk_52_method_16_code 17 = .ok (.if_icmp .eq 40, 3) := by decide +kernel
theorem d_jdk_52_method_16_20 : decode jdk_52_method_16_code 20 = .ok (.aload_n 0, 1) := by decide +kernel
theorem d_jdk_52_method_16_21 : decode jdk_52_method_16_code 21 = .ok (.iload_n 1, 1) := by decide +kernel
theorem d_jdk_52_method_16_22 : decode jdk_52_method_16_code 22 = .ok (.iload_n 2, 1) := by decide +kernel
theorem d_jdk_52_method_16_23 : decode jdk_52_method_16_code 23 = .ok (.invokestatic 119, 3) := by decide +kernel
theorem d_jdk_52_method_16_26 : decode jdk_52_method_16_code 26 = .ok (.astore 5, 2) := by decide +kernel
theorem d_jdk_52_method_16_28 : decode jdk_52_method_16_code 28 = .ok (.aload 5, 2) := by decide +kernel
theorem d_jdk_52_method_16_30 : decode jdk_52_method_16_code 30 = .ok (.iload 4, 2) := by decide +kernel
theorem d_jdk_52_method_16_32 : decode jdk_52_method_16_code 32 = .ok (.invokestatic 71, 3) := by decide +kernel
theorem d_jdk_52_method_16_35 : decode jdk_52_method_16_code 35 = .ok (.sipush 255, 3) := by decide +kernel
theorem d_jdk_52_method_16_38 : decode jdk_52_method_16_code 38 = .ok (.if_icmp .gt 16, 3) := by decide +kernel
theorem d_jdk_52_method_16_54 : decode jdk_52_method_16_code 54 = .ok (.aload 5, 2) := by decide +kernel
theorem d_jdk_52_method_16_56 : decode jdk_52_method_16_code 56 = .ok (.areturn, 1) := by decide +kernel
theorem d_jdk_52_method_16_57 : decode jdk_52_method_16_code 57 = .ok (.aload_n 3, 1) := by decide +kernel
theorem d_jdk_52_method_16_58 : decode jdk_52_method_16_code 58 = .ok (.areturn, 1) := by decide +kernel
theorem d_jdk_52_method_15_0 : decode jdk_52_method_15_code 0 = .ok (.iload_n 1, 1) := by decide +kernel
theorem d_jdk_52_method_15_1 : decode jdk_52_method_15_code 1 = .ok (.aload_n 0, 1) := by decide +kernel
theorem d_jdk_52_method_15_2 : decode jdk_52_method_15_code 2 = .ok (.arraylength, 1) := by decide +kernel
theorem d_jdk_52_method_15_3 : decode jdk_52_method_15_code 3 = .ok (.isub, 1) := by decide +kernel
theorem d_jdk_52_method_15_4 : decode jdk_52_method_15_code 4 = .ok (.bipush 31, 2) := by decide +kernel
theorem d_jdk_52_method_15_6 : decode jdk_52_method_15_code 6 = .ok (.iushr, 1) := by decide +kernel
theorem d_jdk_52_method_15_7 : decode jdk_52_method_15_code 7 = .ok (.i2b, 1) := by decide +kernel
theorem d_jdk_52_method_15_8 : decode jdk_52_method_15_code 8 = .ok (.ireturn, 1) := by decide +kernel
theorem d_jdk_42_method_149_27 : decode jdk_42_method_149_code 27 = .ok (.getstatic 38, 3) := by decide +kernel
theorem d_jdk_42_method_149_30 : decode jdk_42_method_149_code 30 = .ok (.ifCond .eq 28, 3) := by decide +kernel
theorem d_jdk_42_method_149_33 : decode jdk_42_method_149_code 33 = .ok (.aload_n 1, 1) := by decide +kernel
theorem d_jdk_42_method_149_34 : decode jdk_42_method_149_code 34 = .ok (.iload_n 2, 1) := by decide +kernel
theorem d_jdk_42_method_149_35 : decode jdk_42_method_149_code 35 = .ok (.iload_n 3, 1) := by decide +kernel
theorem d_jdk_42_method_149_36 : decode jdk_42_method_149_code 36 = .ok (.invokestatic 177, 3) := by decide +kernel
theorem d_jdk_42_method_149_39 : decode jdk_42_method_149_code 39 = .ok (.astore 5, 2) := by decide +kernel
theorem d_jdk_42_method_149_41 : decode jdk_42_method_149_code 41 = .ok (.aload_n 0, 1) := by decide +kernel
theorem d_jdk_42_method_149_42 : decode jdk_42_method_149_code 42 = .ok (.aload 5, 2) := by decide +kernel
theorem d_jdk_42_method_149_44 : decode jdk_42_method_149_code 44 = .ok (.iload_n 3, 1) := by decide +kernel
theorem d_jdk_42_method_149_45 : decode jdk_42_method_149_code 45 = .ok (.invokestatic 47, 3) := by decide +kernel
theorem d_jdk_42_method_149_48 : decode jdk_42_method_149_code 48 = .ok (.putfield 15, 3) := by decide +kernel
theorem d_jdk_42_method_149_51 : decode jdk_42_method_149_code 51 = .ok (.aload_n 0, 1) := by decide +kernel
theorem d_jdk_42_method_149_52 : decode jdk_42_method_149_code 52 = .ok (.aload 5, 2) := by decide +kernel
theorem d_jdk_42_method_149_54 : decode jdk_42_method_149_code 54 = .ok (.putfield 9, 3) := by decide +kernel
theorem d_jdk_42_method_149_57 : decode jdk_42_method_149_code 57 = .ok (.return_, 1) := by decide +kernel
theorem d_method_4_0 : decode method_4_code 0 = .ok (.iload_n 1, 1) := by decide +kernel
theorem d_method_4_1 : decode method_4_code 1 = .ok (.ifCond .ne 14, 3) := by decide +kernel
theorem d_method_4_4 : decode method_4_code 4 = .ok (.new 36, 3) := by decide +kernel
theorem d_method_4_7 : decode method_4_code 7 = .ok (.dup, 1) := by decide +kernel
theorem d_method_4_8 : decode method_4_code 8 = .ok (.iconst 0, 1) := by decide +kernel
theorem d_method_4_9 : decode method_4_code 9 = .ok (.newarray .char, 2) := by decide +kernel
theorem d_method_4_11 : decode method_4_code 11 = .ok (.invokespecial 38, 3) := by decide +kernel
theorem d_method_4_14 : decode method_4_code 14 = .ok (.areturn, 1) := by decide +kernel
theorem d_method_4_15 : decode method_4_code 15 = .ok (.iload_n 1, 1) := by decide +kernel
theorem d_method_4_16 : decode method_4_code 16 = .ok (.iconst 1, 1) := by decide +kernel
theorem d_method_4_17 : decode method_4_code 17 = .ok (.if_icmp .ne 20, 3) := by decide +kernel
theorem d_method_4_20 : decode method_4_code 20 = .ok (.new 36, 3) := by decide +kernel
theorem d_method_4_23 : decode method_4_code 23 = .ok (.dup, 1) := by decide +kernel
theorem d_method_4_24 : decode method_4_code 24 = .ok (.iconst 1, 1) := by decide +kernel
theorem d_method_4_25 : decode method_4_code 25 = .ok (.newarray .char, 2) := by decide +kernel
theorem d_method_4_27 : decode method_4_code 27 = .ok (.dup, 1) := by decide +kernel
theorem d_method_4_28 : decode method_4_code 28 = .ok (.iconst 0, 1) := by decide +kernel
theorem d_method_4_29 : decode method_4_code 29 = .ok (.aload_n 0, 1) := by decide +kernel
theorem d_method_4_30 : decode method_4_code 30 = .ok (.iconst 0, 1) := by decide +kernel
theorem d_method_4_31 : decode method_4_code 31 = .ok (.caload, 1) := by decide +kernel
theorem d_method_4_32 : decode method_4_code 32 = .ok (.castore, 1) := by decide +kernel
theorem d_method_4_33 : decode method_4_code 33 = .ok (.invokespecial 38, 3) := by decide +kernel
theorem d_method_4_36 : decode method_4_code 36 = .ok (.areturn, 1) := by decide +kernel
theorem d_method_4_37 : decode method_4_code 37 = .ok (.iload_n 1, 1) := by decide +kernel
theorem d_method_4_38 : decode method_4_code 38 = .ok (.iconst 2, 1) := by decide +kernel
theorem d_method_4_39 : decode method_4_code 39 = .ok (.if_icmp .ne 26, 3) := by decide +kernel
theorem d_method_4_42 : decode method_4_code 42 = .ok (.new 36, 3) := by decide +kernel
theorem d_method_4_45 : decode method_4_code 45 = .ok (.dup, 1) := by decide +kernel
theorem d_method_4_46 : decode method_4_code 46 = .ok (.iconst 2, 1) := by decide +kernel
theorem d_method_4_47 : decode method_4_code 47 = .ok (.newarray .char, 2) := by decide +kernel
theorem d_method_4_49 : decode method_4_code 49 = .ok (.dup, 1) := by decide +kernel
theorem d_method_4_50 : decode method_4_code 50 = .ok (.iconst 0, 1) := by decide +kernel
theorem d_method_4_51 : decode method_4_code 51 = .ok (.aload_n 0, 1) := by decide +kernel
theorem d_method_4_52 : decode method_4_code 52 = .ok (.iconst 0, 1) := by decide +kernel
theorem d_method_4_53 : decode method_4_code 53 = .ok (.caload, 1) := by decide +kernel
theorem d_method_4_54 : decode method_4_code 54 = .ok (.castore, 1) := by decide +kernel
theorem d_method_4_55 : decode method_4_code 55 = .ok (.dup, 1) := by decide +kernel
theorem d_method_4_56 : decode method_4_code 56 = .ok (.iconst 1, 1) := by decide +kernel
theorem d_method_4_57 : decode method_4_code 57 = .ok (.aload_n 0, 1) := by decide +kernel
theorem d_method_4_58 : decode method_4_code 58 = .ok (.iconst 1, 1) := by decide +kernel
theorem d_method_4_59 : decode method_4_code 59 = .ok (.caload, 1) := by decide +kernel
theorem d_method_4_60 : decode method_4_code 60 = .ok (.castore, 1) := by decide +kernel
theorem d_method_4_61 : decode method_4_code 61 = .ok (.invokespecial 38, 3) := by decide +kernel
theorem d_method_4_64 : decode method_4_code 64 = .ok (.areturn, 1) := by decide +kernel
theorem d_method_4_65 : decode method_4_code 65 = .ok (.new 36, 3) := by decide +kernel
theorem d_method_4_68 : decode method_4_code 68 = .ok (.dup, 1) := by decide +kernel
theorem d_method_4_69 : decode method_4_code 69 = .ok (.iconst 3, 1) := by decide +kernel
theorem d_method_4_70 : decode method_4_code 70 = .ok (.newarray .char, 2) := by decide +kernel
theorem d_method_4_72 : decode method_4_code 72 = .ok (.dup, 1) := by decide +kernel
theorem d_method_4_73 : decode method_4_code 73 = .ok (.iconst 0, 1) := by decide +kernel
theorem d_method_4_74 : decode method_4_code 74 = .ok (.aload_n 0, 1) := by decide +kernel
theorem d_method_4_75 : decode method_4_code 75 = .ok (.iconst 0, 1) := by decide +kernel
theorem d_method_4_76 : decode method_4_code 76 = .ok (.caload, 1) := by decide +kernel
theorem d_method_4_77 : decode method_4_code 77 = .ok (.castore, 1) := by decide +kernel
theorem d_method_4_78 : decode method_4_code 78 = .ok (.dup, 1) := by decide +kernel
theorem d_method_4_79 : decode method_4_code 79 = .ok (.iconst 1, 1) := by decide +kernel
theorem d_method_4_80 : decode method_4_code 80 = .ok (.aload_n 0, 1) := by decide +kernel
theorem d_method_4_81 : decode method_4_code 81 = .ok (.iconst 1, 1) := by decide +kernel
theorem d_method_4_82 : decode method_4_code 82 = .ok (.caload, 1) := by decide +kernel
theorem d_method_4_83 : decode method_4_code 83 = .ok (.castore, 1) := by decide +kernel
theorem d_method_4_84 : decode method_4_code 84 = .ok (.dup, 1) := by decide +kernel
theorem d_method_4_85 : decode method_4_code 85 = .ok (.iconst 2, 1) := by decide +kernel
theorem d_method_4_86 : decode method_4_code 86 = .ok (.aload_n 0, 1) := by decide +kernel
theorem d_method_4_87 : decode method_4_code 87 = .ok (.iconst 2, 1) := by decide +kernel
theorem d_method_4_88 : decode method_4_code 88 = .ok (.caload, 1) := by decide +kernel
theorem d_method_4_89 : decode method_4_code 89 = .ok (.castore, 1) := by decide +kernel
theorem d_method_4_90 : decode method_4_code 90 = .ok (.invokespecial 38, 3) := by decide +kernel
theorem d_method_4_93 : decode method_4_code 93 = .ok (.areturn, 1) := by decide +kernel
theorem d_method_5_0 : decode method_5_code 0 = .ok (.iload_n 0, 1) := by decide +kernel
theorem d_method_5_1 : decode method_5_code 1 = .ok (.ldc 35, 2) := by decide +kernel
theorem d_method_5_3 : decode method_5_code 3 = .ok (.if_icmp .lt 13, 3) := by decide +kernel
theorem d_method_5_16 : decode method_5_code 16 = .ok (.iconst 0, 1) := by decide +kernel
theorem d_method_5_17 : decode method_5_code 17 = .ok (.ireturn, 1) := by decide +kernel
theorem d_method_5_6 : decode method_5_code 6 = .ok (.iload_n 0, 1) := by decide +kernel
theorem d_method_5_7 : decode method_5_code 7 = .ok (.ldc 41, 2) := by decide +kernel
theorem d_method_5_9 : decode method_5_code 9 = .ok (.if_icmp .gt 7, 3) := by decide +kernel
theorem d_method_5_12 : decode method_5_code 12 = .ok (.iconst 1, 1) := by decide +kernel
theorem d_method_5_13 : decode method_5_code 13 = .ok (.goto 4, 3) := by decide +kernel
theorem d_method_6_0 : decode method_6_code 0 = .ok (.iload_n 0, 1) := by decide +kernel
theorem d_method_6_1 : decode method_6_code 1 = .ok (.ldc 42, 2) := by decide +kernel
theorem d_method_6_3 : decode method_6_code 3 = .ok (.if_icmp .lt 13, 3) := by decide +kernel
theorem d_method_6_16 : decode method_6_code 16 = .ok (.iconst 0, 1) := by decide +kernel
theorem d_method_6_17 : decode method_6_code 17 = .ok (.ireturn, 1) := by decide +kernel
theorem d_method_6_6 : decode method_6_code 6 = .ok (.iload_n 0, 1) := by decide +kernel
theorem d_method_6_7 : decode method_6_code 7 = .ok (.ldc 43, 2) := by decide +kernel
theorem d_method_6_9 : decode method_6_code 9 = .ok (.if_icmp .gt 7, 3) := by decide +kernel
theorem d_method_6_12 : decode method_6_code 12 = .ok (.iconst 1, 1) := by decide +kernel
theorem d_method_6_13 : decode method_6_code 13 = .ok (.goto 4, 3) := by decide +kernel
theorem d_jdk_89_method_14_0 : decode jdk_89_method_14_code 0 = .ok (.iload_n 0, 1) := by decide +kernel
theorem d_jdk_89_method_14_1 : decode jdk_89_method_14_code 1 = .ok (.ldc 75, 2) := by decide +kernel
theorem d_jdk_89_method_14_3 : decode jdk_89_method_14_code 3 = .ok (.if_icmp .lt 13, 3) := by decide +kernel
theorem d_jdk_89_method_14_16 : decode jdk_89_method_14_code 16 = .ok (.iconst 0, 1) := by decide +kernel
theorem d_jdk_89_method_14_17 : decode jdk_89_method_14_code 17 = .ok (.ireturn, 1) := by decide +kernel
theorem d_jdk_89_method_14_6 : decode jdk_89_method_14_code 6 = .ok (.iload_n 0, 1) := by decide +kernel
theorem d_jdk_89_method_14_7 : decode jdk_89_method_14_code 7 = .ok (.ldc 76, 2) := by decide +kernel
theorem d_jdk_89_method_14_9 : decode jdk_89_method_14_code 9 = .ok (.if_icmp .ge 7, 3) := by decide +kernel
theorem d_jdk_89_method_14_12 : decode jdk_89_method_14_code 12 = .ok (.iconst 1, 1) := by decide +kernel
theorem d_jdk_89_method_14_13 : decode jdk_89_method_14_code 13 = .ok (.goto 4, 3) := by decide +kernel
theorem d_jdk_89_method_15_0 : decode jdk_89_method_15_code 0 = .ok (.iload_n 0, 1) := by decide +kernel
theorem d_jdk_89_method_15_1 : decode jdk_89_method_15_code 1 = .ok (.ldc 76, 2) := by decide +kernel
theorem d_jdk_89_method_15_3 : decode jdk_89_method_15_code 3 = .ok (.if_icmp .lt 13, 3) := by decide +kernel
theorem d_jdk_89_method_15_16 : decode jdk_89_method_15_code 16 = .ok (.iconst 0, 1) := by decide +kernel
theorem d_jdk_89_method_15_17 : decode jdk_89_method_15_code 17 = .ok (.ireturn, 1) := by decide +kernel
theorem d_jdk_89_method_15_6 : decode jdk_89_method_15_code 6 = .ok (.iload_n 0, 1) := by decide +kernel
theorem d_jdk_89_method_15_7 : decode jdk_89_method_15_code 7 = .ok (.ldc 77, 2) := by decide +kernel
theorem d_jdk_89_method_15_9 : decode jdk_89_method_15_code 9 = .ok (.if_icmp .ge 7, 3) := by decide +kernel
theorem d_jdk_89_method_15_12 : decode jdk_89_method_15_code 12 = .ok (.iconst 1, 1) := by decide +kernel
theorem d_jdk_89_method_15_13 : decode jdk_89_method_15_code 13 = .ok (.goto 4, 3) := by decide +kernel
theorem d_method_7_0 : decode method_7_code 0 = .ok (.iload_n 2, 1) := by decide +kernel
theorem d_method_7_1 : decode method_7_code 1 = .ok (.iload_n 1, 1) := by decide +kernel
theorem d_method_7_2 : decode method_7_code 2 = .ok (.if_icmp .lt 5, 3) := by decide +kernel
theorem d_method_7_5 : decode method_7_code 5 = .ok (.iconst 0, 1) := by decide +kernel
theorem d_method_7_6 : decode method_7_code 6 = .ok (.ireturn, 1) := by decide +kernel
theorem d_method_7_7 : decode method_7_code 7 = .ok (.iload_n 2, 1) := by decide +kernel
theorem d_method_7_8 : decode method_7_code 8 = .ok (.iconst 1, 1) := by decide +kernel
theorem d_method_7_9 : decode method_7_code 9 = .ok (.iadd, 1) := by decide +kernel
theorem d_method_7_10 : decode method_7_code 10 = .ok (.iload_n 1, 1) := by decide +kernel
theorem d_method_7_11 : decode method_7_code 11 = .ok (.if_icmp .ge 25, 3) := by decide +kernel
theorem d_method_7_36 : decode method_7_code 36 = .ok (.iconst 1, 1) := by decide +kernel
theorem d_method_7_37 : decode method_7_code 37 = .ok (.ireturn, 1) := by decide +kernel
theorem d_method_7_14 : decode method_7_code 14 = .ok (.aload_n 0, 1) := by decide +kernel
theorem d_method_7_15 : decode method_7_code 15 = .ok (.iload_n 2, 1) := by decide +kernel
theorem d_method_7_16 : decode method_7_code 16 = .ok (.caload, 1) := by decide +kernel
theorem d_method_7_17 : decode method_7_code 17 = .ok (.invokestatic 44, 3) := by decide +kernel
theorem d_method_7_20 : decode method_7_code 20 = .ok (.ifCond .eq 16, 3) := by decide +kernel
theorem d_method_7_23 : decode method_7_code 23 = .ok (.aload_n 0, 1) := by decide +kernel
theorem d_method_7_24 : decode method_7_code 24 = .ok (.iload_n 2, 1) := by decide +kernel
theorem d_method_7_25 : decode method_7_code 25 = .ok (.iconst 1, 1) := by decide +kernel
theorem d_method_7_26 : decode method_7_code 26 = .ok (.iadd, 1) := by decide +kernel
theorem d_method_7_27 : decode method_7_code 27 = .ok (.caload, 1) := by decide +kernel
theorem d_method_7_28 : decode method_7_code 28 = .ok (.invokestatic 48, 3) := by decide +kernel
theorem d_method_7_31 : decode method_7_code 31 = .ok (.ifCond .eq 5, 3) := by decide +kernel
theorem d_method_7_34 : decode method_7_code 34 = .ok (.iconst 2, 1) := by decide +kernel
theorem d_method_7_35 : decode method_7_code 35 = .ok (.ireturn, 1) := by decide +kernel
theorem d_method_8_0 : decode method_8_code 0 = .ok (.iload_n 2, 1) := by decide +kernel
theorem d_method_8_1 : decode method_8_code 1 = .ok (.ifCond .ne 5, 3) := by decide +kernel
theorem d_method_8_4 : decode method_8_code 4 = .ok (.iconst 0, 1) := by decide +kernel
theorem d_method_8_5 : decode method_8_code 5 = .ok (.ireturn, 1) := by decide +kernel
theorem d_method_8_6 : decode method_8_code 6 = .ok (.iload_n 2, 1) := by decide +kernel
theorem d_method_8_7 : decode method_8_code 7 = .ok (.iconst 1, 1) := by decide +kernel
theorem d_method_8_8 : decode method_8_code 8 = .ok (.if_icmp .ne 7, 3) := by decide +kernel
theorem d_method_8_11 : decode method_8_code 11 = .ok (.aload_n 0, 1) := by decide +kernel
theorem d_method_8_12 : decode method_8_code 12 = .ok (.iload_n 1, 1) := by decide +kernel
theorem d_method_8_13 : decode method_8_code 13 = .ok (.caload, 1) := by decide +kernel
theorem d_method_8_14 : decode method_8_code 14 = .ok (.ireturn, 1) := by decide +kernel
theorem d_method_8_15 : decode method_8_code 15 = .ok (.aload_n 0, 1) := by decide +kernel
theorem d_method_8_16 : decode method_8_code 16 = .ok (.iload_n 1, 1) := by decide +kernel
theorem d_method_8_17 : decode method_8_code 17 = .ok (.caload, 1) := by decide +kernel
theorem d_method_8_18 : decode method_8_code 18 = .ok (.ldc 35, 2) := by decide +kernel
theorem d_method_8_20 : decode method_8_code 20 = .ok (.isub, 1) := by decide +kernel
theorem d_method_8_21 : decode method_8_code 21 = .ok (.bipush 10, 2) := by decide +kernel
theorem d_method_8_23 : decode method_8_code 23 = .ok (.ishl, 1) := by decide +kernel
theorem d_method_8_24 : decode method_8_code 24 = .ok (.aload_n 0, 1) := by decide +kernel
theorem d_method_8_25 : decode method_8_code 25 = .ok (.iload_n 1, 1) := by decide +kernel
theorem d_method_8_26 : decode method_8_code 26 = .ok (.iconst 1, 1) := by decide +kernel
theorem d_method_8_27 : decode method_8_code 27 = .ok (.iadd, 1) := by decide +kernel
theorem d_method_8_28 : decode method_8_code 28 = .ok (.caload, 1) := by decide +kernel
theorem d_method_8_29 : decode method_8_code 29 = .ok (.ldc 42, 2) := by decide +kernel
theorem d_method_8_31 : decode method_8_code 31 = .ok (.isub, 1) := by decide +kernel
theorem d_method_8_32 : decode method_8_code 32 = .ok (.iadd, 1) := by decide +kernel
theorem d_method_8_33 : decode method_8_code 33 = .ok (.ldc 51, 2) := by decide +kernel
theorem d_method_8_35 : decode method_8_code 35 = .ok (.iadd, 1) := by decide +kernel
theorem d_method_8_36 : decode method_8_code 36 = .ok (.ireturn, 1) := by decide +kernel
theorem d_method_9_0 : decode method_9_code 0 = .ok (.aload_n 0, 1) := by decide +kernel
theorem d_method_9_1 : decode method_9_code 1 = .ok (.iload_n 1, 1) := by decide +kernel
theorem d_method_9_2 : decode method_9_code 2 = .ok (.iconst 0, 1) := by decide +kernel
theorem d_method_9_3 : decode method_9_code 3 = .ok (.invokestatic 52, 3) := by decide +kernel
theorem d_method_9_6 : decode method_9_code 6 = .ok (.istore_n 3, 1) := by decide +kernel
theorem d_method_9_7 : decode method_9_code 7 = .ok (.aload_n 2, 1) := by decide +kernel
theorem d_method_9_8 : decode method_9_code 8 = .ok (.iconst 0, 1) := by decide +kernel
theorem d_method_9_9 : decode method_9_code 9 = .ok (.aload_n 0, 1) := by decide +kernel
theorem d_method_9_10 : decode method_9_code 10 = .ok (.iconst 0, 1) := by decide +kernel
theorem d_method_9_11 : decode method_9_code 11 = .ok (.iload_n 3, 1) := by decide +kernel
theorem d_method_9_12 : decode method_9_code 12 = .ok (.invokestatic 56, 3) := by decide +kernel
theorem d_method_9_15 : decode method_9_code 15 = .ok (.iastore, 1) := by decide +kernel
theorem d_method_9_16 : decode method_9_code 16 = .ok (.iload_n 3, 1) := by decide +kernel
theorem d_method_9_17 : decode method_9_code 17 = .ok (.istore 4, 2) := by decide +kernel
theorem d_method_9_19 : decode method_9_code 19 = .ok (.aload_n 0, 1) := by decide +kernel
theorem d_method_9_20 : decode method_9_code 20 = .ok (.iload_n 1, 1) := by decide +kernel
theorem d_method_9_21 : decode method_9_code 21 = .ok (.iload 4, 2) := by decide +kernel
theorem d_method_9_23 : decode method_9_code 23 = .ok (.invokestatic 52, 3) := by decide +kernel
theorem d_method_9_26 : decode method_9_code 26 = .ok (.istore 5, 2) := by decide +kernel
theorem d_method_9_28 : decode method_9_code 28 = .ok (.aload_n 2, 1) := by decide +kernel
theorem d_method_9_29 : decode method_9_code 29 = .ok (.iconst 1, 1) := by decide +kernel
theorem d_method_9_30 : decode method_9_code 30 = .ok (.aload_n 0, 1) := by decide +kernel
theorem d_method_9_31 : decode method_9_code 31 = .ok (.iload 4, 2) := by decide +kernel
theorem d_method_9_33 : decode method_9_code 33 = .ok (.iload 5, 2) := by decide +kernel
theorem d_method_9_35 : decode method_9_code 35 = .ok (.invokestatic 56, 3) := by decide +kernel
theorem d_method_9_38 : decode method_9_code 38 = .ok (.iastore, 1) := by decide +kernel
theorem d_method_9_39 : decode method_9_code 39 = .ok (.iload 4, 2) := by decide +kernel
theorem d_method_9_41 : decode method_9_code 41 = .ok (.iload 5, 2) := by decide +kernel
theorem d_method_9_43 : decode method_9_code 43 = .ok (.iadd, 1) := by decide +kernel
theorem d_method_9_44 : decode method_9_code 44 = .ok (.istore 6, 2) := by decide +kernel
theorem d_method_9_46 : decode method_9_code 46 = .ok (.aload_n 0, 1) := by decide +kernel
theorem d_method_9_47 : decode method_9_code 47 = .ok (.iload_n 1, 1) := by decide +kernel
theorem d_method_9_48 : decode method_9_code 48 = .ok (.iload 6, 2) := by decide +kernel
theorem d_method_9_50 : decode method_9_code 50 = .ok (.invokestatic 52, 3) := by decide +kernel
theorem d_method_9_53 : decode method_9_code 53 = .ok (.istore 7, 2) := by decide +kernel
theorem d_method_9_55 : decode method_9_code 55 = .ok (.aload_n 2, 1) := by decide +kernel
theorem d_method_9_56 : decode method_9_code 56 = .ok (.iconst 2, 1) := by decide +kernel
theorem d_method_9_57 : decode method_9_code 57 = .ok (.aload_n 0, 1) := by decide +kernel
theorem d_method_9_58 : decode method_9_code 58 = .ok (.iload 6, 2) := by decide +kernel
theorem d_method_9_60 : decode method_9_code 60 = .ok (.iload 7, 2) := by decide +kernel
theorem d_method_9_62 : decode method_9_code 62 = .ok (.invokestatic 56, 3) := by decide +kernel
theorem d_method_9_65 : decode method_9_code 65 = .ok (.iastore, 1) := by decide +kernel
theorem d_method_9_66 : decode method_9_code 66 = .ok (.aload_n 2, 1) := by decide +kernel
theorem d_method_9_67 : decode method_9_code 67 = .ok (.iconst 3, 1) := by decide +kernel
theorem d_method_9_68 : decode method_9_code 68 = .ok (.iload_n 3, 1) := by decide +kernel
theorem d_method_9_69 : decode method_9_code 69 = .ok (.ifCond .le 7, 3) := by decide +kernel
theorem d_method_9_76 : decode method_9_code 76 = .ok (.iconst 0, 1) := by decide +kernel
theorem d_method_9_77 : decode method_9_code 77 = .ok (.iload 5, 2) := by decide +kernel
theorem d_method_9_79 : decode method_9_code 79 = .ok (.ifCond .le 7, 3) := by decide +kernel
theorem d_method_9_86 : decode method_9_code 86 = .ok (.iconst 0, 1) := by decide +kernel
theorem d_method_9_87 : decode method_9_code 87 = .ok (.iadd, 1) := by decide +kernel
theorem d_method_9_88 : decode method_9_code 88 = .ok (.iload 7, 2) := by decide +kernel
theorem d_method_9_90 : decode method_9_code 90 = .ok (.ifCond .le 7, 3) := by decide +kernel
theorem d_method_9_97 : decode method_9_code 97 = .ok (.iconst 0, 1) := by decide +kernel
theorem d_method_9_98 : decode method_9_code 98 = .ok (.iadd, 1) := by decide +kernel
theorem d_method_9_99 : decode method_9_code 99 = .ok (.iastore, 1) := by decide +kernel
theorem d_method_9_100 : decode method_9_code 100 = .ok (.return_, 1) := by decide +kernel
theorem d_method_9_72 : decode method_9_code 72 = .ok (.iconst 1, 1) := by decide +kernel
theorem d_method_9_73 : decode method_9_code 73 = .ok (.goto 4, 3) := by decide +kernel
theorem d_method_9_82 : decode method_9_code 82 = .ok (.iconst 1, 1) := by decide +kernel
theorem d_method_9_83 : decode method_9_code 83 = .ok (.goto 4, 3) := by decide +kernel
theorem d_method_9_93 : decode method_9_code 93 = .ok (.iconst 1, 1) := by decide +kernel
theorem d_method_9_94 : decode method_9_code 94 = .ok (.goto 4, 3) := by decide +kernel
theorem d_method_10_0 : decode method_10_code 0 = .ok (.aload_n 0, 1) := by decide +kernel
theorem d_method_10_1 : decode method_10_code 1 = .ok (.iconst 3, 1) := by decide +kernel
theorem d_method_10_2 : decode method_10_code 2 = .ok (.iaload, 1) := by decide +kernel
theorem d_method_10_3 : decode method_10_code 3 = .ok (.istore_n 2, 1) := by decide +kernel
theorem d_method_10_4 : decode method_10_code 4 = .ok (.aload_n 1, 1) := by decide +kernel
theorem d_method_10_5 : decode method_10_code 5 = .ok (.iconst 3, 1) := by decide +kernel
theorem d_method_10_6 : decode method_10_code 6 = .ok (.iaload, 1) := by decide +kernel
theorem d_method_10_7 : decode method_10_code 7 = .ok (.istore_n 3, 1) := by decide +kernel
theorem d_method_10_8 : decode method_10_code 8 = .ok (.iload_n 2, 1) := by decide +kernel
theorem d_method_10_9 : decode method_10_code 9 = .ok (.ifCond .le 31, 3) := by decide +kernel
theorem d_method_10_12 : decode method_10_code 12 = .ok (.iload_n 3, 1) := by decide +kernel
theorem d_method_10_13 : decode method_10_code 13 = .ok (.ifCond .le 27, 3) := by decide +kernel
theorem d_method_10_16 : decode method_10_code 16 = .ok (.aload_n 0, 1) := by decide +kernel
theorem d_method_10_17 : decode method_10_code 17 = .ok (.iconst 0, 1) := by decide +kernel
theorem d_method_10_18 : decode method_10_code 18 = .ok (.iaload, 1) := by decide +kernel
theorem d_method_10_19 : decode method_10_code 19 = .ok (.aload_n 1, 1) := by decide +kernel
theorem d_method_10_20 : decode method_10_code 20 = .ok (.iconst 0, 1) := by decide +kernel
theorem d_method_10_21 : decode method_10_code 21 = .ok (.iaload, 1) := by decide +kernel
theorem d_method_10_22 : decode method_10_code 22 = .ok (.if_icmp .eq 18, 3) := by decide +kernel
theorem d_method_10_40 : decode method_10_code 40 = .ok (.iload_n 2, 1) := by decide +kernel
theorem d_method_10_41 : decode method_10_code 41 = .ok (.iconst 1, 1) := by decide +kernel
theorem d_method_10_42 : decode method_10_code 42 = .ok (.if_icmp .le 32, 3) := by decide +kernel
theorem d_method_10_45 : decode method_10_code 45 = .ok (.iload_n 3, 1) := by decide +kernel
theorem d_method_10_46 : decode method_10_code 46 = .ok (.iconst 1, 1) := by decide +kernel
theorem d_method_10_47 : decode method_10_code 47 = .ok (.if_icmp .le 27, 3) := by decide +kernel
theorem d_method_10_50 : decode method_10_code 50 = .ok (.aload_n 0, 1) := by decide +kernel
theorem d_method_10_51 : decode method_10_code 51 = .ok (.iconst 1, 1) := by decide +kernel
theorem d_method_10_52 : decode method_10_code 52 = .ok (.iaload, 1) := by decide +kernel
theorem d_method_10_53 : decode method_10_code 53 = .ok (.aload_n 1, 1) := by decide +kernel
theorem d_method_10_54 : decode method_10_code 54 = .ok (.iconst 1, 1) := by decide +kernel
theorem d_method_10_55 : decode method_10_code 55 = .ok (.iaload, 1) := by decide +kernel
theorem d_method_10_56 : decode method_10_code 56 = .ok (.if_icmp .eq 18, 3) := by decide +kernel
theorem d_method_10_74 : decode method_10_code 74 = .ok (.iload_n 2, 1) := by decide +kernel
theorem d_method_10_75 : decode method_10_code 75 = .ok (.iconst 2, 1) := by decide +kernel
theorem d_method_10_76 : decode method_10_code 76 = .ok (.if_icmp .le 32, 3) := by decide +kernel
theorem d_method_10_79 : decode method_10_code 79 = .ok (.iload_n 3, 1) := by decide +kernel
theorem d_method_10_80 : decode method_10_code 80 = .ok (.iconst 2, 1) := by decide +kernel
theorem d_method_10_81 : decode method_10_code 81 = .ok (.if_icmp .le 27, 3) := by decide +kernel
theorem d_method_10_84 : decode method_10_code 84 = .ok (.aload_n 0, 1) := by decide +kernel
theorem d_method_10_85 : decode method_10_code 85 = .ok (.iconst 2, 1) := by decide +kernel
theorem d_method_10_86 : decode method_10_code 86 = .ok (.iaload, 1) := by decide +kernel
theorem d_method_10_87 : decode method_10_code 87 = .ok (.aload_n 1, 1) := by decide +kernel
theorem d_method_10_88 : decode method_10_code 88 = .ok (.iconst 2, 1) := by decide +kernel
theorem d_method_10_89 : decode method_10_code 89 = .ok (.iaload, 1) := by decide +kernel
theorem d_method_10_90 : decode method_10_code 90 = .ok (.if_icmp .eq 18, 3) := by decide +kernel
theorem d_method_10_108 : decode method_10_code 108 = .ok (.iload_n 2, 1) := by decide +kernel
theorem d_method_10_109 : decode method_10_code 109 = .ok (.iload_n 3, 1) := by decide +kernel
theorem d_method_10_110 : decode method_10_code 110 = .ok (.if_icmp .ge 7, 3) := by decide +kernel
theorem d_method_10_113 : decode method_10_code 113 = .ok (.iconst (-1), 1) := by decide +kernel
theorem d_method_10_114 : decode method_10_code 114 = .ok (.goto 13, 3) := by decide +kernel
theorem d_method_10_127 : decode method_10_code 127 = .ok (.ireturn, 1) := by decide +kernel
theorem d_method_10_117 : decode method_10_code 117 = .ok (.iload_n 2, 1) := by decide +kernel
theorem d_method_10_118 : decode method_10_code 118 = .ok (.iload_n 3, 1) := by decide +kernel
theorem d_method_10_119 : decode method_10_code 119 = .ok (.if_icmp .le 7, 3) := by decide +kernel
theorem d_method_10_122 : decode method_10_code 122 = .ok (.iconst 1, 1) := by decide +kernel
theorem d_method_10_123 : decode method_10_code 123 = .ok (.goto 4, 3) := by decide +kernel
theorem d_method_10_126 : decode method_10_code 126 = .ok (.iconst 0, 1) := by decide +kernel
theorem d_method_10_93 : decode method_10_code 93 = .ok (.aload_n 0, 1) := by decide +kernel
theorem d_method_10_94 : decode method_10_code 94 = .ok (.iconst 2, 1) := by decide +kernel
theorem d_method_10_95 : decode method_10_code 95 = .ok (.iaload, 1) := by decide +kernel
theorem d_method_10_96 : decode method_10_code 96 = .ok (.aload_n 1, 1) := by decide +kernel
theorem d_method_10_97 : decode method_10_code 97 = .ok (.iconst 2, 1) := by decide +kernel
theorem d_method_10_98 : decode method_10_code 98 = .ok (.iaload, 1) := by decide +kernel
theorem d_method_10_99 : decode method_10_code 99 = .ok (.if_icmp .ge 7, 3) := by decide +kernel
theorem d_method_10_102 : decode method_10_code 102 = .ok (.iconst (-1), 1) := by decide +kernel
theorem d_method_10_103 : decode method_10_code 103 = .ok (.goto 4, 3) := by decide +kernel
theorem d_method_10_107 : decode method_10_code 107 = .ok (.ireturn, 1) := by decide +kernel
theorem d_method_10_106 : decode method_10_code 106 = .ok (.iconst 1, 1) := by decide +kernel
theorem d_method_10_59 : decode method_10_code 59 = .ok (.aload_n 0, 1) := by decide +kernel
theorem d_method_10_60 : decode method_10_code 60 = .ok (.iconst 1, 1) := by decide +kernel
theorem d_method_10_61 : decode method_10_code 61 = .ok (.iaload, 1) := by decide +kernel
theorem d_method_10_62 : decode method_10_code 62 = .ok (.aload_n 1, 1) := by decide +kernel
theorem d_method_10_63 : decode method_10_code 63 = .ok (.iconst 1, 1) := by decide +kernel
theorem d_method_10_64 : decode method_10_code 64 = .ok (.iaload, 1) := by decide +kernel
theorem d_method_10_65 : decode method_10_code 65 = .ok (.if_icmp .ge 7, 3) := by decide +kernel
theorem d_method_10_68 : decode method_10_code 68 = .ok (.iconst (-1), 1) := by decide +kernel
theorem d_method_10_69 : decode method_10_code 69 = .ok (.goto 4, 3) := by decide +kernel
theorem d_method_10_73 : decode method_10_code 73 = .ok (.ireturn, 1) := by decide +kernel
theorem d_method_10_72 : decode method_10_code 72 = .ok (.iconst 1, 1) := by decide +kernel
theorem d_method_10_25 : decode method_10_code 25 = .ok (.aload_n 0, 1) := by decide +kernel
theorem d_method_10_26 : decode method_10_code 26 = .ok (.iconst 0, 1) := by decide +kernel
theorem d_method_10_27 : decode method_10_code 27 = .ok (.iaload, 1) := by decide +kernel
theorem d_method_10_28 : decode method_10_code 28 = .ok (.aload_n 1, 1) := by decide +kernel
theorem d_method_10_29 : decode method_10_code 29 = .ok (.iconst 0, 1) := by decide +kernel
theorem d_method_10_30 : decode method_10_code 30 = .ok (.iaload, 1) := by decide +kernel
theorem d_method_10_31 : decode method_10_code 31 = .ok (.if_icmp .ge 7, 3) := by decide +kernel
theorem d_method_10_34 : decode method_10_code 34 = .ok (.iconst (-1), 1) := by decide +kernel
theorem d_method_10_35 : decode method_10_code 35 = .ok (.goto 4, 3) := by decide +kernel
theorem d_method_10_39 : decode method_10_code 39 = .ok (.ireturn, 1) := by decide +kernel
theorem d_method_10_38 : decode method_10_code 38 = .ok (.iconst 1, 1) := by decide +kernel
theorem d_method_3_0 : decode method_3_code 0 = .ok (.lload_n 0, 1) := by decide +kernel
theorem d_method_3_1 : decode method_3_code 1 = .ok (.bipush 16, 2) := by decide +kernel
theorem d_method_3_3 : decode method_3_code 3 = .ok (.iload_n 2, 1) := by decide +kernel
theorem d_method_3_4 : decode method_3_code 4 = .ok (.imul, 1) := by decide +kernel
theorem d_method_3_5 : decode method_3_code 5 = .ok (.lushr, 1) := by decide +kernel
theorem d_method_3_6 : decode method_3_code 6 = .ok (.ldc2_w 33, 3) := by decide +kernel
theorem d_method_3_9 : decode method_3_code 9 = .ok (.land, 1) := by decide +kernel
theorem d_method_3_10 : decode method_3_code 10 = .ok (.l2i, 1) := by decide +kernel
theorem d_method_3_11 : decode method_3_code 11 = .ok (.istore_n 3, 1) := by decide +kernel
theorem d_method_3_12 : decode method_3_code 12 = .ok (.lload_n 0, 1) := by decide +kernel
theorem d_method_3_13 : decode method_3_code 13 = .ok (.bipush 50, 2) := by decide +kernel
theorem d_method_3_15 : decode method_3_code 15 = .ok (.iload_n 2, 1) := by decide +kernel
theorem d_method_3_16 : decode method_3_code 16 = .ok (.iadd, 1) := by decide +kernel
theorem d_method_3_17 : decode method_3_code 17 = .ok (.lushr, 1) := by decide +kernel
theorem d_method_3_18 : decode method_3_code 18 = .ok (.lconst 1, 1) := by decide +kernel
theorem d_method_3_19 : decode method_3_code 19 = .ok (.land, 1) := by decide +kernel
theorem d_method_3_20 : decode method_3_code 20 = .ok (.lconst 0, 1) := by decide +kernel
theorem d_method_3_21 : decode method_3_code 21 = .ok (.lcmp, 1) := by decide +kernel
theorem d_method_3_22 : decode method_3_code 22 = .ok (.ifCond .eq 13, 3) := by decide +kernel
theorem d_method_3_35 : decode method_3_code 35 = .ok (.iload_n 3, 1) := by decide +kernel
theorem d_method_3_36 : decode method_3_code 36 = .ok (.i2c, 1) := by decide +kernel
theorem d_method_3_37 : decode method_3_code 37 = .ok (.ireturn, 1) := by decide +kernel
theorem d_method_3_25 : decode method_3_code 25 = .ok (.ldc 35, 2) := by decide +kernel
theorem d_method_3_27 : decode method_3_code 27 = .ok (.iload_n 3, 1) := by decide +kernel
theorem d_method_3_28 : decode method_3_code 28 = .ok (.sipush 2047, 3) := by decide +kernel
theorem d_method_3_31 : decode method_3_code 31 = .ok (.iand, 1) := by decide +kernel
theorem d_method_3_32 : decode method_3_code 32 = .ok (.ior, 1) := by decide +kernel
theorem d_method_3_33 : decode method_3_code 33 = .ok (.i2c, 1) := by decide +kernel
theorem d_method_3_34 : decode method_3_code 34 = .ok (.ireturn, 1) := by decide +kernel
theorem d_jdk_41_method_11_0 : decode jdk_41_method_11_code 0 = .ok (.iload_n 0, 1) := by decide +kernel
theorem d_jdk_41_method_11_1 : decode jdk_41_method_11_code 1 = .ok (.ifCond .lt 8, 3) := by decide +kernel
theorem d_jdk_41_method_11_4 : decode jdk_41_method_11_code 4 = .ok (.iload_n 0, 1) := by decide +kernel
theorem d_jdk_41_method_11_5 : decode jdk_41_method_11_code 5 = .ok (.iload_n 1, 1) := by decide +kernel
theorem d_jdk_41_method_11_6 : decode jdk_41_method_11_code 6 = .ok (.if_icmp .lt 10, 3) := by decide +kernel
theorem d_jdk_41_method_11_16 : decode jdk_41_method_11_code 16 = .ok (.iload_n 0, 1) := by decide +kernel
theorem d_jdk_41_method_11_17 : decode jdk_41_method_11_code 17 = .ok (.ireturn, 1) := by decide +kernel
theorem d_jdk_42_method_155_0 : decode jdk_42_method_155_code 0 = .ok (.iload_n 0, 1) := by decide +kernel
theorem d_jdk_42_method_155_1 : decode jdk_42_method_155_code 1 = .ok (.iload_n 1, 1) := by decide +kernel
theorem d_jdk_42_method_155_2 : decode jdk_42_method_155_code 2 = .ok (.getstatic 1053, 3) := by decide +kernel
theorem d_jdk_42_method_155_5 : decode jdk_42_method_155_code 5 = .ok (.invokestatic 1059, 3) := by decide +kernel
theorem d_jdk_42_method_155_8 : decode jdk_42_method_155_code 8 = .ok (.pop, 1) := by decide +kernel
theorem d_jdk_42_method_155_9 : decode jdk_42_method_155_code 9 = .ok (.return_, 1) := by decide +kernel
theorem d_jdk_89_method_19_0 : decode jdk_89_method_19_code 0 = .ok (.iload_n 0, 1) := by decide +kernel
theorem d_jdk_89_method_19_1 : decode jdk_89_method_19_code 1 = .ok (.bipush 10, 2) := by decide +kernel
theorem d_jdk_89_method_19_3 : decode jdk_89_method_19_code 3 = .ok (.ishl, 1) := by decide +kernel
theorem d_jdk_89_method_19_4 : decode jdk_89_method_19_code 4 = .ok (.iload_n 1, 1) := by decide +kernel
theorem d_jdk_89_method_19_5 : decode jdk_89_method_19_code 5 = .ok (.iadd, 1) := by decide +kernel
theorem d_jdk_89_method_19_6 : decode jdk_89_method_19_code 6 = .ok (.ldc 85, 2) := by decide +kernel
theorem d_jdk_89_method_19_8 : decode jdk_89_method_19_code 8 = .ok (.iadd, 1) := by decide +kernel
theorem d_jdk_89_method_19_9 : decode jdk_89_method_19_code 9 = .ok (.ireturn, 1) := by decide +kernel
theorem d_jdk_89_method_18_0 : decode jdk_89_method_18_code 0 = .ok (.iload_n 0, 1) := by decide +kernel
theorem d_jdk_89_method_18_1 : decode jdk_89_method_18_code 1 = .ok (.ldc 73, 2) := by decide +kernel
theorem d_jdk_89_method_18_3 : decode jdk_89_method_18_code 3 = .ok (.if_icmp .lt 7, 3) := by decide +kernel
theorem d_jdk_89_method_18_10 : decode jdk_89_method_18_code 10 = .ok (.iconst 1, 1) := by decide +kernel
theorem d_jdk_89_method_18_11 : decode jdk_89_method_18_code 11 = .ok (.ireturn, 1) := by decide +kernel
theorem d_jdk_89_method_18_6 : decode jdk_89_method_18_code 6 = .ok (.iconst 2, 1) := by decide +kernel
theorem d_jdk_89_method_18_7 : decode jdk_89_method_18_code 7 = .ok (.goto 4, 3) := by decide +kernel
theorem d_jdk_33_method_40_0 : decode jdk_33_method_40_code 0 = .ok (.iload_n 0, 1) := by decide +kernel
theorem d_jdk_33_method_40_1 : decode jdk_33_method_40_code 1 = .ok (.iload_n 1, 1) := by decide +kernel
theorem d_jdk_33_method_40_2 : decode jdk_33_method_40_code 2 = .ok (.if_icmp .ge 7, 3) := by decide +kernel
theorem d_jdk_33_method_40_5 : decode jdk_33_method_40_code 5 = .ok (.iconst (-1), 1) := by decide +kernel
theorem d_jdk_33_method_40_6 : decode jdk_33_method_40_code 6 = .ok (.goto 13, 3) := by decide +kernel
theorem d_jdk_33_method_40_19 : decode jdk_33_method_40_code 19 = .ok (.ireturn, 1) := by decide +kernel
theorem d_jdk_33_method_40_9 : decode jdk_33_method_40_code 9 = .ok (.iload_n 0, 1) := by decide +kernel
theorem d_jdk_33_method_40_10 : decode jdk_33_method_40_code 10 = .ok (.iload_n 1, 1) := by decide +kernel
theorem d_jdk_33_method_40_11 : decode jdk_33_method_40_code 11 = .ok (.if_icmp .ne 7, 3) := by decide +kernel
theorem d_jdk_33_method_40_14 : decode jdk_33_method_40_code 14 = .ok (.iconst 0, 1) := by decide +kernel
theorem d_jdk_33_method_40_15 : decode jdk_33_method_40_code 15 = .ok (.goto 4, 3) := by decide +kernel
theorem d_jdk_33_method_40_18 : decode jdk_33_method_40_code 18 = .ok (.iconst 1, 1) := by decide +kernel
theorem d_jdk_52_method_7_0 : decode jdk_52_method_7_code 0 = .ok (.getstatic 44, 3) := by decide +kernel
theorem d_jdk_52_method_7_3 : decode jdk_52_method_7_code 3 = .ok (.ifCond .ne 16, 3) := by decide +kernel
theorem d_jdk_52_method_7_19 : decode jdk_52_method_7_code 19 = .ok (.iload_n 3, 1) := by decide +kernel
theorem d_jdk_52_method_7_20 : decode jdk_52_method_7_code 20 = .ok (.ifCond .eq 8, 3) := by decide +kernel
theorem d_jdk_52_method_7_28 : decode jdk_52_method_7_code 28 = .ok (.aload_n 0, 1) := by decide +kernel
theorem d_jdk_52_method_7_29 : decode jdk_52_method_7_code 29 = .ok (.iload_n 1, 1) := by decide +kernel
theorem d_jdk_52_method_7_30 : decode jdk_52_method_7_code 30 = .ok (.invokestatic 71, 3) := by decide +kernel
theorem d_jdk_52_method_7_33 : decode jdk_52_method_7_code 33 = .ok (.istore 4, 2) := by decide +kernel
theorem d_jdk_52_method_7_35 : decode jdk_52_method_7_code 35 = .ok (.iload 4, 2) := by decide +kernel
theorem d_jdk_52_method_7_37 : decode jdk_52_method_7_code 37 = .ok (.invokestatic 75, 3) := by decide +kernel
theorem d_jdk_52_method_7_40 : decode jdk_52_method_7_code 40 = .ok (.ifCond .eq 43, 3) := by decide +kernel
theorem d_jdk_52_method_7_83 : decode jdk_52_method_7_code 83 = .ok (.iload 4, 2) := by decide +kernel
theorem d_jdk_52_method_7_85 : decode jdk_52_method_7_code 85 = .ok (.ireturn, 1) := by decide +kernel
theorem d_jdk_52_method_7_43 : decode jdk_52_method_7_code 43 = .ok (.iinc 1 1, 3) := by decide +kernel
theorem d_jdk_52_method_7_46 : decode jdk_52_method_7_code 46 = .ok (.iload_n 1, 1) := by decide +kernel
theorem d_jdk_52_method_7_47 : decode jdk_52_method_7_code 47 = .ok (.iload_n 2, 1) := by decide +kernel
theorem d_jdk_52_method_7_48 : decode jdk_52_method_7_code 48 = .ok (.if_icmp .ge 35, 3) := by decide +kernel
theorem d_jdk_52_method_7_51 : decode jdk_52_method_7_code 51 = .ok (.iload_n 3, 1) := by decide +kernel
theorem d_jdk_52_method_7_52 : decode jdk_52_method_7_code 52 = .ok (.ifCond .eq 8, 3) := by decide +kernel
theorem d_jdk_52_method_7_60 : decode jdk_52_method_7_code 60 = .ok (.aload_n 0, 1) := by decide +kernel
theorem d_jdk_52_method_7_61 : decode jdk_52_method_7_code 61 = .ok (.iload_n 1, 1) := by decide +kernel
theorem d_jdk_52_method_7_62 : decode jdk_52_method_7_code 62 = .ok (.invokestatic 71, 3) := by decide +kernel
theorem d_jdk_52_method_7_65 : decode jdk_52_method_7_code 65 = .ok (.istore 5, 2) := by decide +kernel
theorem d_jdk_52_method_7_67 : decode jdk_52_method_7_code 67 = .ok (.iload 5, 2) := by decide +kernel
theorem d_jdk_52_method_7_69 : decode jdk_52_method_7_code 69 = .ok (.invokestatic 81, 3) := by decide +kernel
theorem d_jdk_52_method_7_72 : decode jdk_52_method_7_code 72 = .ok (.ifCond .eq 11, 3) := by decide +kernel
theorem d_jdk_52_method_7_75 : decode jdk_52_method_7_code 75 = .ok (.iload 4, 2) := by decide +kernel
theorem d_jdk_52_method_7_77 : decode jdk_52_method_7_code 77 = .ok (.iload 5, 2) := by decide +kernel
theorem d_jdk_52_method_7_79 : decode jdk_52_method_7_code 79 = .ok (.invokestatic 84, 3) := by decide +kernel
theorem d_jdk_52_method_7_82 : decode jdk_52_method_7_code 82 = .ok (.ireturn, 1) := by decide +kernel
theorem d_jdk_52_method_8_0 : decode jdk_52_method_8_code 0 = .ok (.aload_n 0, 1) := by decide +kernel
theorem d_jdk_52_method_8_1 : decode jdk_52_method_8_code 1 = .ok (.iload_n 1, 1) := by decide +kernel
theorem d_jdk_52_method_8_2 : decode jdk_52_method_8_code 2 = .ok (.iload_n 2, 1) := by decide +kernel
theorem d_jdk_52_method_8_3 : decode jdk_52_method_8_code 3 = .ok (.iconst 0, 1) := by decide +kernel
theorem d_jdk_52_method_8_4 : decode jdk_52_method_8_code 4 = .ok (.invokestatic 88, 3) := by decide +kernel
theorem d_jdk_52_method_8_7 : decode jdk_52_method_8_code 7 = .ok (.ireturn, 1) := by decide +kernel
theorem d_jdk_42_method_154_0 : decode jdk_42_method_154_code 0 = .ok (.getstatic 38, 3) := by decide +kernel
theorem d_jdk_42_method_154_3 : decode jdk_42_method_154_code 3 = .ok (.ifCond .eq 14, 3) := by decide +kernel
theorem d_jdk_42_method_154_6 : decode jdk_42_method_154_code 6 = .ok (.aload_n 0, 1) := by decide +kernel
theorem d_jdk_42_method_154_7 : decode jdk_42_method_154_code 7 = .ok (.getfield 15, 3) := by decide +kernel
theorem d_jdk_42_method_154_10 : decode jdk_42_method_154_code 10 = .ok (.ifCond .ne 7, 3) := by decide +kernel
theorem d_jdk_42_method_154_13 : decode jdk_42_method_154_code 13 = .ok (.iconst 1, 1) := by decide +kernel
theorem d_jdk_42_method_154_14 : decode jdk_42_method_154_code 14 = .ok (.goto 4, 3) := by decide +kernel
theorem d_jdk_42_method_154_18 : decode jdk_42_method_154_code 18 = .ok (.ireturn, 1) := by decide +kernel
theorem d_jdk_42_method_154_17 : decode jdk_42_method_154_code 17 = .ok (.iconst 0, 1) := by decide +kernel
theorem d_jdk_42_method_57_0 : decode jdk_42_method_57_code 0 = .ok (.aload_n 0, 1) := by decide +kernel
theorem d_jdk_42_method_57_1 : decode jdk_42_method_57_code 1 = .ok (.invokevirtual 492, 3) := by decide +kernel
theorem d_jdk_42_method_57_4 : decode jdk_42_method_57_code 4 = .ok (.ifCond .eq 23, 3) := by decide +kernel
theorem d_jdk_42_method_57_7 : decode jdk_42_method_57_code 7 = .ok (.iload_n 1, 1) := by decide +kernel
theorem d_jdk_42_method_57_8 : decode jdk_42_method_57_code 8 = .ok (.aload_n 0, 1) := by decide +kernel
theorem d_jdk_42_method_57_9 : decode jdk_42_method_57_code 9 = .ok (.getfield 9, 3) := by decide +kernel
theorem d_jdk_42_method_57_12 : decode jdk_42_method_57_code 12 = .ok (.arraylength, 1) := by decide +kernel
theorem d_jdk_42_method_57_13 : decode jdk_42_method_57_code 13 = .ok (.invokestatic 499, 3) := by decide +kernel
theorem d_jdk_42_method_57_16 : decode jdk_42_method_57_code 16 = .ok (.aload_n 0, 1) := by decide +kernel
theorem d_jdk_42_method_57_17 : decode jdk_42_method_57_code 17 = .ok (.getfield 9, 3) := by decide +kernel
theorem d_jdk_42_method_57_20 : decode jdk_42_method_57_code 20 = .ok (.iload_n 1, 1) := by decide +kernel
theorem d_jdk_42_method_57_21 : decode jdk_42_method_57_code 21 = .ok (.baload, 1) := by decide +kernel
theorem d_jdk_42_method_57_22 : decode jdk_42_method_57_code 22 = .ok (.sipush 255, 3) := by decide +kernel
theorem d_jdk_42_method_57_25 : decode jdk_42_method_57_code 25 = .ok (.iand, 1) := by decide +kernel
theorem d_jdk_42_method_57_26 : decode jdk_42_method_57_code 26 = .ok (.ireturn, 1) := by decide +kernel
theorem d_jdk_42_method_57_27 : decode jdk_42_method_57_code 27 = .ok (.aload_n 0, 1) := by decide +kernel
theorem d_jdk_42_method_57_28 : decode jdk_42_method_57_code 28 = .ok (.getfield 9, 3) := by decide +kernel
theorem d_jdk_42_method_57_31 : decode jdk_42_method_57_code 31 = .ok (.arraylength, 1) := by decide +kernel
theorem d_jdk_42_method_57_32 : decode jdk_42_method_57_code 32 = .ok (.iconst 1, 1) := by decide +kernel
theorem d_jdk_42_method_57_33 : decode jdk_42_method_57_code 33 = .ok (.ishr, 1) := by decide +kernel
theorem d_jdk_42_method_57_34 : decode jdk_42_method_57_code 34 = .ok (.istore_n 2, 1) := by decide +kernel
theorem d_jdk_42_method_57_35 : decode jdk_42_method_57_code 35 = .ok (.iload_n 1, 1) := by decide +kernel
theorem d_jdk_42_method_57_36 : decode jdk_42_method_57_code 36 = .ok (.iload_n 2, 1) := by decide +kernel
theorem d_jdk_42_method_57_37 : decode jdk_42_method_57_code 37 = .ok (.invokestatic 499, 3) := by decide +kernel
theorem d_jdk_42_method_57_40 : decode jdk_42_method_57_code 40 = .ok (.aload_n 0, 1) := by decide +kernel
theorem d_jdk_42_method_57_41 : decode jdk_42_method_57_code 41 = .ok (.getfield 9, 3) := by decide +kernel
theorem d_jdk_42_method_57_44 : decode jdk_42_method_57_code 44 = .ok (.iload_n 1, 1) := by decide +kernel
theorem d_jdk_42_method_57_45 : decode jdk_42_method_57_code 45 = .ok (.iload_n 2, 1) := by decide +kernel
theorem d_jdk_42_method_57_46 : decode jdk_42_method_57_code 46 = .ok (.invokestatic 502, 3) := by decide +kernel
theorem d_jdk_42_method_57_49 : decode jdk_42_method_57_code 49 = .ok (.ireturn, 1) := by decide +kernel
theorem d_prog_1_method_2_0 : decode prog_1_method_2_code 0 = .ok (.iconst 0, 1) := by decide +kernel
theorem d_prog_1_method_2_1 : decode prog_1_method_2_code 1 = .ok (.istore_n 2, 1) := by decide +kernel
theorem d_prog_1_method_2_2 : decode prog_1_method_2_code 2 = .ok (.iload_n 2, 1) := by decide +kernel
theorem d_prog_1_method_2_3 : decode prog_1_method_2_code 3 = .ok (.aload_n 0, 1) := by decide +kernel
theorem d_prog_1_method_2_4 : decode prog_1_method_2_code 4 = .ok (.invokevirtual 7, 3) := by decide +kernel
theorem d_prog_1_method_2_7 : decode prog_1_method_2_code 7 = .ok (.if_icmp .ge 47, 3) := by decide +kernel
theorem d_prog_1_method_2_54 : decode prog_1_method_2_code 54 = .ok (.aload_n 0, 1) := by decide +kernel
theorem d_prog_1_method_2_55 : decode prog_1_method_2_code 55 = .ok (.invokevirtual 7, 3) := by decide +kernel
theorem d_prog_1_method_2_58 : decode prog_1_method_2_code 58 = .ok (.aload_n 1, 1) := by decide +kernel
theorem d_prog_1_method_2_59 : decode prog_1_method_2_code 59 = .ok (.invokevirtual 7, 3) := by decide +kernel
theorem d_prog_1_method_2_62 : decode prog_1_method_2_code 62 = .ok (.invokestatic 17, 3) := by decide +kernel
theorem d_prog_1_method_2_65 : decode prog_1_method_2_code 65 = .ok (.ireturn, 1) := by decide +kernel
theorem d_prog_1_method_2_10 : decode prog_1_method_2_code 10 = .ok (.iload_n 2, 1) := by decide +kernel
theorem d_prog_1_method_2_11 : decode prog_1_method_2_code 11 = .ok (.aload_n 1, 1) := by decide +kernel
theorem d_prog_1_method_2_12 : decode prog_1_method_2_code 12 = .ok (.invokevirtual 7, 3) := by decide +kernel
theorem d_prog_1_method_2_15 : decode prog_1_method_2_code 15 = .ok (.if_icmp .ge 39, 3) := by decide +kernel
theorem d_prog_1_method_2_18 : decode prog_1_method_2_code 18 = .ok (.aload_n 0, 1) := by decide +kernel
theorem d_prog_1_method_2_19 : decode prog_1_method_2_code 19 = .ok (.iload_n 2, 1) := by decide +kernel
theorem d_prog_1_method_2_20 : decode prog_1_method_2_code 20 = .ok (.invokevirtual 13, 3) := by decide +kernel
theorem d_prog_1_method_2_23 : decode prog_1_method_2_code 23 = .ok (.istore_n 3, 1) := by decide +kernel
theorem d_prog_1_method_2_24 : decode prog_1_method_2_code 24 = .ok (.aload_n 1, 1) := by decide +kernel
theorem d_prog_1_method_2_25 : decode prog_1_method_2_code 25 = .ok (.iload_n 2, 1) := by decide +kernel
theorem d_prog_1_method_2_26 : decode prog_1_method_2_code 26 = .ok (.invokevirtual 13, 3) := by decide +kernel
theorem d_prog_1_method_2_29 : decode prog_1_method_2_code 29 = .ok (.istore 4, 2) := by decide +kernel
theorem d_prog_1_method_2_31 : decode prog_1_method_2_code 31 = .ok (.iload_n 3, 1) := by decide +kernel
theorem d_prog_1_method_2_32 : decode prog_1_method_2_code 32 = .ok (.iload 4, 2) := by decide +kernel
theorem d_prog_1_method_2_34 : decode prog_1_method_2_code 34 = .ok (.if_icmp .eq 10, 3) := by decide +kernel
theorem d_prog_1_method_2_44 : decode prog_1_method_2_code 44 = .ok (.iload_n 2, 1) := by decide +kernel
theorem d_prog_1_method_2_45 : decode prog_1_method_2_code 45 = .ok (.iload_n 3, 1) := by decide +kernel
theorem d_prog_1_method_2_46 : decode prog_1_method_2_code 46 = .ok (.invokestatic 23, 3) := by decide +kernel
theorem d_prog_1_method_2_49 : decode prog_1_method_2_code 49 = .ok (.iadd, 1) := by decide +kernel
theorem d_prog_1_method_2_50 : decode prog_1_method_2_code 50 = .ok (.istore_n 2, 1) := by decide +kernel
theorem d_prog_1_method_2_51 : decode prog_1_method_2_code 51 = .ok (.goto (-49), 3) := by decide +kernel
theorem d_prog_1_method_2_37 : decode prog_1_method_2_code 37 = .ok (.iload_n 3, 1) := by decide +kernel
theorem d_prog_1_method_2_38 : decode prog_1_method_2_code 38 = .ok (.iload 4, 2) := by decide +kernel
theorem d_prog_1_method_2_40 : decode prog_1_method_2_code 40 = .ok (.invokestatic 17, 3) := by decide +kernel
theorem d_prog_1_method_2_43 : decode prog_1_method_2_code 43 = .ok (.ireturn, 1) := by decide +kernel
theorem pd0 : parseMethodDescriptor "([CIILjava/lang/Void;)V" = some ⟨[(.array .char), .int, .int, (.object "java/lang/Void")], none⟩ := by decide +kernel
theorem pd1 : parseMethodDescriptor "(I)I" = some ⟨[.int], some .int⟩ := by decide +kernel
theorem pd2 : parseMethodDescriptor "(I)[B" = some ⟨[.int], some (.array .byte)⟩ := by decide +kernel
theorem pd3 : parseMethodDescriptor "([BII)V" = some ⟨[(.array .byte), .int, .int], none⟩ := by decide +kernel
theorem pd4 : parseMethodDescriptor "([CI[BII)I" = some ⟨[(.array .char), .int, (.array .byte), .int, .int], some .int⟩ := by decide +kernel
theorem pd5 : parseMethodDescriptor "([CII)[B" = some ⟨[(.array .char), .int, .int], some (.array .byte)⟩ := by decide +kernel
theorem pd6 : parseMethodDescriptor "([BI)C" = some ⟨[(.array .byte), .int], some .char⟩ := by decide +kernel
theorem pd7 : parseMethodDescriptor "([BI)B" = some ⟨[(.array .byte), .int], some .byte⟩ := by decide +kernel
theorem pd8 : parseMethodDescriptor "([C)V" = some ⟨[(.array .char)], none⟩ := by decide +kernel
theorem pd9 : parseMethodDescriptor "(C)Z" = some ⟨[.char], some .boolean⟩ := by decide +kernel
theorem pd10 : parseMethodDescriptor "([CII)I" = some ⟨[(.array .char), .int, .int], some .int⟩ := by decide +kernel
theorem pd11 : parseMethodDescriptor "(IILjava/util/function/BiFunction;)I" = some ⟨[.int, .int, (.object "java/util/function/BiFunction")], some .int⟩ := by decide +kernel
theorem pd12 : parseMethodDescriptor "(CC)I" = some ⟨[.char, .char], some .int⟩ := by decide +kernel
theorem pd13 : parseMethodDescriptor "([BIIZ)I" = some ⟨[(.array .byte), .int, .int, .boolean], some .int⟩ := by decide +kernel
theorem pd14 : parseMethodDescriptor "()Z" = some ⟨[], some .boolean⟩ := by decide +kernel
theorem pd15 : parseMethodDescriptor "(II)V" = some ⟨[.int, .int], none⟩ := by decide +kernel
theorem pd16 : parseMethodDescriptor "([BII)I" = some ⟨[(.array .byte), .int, .int], some .int⟩ := by decide +kernel
theorem pd17 : parseMethodDescriptor "(II)I" = some ⟨[.int, .int], some .int⟩ := by decide +kernel
theorem pd18 : parseMethodDescriptor "(JI)C" = some ⟨[.long, .int], some .char⟩ := by decide +kernel
theorem pd19 : parseMethodDescriptor "([CI)Ljava/lang/String;" = some ⟨[(.array .char), .int], some (.object "java/lang/String")⟩ := by decide +kernel
theorem pd20 : parseMethodDescriptor "([CI[I)V" = some ⟨[(.array .char), .int, (.array .int)], none⟩ := by decide +kernel
theorem pd21 : parseMethodDescriptor "([I[I)I" = some ⟨[(.array .int), (.array .int)], some .int⟩ := by decide +kernel
theorem pd22 : parseMethodDescriptor "(Ljava/lang/String;Ljava/lang/String;)I" = some ⟨[(.object "java/lang/String"), (.object "java/lang/String")], some .int⟩ := by decide +kernel
theorem hwln {a0 : Array Value} {Z : State} (hw : W a0 Z) : ∀ d ∈ StrChars.Road.wordsLen, d.before a0 Z = true := fun d hd => hw d ((by decide +kernel : ∀ d ∈ StrChars.Road.wordsLen, d ∈ tables_1) d hd)
theorem wS0 {a0 : Array Value} {Z : State} (hw : W a0 Z) : ∀ d ∈ Bundle.stringAtoms, d.before a0 Z = true := fun d hd => hw d ((by decide +kernel : ∀ d ∈ Bundle.stringAtoms, d ∈ tables_1) d hd)
/-- small naturals as ints -/
theorem n_toInt {n : Nat} (h : n < 2147483648) : (Int32.ofNat n).toInt = n := Int32.toInt_ofNat_small (by omega)
theorem n_nat {n : Nat} (h : n < 2147483648) : (Int32.ofNat n).toNatClampNeg = n := by
  rw [Int32.toNatClampNeg, n_toInt h]; rfl
theorem n_add (a b : Nat) : Int32.ofNat a + Int32.ofNat b = Int32.ofNat (a + b) := (Int32.ofNat_add a b).symm
theorem n_sub {a b : Nat} (h : b ≤ a) : Int32.ofNat a - Int32.ofNat b = Int32.ofNat (a - b) := by
  have e := n_add (a - b) b
  rw [Nat.sub_add_cancel h] at e
  rw [← e, Int32.add_sub_cancel]
theorem n_lt {a b : Nat} (ha : a < 2147483648) (hb : b < 2147483648) : Int32.ofNat a < Int32.ofNat b ↔ a < b := by
  rw [Int32.lt_iff_toInt_lt, n_toInt ha, n_toInt hb]; omega
theorem n_eq {a b : Nat} (ha : a < 2147483648) (hb : b < 2147483648) : Int32.ofNat a = Int32.ofNat b ↔ a = b := by
  rw [← Int32.toInt_inj, n_toInt ha, n_toInt hb]; omega
theorem n_in {i n : Nat} (hi : i < n) (hn : n < 2147483648) : ¬ Int32.ofNat i < 0 ∧ Int32.ofNat i < Int32.ofNat n :=
  ⟨fun q => by rw [show (0 : Int32) = Int32.ofNat 0 from rfl, n_lt (by omega) (by omega)] at q; omega, (n_lt (by omega) hn).mpr hi⟩
theorem n_neg {i : Nat} (h : i < 2147483648) : ¬ Int32.ofNat i < 0 := fun q => by
  rw [show (0 : Int32) = Int32.ofNat 0 from rfl, n_lt h (by omega)] at q; omega
theorem n_get {cs : List Int32} {f : Int32 → Int32} {d : Value} {i : Nat} (h : i < cs.length) (hs : cs.length < 2147483648) : ((cs.map f).map Value.int).getD (Int32.ofNat i).toNatClampNeg d = .int (f (cs.getD i 0)) := by
  rw [n_nat (by omega)]
  simp [List.getD_eq_getElem?_getD, h]
theorem n_of {x : Int32} (h : ¬ x < 0) : ∃ n : Nat, n < 2147483648 ∧ x = Int32.ofNat n := by
  rw [Int32.lt_iff_toInt_lt] at h
  have e0 : (0 : Int32).toInt = 0 := rfl
  have b := x.toInt_lt
  refine ⟨x.toInt.toNat, by omega, ?_⟩
  rw [← Int32.toInt_inj, n_toInt (by omega)]
  omega
theorem n_shr0 (x : Int32) : x >>> ((0 : Int32) &&& 31) = x := by
  have e : ((0 : Int32) &&& 31) = 0 := by decide
  rw [e]
  apply Int32.toBitVec_inj.mp
  rw [Int32.toBitVec_shiftRight]
  have e1 : ((0 : Int32).toBitVec.smod 32) = 0#32 := by decide
  rw [e1, BitVec.sshiftRight_eq']
  exact BitVec.sshiftRight_zero
/-- surrogates, code points -/
def isHi (c : Int32) : Bool := decide (¬ c < (55296 : Int32)) && decide (c < (56320 : Int32))
def isLo (c : Int32) : Bool := decide (¬ c < (56320 : Int32)) && decide (c < (57344 : Int32))
def toCP (h l : Int32) : Int32 := ((h <<< ((10 : Int32) &&& 31)) + l) + (-56613888 : Int32)
def cpH : List Int32 → Int32
  | [] => 0
  | [c] => c
  | c :: d :: _ => if (isHi c && isLo d) = true then toCP c d else c
def wdH : List Int32 → Nat
  | [] => 0
  | [_] => 1
  | c :: d :: _ => if (isHi c && isLo d) = true then 2 else 1
def cps : List Int32 → List Int32
  | [] => []
  | [c] => [c]
  | c :: d :: r => if (isHi c && isLo d) = true then toCP c d :: cps r else c :: cps (d :: r)
def lexL : List Int32 → List Int32 → Int32
  | [], [] => 0
  | [], _ :: _ => -1
  | _ :: _, [] => 1
  | x :: xs, y :: ys => if x = y then lexL xs ys else if x < y then -1 else 1
def lexA (x0 x1 x2 nx y0 y1 y2 ny : Int32) : Int32 :=
  if ((0 : Int32) < nx ∧ (0 : Int32) < ny ∧ ¬ x0 = y0) then (if x0 < y0 then -1 else 1)
  else if ((1 : Int32) < nx ∧ (1 : Int32) < ny ∧ ¬ x1 = y1) then (if x1 < y1 then -1 else 1)
  else if ((2 : Int32) < nx ∧ (2 : Int32) < ny ∧ ¬ x2 = y2) then (if x2 < y2 then -1 else 1)
  else if nx < ny then -1 else if ny < nx then 1 else 0
def padV (L : List Int32) : List Value := [.int (L.getD 0 0), .int (L.getD 1 0), .int (L.getD 2 0), .int (Int32.ofNat L.length)]
def takeC (n c0 c1 c2 : Int32) : List Int32 := if n = 0 then [] else if n = 1 then [c0] else if n = 2 then [c0, c1] else [c0, c1, c2]
theorem own_eqI {x y : Int32} (h : (x.toInt - y.toInt) % 4294967296 = 0) : x = y := by
  have := x.toInt_lt
  have := x.le_toInt
  have := y.toInt_lt
  have := y.le_toInt
  exact Int32.toInt_inj.mp (by omega)
theorem own_rg {c : Int32} : Rg c ↔ 0 ≤ c.toInt ∧ c.toInt ≤ 65535 := by
  unfold Rg
  rw [Int32.lt_iff_toInt_lt, Int32.lt_iff_toInt_lt]
  have e0 : (0 : Int32).toInt = 0 := rfl
  have e1 : (65535 : Int32).toInt = 65535 := rfl
  omega
theorem own_hi {c : Int32} : isHi c = true ↔ 55296 ≤ c.toInt ∧ c.toInt < 56320 := by
  unfold isHi
  rw [Bool.and_eq_true, decide_eq_true_iff, decide_eq_true_iff, Int32.lt_iff_toInt_lt, Int32.lt_iff_toInt_lt]
  have e0 : (55296 : Int32).toInt = 55296 := rfl
  have e1 : (56320 : Int32).toInt = 56320 := rfl
  omega
theorem own_lo {c : Int32} : isLo c = true ↔ 56320 ≤ c.toInt ∧ c.toInt < 57344 := by
  unfold isLo
  rw [Bool.and_eq_true, decide_eq_true_iff, decide_eq_true_iff, Int32.lt_iff_toInt_lt, Int32.lt_iff_toInt_lt]
  have e0 : (57344 : Int32).toInt = 57344 := rfl
  have e1 : (56320 : Int32).toInt = 56320 := rfl
  omega
theorem own_narb (x : Int32) : nar .byte (x.toInt8.toInt32) = x.toInt8.toInt32 := by
  have a := c_i2b x
  have b := c_i2b x.toInt8.toInt32
  show (x.toInt8.toInt32).toInt8.toInt32 = x.toInt8.toInt32
  exact Int32.toInt_inj.mp (by omega)
theorem own_narc {x : Int32} (h : Rg x) : nar .char x = x := by
  have a := c_i2c x
  have h := own_rg.mp h
  show x.toUInt32.toUInt16.toUInt32.toInt32 = x
  exact Int32.toInt_inj.mp (by omega)
theorem own_i2cr (x : Int32) : Rg (nar .char (x.toUInt32.toUInt16.toUInt32.toInt32)) := by
  have a := c_i2c (x.toUInt32.toUInt16.toUInt32.toInt32)
  apply own_rg.mpr
  show 0 ≤ (x.toUInt32.toUInt16.toUInt32.toInt32.toUInt32.toUInt16.toUInt32.toInt32).toInt ∧ (x.toUInt32.toUInt16.toUInt32.toInt32.toUInt32.toUInt16.toUInt32.toInt32).toInt ≤ 65535
  omega
theorem own_shl1 {i : Nat} (h : i ≤ 4000) : Int32.ofNat i <<< ((1 : Int32) &&& 31) = Int32.ofNat (2 * i) := by
  have a := c_ishl (Int32.ofNat i) 1 1 (by decide)
  rw [n_toInt (by omega)] at a
  apply own_eqI
  rw [n_toInt (by omega)]
  omega
theorem own_shr1 {i : Nat} (h : i ≤ 4000) : Int32.ofNat (2 * i) >>> ((1 : Int32) &&& 31) = Int32.ofNat i := by
  have a := c_ishr (Int32.ofNat (2 * i)) 1 1 (by decide)
  rw [n_toInt (by omega)] at a
  apply own_eqI
  rw [n_toInt (by omega)]
  omega
theorem own_wlo {cs : List Int32} {i : Nat} {d : Value} (hi : i < cs.length) (hN : cs.length ≤ 4000) : (StrChars.Road.wideBytes cs).getD (Int32.ofNat (2 * i)).toNatClampNeg d = .int (cs.getD i 0).toInt8.toInt32 := by
  rw [n_nat (by omega)]
  exact StrChars.Road.wide_lo d cs i hi
theorem own_whi {cs : List Int32} {i : Nat} {d : Value} (hi : i < cs.length) (hN : cs.length ≤ 4000) : (StrChars.Road.wideBytes cs).getD (Int32.ofNat (2 * i + 1)).toNatClampNeg d = .int ((cs.getD i 0) >>> ((8 : Int32) &&& 31)).toInt8.toInt32 := by
  rw [n_nat (by omega)]
  exact StrChars.Road.wide_hi d cs i hi
theorem own_mem {cs : List Int32} {i : Nat} (h : i < cs.length) : cs.getD i 0 ∈ cs := by
  rw [List.getD_eq_getElem?_getD, List.getElem?_eq_getElem h]
  exact List.getElem_mem h
theorem own_getch {c : Int32} (h : Rg c) : nar .char ((((c.toInt8.toInt32 &&& (255 : Int32)) <<< ((0 : Int32) &&& 31)) ||| (((c >>> ((8 : Int32) &&& 31)).toInt8.toInt32 &&& (255 : Int32)) <<< ((8 : Int32) &&& 31))).toUInt32.toUInt16.toUInt32.toInt32) = c := by
  have h := own_rg.mp h
  have b1 := c_i2b c
  have m1 := c_mask c.toInt8.toInt32 255 8 (by decide) (by decide)
  have s1 := c_ishl (c.toInt8.toInt32 &&& 255) 0 0 (by decide)
  have r2 := c_ishr c 8 8 (by decide)
  have b2 := c_i2b (c >>> ((8 : Int32) &&& 31))
  have m2 := c_mask (c >>> ((8 : Int32) &&& 31)).toInt8.toInt32 255 8 (by decide) (by decide)
  have s2 := c_ishl ((c >>> ((8 : Int32) &&& 31)).toInt8.toInt32 &&& 255) 8 8 (by decide)
  generalize hu : (c.toInt8.toInt32 &&& (255 : Int32)) <<< ((0 : Int32) &&& 31) = u at *
  generalize hv : ((c >>> ((8 : Int32) &&& 31)).toInt8.toInt32 &&& (255 : Int32)) <<< ((8 : Int32) &&& 31) = v at *
  have bu := u.toInt_lt
  have bu' := u.le_toInt
  have bv := v.toInt_lt
  have bv' := v.le_toInt
  have eu : u.toInt = c.toInt % 256 := by omega
  have ev : v.toInt = c.toInt / 256 * 256 := by omega
  have o := c_or' u v 8 (by decide) 256 rfl (by omega) (by omega) (by omega)
  have a := c_i2c (u ||| v)
  have k := own_narc (x := (u ||| v).toUInt32.toUInt16.toUInt32.toInt32) (own_rg.mpr (by omega))
  rw [k]
  have bo := (u ||| v).toInt_lt
  have bo' := (u ||| v).le_toInt
  exact Int32.toInt_inj.mp (by omega)
theorem own_vA (c : Int32) : (((c - (55296 : Int32)) <<< ((10 : Int32) &&& 31)).toInt - (c.toInt * 1024 - 56623104)) % 4294967296 = 0 := by
  have e1 : (55296 : Int32).toInt = 55296 := rfl
  obtain ⟨k1, a1⟩ := Int.dvd_of_emod_eq_zero (c_isub c 55296)
  obtain ⟨k2, a2⟩ := Int.dvd_of_emod_eq_zero (c_ishl (c - 55296) 10 10 (by decide))
  rw [e1] at a1
  exact Int.emod_eq_zero_of_dvd ⟨k2 + 1024 * k1, by omega⟩
theorem own_vC (c d : Int32) : ((toCP c d).toInt - (c.toInt * 1024 + d.toInt - 56613888)) % 4294967296 = 0 := by
  have e4 : (-56613888 : Int32).toInt = -56613888 := rfl
  obtain ⟨j1, b1⟩ := Int.dvd_of_emod_eq_zero (c_ishl c 10 10 (by decide))
  obtain ⟨j2, b2⟩ := Int.dvd_of_emod_eq_zero (c_iadd (c <<< ((10 : Int32) &&& 31)) d)
  obtain ⟨j3, b3⟩ := Int.dvd_of_emod_eq_zero (c_iadd ((c <<< ((10 : Int32) &&& 31)) + d) (-56613888))
  rw [e4] at b3
  have e : (toCP c d).toInt = (((c <<< ((10 : Int32) &&& 31)) + d) + (-56613888 : Int32)).toInt := rfl
  exact Int.emod_eq_zero_of_dvd ⟨j1 + j2 + j3, by omega⟩
theorem own_vD (u d t : Int32) (A : Int) (hu : (u.toInt - (A - 56623104)) % 4294967296 = 0) (ht : (t.toInt - (A + d.toInt - 56613888)) % 4294967296 = 0) : (u + (d - (56320 : Int32))) + (65536 : Int32) = t := by
  apply own_eqI
  have e2 : (56320 : Int32).toInt = 56320 := rfl
  have e3 : (65536 : Int32).toInt = 65536 := rfl
  obtain ⟨k0, a0⟩ := Int.dvd_of_emod_eq_zero hu
  obtain ⟨j0, b0⟩ := Int.dvd_of_emod_eq_zero ht
  obtain ⟨k3, a3⟩ := Int.dvd_of_emod_eq_zero (c_isub d 56320)
  obtain ⟨k4, a4⟩ := Int.dvd_of_emod_eq_zero (c_iadd u (d - (56320 : Int32)))
  obtain ⟨k5, a5⟩ := Int.dvd_of_emod_eq_zero (c_iadd (u + (d - (56320 : Int32))) 65536)
  rw [e2] at a3
  rw [e3] at a5
  exact Int.emod_eq_zero_of_dvd ⟨k5 + k4 + k3 + k0 - j0, by omega⟩
theorem own_val (c d : Int32) : ((((c - (55296 : Int32)) <<< ((10 : Int32) &&& 31)) + (d - (56320 : Int32))) + (65536 : Int32)) = toCP c d := own_vD _ d _ (c.toInt * 1024) (own_vA c) (own_vC c d)
theorem own_tcp {c d : Int32} (hc : isHi c = true) (hd : isLo d = true) : (toCP c d).toInt = c.toInt * 1024 + d.toInt - 56613888 := by
  have hc := own_hi.mp hc
  have hd := own_lo.mp hd
  have b1 := c_ishl c 10 10 (by decide)
  have b2 := c_iadd (c <<< ((10 : Int32) &&& 31)) d
  have b3 := c_iadd ((c <<< ((10 : Int32) &&& 31)) + d) (-56613888)
  have e4 : (-56613888 : Int32).toInt = -56613888 := rfl
  have u := (toCP c d).toInt_lt
  have u' := (toCP c d).le_toInt
  have e : (toCP c d).toInt = (((c <<< ((10 : Int32) &&& 31)) + d) + (-56613888 : Int32)).toInt := rfl
  omega
theorem own_wd {l : List Int32} (hl : ∀ c ∈ l, Rg c) (h : l ≠ []) : (if cpH l < (65536 : Int32) then (1 : Int32) else 2) = Int32.ofNat (wdH l) := by
  have e : (65536 : Int32).toInt = 65536 := rfl
  match l, h with
  | [c], _ =>
    have := own_rg.mp (hl c (by simp))
    rw [if_pos (by rw [Int32.lt_iff_toInt_lt]; show c.toInt < _; omega)]
    rfl
  | c :: d :: r, _ =>
    have := own_rg.mp (hl c (by simp))
    by_cases q : (isHi c && isLo d) = true
    · have e1 : cpH (c :: d :: r) = toCP c d := if_pos q
      have e2 : wdH (c :: d :: r) = 2 := if_pos q
      rw [Bool.and_eq_true] at q
      have t := own_tcp q.1 q.2
      have k1 := own_hi.mp q.1
      have k2 := own_lo.mp q.2
      rw [e1, e2, if_neg (by rw [Int32.lt_iff_toInt_lt]; omega)]
      rfl
    · have e1 : cpH (c :: d :: r) = c := if_neg q
      have e2 : wdH (c :: d :: r) = 1 := if_neg q
      rw [e1, e2, if_pos (by rw [Int32.lt_iff_toInt_lt]; omega)]
      rfl
theorem own_cps {l : List Int32} (h : l ≠ []) : cps l = cpH l :: cps (l.drop (wdH l)) := by
  match l, h with
  | [c], _ => rfl
  | c :: d :: r, _ =>
    by_cases q : (isHi c && isLo d) = true
    · have e1 : cpH (c :: d :: r) = toCP c d := if_pos q
      have e2 : wdH (c :: d :: r) = 2 := if_pos q
      have e3 : cps (c :: d :: r) = toCP c d :: cps r := by rw [cps, if_pos q]
      rw [e1, e2, e3]; rfl
    · have e1 : cpH (c :: d :: r) = c := if_neg q
      have e2 : wdH (c :: d :: r) = 1 := if_neg q
      have e3 : cps (c :: d :: r) = c :: cps (d :: r) := by rw [cps, if_neg q]
      rw [e1, e2, e3]; rfl
theorem own_wdle (l : List Int32) : wdH l ≤ l.length := by
  match l with
  | [] => exact Nat.le_refl _
  | [c] => exact Nat.le_refl _
  | c :: d :: r =>
    show (if (isHi c && isLo d) = true then 2 else 1) ≤ r.length + 1 + 1
    split <;> omega
theorem own_wd1 {l : List Int32} (h : l ≠ []) : 1 ≤ wdH l := by
  match l, h with
  | [c], _ => exact Nat.le_refl _
  | c :: d :: r, _ =>
    show 1 ≤ (if (isHi c && isLo d) = true then 2 else 1)
    split <;> omega
theorem own_cpsl : ∀ (n : Nat) (l : List Int32), l.length ≤ n → (cps l).length ≤ n
  | n, [], _ => Nat.zero_le _
  | 0, _ :: _, h => absurd h (by simp)
  | n + 1, c :: r, h => by
    rw [own_cps (by simp)]
    have k := own_wd1 (l := c :: r) (by simp)
    have q := own_cpsl n ((c :: r).drop (wdH (c :: r))) (by rw [List.length_drop]; simp at h ⊢; omega)
    simp at q ⊢
    omega
theorem own_ne {cs : List Int32} {i : Nat} (h : i < cs.length) : cs.drop i ≠ [] := by
  intro q
  have := congrArg List.length q
  rw [List.length_drop] at this
  simp at this
  omega
theorem own_dropR {cs : List Int32} (h : ∀ c ∈ cs, Rg c) (i : Nat) : ∀ c ∈ cs.drop i, Rg c := fun c hc => h c (List.mem_of_mem_drop hc)
theorem own_drop1 {cs : List Int32} {i : Nat} (h : i < cs.length) : cs.drop i = cs.getD i 0 :: cs.drop (i + 1) := by
  rw [List.drop_eq_getElem_cons h, List.getD_eq_getElem?_getD, List.getElem?_eq_getElem h]; rfl
/-- the code point at i -/
theorem own_cpP {cs : List Int32} {i : Nat} (h : i < cs.length) (h2 : i + 1 < cs.length) (a : isHi (cs.getD i 0) = true) (b : isLo (cs.getD (i + 1) 0) = true) : cpH (cs.drop i) = toCP (cs.getD i 0) (cs.getD (i + 1) 0) := by
  rw [own_drop1 h, own_drop1 h2]
  exact if_pos (by rw [a, b]; rfl)
theorem own_cpN {cs : List Int32} {i : Nat} (h : i < cs.length) (q : i + 1 < cs.length → (isHi (cs.getD i 0) && isLo (cs.getD (i + 1) 0)) = false) : cpH (cs.drop i) = cs.getD i 0 := by
  rw [own_drop1 h]
  rcases Nat.lt_or_ge (i + 1) cs.length with h2 | h2
  · rw [own_drop1 h2]
    exact if_neg (by rw [q h2]; simp)
  · rw [List.drop_eq_nil_of_le h2]
    rfl
theorem own_cpL {cs : List Int32} {i : Nat} (h : i < cs.length) (hl : ∀ c ∈ cs, ¬ c < 0 ∧ ¬ (255 : Int32) < c) : ((cs.getD i 0).toInt8.toInt32 &&& (255 : Int32)) = cpH (cs.drop i) := by
  have k := hl _ (own_mem h)
  rw [Int32.lt_iff_toInt_lt, Int32.lt_iff_toInt_lt] at k
  have e0 : (0 : Int32).toInt = 0 := rfl
  have e1 : (255 : Int32).toInt = 255 := rfl
  rw [own_cpN h (fun _ => by
    rw [Bool.and_eq_false_iff]
    left
    cases q : isHi (cs.getD i 0)
    · rfl
    · have := own_hi.mp q
      omega)]
  have b1 := c_i2b (cs.getD i 0)
  have m1 := c_mask (cs.getD i 0).toInt8.toInt32 255 8 (by decide) (by decide)
  exact Int32.toInt_inj.mp (by omega)
theorem own_nz {z : Int32} {b : Bool} (h : z = 0 ↔ b = false) (q : b = true) : ¬ z = 0 := fun e => by rw [h.mp e] at q; exact absurd q (by decide)
theorem own_tr {z : Int32} {b : Bool} (h : z = 0 ↔ b = false) (q : ¬ z = 0) : b = true := by
  cases b
  · exact absurd (h.mpr rfl) q
  · rfl
theorem own_z3 {z w : Int32} {a b : Bool} (h1 : z = 0 ↔ a = false) (hz : ¬ z = 0) (h2 : w = 0 ↔ b = false) (q : ¬ (a && b) = true) : w = 0 := by
  have ha := own_tr h1 hz
  subst ha
  apply h2.mpr
  cases b
  · rfl
  · exact absurd rfl q
theorem own_56 (x : Int32) : (56319 : Int32) < x ↔ ¬ x < 56320 := by
  rw [Int32.lt_iff_toInt_lt, Int32.lt_iff_toInt_lt]
  have e0 : (56319 : Int32).toInt = 56319 := rfl
  have e1 : (56320 : Int32).toInt = 56320 := rfl
  omega
theorem own_57 (x : Int32) : (57343 : Int32) < x ↔ ¬ x < 57344 := by
  rw [Int32.lt_iff_toInt_lt, Int32.lt_iff_toInt_lt]
  have e0 : (57343 : Int32).toInt = 57343 := rfl
  have e1 : (57344 : Int32).toInt = 57344 := rfl
  omega
theorem own_le10 {x : Int32} (h : ¬ (0 : Int32) < x) : ¬ (1 : Int32) < x := by
  rw [Int32.lt_iff_toInt_lt] at h ⊢
  have e0 : (0 : Int32).toInt = 0 := rfl
  have e1 : (1 : Int32).toInt = 1 := rfl
  omega
theorem own_le21 {x : Int32} (h : ¬ (1 : Int32) < x) : ¬ (2 : Int32) < x := by
  rw [Int32.lt_iff_toInt_lt] at h ⊢
  have e0 : (2 : Int32).toInt = 2 := rfl
  have e1 : (1 : Int32).toInt = 1 := rfl
  omega
theorem own_ln {x : Int64} {n : Int32} (h : (((x.toUInt64 >>> ((48 : Int32) &&& 0x3f).toInt64.toUInt64).toInt64) &&& (3 : Int64)).toInt32 = n) : n = 0 ∨ n = 1 ∨ n = 2 ∨ n = 3 := by
  have m := c_maskL ((x.toUInt64 >>> ((48 : Int32) &&& 0x3f).toInt64.toUInt64).toInt64) 3 2 (by decide) (by decide)
  have k := c_l2i (((x.toUInt64 >>> ((48 : Int32) &&& 0x3f).toInt64.toUInt64).toInt64) &&& 3)
  rw [h] at k
  have b := n.toInt_lt
  have b' := n.le_toInt
  have e : n.toInt = 0 ∨ n.toInt = 1 ∨ n.toInt = 2 ∨ n.toInt = 3 := by omega
  rcases e with e | e | e | e
  · exact Or.inl (Int32.toInt_inj.mp e)
  · exact Or.inr (Or.inl (Int32.toInt_inj.mp e))
  · exact Or.inr (Or.inr (Or.inl (Int32.toInt_inj.mp e)))
  · exact Or.inr (Or.inr (Or.inr (Int32.toInt_inj.mp e)))
theorem own_takel (n c0 c1 c2 : Int32) : (cps (takeC n c0 c1 c2)).length ≤ 3 := by
  apply own_cpsl
  unfold takeC
  split
  · simp
  · split
    · simp
    · split <;> simp
theorem own_lex : ∀ {L M : List Int32}, L.length ≤ 3 → M.length ≤ 3 → lexA (L.getD 0 0) (L.getD 1 0) (L.getD 2 0) (Int32.ofNat L.length) (M.getD 0 0) (M.getD 1 0) (M.getD 2 0) (Int32.ofNat M.length) = lexL L M := by
  intro L M hL hM
  have e0 : Int32.ofNat 0 = 0 := rfl
  have e1 : Int32.ofNat 1 = 1 := rfl
  have e2 : Int32.ofNat 2 = 2 := rfl
  have e3 : Int32.ofNat 3 = 3 := rfl
  match L, M, hL, hM with
  | [], [], _, _ => rfl
  | [], [a], _, _ => rfl
  | [], [a, b], _, _ => rfl
  | [], [a, b, c], _, _ => rfl
  | [a], [], _, _ => rfl
  | [a, b], [], _, _ => rfl
  | [a, b, c], [], _, _ => rfl
  | [a], [x], _, _ => by_cases h : a = x <;> simp [lexA, lexL, e1, h]
  | [a], [x, y], _, _ => by_cases h : a = x <;> simp [lexA, lexL, e1, e2, h]
  | [a], [x, y, z], _, _ => by_cases h : a = x <;> simp [lexA, lexL, e1, e3, h]
  | [a, b], [x], _, _ => by_cases h : a = x <;> simp [lexA, lexL, e1, e2, h]
  | [a, b, c], [x], _, _ => by_cases h : a = x <;> simp [lexA, lexL, e1, e3, h]
  | [a, b], [x, y], _, _ => by_cases h : a = x <;> by_cases h2 : b = y <;> simp [lexA, lexL, e2, h, h2]
  | [a, b], [x, y, z], _, _ => by_cases h : a = x <;> by_cases h2 : b = y <;> simp [lexA, lexL, e2, e3, h, h2]
  | [a, b, c], [x, y], _, _ => by_cases h : a = x <;> by_cases h2 : b = y <;> simp [lexA, lexL, e2, e3, h, h2]
  | [a, b, c], [x, y, z], _, _ => by_cases h : a = x <;> by_cases h2 : b = y <;> by_cases h3 : c = z <;> simp [lexA, lexL, e3, h, h2, h3]
theorem own_exit {cs ds : List Int32} {i : Nat} (h1 : i ≤ cs.length) (h2 : i ≤ ds.length) (hc : cs.length ≤ 4000) (hd : ds.length ≤ 4000) (q : ¬ (i < cs.length ∧ i < ds.length)) : (if Int32.ofNat cs.length < Int32.ofNat ds.length then (-1 : Int32) else if Int32.ofNat cs.length = Int32.ofNat ds.length then 0 else 1) = lexL (cps (cs.drop i)) (cps (ds.drop i)) := by
  rcases Nat.lt_or_ge i cs.length with a | a
  · rcases Nat.lt_or_ge i ds.length with b | b
    · exact absurd ⟨a, b⟩ q
    · rw [List.drop_eq_nil_of_le b, own_cps (own_ne a), if_neg (by rw [n_lt (by omega) (by omega)]; omega), if_neg (by rw [n_eq (by omega) (by omega)]; omega)]
      rfl
  · rcases Nat.lt_or_ge i ds.length with b | b
    · rw [List.drop_eq_nil_of_le a, own_cps (own_ne b), if_pos (by rw [n_lt (by omega) (by omega)]; omega)]
      rfl
    · rw [List.drop_eq_nil_of_le a, List.drop_eq_nil_of_le b, if_neg (by rw [n_lt (by omega) (by omega)]; omega), if_pos (by rw [n_eq (by omega) (by omega)]; omega)]
      rfl
theorem own_diff {cs ds : List Int32} {i : Nat} (h1 : i < cs.length) (h2 : i < ds.length) (q : ¬ cpH (cs.drop i) = cpH (ds.drop i)) : (if cpH (cs.drop i) < cpH (ds.drop i) then (-1 : Int32) else if cpH (cs.drop i) = cpH (ds.drop i) then 0 else 1) = lexL (cps (cs.drop i)) (cps (ds.drop i)) := by
  rw [own_cps (own_ne h1), own_cps (own_ne h2), lexL, if_neg q, if_neg q]
theorem own_step {cs ds : List Int32} {i : Nat} (h1 : i < cs.length) (h2 : i < ds.length) (hc : ∀ c ∈ cs, Rg c) (hd : ∀ c ∈ ds, Rg c) (q : cpH (cs.drop i) = cpH (ds.drop i)) :
    ∃ w : Nat, 1 ≤ w ∧ i + w ≤ cs.length ∧ i + w ≤ ds.length ∧ (if cpH (cs.drop i) < (65536 : Int32) then (1 : Int32) else 2) = Int32.ofNat w ∧ lexL (cps (cs.drop i)) (cps (ds.drop i)) = lexL (cps (cs.drop (i + w))) (cps (ds.drop (i + w))) := by
  have a := own_wd (own_dropR hc i) (own_ne h1)
  have b := own_wd (own_dropR hd i) (own_ne h2)
  have w1 := own_wdle (cs.drop i)
  have w2 := own_wdle (ds.drop i)
  rw [List.length_drop] at w1 w2
  have k : ∀ l : List Int32, wdH l ≤ 2 := fun l => by
    match l with
    | [] => exact Nat.zero_le _
    | [c] => show 1 ≤ 2; omega
    | c :: d :: r => show (if (isHi c && isLo d) = true then 2 else 1) ≤ 2; split <;> omega
  have k1 := k (cs.drop i)
  have k2 := k (ds.drop i)
  have e : wdH (cs.drop i) = wdH (ds.drop i) := by
    rw [← q] at b
    exact (n_eq (by omega) (by omega)).mp (a.symm.trans b)
  refine ⟨wdH (cs.drop i), own_wd1 (own_ne h1), by omega, by omega, a, ?_⟩
  rw [own_cps (own_ne h1), own_cps (own_ne h2), lexL, if_pos q, List.drop_drop, List.drop_drop, ← e]
theorem own_evI {Z : State} {args : Array Value} {t : Term} {x : Int32} (h : (Cond.eq t (Term.int x)).value args Z none Z [] = some true) : t.eval args Z none [] Z = some (.int x) := by
  cases q : t.eval args Z none [] Z with
  | none => simp [Cond.value, q] at h
  | some v =>
    cases v <;> simp [Cond.value, q, Term.int_eval] at h
    rw [h]
theorem own_lat {cs : List Int32} (hr : ∀ c ∈ cs, Rg c) (hl : ∀ c ∈ cs, ¬ (255 : Int32) < c) : ∀ c ∈ cs, ¬ c < 0 ∧ ¬ (255 : Int32) < c := fun c h => ⟨(hr c h).1, hl c h⟩
theorem own_all1 {a : Int32} (h : Rg a) : ∀ c ∈ ([a] : List Int32), Rg c := by
  intro c hc
  cases List.mem_singleton.mp hc
  exact h
theorem own_all2 {a b : Int32} (h : Rg a) (h2 : Rg b) : ∀ c ∈ ([a, b] : List Int32), Rg c := by
  intro c hc
  rcases List.mem_cons.mp hc with rfl | hc
  · exact h
  · exact own_all1 h2 c hc
theorem own_all3 {a b d : Int32} (h : Rg a) (h2 : Rg b) (h3 : Rg d) : ∀ c ∈ ([a, b, d] : List Int32), Rg c := by
  intro c hc
  rcases List.mem_cons.mp hc with rfl | hc
  · exact h
  · exact own_all2 h2 h3 c hc

set_option maxRecDepth 65536 in
set_option maxHeartbeats 40000000 in
theorem c_strE4 {l : Launch} {Z : State} {a0 : Array Value} (hw : W a0 Z) (a ar : Addr) (h0 : Heap) (E : Exa Z h0 a "java/lang/String") (ga : Z.heap.size ≤ a) (Fv : Fld Z h0 a "java/lang/String" "value" "[B" .null) (Fc : Fld Z h0 a "java/lang/String" "coder" "B" (.int (0 : Int32))) :
    Con l Z EL0 (⟨"java/lang/String", "<init>", "([CIILjava/lang/Void;)V"⟩ : MethodName) jdk_42_method_149_code 6 none ({ frames := 1, cells := 4, slots := 8, locals := 12 } : Room) #[(.ref a), (.ref ar), (.int (0 : Int32)), (.int (0 : Int32)), .null] h0 [a] (fun v h' Sf => v = none ∧ Keep h0 h' [a] ∧ ∃ (b : Addr) (kb : ClassId), LS Z h' a b kb []) := by
  have hpn : plainName "java/lang/String" = true := by first | (simp [plainName, overriddenIn]; done) | decide +kernel
  refine Con.intro (plainFor_of_name hpn) ?_
  intro p e s m below meth c T X hss
  have S_a := hss a (by simp)
  refine Goes.cast (g' := mkF m 0 #[.val (.ref a), .val (.ref ar), .val (.int (0 : Int32)), .val (.int (0 : Int32)), .val .null, .unset] []) (by first | (simp [entryFrame, mkF, argsToLocals, Value.category]; done) | rfl) ?_
  refine o_aloadN X d_jdk_42_method_149_0 rfl rfl (q := 1) rfl ?_
  refine o_initO X (w20 hw) (w21 hw) (w22 hw) d_jdk_42_method_149_1 rfl (by decide) (Nat.le_of_ble_eq_true rfl) (q := 4) rfl ?_
  intro T1 X1
  refine o_iloadN X1 d_jdk_42_method_149_4 rfl (q := 5) rfl ?_
  refine o_ifN X1 d_jdk_42_method_149_5 (by decide) (q := 8) rfl ?_
  refine o_aloadN X1 d_jdk_42_method_149_8 rfl rfl (q := 9) rfl ?_
  refine o_ldcS X1 (n := 0) (vs := []) (z := 0) (w23 hw) (wS0 hw) (List.mem_of_getElem? (i := 0) rfl) ⟨by decide, by decide⟩ (by decide) (by decide) d_jdk_42_method_149_9 (by decide) (by decide) (by decide) (by decide) (q := 11) rfl ?_
  intro vm2 T2 h2 a2 b2 k2 X2 E2 R2 A2 Fc2 Fv2 V2 ne2
  refine o_getF X2 Fv2 (host := "") (Or.inl (w29 hw)) Via.refl d_jdk_42_method_149_11 (q := 14) rfl ?_
  intro T3 X3
  have f4 := (Fv.ext E2)
  have f5 := (E.ext E2)
  have f7 := (CHr.safe R2 (E.lt) S_a)
  refine o_putF X3 f4 f5 ga f7 (host := "") (Or.inl (w29 hw)) Via.refl (Or.inr ⟨(w25 hw), rfl, rfl⟩) (w11 hw) (ty := (.array .byte)) (by decide) rfl rfl d_jdk_42_method_149_14 (q := 17) rfl ?_
  intro T6 h6 l6 X6 W6 R6 F6
  refine o_aloadN X6 d_jdk_42_method_149_17 rfl rfl (q := 18) rfl ?_
  refine o_ldcS X6 (n := 0) (vs := []) (z := 0) (w23 hw) (wS0 hw) (List.mem_of_getElem? (i := 0) rfl) ⟨by decide, by decide⟩ (by decide) (by decide) d_jdk_42_method_149_18 (by decide) (by decide) (by decide) (by decide) (q := 20) rfl ?_
  intro vm8 T8 h8 a8 b8 k8 X8 E8 R8 A8 Fc8 Fv8 V8 ne8
  refine o_getF X8 Fc8 (host := "") (Or.inl (w30 hw)) Via.refl d_jdk_42_method_149_20 (q := 23) rfl ?_
  intro T9 X9
  have f10 := (((Fc.ext E2).other W6 (Or.inr (slot_ne (Or.inr (w26 hw)) (Or.inr (w25 hw)) (by decide) (t := .byte) (t' := (.array .byte)) (by decide) (by decide)))).ext E8)
  have f11 := ((f5.wr W6).ext E8)
  have f13 := (CHr.safe R8 (F6.lt) (CHr.safe R6 (f5.lt) f7))
  refine o_putF X9 f10 f11 ga f13 (host := "") (Or.inl (w30 hw)) Via.refl (Or.inr ⟨(w26 hw), rfl, rfl⟩) (w11 hw) (ty := .byte) (by decide) (by decide) (by decide) d_jdk_42_method_149_23 (q := 26) rfl ?_
  intro T12 h12 l12 X12 W12 R12 F12
  have k14 := Keep.ext (Keep.refl h0 [a]) E2
  have k15 := Keep.wr k14 W6 (Or.inl (by simp))
  have k16 := Keep.ext k15 E8
  have k17 := Keep.wr k16 W12 (Or.inl (by simp))
  have f18 := (f11.wr W12)
  have f19 := ((F6.ext E8).other W12 (Or.inr (slot_ne (Or.inr (w25 hw)) (Or.inr (w26 hw)) (by decide) (t := (.array .byte)) (t' := .byte) (by decide) (by decide))))
  have f20 := (((V2.other W6 (Ne.symm (ne2 _ f7).2)).ext E8).other W12 (Ne.symm (ne2 _ f7).2))
  exact o_ret X12 d_jdk_42_method_149_26 (fun Sf hSf => ⟨rfl, k17, b2, k2, f18, F12, f19, f20, (fun c hc => nomatch hc), by decide⟩) (by decide) (by decide)
set_option maxRecDepth 65536 in
set_option maxHeartbeats 40000000 in
theorem c_strE {l : Launch} {Z : State} {a0 : Array Value} (hw : W a0 Z) (a ar : Addr) (h0 : Heap) (E : Exa Z h0 a "java/lang/String") (ga : Z.heap.size ≤ a) (Fv : Fld Z h0 a "java/lang/String" "value" "[B" .null) (Fc : Fld Z h0 a "java/lang/String" "coder" "B" (.int (0 : Int32))) {kc : ClassId} (Vb : Arv Z h0 ar kc .char (0 : Int32) [] (.int (0 : Int32))) :
    Con l Z EL0 (⟨"java/lang/String", "<init>", "([C)V"⟩ : MethodName) jdk_42_method_3_code 2 none ({ frames := 2, cells := 4, slots := 8, locals := 29 } : Room) #[(.ref a), (.ref ar)] h0 [a] (fun v h' Sf => v = none ∧ Keep h0 h' [a] ∧ ∃ (b : Addr) (kb : ClassId), LS Z h' a b kb []) := by
  have hpn : plainName "java/lang/String" = true := by first | (simp [plainName, overriddenIn]; done) | decide +kernel
  refine Con.intro (plainFor_of_name hpn) ?_
  intro p e s m below meth c T X hss
  have S_a := hss a (by simp)
  refine Goes.cast (g' := mkF m 0 #[.val (.ref a), .val (.ref ar)] []) (by first | (simp [entryFrame, mkF, argsToLocals, Value.category]; done) | rfl) ?_
  refine o_aloadN X d_jdk_42_method_3_0 rfl rfl (q := 1) rfl ?_
  refine o_aloadN X d_jdk_42_method_3_1 rfl rfl (q := 2) rfl ?_
  refine o_iconst X d_jdk_42_method_3_2 (w := 0) rfl (q := 3) rfl ?_
  refine o_aloadN X d_jdk_42_method_3_3 rfl rfl (q := 4) rfl ?_
  refine o_len X Vb d_jdk_42_method_3_4 (q := 5) rfl ?_
  refine o_null X d_jdk_42_method_3_5 (q := 6) rfl ?_
  refine o_spec X [(.ref ar), (.int (0 : Int32)), (.int (0 : Int32)), .null] (y' := (⟨"java/lang/String", "<init>", "([CIILjava/lang/Void;)V"⟩ : MethodName)) (c_strE4 hw a ar _ E ga Fv Fc) (allS ⟨E.lt, S_a⟩ all0) rfl (w16 hw) (w17 hw) (w19 hw) (w12 hw) (by decide) d_jdk_42_method_3_6 (rest := []) rfl rfl (lenOf pd0 rfl) rfl (by decide) (Nat.le_of_ble_eq_true rfl) (by decide) (by decide) (q := 9) rfl ?_
  intro v1 vm1 T1 h1 l1 X1 R1 q1
  obtain ⟨rfl, K1, b1, kb1, L1⟩ := q1
  show Goes p e below _ T1 (mkF m 9 #[.val (.ref a), .val (.ref ar)] [])
  have k2 := Keep.trans (Keep.refl h0 [a]) K1 (allS (Or.inl (by simp)) all0)
  exact o_ret X1 d_jdk_42_method_3_9 (fun Sf hSf => ⟨rfl, k2, b1, kb1, L1⟩) (by decide) (by decide)
set_option maxRecDepth 65536 in
set_option maxHeartbeats 40000000 in
theorem c_cmp5_1_0 {l : Launch} {Z : State} {a0 : Array Value} (hw : W a0 Z) (ar b : Addr) (c0 : Int32) (h0 : Heap) {ka kb : ClassId} (Va : Arv Z h0 ar ka .char (1 : Int32) [(.int c0)] (.int (0 : Int32))) (Vb : Arv Z h0 b kb .byte (1 : Int32) [(.int (0 : Int32))] (.int (0 : Int32))) (gb : Z.heap.size ≤ b) (hne : ar ≠ b) (hk : (255 : Int32) < c0) :
    Con l Z EL0 (⟨"java/lang/StringUTF16", "compress", "([CI[BII)I"⟩ : MethodName) jdk_52_method_21_code 7 (some .int) ({ frames := 0, cells := 0, slots := 0, locals := 0 } : Room) #[(.ref ar), (.int (0 : Int32)), (.ref b), (.int (0 : Int32)), (.int (1 : Int32))] h0 [b] (fun v h' Sf => v = some (.int (0 : Int32)) ∧ Keep h0 h' [b]) := by
  have hpn : plainName "java/lang/StringUTF16" = true := by first | (simp [plainName, overriddenIn]; done) | decide +kernel
  refine Con.intro (plainFor_of_name hpn) ?_
  intro p e s m below meth c T X hss
  have S_b := hss b (by simp)
  refine Goes.cast (g' := mkF m 0 #[.val (.ref ar), .val (.int (0 : Int32)), .val (.ref b), .val (.int (0 : Int32)), .val (.int (1 : Int32)), .unset, .unset] []) (by first | (simp [entryFrame, mkF, argsToLocals, Value.category]; done) | rfl) ?_
  refine o_iconst X d_jdk_52_method_21_0 (w := 0) rfl (q := 1) rfl ?_
  refine o_istore X d_jdk_52_method_21_1 rfl (L' := #[.val (.ref ar), .val (.int (0 : Int32)), .val (.ref b), .val (.int (0 : Int32)), .val (.int (1 : Int32)), .val (.int (0 : Int32)), .unset]) rfl (q := 3) rfl ?_
  refine o_iload X d_jdk_52_method_21_3 rfl (q := 5) rfl ?_
  refine o_iload X d_jdk_52_method_21_5 rfl (q := 7) rfl ?_
  refine o_icmpN X d_jdk_52_method_21_7 (by decide) (q := 10) rfl ?_
  refine o_aloadN X d_jdk_52_method_21_10 rfl rfl (q := 11) rfl ?_
  refine o_iloadN X d_jdk_52_method_21_11 rfl (q := 12) rfl ?_
  refine o_caload X Va (by decide) (v := (.int c0)) rfl d_jdk_52_method_21_12 (q := 13) rfl ?_
  refine o_istore X d_jdk_52_method_21_13 rfl (L' := #[.val (.ref ar), .val (.int (0 : Int32)), .val (.ref b), .val (.int (0 : Int32)), .val (.int (1 : Int32)), .val (.int (0 : Int32)), .val (.int c0)]) rfl (q := 15) rfl ?_
  refine o_iload X d_jdk_52_method_21_15 rfl (q := 17) rfl ?_
  refine o_sipush X d_jdk_52_method_21_17 (w := 255) rfl (q := 20) rfl ?_
  refine o_icmpN X d_jdk_52_method_21_20 (tlt hk).2.2.2 (q := 23) rfl ?_
  refine o_iload X d_jdk_52_method_21_23 rfl (q := 25) rfl ?_
  exact o_retI X d_jdk_52_method_21_25 (fun Sf hSf => ⟨rfl, (Keep.refl h0 [b])⟩) (by decide) (by decide)
set_option maxRecDepth 65536 in
set_option maxHeartbeats 40000000 in
theorem c_cmp5_1_1 {l : Launch} {Z : State} {a0 : Array Value} (hw : W a0 Z) (ar b : Addr) (c0 : Int32) (h0 : Heap) {ka kb : ClassId} (Va : Arv Z h0 ar ka .char (1 : Int32) [(.int c0)] (.int (0 : Int32))) (Vb : Arv Z h0 b kb .byte (1 : Int32) [(.int (0 : Int32))] (.int (0 : Int32))) (gb : Z.heap.size ≤ b) (hne : ar ≠ b) (hl0 : ¬ (255 : Int32) < c0) :
    Con l Z EL0 (⟨"java/lang/StringUTF16", "compress", "([CI[BII)I"⟩ : MethodName) jdk_52_method_21_code 7 (some .int) ({ frames := 0, cells := 0, slots := 0, locals := 0 } : Room) #[(.ref ar), (.int (0 : Int32)), (.ref b), (.int (0 : Int32)), (.int (1 : Int32))] h0 [b] (fun v h' Sf => v = some (.int (1 : Int32)) ∧ Keep h0 h' [b] ∧ Arv Z h' b kb .byte (1 : Int32) [(.int c0.toInt8.toInt32)] (.int (0 : Int32))) := by
  have hpn : plainName "java/lang/StringUTF16" = true := by first | (simp [plainName, overriddenIn]; done) | decide +kernel
  refine Con.intro (plainFor_of_name hpn) ?_
  intro p e s m below meth c T X hss
  have S_b := hss b (by simp)
  refine Goes.cast (g' := mkF m 0 #[.val (.ref ar), .val (.int (0 : Int32)), .val (.ref b), .val (.int (0 : Int32)), .val (.int (1 : Int32)), .unset, .unset] []) (by first | (simp [entryFrame, mkF, argsToLocals, Value.category]; done) | rfl) ?_
  refine o_iconst X d_jdk_52_method_21_0 (w := 0) rfl (q := 1) rfl ?_
  refine o_istore X d_jdk_52_method_21_1 rfl (L' := #[.val (.ref ar), .val (.int (0 : Int32)), .val (.ref b), .val (.int (0 : Int32)), .val (.int (1 : Int32)), .val (.int (0 : Int32)), .unset]) rfl (q := 3) rfl ?_
  refine o_iload X d_jdk_52_method_21_3 rfl (q := 5) rfl ?_
  refine o_iload X d_jdk_52_method_21_5 rfl (q := 7) rfl ?_
  refine o_icmpN X d_jdk_52_method_21_7 (by decide) (q := 10) rfl ?_
  refine o_aloadN X d_jdk_52_method_21_10 rfl rfl (q := 11) rfl ?_
  refine o_iloadN X d_jdk_52_method_21_11 rfl (q := 12) rfl ?_
  refine o_caload X Va (by decide) (v := (.int c0)) rfl d_jdk_52_method_21_12 (q := 13) rfl ?_
  refine o_istore X d_jdk_52_method_21_13 rfl (L' := #[.val (.ref ar), .val (.int (0 : Int32)), .val (.ref b), .val (.int (0 : Int32)), .val (.int (1 : Int32)), .val (.int (0 : Int32)), .val (.int c0)]) rfl (q := 15) rfl ?_
  refine o_iload X d_jdk_52_method_21_15 rfl (q := 17) rfl ?_
  refine o_sipush X d_jdk_52_method_21_17 (w := 255) rfl (q := 20) rfl ?_
  refine o_icmpY X d_jdk_52_method_21_20 (flt hl0).2.2.2 (by decide) (q := 26) (by decide) ?_
  refine o_aloadN X d_jdk_52_method_21_26 rfl rfl (q := 27) rfl ?_
  refine o_iloadN X d_jdk_52_method_21_27 rfl (q := 28) rfl ?_
  refine o_iload X d_jdk_52_method_21_28 rfl (q := 30) rfl ?_
  refine o_i2b X d_jdk_52_method_21_30 (w := (c0.toInt8.toInt32)) rfl (q := 31) rfl ?_
  refine o_bastore X 0 Vb gb S_b (by decide) rfl (Nat.le_of_ble_eq_true rfl) (v := (.int (c0.toInt8.toInt32))) (by rw [own_narb]) d_jdk_52_method_21_31 (q := 32) rfl ?_
  intro T1 h1 l1 X1 W1 R1 V1
  have V1 : Arv Z h1 b kb .byte (1 : Int32) [(.int (c0.toInt8.toInt32))] (.int (0 : Int32)) := V1
  refine o_iinc X1 d_jdk_52_method_21_32 rfl (z := (1 : Int32)) (by decide) (L' := #[.val (.ref ar), .val (.int (1 : Int32)), .val (.ref b), .val (.int (0 : Int32)), .val (.int (1 : Int32)), .val (.int (0 : Int32)), .val (.int c0)]) rfl (q := 35) rfl ?_
  refine o_iinc X1 d_jdk_52_method_21_35 rfl (z := (1 : Int32)) (by decide) (L' := #[.val (.ref ar), .val (.int (1 : Int32)), .val (.ref b), .val (.int (1 : Int32)), .val (.int (1 : Int32)), .val (.int (0 : Int32)), .val (.int c0)]) rfl (q := 38) rfl ?_
  refine o_iinc X1 d_jdk_52_method_21_38 rfl (z := (1 : Int32)) (by decide) (L' := #[.val (.ref ar), .val (.int (1 : Int32)), .val (.ref b), .val (.int (1 : Int32)), .val (.int (1 : Int32)), .val (.int (1 : Int32)), .val (.int c0)]) rfl (q := 41) rfl ?_
  refine o_goto X1 d_jdk_52_method_21_41 (by decide) (q := 3) (by decide) ?_
  refine o_iload X1 d_jdk_52_method_21_3 rfl (q := 5) rfl ?_
  refine o_iload X1 d_jdk_52_method_21_5 rfl (q := 7) rfl ?_
  refine o_icmpY X1 d_jdk_52_method_21_7 (by decide) (by decide) (q := 44) (by decide) ?_
  refine o_iload X1 d_jdk_52_method_21_44 rfl (q := 46) rfl ?_
  have k2 := Keep.wr (Keep.refl h0 [b]) W1 (Or.inl (by simp))
  exact o_retI X1 d_jdk_52_method_21_46 (fun Sf hSf => ⟨rfl, k2, V1⟩) (by decide) (by decide)
set_option maxRecDepth 65536 in
set_option maxHeartbeats 40000000 in
theorem c_cmp5_2_0 {l : Launch} {Z : State} {a0 : Array Value} (hw : W a0 Z) (ar b : Addr) (c0 c1 : Int32) (h0 : Heap) {ka kb : ClassId} (Va : Arv Z h0 ar ka .char (2 : Int32) [(.int c0), (.int c1)] (.int (0 : Int32))) (Vb : Arv Z h0 b kb .byte (2 : Int32) [(.int (0 : Int32)), (.int (0 : Int32))] (.int (0 : Int32))) (gb : Z.heap.size ≤ b) (hne : ar ≠ b) (hk : (255 : Int32) < c0) :
    Con l Z EL0 (⟨"java/lang/StringUTF16", "compress", "([CI[BII)I"⟩ : MethodName) jdk_52_method_21_code 7 (some .int) ({ frames := 0, cells := 0, slots := 0, locals := 0 } : Room) #[(.ref ar), (.int (0 : Int32)), (.ref b), (.int (0 : Int32)), (.int (2 : Int32))] h0 [b] (fun v h' Sf => v = some (.int (0 : Int32)) ∧ Keep h0 h' [b]) := by
  have hpn : plainName "java/lang/StringUTF16" = true := by first | (simp [plainName, overriddenIn]; done) | decide +kernel
  refine Con.intro (plainFor_of_name hpn) ?_
  intro p e s m below meth c T X hss
  have S_b := hss b (by simp)
  refine Goes.cast (g' := mkF m 0 #[.val (.ref ar), .val (.int (0 : Int32)), .val (.ref b), .val (.int (0 : Int32)), .val (.int (2 : Int32)), .unset, .unset] []) (by first | (simp [entryFrame, mkF, argsToLocals, Value.category]; done) | rfl) ?_
  refine o_iconst X d_jdk_52_method_21_0 (w := 0) rfl (q := 1) rfl ?_
  refine o_istore X d_jdk_52_method_21_1 rfl (L' := #[.val (.ref ar), .val (.int (0 : Int32)), .val (.ref b), .val (.int (0 : Int32)), .val (.int (2 : Int32)), .val (.int (0 : Int32)), .unset]) rfl (q := 3) rfl ?_
  refine o_iload X d_jdk_52_method_21_3 rfl (q := 5) rfl ?_
  refine o_iload X d_jdk_52_method_21_5 rfl (q := 7) rfl ?_
  refine o_icmpN X d_jdk_52_method_21_7 (by decide) (q := 10) rfl ?_
  refine o_aloadN X d_jdk_52_method_21_10 rfl rfl (q := 11) rfl ?_
  refine o_iloadN X d_jdk_52_method_21_11 rfl (q := 12) rfl ?_
  refine o_caload X Va (by decide) (v := (.int c0)) rfl d_jdk_52_method_21_12 (q := 13) rfl ?_
  refine o_istore X d_jdk_52_method_21_13 rfl (L' := #[.val (.ref ar), .val (.int (0 : Int32)), .val (.ref b), .val (.int (0 : Int32)), .val (.int (2 : Int32)), .val (.int (0 : Int32)), .val (.int c0)]) rfl (q := 15) rfl ?_
  refine o_iload X d_jdk_52_method_21_15 rfl (q := 17) rfl ?_
  refine o_sipush X d_jdk_52_method_21_17 (w := 255) rfl (q := 20) rfl ?_
  refine o_icmpN X d_jdk_52_method_21_20 (tlt hk).2.2.2 (q := 23) rfl ?_
  refine o_iload X d_jdk_52_method_21_23 rfl (q := 25) rfl ?_
  exact o_retI X d_jdk_52_method_21_25 (fun Sf hSf => ⟨rfl, (Keep.refl h0 [b])⟩) (by decide) (by decide)
set_option maxRecDepth 65536 in
set_option maxHeartbeats 40000000 in
theorem c_cmp5_2_1 {l : Launch} {Z : State} {a0 : Array Value} (hw : W a0 Z) (ar b : Addr) (c0 c1 : Int32) (h0 : Heap) {ka kb : ClassId} (Va : Arv Z h0 ar ka .char (2 : Int32) [(.int c0), (.int c1)] (.int (0 : Int32))) (Vb : Arv Z h0 b kb .byte (2 : Int32) [(.int (0 : Int32)), (.int (0 : Int32))] (.int (0 : Int32))) (gb : Z.heap.size ≤ b) (hne : ar ≠ b) (hl0 : ¬ (255 : Int32) < c0) (hk : (255 : Int32) < c1) :
    Con l Z EL0 (⟨"java/lang/StringUTF16", "compress", "([CI[BII)I"⟩ : MethodName) jdk_52_method_21_code 7 (some .int) ({ frames := 0, cells := 0, slots := 0, locals := 0 } : Room) #[(.ref ar), (.int (0 : Int32)), (.ref b), (.int (0 : Int32)), (.int (2 : Int32))] h0 [b] (fun v h' Sf => v = some (.int (1 : Int32)) ∧ Keep h0 h' [b]) := by
  have hpn : plainName "java/lang/StringUTF16" = true := by first | (simp [plainName, overriddenIn]; done) | decide +kernel
  refine Con.intro (plainFor_of_name hpn) ?_
  intro p e s m below meth c T X hss
  have S_b := hss b (by simp)
  refine Goes.cast (g' := mkF m 0 #[.val (.ref ar), .val (.int (0 : Int32)), .val (.ref b), .val (.int (0 : Int32)), .val (.int (2 : Int32)), .unset, .unset] []) (by first | (simp [entryFrame, mkF, argsToLocals, Value.category]; done) | rfl) ?_
  refine o_iconst X d_jdk_52_method_21_0 (w := 0) rfl (q := 1) rfl ?_
  refine o_istore X d_jdk_52_method_21_1 rfl (L' := #[.val (.ref ar), .val (.int (0 : Int32)), .val (.ref b), .val (.int (0 : Int32)), .val (.int (2 : Int32)), .val (.int (0 : Int32)), .unset]) rfl (q := 3) rfl ?_
  refine o_iload X d_jdk_52_method_21_3 rfl (q := 5) rfl ?_
  refine o_iload X d_jdk_52_method_21_5 rfl (q := 7) rfl ?_
  refine o_icmpN X d_jdk_52_method_21_7 (by decide) (q := 10) rfl ?_
  refine o_aloadN X d_jdk_52_method_21_10 rfl rfl (q := 11) rfl ?_
  refine o_iloadN X d_jdk_52_method_21_11 rfl (q := 12) rfl ?_
  refine o_caload X Va (by decide) (v := (.int c0)) rfl d_jdk_52_method_21_12 (q := 13) rfl ?_
  refine o_istore X d_jdk_52_method_21_13 rfl (L' := #[.val (.ref ar), .val (.int (0 : Int32)), .val (.ref b), .val (.int (0 : Int32)), .val (.int (2 : Int32)), .val (.int (0 : Int32)), .val (.int c0)]) rfl (q := 15) rfl ?_
  refine o_iload X d_jdk_52_method_21_15 rfl (q := 17) rfl ?_
  refine o_sipush X d_jdk_52_method_21_17 (w := 255) rfl (q := 20) rfl ?_
  refine o_icmpY X d_jdk_52_method_21_20 (flt hl0).2.2.2 (by decide) (q := 26) (by decide) ?_
  refine o_aloadN X d_jdk_52_method_21_26 rfl rfl (q := 27) rfl ?_
  refine o_iloadN X d_jdk_52_method_21_27 rfl (q := 28) rfl ?_
  refine o_iload X d_jdk_52_method_21_28 rfl (q := 30) rfl ?_
  refine o_i2b X d_jdk_52_method_21_30 (w := (c0.toInt8.toInt32)) rfl (q := 31) rfl ?_
  refine o_bastore X 0 Vb gb S_b (by decide) rfl (Nat.le_of_ble_eq_true rfl) (v := (.int (c0.toInt8.toInt32))) (by rw [own_narb]) d_jdk_52_method_21_31 (q := 32) rfl ?_
  intro T1 h1 l1 X1 W1 R1 V1
  have V1 : Arv Z h1 b kb .byte (2 : Int32) [(.int (c0.toInt8.toInt32)), (.int (0 : Int32))] (.int (0 : Int32)) := V1
  refine o_iinc X1 d_jdk_52_method_21_32 rfl (z := (1 : Int32)) (by decide) (L' := #[.val (.ref ar), .val (.int (1 : Int32)), .val (.ref b), .val (.int (0 : Int32)), .val (.int (2 : Int32)), .val (.int (0 : Int32)), .val (.int c0)]) rfl (q := 35) rfl ?_
  refine o_iinc X1 d_jdk_52_method_21_35 rfl (z := (1 : Int32)) (by decide) (L' := #[.val (.ref ar), .val (.int (1 : Int32)), .val (.ref b), .val (.int (1 : Int32)), .val (.int (2 : Int32)), .val (.int (0 : Int32)), .val (.int c0)]) rfl (q := 38) rfl ?_
  refine o_iinc X1 d_jdk_52_method_21_38 rfl (z := (1 : Int32)) (by decide) (L' := #[.val (.ref ar), .val (.int (1 : Int32)), .val (.ref b), .val (.int (1 : Int32)), .val (.int (2 : Int32)), .val (.int (1 : Int32)), .val (.int c0)]) rfl (q := 41) rfl ?_
  refine o_goto X1 d_jdk_52_method_21_41 (by decide) (q := 3) (by decide) ?_
  refine o_iload X1 d_jdk_52_method_21_3 rfl (q := 5) rfl ?_
  refine o_iload X1 d_jdk_52_method_21_5 rfl (q := 7) rfl ?_
  refine o_icmpN X1 d_jdk_52_method_21_7 (by decide) (q := 10) rfl ?_
  refine o_aloadN X1 d_jdk_52_method_21_10 rfl rfl (q := 11) rfl ?_
  refine o_iloadN X1 d_jdk_52_method_21_11 rfl (q := 12) rfl ?_
  have f2 := (Va.other W1 hne)
  refine o_caload X1 f2 (by decide) (v := (.int c1)) rfl d_jdk_52_method_21_12 (q := 13) rfl ?_
  refine o_istore X1 d_jdk_52_method_21_13 rfl (L' := #[.val (.ref ar), .val (.int (1 : Int32)), .val (.ref b), .val (.int (1 : Int32)), .val (.int (2 : Int32)), .val (.int (1 : Int32)), .val (.int c1)]) rfl (q := 15) rfl ?_
  refine o_iload X1 d_jdk_52_method_21_15 rfl (q := 17) rfl ?_
  refine o_sipush X1 d_jdk_52_method_21_17 (w := 255) rfl (q := 20) rfl ?_
  refine o_icmpN X1 d_jdk_52_method_21_20 (tlt hk).2.2.2 (q := 23) rfl ?_
  refine o_iload X1 d_jdk_52_method_21_23 rfl (q := 25) rfl ?_
  have k3 := Keep.wr (Keep.refl h0 [b]) W1 (Or.inl (by simp))
  exact o_retI X1 d_jdk_52_method_21_25 (fun Sf hSf => ⟨rfl, k3⟩) (by decide) (by decide)
set_option maxRecDepth 65536 in
set_option maxHeartbeats 40000000 in
theorem c_cmp5_2_2 {l : Launch} {Z : State} {a0 : Array Value} (hw : W a0 Z) (ar b : Addr) (c0 c1 : Int32) (h0 : Heap) {ka kb : ClassId} (Va : Arv Z h0 ar ka .char (2 : Int32) [(.int c0), (.int c1)] (.int (0 : Int32))) (Vb : Arv Z h0 b kb .byte (2 : Int32) [(.int (0 : Int32)), (.int (0 : Int32))] (.int (0 : Int32))) (gb : Z.heap.size ≤ b) (hne : ar ≠ b) (hl0 : ¬ (255 : Int32) < c0) (hl1 : ¬ (255 : Int32) < c1) :
    Con l Z EL0 (⟨"java/lang/StringUTF16", "compress", "([CI[BII)I"⟩ : MethodName) jdk_52_method_21_code 7 (some .int) ({ frames := 0, cells := 0, slots := 0, locals := 0 } : Room) #[(.ref ar), (.int (0 : Int32)), (.ref b), (.int (0 : Int32)), (.int (2 : Int32))] h0 [b] (fun v h' Sf => v = some (.int (2 : Int32)) ∧ Keep h0 h' [b] ∧ Arv Z h' b kb .byte (2 : Int32) [(.int c0.toInt8.toInt32), (.int c1.toInt8.toInt32)] (.int (0 : Int32))) := by
  have hpn : plainName "java/lang/StringUTF16" = true := by first | (simp [plainName, overriddenIn]; done) | decide +kernel
  refine Con.intro (plainFor_of_name hpn) ?_
  intro p e s m below meth c T X hss
  have S_b := hss b (by simp)
  refine Goes.cast (g' := mkF m 0 #[.val (.ref ar), .val (.int (0 : Int32)), .val (.ref b), .val (.int (0 : Int32)), .val (.int (2 : Int32)), .unset, .unset] []) (by first | (simp [entryFrame, mkF, argsToLocals, Value.category]; done) | rfl) ?_
  refine o_iconst X d_jdk_52_method_21_0 (w := 0) rfl (q := 1) rfl ?_
  refine o_istore X d_jdk_52_method_21_1 rfl (L' := #[.val (.ref ar), .val (.int (0 : Int32)), .val (.ref b), .val (.int (0 : Int32)), .val (.int (2 : Int32)), .val (.int (0 : Int32)), .unset]) rfl (q := 3) rfl ?_
  refine o_iload X d_jdk_52_method_21_3 rfl (q := 5) rfl ?_
  refine o_iload X d_jdk_52_method_21_5 rfl (q := 7) rfl ?_
  refine o_icmpN X d_jdk_52_method_21_7 (by decide) (q := 10) rfl ?_
  refine o_aloadN X d_jdk_52_method_21_10 rfl rfl (q := 11) rfl ?_
  refine o_iloadN X d_jdk_52_method_21_11 rfl (q := 12) rfl ?_
  refine o_caload X Va (by decide) (v := (.int c0)) rfl d_jdk_52_method_21_12 (q := 13) rfl ?_
  refine o_istore X d_jdk_52_method_21_13 rfl (L' := #[.val (.ref ar), .val (.int (0 : Int32)), .val (.ref b), .val (.int (0 : Int32)), .val (.int (2 : Int32)), .val (.int (0 : Int32)), .val (.int c0)]) rfl (q := 15) rfl ?_
  refine o_iload X d_jdk_52_method_21_15 rfl (q := 17) rfl ?_
  refine o_sipush X d_jdk_52_method_21_17 (w := 255) rfl (q := 20) rfl ?_
  refine o_icmpY X d_jdk_52_method_21_20 (flt hl0).2.2.2 (by decide) (q := 26) (by decide) ?_
  refine o_aloadN X d_jdk_52_method_21_26 rfl rfl (q := 27) rfl ?_
  refine o_iloadN X d_jdk_52_method_21_27 rfl (q := 28) rfl ?_
  refine o_iload X d_jdk_52_method_21_28 rfl (q := 30) rfl ?_
  refine o_i2b X d_jdk_52_method_21_30 (w := (c0.toInt8.toInt32)) rfl (q := 31) rfl ?_
  refine o_bastore X 0 Vb gb S_b (by decide) rfl (Nat.le_of_ble_eq_true rfl) (v := (.int (c0.toInt8.toInt32))) (by rw [own_narb]) d_jdk_52_method_21_31 (q := 32) rfl ?_
  intro T1 h1 l1 X1 W1 R1 V1
  have V1 : Arv Z h1 b kb .byte (2 : Int32) [(.int (c0.toInt8.toInt32)), (.int (0 : Int32))] (.int (0 : Int32)) := V1
  refine o_iinc X1 d_jdk_52_method_21_32 rfl (z := (1 : Int32)) (by decide) (L' := #[.val (.ref ar), .val (.int (1 : Int32)), .val (.ref b), .val (.int (0 : Int32)), .val (.int (2 : Int32)), .val (.int (0 : Int32)), .val (.int c0)]) rfl (q := 35) rfl ?_
  refine o_iinc X1 d_jdk_52_method_21_35 rfl (z := (1 : Int32)) (by decide) (L' := #[.val (.ref ar), .val (.int (1 : Int32)), .val (.ref b), .val (.int (1 : Int32)), .val (.int (2 : Int32)), .val (.int (0 : Int32)), .val (.int c0)]) rfl (q := 38) rfl ?_
  refine o_iinc X1 d_jdk_52_method_21_38 rfl (z := (1 : Int32)) (by decide) (L' := #[.val (.ref ar), .val (.int (1 : Int32)), .val (.ref b), .val (.int (1 : Int32)), .val (.int (2 : Int32)), .val (.int (1 : Int32)), .val (.int c0)]) rfl (q := 41) rfl ?_
  refine o_goto X1 d_jdk_52_method_21_41 (by decide) (q := 3) (by decide) ?_
  refine o_iload X1 d_jdk_52_method_21_3 rfl (q := 5) rfl ?_
  refine o_iload X1 d_jdk_52_method_21_5 rfl (q := 7) rfl ?_
  refine o_icmpN X1 d_jdk_52_method_21_7 (by decide) (q := 10) rfl ?_
  refine o_aloadN X1 d_jdk_52_method_21_10 rfl rfl (q := 11) rfl ?_
  refine o_iloadN X1 d_jdk_52_method_21_11 rfl (q := 12) rfl ?_
  have f2 := (Va.other W1 hne)
  refine o_caload X1 f2 (by decide) (v := (.int c1)) rfl d_jdk_52_method_21_12 (q := 13) rfl ?_
  refine o_istore X1 d_jdk_52_method_21_13 rfl (L' := #[.val (.ref ar), .val (.int (1 : Int32)), .val (.ref b), .val (.int (1 : Int32)), .val (.int (2 : Int32)), .val (.int (1 : Int32)), .val (.int c1)]) rfl (q := 15) rfl ?_
  refine o_iload X1 d_jdk_52_method_21_15 rfl (q := 17) rfl ?_
  refine o_sipush X1 d_jdk_52_method_21_17 (w := 255) rfl (q := 20) rfl ?_
  refine o_icmpY X1 d_jdk_52_method_21_20 (flt hl1).2.2.2 (by decide) (q := 26) (by decide) ?_
  refine o_aloadN X1 d_jdk_52_method_21_26 rfl rfl (q := 27) rfl ?_
  refine o_iloadN X1 d_jdk_52_method_21_27 rfl (q := 28) rfl ?_
  refine o_iload X1 d_jdk_52_method_21_28 rfl (q := 30) rfl ?_
  refine o_i2b X1 d_jdk_52_method_21_30 (w := (c1.toInt8.toInt32)) rfl (q := 31) rfl ?_
  have f4 := (CHr.safe R1 (Vb.lt) S_b)
  refine o_bastore X1 1 V1 gb f4 (by decide) rfl (Nat.le_of_ble_eq_true rfl) (v := (.int (c1.toInt8.toInt32))) (by rw [own_narb]) d_jdk_52_method_21_31 (q := 32) rfl ?_
  intro T3 h3 l3 X3 W3 R3 V3
  have V3 : Arv Z h3 b kb .byte (2 : Int32) [(.int (c0.toInt8.toInt32)), (.int (c1.toInt8.toInt32))] (.int (0 : Int32)) := V3
  refine o_iinc X3 d_jdk_52_method_21_32 rfl (z := (2 : Int32)) (by decide) (L' := #[.val (.ref ar), .val (.int (2 : Int32)), .val (.ref b), .val (.int (1 : Int32)), .val (.int (2 : Int32)), .val (.int (1 : Int32)), .val (.int c1)]) rfl (q := 35) rfl ?_
  refine o_iinc X3 d_jdk_52_method_21_35 rfl (z := (2 : Int32)) (by decide) (L' := #[.val (.ref ar), .val (.int (2 : Int32)), .val (.ref b), .val (.int (2 : Int32)), .val (.int (2 : Int32)), .val (.int (1 : Int32)), .val (.int c1)]) rfl (q := 38) rfl ?_
  refine o_iinc X3 d_jdk_52_method_21_38 rfl (z := (2 : Int32)) (by decide) (L' := #[.val (.ref ar), .val (.int (2 : Int32)), .val (.ref b), .val (.int (2 : Int32)), .val (.int (2 : Int32)), .val (.int (2 : Int32)), .val (.int c1)]) rfl (q := 41) rfl ?_
  refine o_goto X3 d_jdk_52_method_21_41 (by decide) (q := 3) (by decide) ?_
  refine o_iload X3 d_jdk_52_method_21_3 rfl (q := 5) rfl ?_
  refine o_iload X3 d_jdk_52_method_21_5 rfl (q := 7) rfl ?_
  refine o_icmpY X3 d_jdk_52_method_21_7 (by decide) (by decide) (q := 44) (by decide) ?_
  refine o_iload X3 d_jdk_52_method_21_44 rfl (q := 46) rfl ?_
  have k5 := Keep.wr (Keep.refl h0 [b]) W1 (Or.inl (by simp))
  have k6 := Keep.wr k5 W3 (Or.inl (by simp))
  exact o_retI X3 d_jdk_52_method_21_46 (fun Sf hSf => ⟨rfl, k6, V3⟩) (by decide) (by decide)
set_option maxRecDepth 65536 in
set_option maxHeartbeats 40000000 in
theorem c_cmp5_3_0 {l : Launch} {Z : State} {a0 : Array Value} (hw : W a0 Z) (ar b : Addr) (c0 c1 c2 : Int32) (h0 : Heap) {ka kb : ClassId} (Va : Arv Z h0 ar ka .char (3 : Int32) [(.int c0), (.int c1), (.int c2)] (.int (0 : Int32))) (Vb : Arv Z h0 b kb .byte (3 : Int32) [(.int (0 : Int32)), (.int (0 : Int32)), (.int (0 : Int32))] (.int (0 : Int32))) (gb : Z.heap.size ≤ b) (hne : ar ≠ b) (hk : (255 : Int32) < c0) :
    Con l Z EL0 (⟨"java/lang/StringUTF16", "compress", "([CI[BII)I"⟩ : MethodName) jdk_52_method_21_code 7 (some .int) ({ frames := 0, cells := 0, slots := 0, locals := 0 } : Room) #[(.ref ar), (.int (0 : Int32)), (.ref b), (.int (0 : Int32)), (.int (3 : Int32))] h0 [b] (fun v h' Sf => v = some (.int (0 : Int32)) ∧ Keep h0 h' [b]) := by
  have hpn : plainName "java/lang/StringUTF16" = true := by first | (simp [plainName, overriddenIn]; done) | decide +kernel
  refine Con.intro (plainFor_of_name hpn) ?_
  intro p e s m below meth c T X hss
  have S_b := hss b (by simp)
  refine Goes.cast (g' := mkF m 0 #[.val (.ref ar), .val (.int (0 : Int32)), .val (.ref b), .val (.int (0 : Int32)), .val (.int (3 : Int32)), .unset, .unset] []) (by first | (simp [entryFrame, mkF, argsToLocals, Value.category]; done) | rfl) ?_
  refine o_iconst X d_jdk_52_method_21_0 (w := 0) rfl (q := 1) rfl ?_
  refine o_istore X d_jdk_52_method_21_1 rfl (L' := #[.val (.ref ar), .val (.int (0 : Int32)), .val (.ref b), .val (.int (0 : Int32)), .val (.int (3 : Int32)), .val (.int (0 : Int32)), .unset]) rfl (q := 3) rfl ?_
  refine o_iload X d_jdk_52_method_21_3 rfl (q := 5) rfl ?_
  refine o_iload X d_jdk_52_method_21_5 rfl (q := 7) rfl ?_
  refine o_icmpN X d_jdk_52_method_21_7 (by decide) (q := 10) rfl ?_
  refine o_aloadN X d_jdk_52_method_21_10 rfl rfl (q := 11) rfl ?_
  refine o_iloadN X d_jdk_52_method_21_11 rfl (q := 12) rfl ?_
  refine o_caload X Va (by decide) (v := (.int c0)) rfl d_jdk_52_method_21_12 (q := 13) rfl ?_
  refine o_istore X d_jdk_52_method_21_13 rfl (L' := #[.val (.ref ar), .val (.int (0 : Int32)), .val (.ref b), .val (.int (0 : Int32)), .val (.int (3 : Int32)), .val (.int (0 : Int32)), .val (.int c0)]) rfl (q := 15) rfl ?_
  refine o_iload X d_jdk_52_method_21_15 rfl (q := 17) rfl ?_
  refine o_sipush X d_jdk_52_method_21_17 (w := 255) rfl (q := 20) rfl ?_
  refine o_icmpN X d_jdk_52_method_21_20 (tlt hk).2.2.2 (q := 23) rfl ?_
  refine o_iload X d_jdk_52_method_21_23 rfl (q := 25) rfl ?_
  exact o_retI X d_jdk_52_method_21_25 (fun Sf hSf => ⟨rfl, (Keep.refl h0 [b])⟩) (by decide) (by decide)
set_option maxRecDepth 65536 in
set_option maxHeartbeats 40000000 in
theorem c_cmp5_3_1 {l : Launch} {Z : State} {a0 : Array Value} (hw : W a0 Z) (ar b : Addr) (c0 c1 c2 : Int32) (h0 : Heap) {ka kb : ClassId} (Va : Arv Z h0 ar ka .char (3 : Int32) [(.int c0), (.int c1), (.int c2)] (.int (0 : Int32))) (Vb : Arv Z h0 b kb .byte (3 : Int32) [(.int (0 : Int32)), (.int (0 : Int32)), (.int (0 : Int32))] (.int (0 : Int32))) (gb : Z.heap.size ≤ b) (hne : ar ≠ b) (hl0 : ¬ (255 : Int32) < c0) (hk : (255 : Int32) < c1) :
    Con l Z EL0 (⟨"java/lang/StringUTF16", "compress", "([CI[BII)I"⟩ : MethodName) jdk_52_method_21_code 7 (some .int) ({ frames := 0, cells := 0, slots := 0, locals := 0 } : Room) #[(.ref ar), (.int (0 : Int32)), (.ref b), (.int (0 : Int32)), (.int (3 : Int32))] h0 [b] (fun v h' Sf => v = some (.int (1 : Int32)) ∧ Keep h0 h' [b]) := by
  have hpn : plainName "java/lang/StringUTF16" = true := by first | (simp [plainName, overriddenIn]; done) | decide +kernel
  refine Con.intro (plainFor_of_name hpn) ?_
  intro p e s m below meth c T X hss
  have S_b := hss b (by simp)
  refine Goes.cast (g' := mkF m 0 #[.val (.ref ar), .val (.int (0 : Int32)), .val (.ref b), .val (.int (0 : Int32)), .val (.int (3 : Int32)), .unset, .unset] []) (by first | (simp [entryFrame, mkF, argsToLocals, Value.category]; done) | rfl) ?_
  refine o_iconst X d_jdk_52_method_21_0 (w := 0) rfl (q := 1) rfl ?_
  refine o_istore X d_jdk_52_method_21_1 rfl (L' := #[.val (.ref ar), .val (.int (0 : Int32)), .val (.ref b), .val (.int (0 : Int32)), .val (.int (3 : Int32)), .val (.int (0 : Int32)), .unset]) rfl (q := 3) rfl ?_
  refine o_iload X d_jdk_52_method_21_3 rfl (q := 5) rfl ?_
  refine o_iload X d_jdk_52_method_21_5 rfl (q := 7) rfl ?_
  refine o_icmpN X d_jdk_52_method_21_7 (by decide) (q := 10) rfl ?_
  refine o_aloadN X d_jdk_52_method_21_10 rfl rfl (q := 11) rfl ?_
  refine o_iloadN X d_jdk_52_method_21_11 rfl (q := 12) rfl ?_
  refine o_caload X Va (by decide) (v := (.int c0)) rfl d_jdk_52_method_21_12 (q := 13) rfl ?_
  refine o_istore X d_jdk_52_method_21_13 rfl (L' := #[.val (.ref ar), .val (.int (0 : Int32)), .val (.ref b), .val (.int (0 : Int32)), .val (.int (3 : Int32)), .val (.int (0 : Int32)), .val (.int c0)]) rfl (q := 15) rfl ?_
  refine o_iload X d_jdk_52_method_21_15 rfl (q := 17) rfl ?_
  refine o_sipush X d_jdk_52_method_21_17 (w := 255) rfl (q := 20) rfl ?_
  refine o_icmpY X d_jdk_52_method_21_20 (flt hl0).2.2.2 (by decide) (q := 26) (by decide) ?_
  refine o_aloadN X d_jdk_52_method_21_26 rfl rfl (q := 27) rfl ?_
  refine o_iloadN X d_jdk_52_method_21_27 rfl (q := 28) rfl ?_
  refine o_iload X d_jdk_52_method_21_28 rfl (q := 30) rfl ?_
  refine o_i2b X d_jdk_52_method_21_30 (w := (c0.toInt8.toInt32)) rfl (q := 31) rfl ?_
  refine o_bastore X 0 Vb gb S_b (by decide) rfl (Nat.le_of_ble_eq_true rfl) (v := (.int (c0.toInt8.toInt32))) (by rw [own_narb]) d_jdk_52_method_21_31 (q := 32) rfl ?_
  intro T1 h1 l1 X1 W1 R1 V1
  have V1 : Arv Z h1 b kb .byte (3 : Int32) [(.int (c0.toInt8.toInt32)), (.int (0 : Int32)), (.int (0 : Int32))] (.int (0 : Int32)) := V1
  refine o_iinc X1 d_jdk_52_method_21_32 rfl (z := (1 : Int32)) (by decide) (L' := #[.val (.ref ar), .val (.int (1 : Int32)), .val (.ref b), .val (.int (0 : Int32)), .val (.int (3 : Int32)), .val (.int (0 : Int32)), .val (.int c0)]) rfl (q := 35) rfl ?_
  refine o_iinc X1 d_jdk_52_method_21_35 rfl (z := (1 : Int32)) (by decide) (L' := #[.val (.ref ar), .val (.int (1 : Int32)), .val (.ref b), .val (.int (1 : Int32)), .val (.int (3 : Int32)), .val (.int (0 : Int32)), .val (.int c0)]) rfl (q := 38) rfl ?_
  refine o_iinc X1 d_jdk_52_method_21_38 rfl (z := (1 : Int32)) (by decide) (L' := #[.val (.ref ar), .val (.int (1 : Int32)), .val (.ref b), .val (.int (1 : Int32)), .val (.int (3 : Int32)), .val (.int (1 : Int32)), .val (.int c0)]) rfl (q := 41) rfl ?_
  refine o_goto X1 d_jdk_52_method_21_41 (by decide) (q := 3) (by decide) ?_
  refine o_iload X1 d_jdk_52_method_21_3 rfl (q := 5) rfl ?_
  refine o_iload X1 d_jdk_52_method_21_5 rfl (q := 7) rfl ?_
  refine o_icmpN X1 d_jdk_52_method_21_7 (by decide) (q := 10) rfl ?_
  refine o_aloadN X1 d_jdk_52_method_21_10 rfl rfl (q := 11) rfl ?_
  refine o_iloadN X1 d_jdk_52_method_21_11 rfl (q := 12) rfl ?_
  have f2 := (Va.other W1 hne)
  refine o_caload X1 f2 (by decide) (v := (.int c1)) rfl d_jdk_52_method_21_12 (q := 13) rfl ?_
  refine o_istore X1 d_jdk_52_method_21_13 rfl (L' := #[.val (.ref ar), .val (.int (1 : Int32)), .val (.ref b), .val (.int (1 : Int32)), .val (.int (3 : Int32)), .val (.int (1 : Int32)), .val (.int c1)]) rfl (q := 15) rfl ?_
  refine o_iload X1 d_jdk_52_method_21_15 rfl (q := 17) rfl ?_
  refine o_sipush X1 d_jdk_52_method_21_17 (w := 255) rfl (q := 20) rfl ?_
  refine o_icmpN X1 d_jdk_52_method_21_20 (tlt hk).2.2.2 (q := 23) rfl ?_
  refine o_iload X1 d_jdk_52_method_21_23 rfl (q := 25) rfl ?_
  have k3 := Keep.wr (Keep.refl h0 [b]) W1 (Or.inl (by simp))
  exact o_retI X1 d_jdk_52_method_21_25 (fun Sf hSf => ⟨rfl, k3⟩) (by decide) (by decide)
set_option maxRecDepth 65536 in
set_option maxHeartbeats 40000000 in
theorem c_cmp5_3_2 {l : Launch} {Z : State} {a0 : Array Value} (hw : W a0 Z) (ar b : Addr) (c0 c1 c2 : Int32) (h0 : Heap) {ka kb : ClassId} (Va : Arv Z h0 ar ka .char (3 : Int32) [(.int c0), (.int c1), (.int c2)] (.int (0 : Int32))) (Vb : Arv Z h0 b kb .byte (3 : Int32) [(.int (0 : Int32)), (.int (0 : Int32)), (.int (0 : Int32))] (.int (0 : Int32))) (gb : Z.heap.size ≤ b) (hne : ar ≠ b) (hl0 : ¬ (255 : Int32) < c0) (hl1 : ¬ (255 : Int32) < c1) (hk : (255 : Int32) < c2) :
    Con l Z EL0 (⟨"java/lang/StringUTF16", "compress", "([CI[BII)I"⟩ : MethodName) jdk_52_method_21_code 7 (some .int) ({ frames := 0, cells := 0, slots := 0, locals := 0 } : Room) #[(.ref ar), (.int (0 : Int32)), (.ref b), (.int (0 : Int32)), (.int (3 : Int32))] h0 [b] (fun v h' Sf => v = some (.int (2 : Int32)) ∧ Keep h0 h' [b]) := by
  have hpn : plainName "java/lang/StringUTF16" = true := by first | (simp [plainName, overriddenIn]; done) | decide +kernel
  refine Con.intro (plainFor_of_name hpn) ?_
  intro p e s m below meth c T X hss
  have S_b := hss b (by simp)
  refine Goes.cast (g' := mkF m 0 #[.val (.ref ar), .val (.int (0 : Int32)), .val (.ref b), .val (.int (0 : Int32)), .val (.int (3 : Int32)), .unset, .unset] []) (by first | (simp [entryFrame, mkF, argsToLocals, Value.category]; done) | rfl) ?_
  refine o_iconst X d_jdk_52_method_21_0 (w := 0) rfl (q := 1) rfl ?_
  refine o_istore X d_jdk_52_method_21_1 rfl (L' := #[.val (.ref ar), .val (.int (0 : Int32)), .val (.ref b), .val (.int (0 : Int32)), .val (.int (3 : Int32)), .val (.int (0 : Int32)), .unset]) rfl (q := 3) rfl ?_
  refine o_iload X d_jdk_52_method_21_3 rfl (q := 5) rfl ?_
  refine o_iload X d_jdk_52_method_21_5 rfl (q := 7) rfl ?_
  refine o_icmpN X d_jdk_52_method_21_7 (by decide) (q := 10) rfl ?_
  refine o_aloadN X d_jdk_52_method_21_10 rfl rfl (q := 11) rfl ?_
  refine o_iloadN X d_jdk_52_method_21_11 rfl (q := 12) rfl ?_
  refine o_caload X Va (by decide) (v := (.int c0)) rfl d_jdk_52_method_21_12 (q := 13) rfl ?_
  refine o_istore X d_jdk_52_method_21_13 rfl (L' := #[.val (.ref ar), .val (.int (0 : Int32)), .val (.ref b), .val (.int (0 : Int32)), .val (.int (3 : Int32)), .val (.int (0 : Int32)), .val (.int c0)]) rfl (q := 15) rfl ?_
  refine o_iload X d_jdk_52_method_21_15 rfl (q := 17) rfl ?_
  refine o_sipush X d_jdk_52_method_21_17 (w := 255) rfl (q := 20) rfl ?_
  refine o_icmpY X d_jdk_52_method_21_20 (flt hl0).2.2.2 (by decide) (q := 26) (by decide) ?_
  refine o_aloadN X d_jdk_52_method_21_26 rfl rfl (q := 27) rfl ?_
  refine o_iloadN X d_jdk_52_method_21_27 rfl (q := 28) rfl ?_
  refine o_iload X d_jdk_52_method_21_28 rfl (q := 30) rfl ?_
  refine o_i2b X d_jdk_52_method_21_30 (w := (c0.toInt8.toInt32)) rfl (q := 31) rfl ?_
  refine o_bastore X 0 Vb gb S_b (by decide) rfl (Nat.le_of_ble_eq_true rfl) (v := (.int (c0.toInt8.toInt32))) (by rw [own_narb]) d_jdk_52_method_21_31 (q := 32) rfl ?_
  intro T1 h1 l1 X1 W1 R1 V1
  have V1 : Arv Z h1 b kb .byte (3 : Int32) [(.int (c0.toInt8.toInt32)), (.int (0 : Int32)), (.int (0 : Int32))] (.int (0 : Int32)) := V1
  refine o_iinc X1 d_jdk_52_method_21_32 rfl (z := (1 : Int32)) (by decide) (L' := #[.val (.ref ar), .val (.int (1 : Int32)), .val (.ref b), .val (.int (0 : Int32)), .val (.int (3 : Int32)), .val (.int (0 : Int32)), .val (.int c0)]) rfl (q := 35) rfl ?_
  refine o_iinc X1 d_jdk_52_method_21_35 rfl (z := (1 : Int32)) (by decide) (L' := #[.val (.ref ar), .val (.int (1 : Int32)), .val (.ref b), .val (.int (1 : Int32)), .val (.int (3 : Int32)), .val (.int (0 : Int32)), .val (.int c0)]) rfl (q := 38) rfl ?_
  refine o_iinc X1 d_jdk_52_method_21_38 rfl (z := (1 : Int32)) (by decide) (L' := #[.val (.ref ar), .val (.int (1 : Int32)), .val (.ref b), .val (.int (1 : Int32)), .val (.int (3 : Int32)), .val (.int (1 : Int32)), .val (.int c0)]) rfl (q := 41) rfl ?_
  refine o_goto X1 d_jdk_52_method_21_41 (by decide) (q := 3) (by decide) ?_
  refine o_iload X1 d_jdk_52_method_21_3 rfl (q := 5) rfl ?_
  refine o_iload X1 d_jdk_52_method_21_5 rfl (q := 7) rfl ?_
  refine o_icmpN X1 d_jdk_52_method_21_7 (by decide) (q := 10) rfl ?_
  refine o_aloadN X1 d_jdk_52_method_21_10 rfl rfl (q := 11) rfl ?_
  refine o_iloadN X1 d_jdk_52_method_21_11 rfl (q := 12) rfl ?_
  have f2 := (Va.other W1 hne)
  refine o_caload X1 f2 (by decide) (v := (.int c1)) rfl d_jdk_52_method_21_12 (q := 13) rfl ?_
  refine o_istore X1 d_jdk_52_method_21_13 rfl (L' := #[.val (.ref ar), .val (.int (1 : Int32)), .val (.ref b), .val (.int (1 : Int32)), .val (.int (3 : Int32)), .val (.int (1 : Int32)), .val (.int c1)]) rfl (q := 15) rfl ?_
  refine o_iload X1 d_jdk_52_method_21_15 rfl (q := 17) rfl ?_
  refine o_sipush X1 d_jdk_52_method_21_17 (w := 255) rfl (q := 20) rfl ?_
  refine o_icmpY X1 d_jdk_52_method_21_20 (flt hl1).2.2.2 (by decide) (q := 26) (by decide) ?_
  refine o_aloadN X1 d_jdk_52_method_21_26 rfl rfl (q := 27) rfl ?_
  refine o_iloadN X1 d_jdk_52_method_21_27 rfl (q := 28) rfl ?_
  refine o_iload X1 d_jdk_52_method_21_28 rfl (q := 30) rfl ?_
  refine o_i2b X1 d_jdk_52_method_21_30 (w := (c1.toInt8.toInt32)) rfl (q := 31) rfl ?_
  have f4 := (CHr.safe R1 (Vb.lt) S_b)
  refine o_bastore X1 1 V1 gb f4 (by decide) rfl (Nat.le_of_ble_eq_true rfl) (v := (.int (c1.toInt8.toInt32))) (by rw [own_narb]) d_jdk_52_method_21_31 (q := 32) rfl ?_
  intro T3 h3 l3 X3 W3 R3 V3
  have V3 : Arv Z h3 b kb .byte (3 : Int32) [(.int (c0.toInt8.toInt32)), (.int (c1.toInt8.toInt32)), (.int (0 : Int32))] (.int (0 : Int32)) := V3
  refine o_iinc X3 d_jdk_52_method_21_32 rfl (z := (2 : Int32)) (by decide) (L' := #[.val (.ref ar), .val (.int (2 : Int32)), .val (.ref b), .val (.int (1 : Int32)), .val (.int (3 : Int32)), .val (.int (1 : Int32)), .val (.int c1)]) rfl (q := 35) rfl ?_
  refine o_iinc X3 d_jdk_52_method_21_35 rfl (z := (2 : Int32)) (by decide) (L' := #[.val (.ref ar), .val (.int (2 : Int32)), .val (.ref b), .val (.int (2 : Int32)), .val (.int (3 : Int32)), .val (.int (1 : Int32)), .val (.int c1)]) rfl (q := 38) rfl ?_
  refine o_iinc X3 d_jdk_52_method_21_38 rfl (z := (2 : Int32)) (by decide) (L' := #[.val (.ref ar), .val (.int (2 : Int32)), .val (.ref b), .val (.int (2 : Int32)), .val (.int (3 : Int32)), .val (.int (2 : Int32)), .val (.int c1)]) rfl (q := 41) rfl ?_
  refine o_goto X3 d_jdk_52_method_21_41 (by decide) (q := 3) (by decide) ?_
  refine o_iload X3 d_jdk_52_method_21_3 rfl (q := 5) rfl ?_
  refine o_iload X3 d_jdk_52_method_21_5 rfl (q := 7) rfl ?_
  refine o_icmpN X3 d_jdk_52_method_21_7 (by decide) (q := 10) rfl ?_
  refine o_aloadN X3 d_jdk_52_method_21_10 rfl rfl (q := 11) rfl ?_
  refine o_iloadN X3 d_jdk_52_method_21_11 rfl (q := 12) rfl ?_
  have f5 := (f2.other W3 hne)
  refine o_caload X3 f5 (by decide) (v := (.int c2)) rfl d_jdk_52_method_21_12 (q := 13) rfl ?_
  refine o_istore X3 d_jdk_52_method_21_13 rfl (L' := #[.val (.ref ar), .val (.int (2 : Int32)), .val (.ref b), .val (.int (2 : Int32)), .val (.int (3 : Int32)), .val (.int (2 : Int32)), .val (.int c2)]) rfl (q := 15) rfl ?_
  refine o_iload X3 d_jdk_52_method_21_15 rfl (q := 17) rfl ?_
  refine o_sipush X3 d_jdk_52_method_21_17 (w := 255) rfl (q := 20) rfl ?_
  refine o_icmpN X3 d_jdk_52_method_21_20 (tlt hk).2.2.2 (q := 23) rfl ?_
  refine o_iload X3 d_jdk_52_method_21_23 rfl (q := 25) rfl ?_
  have k6 := Keep.wr (Keep.refl h0 [b]) W1 (Or.inl (by simp))
  have k7 := Keep.wr k6 W3 (Or.inl (by simp))
  exact o_retI X3 d_jdk_52_method_21_25 (fun Sf hSf => ⟨rfl, k7⟩) (by decide) (by decide)
set_option maxRecDepth 65536 in
set_option maxHeartbeats 40000000 in
theorem c_cmp5_3_3 {l : Launch} {Z : State} {a0 : Array Value} (hw : W a0 Z) (ar b : Addr) (c0 c1 c2 : Int32) (h0 : Heap) {ka kb : ClassId} (Va : Arv Z h0 ar ka .char (3 : Int32) [(.int c0), (.int c1), (.int c2)] (.int (0 : Int32))) (Vb : Arv Z h0 b kb .byte (3 : Int32) [(.int (0 : Int32)), (.int (0 : Int32)), (.int (0 : Int32))] (.int (0 : Int32))) (gb : Z.heap.size ≤ b) (hne : ar ≠ b) (hl0 : ¬ (255 : Int32) < c0) (hl1 : ¬ (255 : Int32) < c1) (hl2 : ¬ (255 : Int32) < c2) :
    Con l Z EL0 (⟨"java/lang/StringUTF16", "compress", "([CI[BII)I"⟩ : MethodName) jdk_52_method_21_code 7 (some .int) ({ frames := 0, cells := 0, slots := 0, locals := 0 } : Room) #[(.ref ar), (.int (0 : Int32)), (.ref b), (.int (0 : Int32)), (.int (3 : Int32))] h0 [b] (fun v h' Sf => v = some (.int (3 : Int32)) ∧ Keep h0 h' [b] ∧ Arv Z h' b kb .byte (3 : Int32) [(.int c0.toInt8.toInt32), (.int c1.toInt8.toInt32), (.int c2.toInt8.toInt32)] (.int (0 : Int32))) := by
  have hpn : plainName "java/lang/StringUTF16" = true := by first | (simp [plainName, overriddenIn]; done) | decide +kernel
  refine Con.intro (plainFor_of_name hpn) ?_
  intro p e s m below meth c T X hss
  have S_b := hss b (by simp)
  refine Goes.cast (g' := mkF m 0 #[.val (.ref ar), .val (.int (0 : Int32)), .val (.ref b), .val (.int (0 : Int32)), .val (.int (3 : Int32)), .unset, .unset] []) (by first | (simp [entryFrame, mkF, argsToLocals, Value.category]; done) | rfl) ?_
  refine o_iconst X d_jdk_52_method_21_0 (w := 0) rfl (q := 1) rfl ?_
  refine o_istore X d_jdk_52_method_21_1 rfl (L' := #[.val (.ref ar), .val (.int (0 : Int32)), .val (.ref b), .val (.int (0 : Int32)), .val (.int (3 : Int32)), .val (.int (0 : Int32)), .unset]) rfl (q := 3) rfl ?_
  refine o_iload X d_jdk_52_method_21_3 rfl (q := 5) rfl ?_
  refine o_iload X d_jdk_52_method_21_5 rfl (q := 7) rfl ?_
  refine o_icmpN X d_jdk_52_method_21_7 (by decide) (q := 10) rfl ?_
  refine o_aloadN X d_jdk_52_method_21_10 rfl rfl (q := 11) rfl ?_
  refine o_iloadN X d_jdk_52_method_21_11 rfl (q := 12) rfl ?_
  refine o_caload X Va (by decide) (v := (.int c0)) rfl d_jdk_52_method_21_12 (q := 13) rfl ?_
  refine o_istore X d_jdk_52_method_21_13 rfl (L' := #[.val (.ref ar), .val (.int (0 : Int32)), .val (.ref b), .val (.int (0 : Int32)), .val (.int (3 : Int32)), .val (.int (0 : Int32)), .val (.int c0)]) rfl (q := 15) rfl ?_
  refine o_iload X d_jdk_52_method_21_15 rfl (q := 17) rfl ?_
  refine o_sipush X d_jdk_52_method_21_17 (w := 255) rfl (q := 20) rfl ?_
  refine o_icmpY X d_jdk_52_method_21_20 (flt hl0).2.2.2 (by decide) (q := 26) (by decide) ?_
  refine o_aloadN X d_jdk_52_method_21_26 rfl rfl (q := 27) rfl ?_
  refine o_iloadN X d_jdk_52_method_21_27 rfl (q := 28) rfl ?_
  refine o_iload X d_jdk_52_method_21_28 rfl (q := 30) rfl ?_
  refine o_i2b X d_jdk_52_method_21_30 (w := (c0.toInt8.toInt32)) rfl (q := 31) rfl ?_
  refine o_bastore X 0 Vb gb S_b (by decide) rfl (Nat.le_of_ble_eq_true rfl) (v := (.int (c0.toInt8.toInt32))) (by rw [own_narb]) d_jdk_52_method_21_31 (q := 32) rfl ?_
  intro T1 h1 l1 X1 W1 R1 V1
  have V1 : Arv Z h1 b kb .byte (3 : Int32) [(.int (c0.toInt8.toInt32)), (.int (0 : Int32)), (.int (0 : Int32))] (.int (0 : Int32)) := V1
  refine o_iinc X1 d_jdk_52_method_21_32 rfl (z := (1 : Int32)) (by decide) (L' := #[.val (.ref ar), .val (.int (1 : Int32)), .val (.ref b), .val (.int (0 : Int32)), .val (.int (3 : Int32)), .val (.int (0 : Int32)), .val (.int c0)]) rfl (q := 35) rfl ?_
  refine o_iinc X1 d_jdk_52_method_21_35 rfl (z := (1 : Int32)) (by decide) (L' := #[.val (.ref ar), .val (.int (1 : Int32)), .val (.ref b), .val (.int (1 : Int32)), .val (.int (3 : Int32)), .val (.int (0 : Int32)), .val (.int c0)]) rfl (q := 38) rfl ?_
  refine o_iinc X1 d_jdk_52_method_21_38 rfl (z := (1 : Int32)) (by decide) (L' := #[.val (.ref ar), .val (.int (1 : Int32)), .val (.ref b), .val (.int (1 : Int32)), .val (.int (3 : Int32)), .val (.int (1 : Int32)), .val (.int c0)]) rfl (q := 41) rfl ?_
  refine o_goto X1 d_jdk_52_method_21_41 (by decide) (q := 3) (by decide) ?_
  refine o_iload X1 d_jdk_52_method_21_3 rfl (q := 5) rfl ?_
  refine o_iload X1 d_jdk_52_method_21_5 rfl (q := 7) rfl ?_
  refine o_icmpN X1 d_jdk_52_method_21_7 (by decide) (q := 10) rfl ?_
  refine o_aloadN X1 d_jdk_52_method_21_10 rfl rfl (q := 11) rfl ?_
  refine o_iloadN X1 d_jdk_52_method_21_11 rfl (q := 12) rfl ?_
  have f2 := (Va.other W1 hne)
  refine o_caload X1 f2 (by decide) (v := (.int c1)) rfl d_jdk_52_method_21_12 (q := 13) rfl ?_
  refine o_istore X1 d_jdk_52_method_21_13 rfl (L' := #[.val (.ref ar), .val (.int (1 : Int32)), .val (.ref b), .val (.int (1 : Int32)), .val (.int (3 : Int32)), .val (.int (1 : Int32)), .val (.int c1)]) rfl (q := 15) rfl ?_
  refine o_iload X1 d_jdk_52_method_21_15 rfl (q := 17) rfl ?_
  refine o_sipush X1 d_jdk_52_method_21_17 (w := 255) rfl (q := 20) rfl ?_
  refine o_icmpY X1 d_jdk_52_method_21_20 (flt hl1).2.2.2 (by decide) (q := 26) (by decide) ?_
  refine o_aloadN X1 d_jdk_52_method_21_26 rfl rfl (q := 27) rfl ?_
  refine o_iloadN X1 d_jdk_52_method_21_27 rfl (q := 28) rfl ?_
  refine o_iload X1 d_jdk_52_method_21_28 rfl (q := 30) rfl ?_
  refine o_i2b X1 d_jdk_52_method_21_30 (w := (c1.toInt8.toInt32)) rfl (q := 31) rfl ?_
  have f4 := (CHr.safe R1 (Vb.lt) S_b)
  refine o_bastore X1 1 V1 gb f4 (by decide) rfl (Nat.le_of_ble_eq_true rfl) (v := (.int (c1.toInt8.toInt32))) (by rw [own_narb]) d_jdk_52_method_21_31 (q := 32) rfl ?_
  intro T3 h3 l3 X3 W3 R3 V3
  have V3 : Arv Z h3 b kb .byte (3 : Int32) [(.int (c0.toInt8.toInt32)), (.int (c1.toInt8.toInt32)), (.int (0 : Int32))] (.int (0 : Int32)) := V3
  refine o_iinc X3 d_jdk_52_method_21_32 rfl (z := (2 : Int32)) (by decide) (L' := #[.val (.ref ar), .val (.int (2 : Int32)), .val (.ref b), .val (.int (1 : Int32)), .val (.int (3 : Int32)), .val (.int (1 : Int32)), .val (.int c1)]) rfl (q := 35) rfl ?_
  refine o_iinc X3 d_jdk_52_method_21_35 rfl (z := (2 : Int32)) (by decide) (L' := #[.val (.ref ar), .val (.int (2 : Int32)), .val (.ref b), .val (.int (2 : Int32)), .val (.int (3 : Int32)), .val (.int (1 : Int32)), .val (.int c1)]) rfl (q := 38) rfl ?_
  refine o_iinc X3 d_jdk_52_method_21_38 rfl (z := (2 : Int32)) (by decide) (L' := #[.val (.ref ar), .val (.int (2 : Int32)), .val (.ref b), .val (.int (2 : Int32)), .val (.int (3 : Int32)), .val (.int (2 : Int32)), .val (.int c1)]) rfl (q := 41) rfl ?_
  refine o_goto X3 d_jdk_52_method_21_41 (by decide) (q := 3) (by decide) ?_
  refine o_iload X3 d_jdk_52_method_21_3 rfl (q := 5) rfl ?_
  refine o_iload X3 d_jdk_52_method_21_5 rfl (q := 7) rfl ?_
  refine o_icmpN X3 d_jdk_52_method_21_7 (by decide) (q := 10) rfl ?_
  refine o_aloadN X3 d_jdk_52_method_21_10 rfl rfl (q := 11) rfl ?_
  refine o_iloadN X3 d_jdk_52_method_21_11 rfl (q := 12) rfl ?_
  have f5 := (f2.other W3 hne)
  refine o_caload X3 f5 (by decide) (v := (.int c2)) rfl d_jdk_52_method_21_12 (q := 13) rfl ?_
  refine o_istore X3 d_jdk_52_method_21_13 rfl (L' := #[.val (.ref ar), .val (.int (2 : Int32)), .val (.ref b), .val (.int (2 : Int32)), .val (.int (3 : Int32)), .val (.int (2 : Int32)), .val (.int c2)]) rfl (q := 15) rfl ?_
  refine o_iload X3 d_jdk_52_method_21_15 rfl (q := 17) rfl ?_
  refine o_sipush X3 d_jdk_52_method_21_17 (w := 255) rfl (q := 20) rfl ?_
  refine o_icmpY X3 d_jdk_52_method_21_20 (flt hl2).2.2.2 (by decide) (q := 26) (by decide) ?_
  refine o_aloadN X3 d_jdk_52_method_21_26 rfl rfl (q := 27) rfl ?_
  refine o_iloadN X3 d_jdk_52_method_21_27 rfl (q := 28) rfl ?_
  refine o_iload X3 d_jdk_52_method_21_28 rfl (q := 30) rfl ?_
  refine o_i2b X3 d_jdk_52_method_21_30 (w := (c2.toInt8.toInt32)) rfl (q := 31) rfl ?_
  have f7 := (CHr.safe R3 (V1.lt) f4)
  refine o_bastore X3 2 V3 gb f7 (by decide) rfl (Nat.le_of_ble_eq_true rfl) (v := (.int (c2.toInt8.toInt32))) (by rw [own_narb]) d_jdk_52_method_21_31 (q := 32) rfl ?_
  intro T6 h6 l6 X6 W6 R6 V6
  have V6 : Arv Z h6 b kb .byte (3 : Int32) [(.int (c0.toInt8.toInt32)), (.int (c1.toInt8.toInt32)), (.int (c2.toInt8.toInt32))] (.int (0 : Int32)) := V6
  refine o_iinc X6 d_jdk_52_method_21_32 rfl (z := (3 : Int32)) (by decide) (L' := #[.val (.ref ar), .val (.int (3 : Int32)), .val (.ref b), .val (.int (2 : Int32)), .val (.int (3 : Int32)), .val (.int (2 : Int32)), .val (.int c2)]) rfl (q := 35) rfl ?_
  refine o_iinc X6 d_jdk_52_method_21_35 rfl (z := (3 : Int32)) (by decide) (L' := #[.val (.ref ar), .val (.int (3 : Int32)), .val (.ref b), .val (.int (3 : Int32)), .val (.int (3 : Int32)), .val (.int (2 : Int32)), .val (.int c2)]) rfl (q := 38) rfl ?_
  refine o_iinc X6 d_jdk_52_method_21_38 rfl (z := (3 : Int32)) (by decide) (L' := #[.val (.ref ar), .val (.int (3 : Int32)), .val (.ref b), .val (.int (3 : Int32)), .val (.int (3 : Int32)), .val (.int (3 : Int32)), .val (.int c2)]) rfl (q := 41) rfl ?_
  refine o_goto X6 d_jdk_52_method_21_41 (by decide) (q := 3) (by decide) ?_
  refine o_iload X6 d_jdk_52_method_21_3 rfl (q := 5) rfl ?_
  refine o_iload X6 d_jdk_52_method_21_5 rfl (q := 7) rfl ?_
  refine o_icmpY X6 d_jdk_52_method_21_7 (by decide) (by decide) (q := 44) (by decide) ?_
  refine o_iload X6 d_jdk_52_method_21_44 rfl (q := 46) rfl ?_
  have k8 := Keep.wr (Keep.refl h0 [b]) W1 (Or.inl (by simp))
  have k9 := Keep.wr k8 W3 (Or.inl (by simp))
  have k10 := Keep.wr k9 W6 (Or.inl (by simp))
  exact o_retI X6 d_jdk_52_method_21_46 (fun Sf hSf => ⟨rfl, k10, V6⟩) (by decide) (by decide)
set_option maxRecDepth 65536 in
set_option maxHeartbeats 40000000 in
theorem c_nbl1 {l : Launch} {Z : State} {a0 : Array Value} (hw : W a0 Z) (h0 : Heap)  :
    Con l Z EL0 (⟨"java/lang/StringUTF16", "newBytesLength", "(I)I"⟩ : MethodName) jdk_52_method_3_code 1 (some .int) ({ frames := 0, cells := 0, slots := 0, locals := 0 } : Room) #[(.int (1 : Int32))] h0 [] (fun v h' Sf => v = some (.int (2 : Int32)) ∧ h' = h0) := by
  have hpn : plainName "java/lang/StringUTF16" = true := by first | (simp [plainName, overriddenIn]; done) | decide +kernel
  refine Con.intro (plainFor_of_name hpn) ?_
  intro p e s m below meth c T X hss
  refine Goes.cast (g' := mkF m 0 #[.val (.int (1 : Int32))] []) (by first | (simp [entryFrame, mkF, argsToLocals, Value.category]; done) | rfl) ?_
  refine o_iloadN X d_jdk_52_method_3_0 rfl (q := 1) rfl ?_
  refine o_ifY X d_jdk_52_method_3_1 (by decide) (by decide) (q := 12) (by decide) ?_
  refine o_iloadN X d_jdk_52_method_3_12 rfl (q := 13) rfl ?_
  refine o_ldcI X (w80 hw) d_jdk_52_method_3_13 (q := 15) rfl ?_
  refine o_icmpY X d_jdk_52_method_3_15 (by decide) (by decide) (q := 55) (by decide) ?_
  refine o_iloadN X d_jdk_52_method_3_55 rfl (q := 56) rfl ?_
  refine o_iconst X d_jdk_52_method_3_56 (w := 1) rfl (q := 57) rfl ?_
  refine o_ishl X d_jdk_52_method_3_57 (w := (2 : Int32)) (by decide) (q := 58) rfl ?_
  exact o_retI X d_jdk_52_method_3_58 (fun Sf hSf => ⟨rfl, rfl⟩) (by decide) (by decide)
set_option maxRecDepth 65536 in
set_option maxHeartbeats 40000000 in
theorem c_nbf1 {l : Launch} {Z : State} {a0 : Array Value} (hw : W a0 Z) (h0 : Heap)  :
    Con l Z EL0 (⟨"java/lang/StringUTF16", "newBytesFor", "(I)[B"⟩ : MethodName) jdk_52_method_2_code 1 (some (.array .byte)) ({ frames := 1, cells := 1, slots := 2, locals := 12 } : Room) #[(.int (1 : Int32))] h0 [] (fun v h' Sf => ∃ (b : Addr) (kb : ClassId), v = some (.ref b) ∧ Keep h0 h' [] ∧ h0.size ≤ b ∧ Sf b ∧ Arv Z h' b kb .byte (2 : Int32) [(.int (0 : Int32)), (.int (0 : Int32))] (.int (0 : Int32))) := by
  have hpn : plainName "java/lang/StringUTF16" = true := by first | (simp [plainName, overriddenIn]; done) | decide +kernel
  refine Con.intro (plainFor_of_name hpn) ?_
  intro p e s m below meth c T X hss
  refine Goes.cast (g' := mkF m 0 #[.val (.int (1 : Int32))] []) (by first | (simp [entryFrame, mkF, argsToLocals, Value.category]; done) | rfl) ?_
  refine o_iloadN X d_jdk_52_method_2_0 rfl (q := 1) rfl ?_
  refine o_stat X [(.int (1 : Int32))] (y' := (⟨"java/lang/StringUTF16", "newBytesLength", "(I)I"⟩ : MethodName)) (c_nbl1 hw _) all0 (w77 hw) (w78 hw) (w66 hw) (w79 hw) (by decide) d_jdk_52_method_2_1 (rest := []) rfl rfl (lenOf pd1 rfl) rfl (by decide) (Nat.le_of_ble_eq_true rfl) (by decide) (by decide) (q := 4) rfl ?_
  intro v1 vm1 T1 h1 l1 X1 R1 q1
  obtain ⟨rfl, e1⟩ := q1
  have e1 := e1.symm
  subst e1
  show Goes p e below _ T1 (mkF m 4 #[.val (.int (1 : Int32))] [(.int (2 : Int32))])
  refine o_newarr X1 (aty := .byte) (cap := 2) 2 (w24 hw) d_jdk_52_method_2_4 (by decide) (by decide) (by decide) (by decide) (by decide) (q := 6) rfl ?_
  intro T2 h2 b2 k2 gb2 X2 E2 R2 S2 V2 g0_b2
  have V2 : Arv Z h2 b2 k2 .byte (2 : Int32) [(.int (0 : Int32)), (.int (0 : Int32))] (.int (0 : Int32)) := V2
  have sz3 := Nat.le_trans (Keep.refl h0 []).1 (Nat.le_of_eq gb2.symm)
  have k4 := Keep.ext (Keep.refl h0 []) E2
  exact o_retR X2 d_jdk_52_method_2_6 rfl rfl rfl (fun Sf hSf => ⟨b2, k2, rfl, k4, sz3, hSf _ V2.lt S2, V2⟩) (by decide) (by decide)
set_option maxRecDepth 65536 in
set_option maxHeartbeats 40000000 in
theorem c_put1_0 {l : Launch} {Z : State} {a0 : Array Value} (hw : W a0 Z) (b : Addr) (ch u0 u1 : Int32) (h0 : Heap) (SA : Sta Z Z.heap "java/lang/StringUTF16" "$assertionsDisabled" "Z" (.int (1 : Int32))) (SH : Sta Z Z.heap "java/lang/StringUTF16" "HI_BYTE_SHIFT" "I" (.int (0 : Int32))) (SL : Sta Z Z.heap "java/lang/StringUTF16" "LO_BYTE_SHIFT" "I" (.int (8 : Int32))) {kb : ClassId} (Vb : Arv Z h0 b kb .byte (2 : Int32) [(.int u0), (.int u1)] (.int (0 : Int32))) (gb : Z.heap.size ≤ b) :
    Con l Z EL0 (⟨"java/lang/StringUTF16", "putChar", "([BII)V"⟩ : MethodName) jdk_52_method_4_code 3 none ({ frames := 0, cells := 0, slots := 0, locals := 0 } : Room) #[(.ref b), (.int (0 : Int32)), (.int ch)] h0 [b] (fun v h' Sf => v = none ∧ Keep h0 h' [b] ∧ Arv Z h' b kb .byte (2 : Int32) [(.int ch.toInt8.toInt32), (.int (ch >>> ((8 : Int32) &&& 31)).toInt8.toInt32)] (.int (0 : Int32))) := by
  have hpn : plainName "java/lang/StringUTF16" = true := by first | (simp [plainName, overriddenIn]; done) | decide +kernel
  refine Con.intro (plainFor_of_name hpn) ?_
  intro p e s m below meth c T X hss
  have S_b := hss b (by simp)
  refine Goes.cast (g' := mkF m 0 #[.val (.ref b), .val (.int (0 : Int32)), .val (.int ch)] []) (by first | (simp [entryFrame, mkF, argsToLocals, Value.category]; done) | rfl) ?_
  refine o_getS X SA (host := "") (Or.inl (w84 hw)) Via.refl d_jdk_52_method_4_0 (q := 3) rfl ?_
  intro T1 X1
  refine o_ifY X1 d_jdk_52_method_4_3 (by decide) (by decide) (q := 28) (by decide) ?_
  refine o_iloadN X1 d_jdk_52_method_4_28 rfl (q := 29) rfl ?_
  refine o_iconst X1 d_jdk_52_method_4_29 (w := 1) rfl (q := 30) rfl ?_
  refine o_ishl X1 d_jdk_52_method_4_30 (w := (0 : Int32)) (by decide) (q := 31) rfl ?_
  refine o_istoreN X1 d_jdk_52_method_4_31 rfl (L' := #[.val (.ref b), .val (.int (0 : Int32)), .val (.int ch)]) rfl (q := 32) rfl ?_
  refine o_aloadN X1 d_jdk_52_method_4_32 rfl rfl (q := 33) rfl ?_
  refine o_iloadN X1 d_jdk_52_method_4_33 rfl (q := 34) rfl ?_
  refine o_iinc X1 d_jdk_52_method_4_34 rfl (z := (1 : Int32)) (by decide) (L' := #[.val (.ref b), .val (.int (1 : Int32)), .val (.int ch)]) rfl (q := 37) rfl ?_
  refine o_iloadN X1 d_jdk_52_method_4_37 rfl (q := 38) rfl ?_
  refine o_getS X1 SH (host := "") (Or.inl (w85 hw)) Via.refl d_jdk_52_method_4_38 (q := 41) rfl ?_
  intro T2 X2
  refine o_ishr X2 d_jdk_52_method_4_41 (w := (ch >>> ((0 : Int32) &&& 31))) rfl (q := 42) rfl ?_
  refine o_i2b X2 d_jdk_52_method_4_42 (w := ((ch >>> ((0 : Int32) &&& 31)).toInt8.toInt32)) rfl (q := 43) rfl ?_
  refine o_bastore X2 0 Vb gb S_b (by decide) rfl (Nat.le_of_ble_eq_true rfl) (v := (.int ch.toInt8.toInt32)) (by rw [own_narb, n_shr0]) d_jdk_52_method_4_43 (q := 44) rfl ?_
  intro T3 h3 l3 X3 W3 R3 V3
  have V3 : Arv Z h3 b kb .byte (2 : Int32) [(.int ch.toInt8.toInt32), (.int u1)] (.int (0 : Int32)) := V3
  refine o_aloadN X3 d_jdk_52_method_4_44 rfl rfl (q := 45) rfl ?_
  refine o_iloadN X3 d_jdk_52_method_4_45 rfl (q := 46) rfl ?_
  refine o_iloadN X3 d_jdk_52_method_4_46 rfl (q := 47) rfl ?_
  refine o_getS X3 SL (host := "") (Or.inl (w86 hw)) Via.refl d_jdk_52_method_4_47 (q := 50) rfl ?_
  intro T4 X4
  refine o_ishr X4 d_jdk_52_method_4_50 (w := (ch >>> ((8 : Int32) &&& 31))) rfl (q := 51) rfl ?_
  refine o_i2b X4 d_jdk_52_method_4_51 (w := ((ch >>> ((8 : Int32) &&& 31)).toInt8.toInt32)) rfl (q := 52) rfl ?_
  have f6 := (CHr.safe R3 (Vb.lt) S_b)
  refine o_bastore X4 1 V3 gb f6 (by decide) rfl (Nat.le_of_ble_eq_true rfl) (v := (.int (ch >>> ((8 : Int32) &&& 31)).toInt8.toInt32)) (by rw [own_narb]) d_jdk_52_method_4_52 (q := 53) rfl ?_
  intro T5 h5 l5 X5 W5 R5 V5
  have V5 : Arv Z h5 b kb .byte (2 : Int32) [(.int ch.toInt8.toInt32), (.int (ch >>> ((8 : Int32) &&& 31)).toInt8.toInt32)] (.int (0 : Int32)) := V5
  have k7 := Keep.wr (Keep.refl h0 [b]) W3 (Or.inl (by simp))
  have k8 := Keep.wr k7 W5 (Or.inl (by simp))
  exact o_ret X5 d_jdk_52_method_4_53 (fun Sf hSf => ⟨rfl, k8, V5⟩) (by decide) (by decide)
set_option maxRecDepth 65536 in
set_option maxHeartbeats 40000000 in
theorem c_tb1 {l : Launch} {Z : State} {a0 : Array Value} (hw : W a0 Z) (ar : Addr) (c0 : Int32) (h0 : Heap) (SA : Sta Z Z.heap "java/lang/StringUTF16" "$assertionsDisabled" "Z" (.int (1 : Int32))) (SH : Sta Z Z.heap "java/lang/StringUTF16" "HI_BYTE_SHIFT" "I" (.int (0 : Int32))) (SL : Sta Z Z.heap "java/lang/StringUTF16" "LO_BYTE_SHIFT" "I" (.int (8 : Int32))) {ka : ClassId} (Va : Arv Z h0 ar ka .char (1 : Int32) [(.int c0)] (.int (0 : Int32))) :
    Con l Z EL0 (⟨"java/lang/StringUTF16", "toBytes", "([CII)[B"⟩ : MethodName) jdk_52_method_14_code 5 (some (.array .byte)) ({ frames := 2, cells := 1, slots := 2, locals := 24 } : Room) #[(.ref ar), (.int (0 : Int32)), (.int (1 : Int32))] h0 [] (fun v h' Sf => ∃ (b : Addr) (kb : ClassId), v = some (.ref b) ∧ Keep h0 h' [] ∧ h0.size ≤ b ∧ Sf b ∧ Arv Z h' b kb .byte (2 : Int32) [(.int c0.toInt8.toInt32), (.int (c0 >>> ((8 : Int32) &&& 31)).toInt8.toInt32)] (.int (0 : Int32))) := by
  have hpn : plainName "java/lang/StringUTF16" = true := by first | (simp [plainName, overriddenIn]; done) | decide +kernel
  refine Con.intro (plainFor_of_name hpn) ?_
  intro p e s m below meth c T X hss
  refine Goes.cast (g' := mkF m 0 #[.val (.ref ar), .val (.int (0 : Int32)), .val (.int (1 : Int32)), .unset, .unset] []) (by first | (simp [entryFrame, mkF, argsToLocals, Value.category]; done) | rfl) ?_
  refine o_iloadN X d_jdk_52_method_14_0 rfl (q := 1) rfl ?_
  refine o_stat X [(.int (1 : Int32))] (y' := (⟨"java/lang/StringUTF16", "newBytesFor", "(I)[B"⟩ : MethodName)) (c_nbf1 hw _) all0 (w74 hw) (w75 hw) (w66 hw) (w76 hw) (by decide) d_jdk_52_method_14_1 (rest := []) rfl rfl (lenOf pd2 rfl) rfl (by decide) (Nat.le_of_ble_eq_true rfl) (by decide) (by decide) (q := 4) rfl ?_
  intro v1 vm1 T1 h1 l1 X1 R1 q1
  obtain ⟨b1, kb1, rfl, K1, g1, s1, V1⟩ := q1
  show Goes p e below _ T1 (mkF m 4 #[.val (.ref ar), .val (.int (0 : Int32)), .val (.int (1 : Int32)), .unset, .unset] [(.ref b1)])
  refine o_astoreN X1 d_jdk_52_method_14_4 rfl (L' := #[.val (.ref ar), .val (.int (0 : Int32)), .val (.int (1 : Int32)), .val (.ref b1), .unset]) rfl (q := 5) rfl ?_
  refine o_iconst X1 d_jdk_52_method_14_5 (w := 0) rfl (q := 6) rfl ?_
  refine o_istore X1 d_jdk_52_method_14_6 rfl (L' := #[.val (.ref ar), .val (.int (0 : Int32)), .val (.int (1 : Int32)), .val (.ref b1), .val (.int (0 : Int32))]) rfl (q := 8) rfl ?_
  refine o_iload X1 d_jdk_52_method_14_8 rfl (q := 10) rfl ?_
  refine o_iloadN X1 d_jdk_52_method_14_10 rfl (q := 11) rfl ?_
  refine o_icmpN X1 d_jdk_52_method_14_11 (by decide) (q := 14) rfl ?_
  refine o_aloadN X1 d_jdk_52_method_14_14 rfl rfl (q := 15) rfl ?_
  refine o_iload X1 d_jdk_52_method_14_15 rfl (q := 17) rfl ?_
  refine o_aloadN X1 d_jdk_52_method_14_17 rfl rfl (q := 18) rfl ?_
  refine o_iloadN X1 d_jdk_52_method_14_18 rfl (q := 19) rfl ?_
  have f2 := (Va.keep K1 nin0)
  refine o_caload X1 f2 (by decide) (v := (.int c0)) rfl d_jdk_52_method_14_19 (q := 20) rfl ?_
  refine o_stat X1 [(.ref b1), (.int (0 : Int32)), (.int c0)] (y' := (⟨"java/lang/StringUTF16", "putChar", "([BII)V"⟩ : MethodName)) (c_put1_0 hw b1 c0 ((0 : Int32)) ((0 : Int32)) _ SA SH SL V1 (Nat.le_trans X.size g1)) (allS ⟨V1.lt, s1⟩ all0) (w81 hw) (w82 hw) (w66 hw) (w83 hw) (by decide) d_jdk_52_method_14_20 (rest := []) rfl rfl (lenOf pd3 rfl) rfl (by decide) (Nat.le_of_ble_eq_true rfl) (by decide) (by decide) (q := 23) rfl ?_
  intro v3 vm3 T3 h3 l3 X3 R3 q3
  obtain ⟨rfl, K3, V3⟩ := q3
  show Goes p e below _ T3 (mkF m 23 #[.val (.ref ar), .val (.int (0 : Int32)), .val (.int (1 : Int32)), .val (.ref b1), .val (.int (0 : Int32))] [])
  refine o_iinc X3 d_jdk_52_method_14_23 rfl (z := (1 : Int32)) (by decide) (L' := #[.val (.ref ar), .val (.int (1 : Int32)), .val (.int (1 : Int32)), .val (.ref b1), .val (.int (0 : Int32))]) rfl (q := 26) rfl ?_
  refine o_iinc X3 d_jdk_52_method_14_26 rfl (z := (1 : Int32)) (by decide) (L' := #[.val (.ref ar), .val (.int (1 : Int32)), .val (.int (1 : Int32)), .val (.ref b1), .val (.int (1 : Int32))]) rfl (q := 29) rfl ?_
  refine o_goto X3 d_jdk_52_method_14_29 (by decide) (q := 8) (by decide) ?_
  refine o_iload X3 d_jdk_52_method_14_8 rfl (q := 10) rfl ?_
  refine o_iloadN X3 d_jdk_52_method_14_10 rfl (q := 11) rfl ?_
  refine o_icmpY X3 d_jdk_52_method_14_11 (by decide) (by decide) (q := 32) (by decide) ?_
  refine o_aloadN X3 d_jdk_52_method_14_32 rfl rfl (q := 33) rfl ?_
  have sz4 := Nat.le_trans (Keep.refl h0 []).1 g1
  have k5 := Keep.trans (Keep.refl h0 []) K1 all0
  have k6 := Keep.trans k5 K3 (allS (Or.inr sz4) all0)
  have f7 := (CHr.safe R3 (V1.lt) s1)
  exact o_retR X3 d_jdk_52_method_14_33 rfl rfl rfl (fun Sf hSf => ⟨b1, kb1, rfl, k6, sz4, hSf _ V3.lt f7, V3⟩) (by decide) (by decide)
set_option maxRecDepth 65536 in
set_option maxHeartbeats 40000000 in
theorem c_nbl2 {l : Launch} {Z : State} {a0 : Array Value} (hw : W a0 Z) (h0 : Heap)  :
    Con l Z EL0 (⟨"java/lang/StringUTF16", "newBytesLength", "(I)I"⟩ : MethodName) jdk_52_method_3_code 1 (some .int) ({ frames := 0, cells := 0, slots := 0, locals := 0 } : Room) #[(.int (2 : Int32))] h0 [] (fun v h' Sf => v = some (.int (4 : Int32)) ∧ h' = h0) := by
  have hpn : plainName "java/lang/StringUTF16" = true := by first | (simp [plainName, overriddenIn]; done) | decide +kernel
  refine Con.intro (plainFor_of_name hpn) ?_
  intro p e s m below meth c T X hss
  refine Goes.cast (g' := mkF m 0 #[.val (.int (2 : Int32))] []) (by first | (simp [entryFrame, mkF, argsToLocals, Value.category]; done) | rfl) ?_
  refine o_iloadN X d_jdk_52_method_3_0 rfl (q := 1) rfl ?_
  refine o_ifY X d_jdk_52_method_3_1 (by decide) (by decide) (q := 12) (by decide) ?_
  refine o_iloadN X d_jdk_52_method_3_12 rfl (q := 13) rfl ?_
  refine o_ldcI X (w80 hw) d_jdk_52_method_3_13 (q := 15) rfl ?_
  refine o_icmpY X d_jdk_52_method_3_15 (by decide) (by decide) (q := 55) (by decide) ?_
  refine o_iloadN X d_jdk_52_method_3_55 rfl (q := 56) rfl ?_
  refine o_iconst X d_jdk_52_method_3_56 (w := 1) rfl (q := 57) rfl ?_
  refine o_ishl X d_jdk_52_method_3_57 (w := (4 : Int32)) (by decide) (q := 58) rfl ?_
  exact o_retI X d_jdk_52_method_3_58 (fun Sf hSf => ⟨rfl, rfl⟩) (by decide) (by decide)
set_option maxRecDepth 65536 in
set_option maxHeartbeats 40000000 in
theorem c_nbf2 {l : Launch} {Z : State} {a0 : Array Value} (hw : W a0 Z) (h0 : Heap)  :
    Con l Z EL0 (⟨"java/lang/StringUTF16", "newBytesFor", "(I)[B"⟩ : MethodName) jdk_52_method_2_code 1 (some (.array .byte)) ({ frames := 1, cells := 1, slots := 4, locals := 12 } : Room) #[(.int (2 : Int32))] h0 [] (fun v h' Sf => ∃ (b : Addr) (kb : ClassId), v = some (.ref b) ∧ Keep h0 h' [] ∧ h0.size ≤ b ∧ Sf b ∧ Arv Z h' b kb .byte (4 : Int32) [(.int (0 : Int32)), (.int (0 : Int32)), (.int (0 : Int32)), (.int (0 : Int32))] (.int (0 : Int32))) := by
  have hpn : plainName "java/lang/StringUTF16" = true := by first | (simp [plainName, overriddenIn]; done) | decide +kernel
  refine Con.intro (plainFor_of_name hpn) ?_
  intro p e s m below meth c T X hss
  refine Goes.cast (g' := mkF m 0 #[.val (.int (2 : Int32))] []) (by first | (simp [entryFrame, mkF, argsToLocals, Value.category]; done) | rfl) ?_
  refine o_iloadN X d_jdk_52_method_2_0 rfl (q := 1) rfl ?_
  refine o_stat X [(.int (2 : Int32))] (y' := (⟨"java/lang/StringUTF16", "newBytesLength", "(I)I"⟩ : MethodName)) (c_nbl2 hw _) all0 (w77 hw) (w78 hw) (w66 hw) (w79 hw) (by decide) d_jdk_52_method_2_1 (rest := []) rfl rfl (lenOf pd1 rfl) rfl (by decide) (Nat.le_of_ble_eq_true rfl) (by decide) (by decide) (q := 4) rfl ?_
  intro v1 vm1 T1 h1 l1 X1 R1 q1
  obtain ⟨rfl, e1⟩ := q1
  have e1 := e1.symm
  subst e1
  show Goes p e below _ T1 (mkF m 4 #[.val (.int (2 : Int32))] [(.int (4 : Int32))])
  refine o_newarr X1 (aty := .byte) (cap := 4) 4 (w24 hw) d_jdk_52_method_2_4 (by decide) (by decide) (by decide) (by decide) (by decide) (q := 6) rfl ?_
  intro T2 h2 b2 k2 gb2 X2 E2 R2 S2 V2 g0_b2
  have V2 : Arv Z h2 b2 k2 .byte (4 : Int32) [(.int (0 : Int32)), (.int (0 : Int32)), (.int (0 : Int32)), (.int (0 : Int32))] (.int (0 : Int32)) := V2
  have sz3 := Nat.le_trans (Keep.refl h0 []).1 (Nat.le_of_eq gb2.symm)
  have k4 := Keep.ext (Keep.refl h0 []) E2
  exact o_retR X2 d_jdk_52_method_2_6 rfl rfl rfl (fun Sf hSf => ⟨b2, k2, rfl, k4, sz3, hSf _ V2.lt S2, V2⟩) (by decide) (by decide)
set_option maxRecDepth 65536 in
set_option maxHeartbeats 40000000 in
theorem c_put2_0 {l : Launch} {Z : State} {a0 : Array Value} (hw : W a0 Z) (b : Addr) (ch u0 u1 u2 u3 : Int32) (h0 : Heap) (SA : Sta Z Z.heap "java/lang/StringUTF16" "$assertionsDisabled" "Z" (.int (1 : Int32))) (SH : Sta Z Z.heap "java/lang/StringUTF16" "HI_BYTE_SHIFT" "I" (.int (0 : Int32))) (SL : Sta Z Z.heap "java/lang/StringUTF16" "LO_BYTE_SHIFT" "I" (.int (8 : Int32))) {kb : ClassId} (Vb : Arv Z h0 b kb .byte (4 : Int32) [(.int u0), (.int u1), (.int u2), (.int u3)] (.int (0 : Int32))) (gb : Z.heap.size ≤ b) :
    Con l Z EL0 (⟨"java/lang/StringUTF16", "putChar", "([BII)V"⟩ : MethodName) jdk_52_method_4_code 3 none ({ frames := 0, cells := 0, slots := 0, locals := 0 } : Room) #[(.ref b), (.int (0 : Int32)), (.int ch)] h0 [b] (fun v h' Sf => v = none ∧ Keep h0 h' [b] ∧ Arv Z h' b kb .byte (4 : Int32) [(.int ch.toInt8.toInt32), (.int (ch >>> ((8 : Int32) &&& 31)).toInt8.toInt32), (.int u2), (.int u3)] (.int (0 : Int32))) := by
  have hpn : plainName "java/lang/StringUTF16" = true := by first | (simp [plainName, overriddenIn]; done) | decide +kernel
  refine Con.intro (plainFor_of_name hpn) ?_
  intro p e s m below meth c T X hss
  have S_b := hss b (by simp)
  refine Goes.cast (g' := mkF m 0 #[.val (.ref b), .val (.int (0 : Int32)), .val (.int ch)] []) (by first | (simp [entryFrame, mkF, argsToLocals, Value.category]; done) | rfl) ?_
  refine o_getS X SA (host := "") (Or.inl (w84 hw)) Via.refl d_jdk_52_method_4_0 (q := 3) rfl ?_
  intro T1 X1
  refine o_ifY X1 d_jdk_52_method_4_3 (by decide) (by decide) (q := 28) (by decide) ?_
  refine o_iloadN X1 d_jdk_52_method_4_28 rfl (q := 29) rfl ?_
  refine o_iconst X1 d_jdk_52_method_4_29 (w := 1) rfl (q := 30) rfl ?_
  refine o_ishl X1 d_jdk_52_method_4_30 (w := (0 : Int32)) (by decide) (q := 31) rfl ?_
  refine o_istoreN X1 d_jdk_52_method_4_31 rfl (L' := #[.val (.ref b), .val (.int (0 : Int32)), .val (.int ch)]) rfl (q := 32) rfl ?_
  refine o_aloadN X1 d_jdk_52_method_4_32 rfl rfl (q := 33) rfl ?_
  refine o_iloadN X1 d_jdk_52_method_4_33 rfl (q := 34) rfl ?_
  refine o_iinc X1 d_jdk_52_method_4_34 rfl (z := (1 : Int32)) (by decide) (L' := #[.val (.ref b), .val (.int (1 : Int32)), .val (.int ch)]) rfl (q := 37) rfl ?_
  refine o_iloadN X1 d_jdk_52_method_4_37 rfl (q := 38) rfl ?_
  refine o_getS X1 SH (host := "") (Or.inl (w85 hw)) Via.refl d_jdk_52_method_4_38 (q := 41) rfl ?_
  intro T2 X2
  refine o_ishr X2 d_jdk_52_method_4_41 (w := (ch >>> ((0 : Int32) &&& 31))) rfl (q := 42) rfl ?_
  refine o_i2b X2 d_jdk_52_method_4_42 (w := ((ch >>> ((0 : Int32) &&& 31)).toInt8.toInt32)) rfl (q := 43) rfl ?_
  refine o_bastore X2 0 Vb gb S_b (by decide) rfl (Nat.le_of_ble_eq_true rfl) (v := (.int ch.toInt8.toInt32)) (by rw [own_narb, n_shr0]) d_jdk_52_method_4_43 (q := 44) rfl ?_
  intro T3 h3 l3 X3 W3 R3 V3
  have V3 : Arv Z h3 b kb .byte (4 : Int32) [(.int ch.toInt8.toInt32), (.int u1), (.int u2), (.int u3)] (.int (0 : Int32)) := V3
  refine o_aloadN X3 d_jdk_52_method_4_44 rfl rfl (q := 45) rfl ?_
  refine o_iloadN X3 d_jdk_52_method_4_45 rfl (q := 46) rfl ?_
  refine o_iloadN X3 d_jdk_52_method_4_46 rfl (q := 47) rfl ?_
  refine o_getS X3 SL (host := "") (Or.inl (w86 hw)) Via.refl d_jdk_52_method_4_47 (q := 50) rfl ?_
  intro T4 X4
  refine o_ishr X4 d_jdk_52_method_4_50 (w := (ch >>> ((8 : Int32) &&& 31))) rfl (q := 51) rfl ?_
  refine o_i2b X4 d_jdk_52_method_4_51 (w := ((ch >>> ((8 : Int32) &&& 31)).toInt8.toInt32)) rfl (q := 52) rfl ?_
  have f6 := (CHr.safe R3 (Vb.lt) S_b)
  refine o_bastore X4 1 V3 gb f6 (by decide) rfl (Nat.le_of_ble_eq_true rfl) (v := (.int (ch >>> ((8 : Int32) &&& 31)).toInt8.toInt32)) (by rw [own_narb]) d_jdk_52_method_4_52 (q := 53) rfl ?_
  intro T5 h5 l5 X5 W5 R5 V5
  have V5 : Arv Z h5 b kb .byte (4 : Int32) [(.int ch.toInt8.toInt32), (.int (ch >>> ((8 : Int32) &&& 31)).toInt8.toInt32), (.int u2), (.int u3)] (.int (0 : Int32)) := V5
  have k7 := Keep.wr (Keep.refl h0 [b]) W3 (Or.inl (by simp))
  have k8 := Keep.wr k7 W5 (Or.inl (by simp))
  exact o_ret X5 d_jdk_52_method_4_53 (fun Sf hSf => ⟨rfl, k8, V5⟩) (by decide) (by decide)
set_option maxRecDepth 65536 in
set_option maxHeartbeats 40000000 in
theorem c_put2_1 {l : Launch} {Z : State} {a0 : Array Value} (hw : W a0 Z) (b : Addr) (ch u0 u1 u2 u3 : Int32) (h0 : Heap) (SA : Sta Z Z.heap "java/lang/StringUTF16" "$assertionsDisabled" "Z" (.int (1 : Int32))) (SH : Sta Z Z.heap "java/lang/StringUTF16" "HI_BYTE_SHIFT" "I" (.int (0 : Int32))) (SL : Sta Z Z.heap "java/lang/StringUTF16" "LO_BYTE_SHIFT" "I" (.int (8 : Int32))) {kb : ClassId} (Vb : Arv Z h0 b kb .byte (4 : Int32) [(.int u0), (.int u1), (.int u2), (.int u3)] (.int (0 : Int32))) (gb : Z.heap.size ≤ b) :
    Con l Z EL0 (⟨"java/lang/StringUTF16", "putChar", "([BII)V"⟩ : MethodName) jdk_52_method_4_code 3 none ({ frames := 0, cells := 0, slots := 0, locals := 0 } : Room) #[(.ref b), (.int (1 : Int32)), (.int ch)] h0 [b] (fun v h' Sf => v = none ∧ Keep h0 h' [b] ∧ Arv Z h' b kb .byte (4 : Int32) [(.int u0), (.int u1), (.int ch.toInt8.toInt32), (.int (ch >>> ((8 : Int32) &&& 31)).toInt8.toInt32)] (.int (0 : Int32))) := by
  have hpn : plainName "java/lang/StringUTF16" = true := by first | (simp [plainName, overriddenIn]; done) | decide +kernel
  refine Con.intro (plainFor_of_name hpn) ?_
  intro p e s m below meth c T X hss
  have S_b := hss b (by simp)
  refine Goes.cast (g' := mkF m 0 #[.val (.ref b), .val (.int (1 : Int32)), .val (.int ch)] []) (by first | (simp [entryFrame, mkF, argsToLocals, Value.category]; done) | rfl) ?_
  refine o_getS X SA (host := "") (Or.inl (w84 hw)) Via.refl d_jdk_52_method_4_0 (q := 3) rfl ?_
  intro T1 X1
  refine o_ifY X1 d_jdk_52_method_4_3 (by decide) (by decide) (q := 28) (by decide) ?_
  refine o_iloadN X1 d_jdk_52_method_4_28 rfl (q := 29) rfl ?_
  refine o_iconst X1 d_jdk_52_method_4_29 (w := 1) rfl (q := 30) rfl ?_
  refine o_ishl X1 d_jdk_52_method_4_30 (w := (2 : Int32)) (by decide) (q := 31) rfl ?_
  refine o_istoreN X1 d_jdk_52_method_4_31 rfl (L' := #[.val (.ref b), .val (.int (2 : Int32)), .val (.int ch)]) rfl (q := 32) rfl ?_
  refine o_aloadN X1 d_jdk_52_method_4_32 rfl rfl (q := 33) rfl ?_
  refine o_iloadN X1 d_jdk_52_method_4_33 rfl (q := 34) rfl ?_
  refine o_iinc X1 d_jdk_52_method_4_34 rfl (z := (3 : Int32)) (by decide) (L' := #[.val (.ref b), .val (.int (3 : Int32)), .val (.int ch)]) rfl (q := 37) rfl ?_
  refine o_iloadN X1 d_jdk_52_method_4_37 rfl (q := 38) rfl ?_
  refine o_getS X1 SH (host := "") (Or.inl (w85 hw)) Via.refl d_jdk_52_method_4_38 (q := 41) rfl ?_
  intro T2 X2
  refine o_ishr X2 d_jdk_52_method_4_41 (w := (ch >>> ((0 : Int32) &&& 31))) rfl (q := 42) rfl ?_
  refine o_i2b X2 d_jdk_52_method_4_42 (w := ((ch >>> ((0 : Int32) &&& 31)).toInt8.toInt32)) rfl (q := 43) rfl ?_
  refine o_bastore X2 2 Vb gb S_b (by decide) rfl (Nat.le_of_ble_eq_true rfl) (v := (.int ch.toInt8.toInt32)) (by rw [own_narb, n_shr0]) d_jdk_52_method_4_43 (q := 44) rfl ?_
  intro T3 h3 l3 X3 W3 R3 V3
  have V3 : Arv Z h3 b kb .byte (4 : Int32) [(.int u0), (.int u1), (.int ch.toInt8.toInt32), (.int u3)] (.int (0 : Int32)) := V3
  refine o_aloadN X3 d_jdk_52_method_4_44 rfl rfl (q := 45) rfl ?_
  refine o_iloadN X3 d_jdk_52_method_4_45 rfl (q := 46) rfl ?_
  refine o_iloadN X3 d_jdk_52_method_4_46 rfl (q := 47) rfl ?_
  refine o_getS X3 SL (host := "") (Or.inl (w86 hw)) Via.refl d_jdk_52_method_4_47 (q := 50) rfl ?_
  intro T4 X4
  refine o_ishr X4 d_jdk_52_method_4_50 (w := (ch >>> ((8 : Int32) &&& 31))) rfl (q := 51) rfl ?_
  refine o_i2b X4 d_jdk_52_method_4_51 (w := ((ch >>> ((8 : Int32) &&& 31)).toInt8.toInt32)) rfl (q := 52) rfl ?_
  have f6 := (CHr.safe R3 (Vb.lt) S_b)
  refine o_bastore X4 3 V3 gb f6 (by decide) rfl (Nat.le_of_ble_eq_true rfl) (v := (.int (ch >>> ((8 : Int32) &&& 31)).toInt8.toInt32)) (by rw [own_narb]) d_jdk_52_method_4_52 (q := 53) rfl ?_
  intro T5 h5 l5 X5 W5 R5 V5
  have V5 : Arv Z h5 b kb .byte (4 : Int32) [(.int u0), (.int u1), (.int ch.toInt8.toInt32), (.int (ch >>> ((8 : Int32) &&& 31)).toInt8.toInt32)] (.int (0 : Int32)) := V5
  have k7 := Keep.wr (Keep.refl h0 [b]) W3 (Or.inl (by simp))
  have k8 := Keep.wr k7 W5 (Or.inl (by simp))
  exact o_ret X5 d_jdk_52_method_4_53 (fun Sf hSf => ⟨rfl, k8, V5⟩) (by decide) (by decide)
set_option maxRecDepth 65536 in
set_option maxHeartbeats 40000000 in
theorem c_tb2 {l : Launch} {Z : State} {a0 : Array Value} (hw : W a0 Z) (ar : Addr) (c0 c1 : Int32) (h0 : Heap) (SA : Sta Z Z.heap "java/lang/StringUTF16" "$assertionsDisabled" "Z" (.int (1 : Int32))) (SH : Sta Z Z.heap "java/lang/StringUTF16" "HI_BYTE_SHIFT" "I" (.int (0 : Int32))) (SL : Sta Z Z.heap "java/lang/StringUTF16" "LO_BYTE_SHIFT" "I" (.int (8 : Int32))) {ka : ClassId} (Va : Arv Z h0 ar ka .char (2 : Int32) [(.int c0), (.int c1)] (.int (0 : Int32))) :
    Con l Z EL0 (⟨"java/lang/StringUTF16", "toBytes", "([CII)[B"⟩ : MethodName) jdk_52_method_14_code 5 (some (.array .byte)) ({ frames := 2, cells := 1, slots := 4, locals := 24 } : Room) #[(.ref ar), (.int (0 : Int32)), (.int (2 : Int32))] h0 [] (fun v h' Sf => ∃ (b : Addr) (kb : ClassId), v = some (.ref b) ∧ Keep h0 h' [] ∧ h0.size ≤ b ∧ Sf b ∧ Arv Z h' b kb .byte (4 : Int32) [(.int c0.toInt8.toInt32), (.int (c0 >>> ((8 : Int32) &&& 31)).toInt8.toInt32), (.int c1.toInt8.toInt32), (.int (c1 >>> ((8 : Int32) &&& 31)).toInt8.toInt32)] (.int (0 : Int32))) := by
  have hpn : plainName "java/lang/StringUTF16" = true := by first | (simp [plainName, overriddenIn]; done) | decide +kernel
  refine Con.intro (plainFor_of_name hpn) ?_
  intro p e s m below meth c T X hss
  refine Goes.cast (g' := mkF m 0 #[.val (.ref ar), .val (.int (0 : Int32)), .val (.int (2 : Int32)), .unset, .unset] []) (by first | (simp [entryFrame, mkF, argsToLocals, Value.category]; done) | rfl) ?_
  refine o_iloadN X d_jdk_52_method_14_0 rfl (q := 1) rfl ?_
  refine o_stat X [(.int (2 : Int32))] (y' := (⟨"java/lang/StringUTF16", "newBytesFor", "(I)[B"⟩ : MethodName)) (c_nbf2 hw _) all0 (w74 hw) (w75 hw) (w66 hw) (w76 hw) (by decide) d_jdk_52_method_14_1 (rest := []) rfl rfl (lenOf pd2 rfl) rfl (by decide) (Nat.le_of_ble_eq_true rfl) (by decide) (by decide) (q := 4) rfl ?_
  intro v1 vm1 T1 h1 l1 X1 R1 q1
  obtain ⟨b1, kb1, rfl, K1, g1, s1, V1⟩ := q1
  show Goes p e below _ T1 (mkF m 4 #[.val (.ref ar), .val (.int (0 : Int32)), .val (.int (2 : Int32)), .unset, .unset] [(.ref b1)])
  refine o_astoreN X1 d_jdk_52_method_14_4 rfl (L' := #[.val (.ref ar), .val (.int (0 : Int32)), .val (.int (2 : Int32)), .val (.ref b1), .unset]) rfl (q := 5) rfl ?_
  refine o_iconst X1 d_jdk_52_method_14_5 (w := 0) rfl (q := 6) rfl ?_
  refine o_istore X1 d_jdk_52_method_14_6 rfl (L' := #[.val (.ref ar), .val (.int (0 : Int32)), .val (.int (2 : Int32)), .val (.ref b1), .val (.int (0 : Int32))]) rfl (q := 8) rfl ?_
  refine o_iload X1 d_jdk_52_method_14_8 rfl (q := 10) rfl ?_
  refine o_iloadN X1 d_jdk_52_method_14_10 rfl (q := 11) rfl ?_
  refine o_icmpN X1 d_jdk_52_method_14_11 (by decide) (q := 14) rfl ?_
  refine o_aloadN X1 d_jdk_52_method_14_14 rfl rfl (q := 15) rfl ?_
  refine o_iload X1 d_jdk_52_method_14_15 rfl (q := 17) rfl ?_
  refine o_aloadN X1 d_jdk_52_method_14_17 rfl rfl (q := 18) rfl ?_
  refine o_iloadN X1 d_jdk_52_method_14_18 rfl (q := 19) rfl ?_
  have f2 := (Va.keep K1 nin0)
  refine o_caload X1 f2 (by decide) (v := (.int c0)) rfl d_jdk_52_method_14_19 (q := 20) rfl ?_
  refine o_stat X1 [(.ref b1), (.int (0 : Int32)), (.int c0)] (y' := (⟨"java/lang/StringUTF16", "putChar", "([BII)V"⟩ : MethodName)) (c_put2_0 hw b1 c0 ((0 : Int32)) ((0 : Int32)) ((0 : Int32)) ((0 : Int32)) _ SA SH SL V1 (Nat.le_trans X.size g1)) (allS ⟨V1.lt, s1⟩ all0) (w81 hw) (w82 hw) (w66 hw) (w83 hw) (by decide) d_jdk_52_method_14_20 (rest := []) rfl rfl (lenOf pd3 rfl) rfl (by decide) (Nat.le_of_ble_eq_true rfl) (by decide) (by decide) (q := 23) rfl ?_
  intro v3 vm3 T3 h3 l3 X3 R3 q3
  obtain ⟨rfl, K3, V3⟩ := q3
  show Goes p e below _ T3 (mkF m 23 #[.val (.ref ar), .val (.int (0 : Int32)), .val (.int (2 : Int32)), .val (.ref b1), .val (.int (0 : Int32))] [])
  refine o_iinc X3 d_jdk_52_method_14_23 rfl (z := (1 : Int32)) (by decide) (L' := #[.val (.ref ar), .val (.int (1 : Int32)), .val (.int (2 : Int32)), .val (.ref b1), .val (.int (0 : Int32))]) rfl (q := 26) rfl ?_
  refine o_iinc X3 d_jdk_52_method_14_26 rfl (z := (1 : Int32)) (by decide) (L' := #[.val (.ref ar), .val (.int (1 : Int32)), .val (.int (2 : Int32)), .val (.ref b1), .val (.int (1 : Int32))]) rfl (q := 29) rfl ?_
  refine o_goto X3 d_jdk_52_method_14_29 (by decide) (q := 8) (by decide) ?_
  refine o_iload X3 d_jdk_52_method_14_8 rfl (q := 10) rfl ?_
  refine o_iloadN X3 d_jdk_52_method_14_10 rfl (q := 11) rfl ?_
  refine o_icmpN X3 d_jdk_52_method_14_11 (by decide) (q := 14) rfl ?_
  refine o_aloadN X3 d_jdk_52_method_14_14 rfl rfl (q := 15) rfl ?_
  refine o_iload X3 d_jdk_52_method_14_15 rfl (q := 17) rfl ?_
  refine o_aloadN X3 d_jdk_52_method_14_17 rfl rfl (q := 18) rfl ?_
  refine o_iloadN X3 d_jdk_52_method_14_18 rfl (q := 19) rfl ?_
  have f4 := (f2.keep K3 (ninS (Nat.ne_of_lt (Nat.lt_of_lt_of_le Va.lt g1)) nin0))
  refine o_caload X3 f4 (by decide) (v := (.int c1)) rfl d_jdk_52_method_14_19 (q := 20) rfl ?_
  have f6 := (CHr.safe R3 (V1.lt) s1)
  refine o_stat X3 [(.ref b1), (.int (1 : Int32)), (.int c1)] (y' := (⟨"java/lang/StringUTF16", "putChar", "([BII)V"⟩ : MethodName)) (c_put2_1 hw b1 c1 (c0.toInt8.toInt32) ((c0 >>> ((8 : Int32) &&& 31)).toInt8.toInt32) ((0 : Int32)) ((0 : Int32)) _ SA SH SL V3 (Nat.le_trans X.size g1)) (allS ⟨V3.lt, f6⟩ all0) (w81 hw) (w82 hw) (w66 hw) (w83 hw) (by decide) d_jdk_52_method_14_20 (rest := []) rfl rfl (lenOf pd3 rfl) rfl (by decide) (Nat.le_of_ble_eq_true rfl) (by decide) (by decide) (q := 23) rfl ?_
  intro v5 vm5 T5 h5 l5 X5 R5 q5
  obtain ⟨rfl, K5, V5⟩ := q5
  show Goes p e below _ T5 (mkF m 23 #[.val (.ref ar), .val (.int (1 : Int32)), .val (.int (2 : Int32)), .val (.ref b1), .val (.int (1 : Int32))] [])
  refine o_iinc X5 d_jdk_52_method_14_23 rfl (z := (2 : Int32)) (by decide) (L' := #[.val (.ref ar), .val (.int (2 : Int32)), .val (.int (2 : Int32)), .val (.ref b1), .val (.int (1 : Int32))]) rfl (q := 26) rfl ?_
  refine o_iinc X5 d_jdk_52_method_14_26 rfl (z := (2 : Int32)) (by decide) (L' := #[.val (.ref ar), .val (.int (2 : Int32)), .val (.int (2 : Int32)), .val (.ref b1), .val (.int (2 : Int32))]) rfl (q := 29) rfl ?_
  refine o_goto X5 d_jdk_52_method_14_29 (by decide) (q := 8) (by decide) ?_
  refine o_iload X5 d_jdk_52_method_14_8 rfl (q := 10) rfl ?_
  refine o_iloadN X5 d_jdk_52_method_14_10 rfl (q := 11) rfl ?_
  refine o_icmpY X5 d_jdk_52_method_14_11 (by decide) (by decide) (q := 32) (by decide) ?_
  refine o_aloadN X5 d_jdk_52_method_14_32 rfl rfl (q := 33) rfl ?_
  have sz7 := Nat.le_trans (Keep.refl h0 []).1 g1
  have k8 := Keep.trans (Keep.refl h0 []) K1 all0
  have k9 := Keep.trans k8 K3 (allS (Or.inr sz7) all0)
  have k10 := Keep.trans k9 K5 (allS (Or.inr sz7) all0)
  have f11 := (CHr.safe R5 (V3.lt) f6)
  exact o_retR X5 d_jdk_52_method_14_33 rfl rfl rfl (fun Sf hSf => ⟨b1, kb1, rfl, k10, sz7, hSf _ V5.lt f11, V5⟩) (by decide) (by decide)
set_option maxRecDepth 65536 in
set_option maxHeartbeats 40000000 in
theorem c_nbl3 {l : Launch} {Z : State} {a0 : Array Value} (hw : W a0 Z) (h0 : Heap)  :
    Con l Z EL0 (⟨"java/lang/StringUTF16", "newBytesLength", "(I)I"⟩ : MethodName) jdk_52_method_3_code 1 (some .int) ({ frames := 0, cells := 0, slots := 0, locals := 0 } : Room) #[(.int (3 : Int32))] h0 [] (fun v h' Sf => v = some (.int (6 : Int32)) ∧ h' = h0) := by
  have hpn : plainName "java/lang/StringUTF16" = true := by first | (simp [plainName, overriddenIn]; done) | decide +kernel
  refine Con.intro (plainFor_of_name hpn) ?_
  intro p e s m below meth c T X hss
  refine Goes.cast (g' := mkF m 0 #[.val (.int (3 : Int32))] []) (by first | (simp [entryFrame, mkF, argsToLocals, Value.category]; done) | rfl) ?_
  refine o_iloadN X d_jdk_52_method_3_0 rfl (q := 1) rfl ?_
  refine o_ifY X d_jdk_52_method_3_1 (by decide) (by decide) (q := 12) (by decide) ?_
  refine o_iloadN X d_jdk_52_method_3_12 rfl (q := 13) rfl ?_
  refine o_ldcI X (w80 hw) d_jdk_52_method_3_13 (q := 15) rfl ?_
  refine o_icmpY X d_jdk_52_method_3_15 (by decide) (by decide) (q := 55) (by decide) ?_
  refine o_iloadN X d_jdk_52_method_3_55 rfl (q := 56) rfl ?_
  refine o_iconst X d_jdk_52_method_3_56 (w := 1) rfl (q := 57) rfl ?_
  refine o_ishl X d_jdk_52_method_3_57 (w := (6 : Int32)) (by decide) (q := 58) rfl ?_
  exact o_retI X d_jdk_52_method_3_58 (fun Sf hSf => ⟨rfl, rfl⟩) (by decide) (by decide)
set_option maxRecDepth 65536 in
set_option maxHeartbeats 40000000 in
theorem c_nbf3 {l : Launch} {Z : State} {a0 : Array Value} (hw : W a0 Z) (h0 : Heap)  :
    Con l Z EL0 (⟨"java/lang/StringUTF16", "newBytesFor", "(I)[B"⟩ : MethodName) jdk_52_method_2_code 1 (some (.array .byte)) ({ frames := 1, cells := 1, slots := 6, locals := 12 } : Room) #[(.int (3 : Int32))] h0 [] (fun v h' Sf => ∃ (b : Addr) (kb : ClassId), v = some (.ref b) ∧ Keep h0 h' [] ∧ h0.size ≤ b ∧ Sf b ∧ Arv Z h' b kb .byte (6 : Int32) [(.int (0 : Int32)), (.int (0 : Int32)), (.int (0 : Int32)), (.int (0 : Int32)), (.int (0 : Int32)), (.int (0 : Int32))] (.int (0 : Int32))) := by
  have hpn : plainName "java/lang/StringUTF16" = true := by first | (simp [plainName, overriddenIn]; done) | decide +kernel
  refine Con.intro (plainFor_of_name hpn) ?_
  intro p e s m below meth c T X hss
  refine Goes.cast (g' := mkF m 0 #[.val (.int (3 : Int32))] []) (by first | (simp [entryFrame, mkF, argsToLocals, Value.category]; done) | rfl) ?_
  refine o_iloadN X d_jdk_52_method_2_0 rfl (q := 1) rfl ?_
  refine o_stat X [(.int (3 : Int32))] (y' := (⟨"java/lang/StringUTF16", "newBytesLength", "(I)I"⟩ : MethodName)) (c_nbl3 hw _) all0 (w77 hw) (w78 hw) (w66 hw) (w79 hw) (by decide) d_jdk_52_method_2_1 (rest := []) rfl rfl (lenOf pd1 rfl) rfl (by decide) (Nat.le_of_ble_eq_true rfl) (by decide) (by decide) (q := 4) rfl ?_
  intro v1 vm1 T1 h1 l1 X1 R1 q1
  obtain ⟨rfl, e1⟩ := q1
  have e1 := e1.symm
  subst e1
  show Goes p e below _ T1 (mkF m 4 #[.val (.int (3 : Int32))] [(.int (6 : Int32))])
  refine o_newarr X1 (aty := .byte) (cap := 6) 6 (w24 hw) d_jdk_52_method_2_4 (by decide) (by decide) (by decide) (by decide) (by decide) (q := 6) rfl ?_
  intro T2 h2 b2 k2 gb2 X2 E2 R2 S2 V2 g0_b2
  have V2 : Arv Z h2 b2 k2 .byte (6 : Int32) [(.int (0 : Int32)), (.int (0 : Int32)), (.int (0 : Int32)), (.int (0 : Int32)), (.int (0 : Int32)), (.int (0 : Int32))] (.int (0 : Int32)) := V2
  have sz3 := Nat.le_trans (Keep.refl h0 []).1 (Nat.le_of_eq gb2.symm)
  have k4 := Keep.ext (Keep.refl h0 []) E2
  exact o_retR X2 d_jdk_52_method_2_6 rfl rfl rfl (fun Sf hSf => ⟨b2, k2, rfl, k4, sz3, hSf _ V2.lt S2, V2⟩) (by decide) (by decide)
set_option maxRecDepth 65536 in
set_option maxHeartbeats 40000000 in
theorem c_put3_0 {l : Launch} {Z : State} {a0 : Array Value} (hw : W a0 Z) (b : Addr) (ch u0 u1 u2 u3 u4 u5 : Int32) (h0 : Heap) (SA : Sta Z Z.heap "java/lang/StringUTF16" "$assertionsDisabled" "Z" (.int (1 : Int32))) (SH : Sta Z Z.heap "java/lang/StringUTF16" "HI_BYTE_SHIFT" "I" (.int (0 : Int32))) (SL : Sta Z Z.heap "java/lang/StringUTF16" "LO_BYTE_SHIFT" "I" (.int (8 : Int32))) {kb : ClassId} (Vb : Arv Z h0 b kb .byte (6 : Int32) [(.int u0), (.int u1), (.int u2), (.int u3), (.int u4), (.int u5)] (.int (0 : Int32))) (gb : Z.heap.size ≤ b) :
    Con l Z EL0 (⟨"java/lang/StringUTF16", "putChar", "([BII)V"⟩ : MethodName) jdk_52_method_4_code 3 none ({ frames := 0, cells := 0, slots := 0, locals := 0 } : Room) #[(.ref b), (.int (0 : Int32)), (.int ch)] h0 [b] (fun v h' Sf => v = none ∧ Keep h0 h' [b] ∧ Arv Z h' b kb .byte (6 : Int32) [(.int ch.toInt8.toInt32), (.int (ch >>> ((8 : Int32) &&& 31)).toInt8.toInt32), (.int u2), (.int u3), (.int u4), (.int u5)] (.int (0 : Int32))) := by
  have hpn : plainName "java/lang/StringUTF16" = true := by first | (simp [plainName, overriddenIn]; done) | decide +kernel
  refine Con.intro (plainFor_of_name hpn) ?_
  intro p e s m below meth c T X hss
  have S_b := hss b (by simp)
  refine Goes.cast (g' := mkF m 0 #[.val (.ref b), .val (.int (0 : Int32)), .val (.int ch)] []) (by first | (simp [entryFrame, mkF, argsToLocals, Value.category]; done) | rfl) ?_
  refine o_getS X SA (host := "") (Or.inl (w84 hw)) Via.refl d_jdk_52_method_4_0 (q := 3) rfl ?_
  intro T1 X1
  refine o_ifY X1 d_jdk_52_method_4_3 (by decide) (by decide) (q := 28) (by decide) ?_
  refine o_iloadN X1 d_jdk_52_method_4_28 rfl (q := 29) rfl ?_
  refine o_iconst X1 d_jdk_52_method_4_29 (w := 1) rfl (q := 30) rfl ?_
  refine o_ishl X1 d_jdk_52_method_4_30 (w := (0 : Int32)) (by decide) (q := 31) rfl ?_
  refine o_istoreN X1 d_jdk_52_method_4_31 rfl (L' := #[.val (.ref b), .val (.int (0 : Int32)), .val (.int ch)]) rfl (q := 32) rfl ?_
  refine o_aloadN X1 d_jdk_52_method_4_32 rfl rfl (q := 33) rfl ?_
  refine o_iloadN X1 d_jdk_52_method_4_33 rfl (q := 34) rfl ?_
  refine o_iinc X1 d_jdk_52_method_4_34 rfl (z := (1 : Int32)) (by decide) (L' := #[.val (.ref b), .val (.int (1 : Int32)), .val (.int ch)]) rfl (q := 37) rfl ?_
  refine o_iloadN X1 d_jdk_52_method_4_37 rfl (q := 38) rfl ?_
  refine o_getS X1 SH (host := "") (Or.inl (w85 hw)) Via.refl d_jdk_52_method_4_38 (q := 41) rfl ?_
  intro T2 X2
  refine o_ishr X2 d_jdk_52_method_4_41 (w := (ch >>> ((0 : Int32) &&& 31))) rfl (q := 42) rfl ?_
  refine o_i2b X2 d_jdk_52_method_4_42 (w := ((ch >>> ((0 : Int32) &&& 31)).toInt8.toInt32)) rfl (q := 43) rfl ?_
  refine o_bastore X2 0 Vb gb S_b (by decide) rfl (Nat.le_of_ble_eq_true rfl) (v := (.int ch.toInt8.toInt32)) (by rw [own_narb, n_shr0]) d_jdk_52_method_4_43 (q := 44) rfl ?_
  intro T3 h3 l3 X3 W3 R3 V3
  have V3 : Arv Z h3 b kb .byte (6 : Int32) [(.int ch.toInt8.toInt32), (.int u1), (.int u2), (.int u3), (.int u4), (.int u5)] (.int (0 : Int32)) := V3
  refine o_aloadN X3 d_jdk_52_method_4_44 rfl rfl (q := 45) rfl ?_
  refine o_iloadN X3 d_jdk_52_method_4_45 rfl (q := 46) rfl ?_
  refine o_iloadN X3 d_jdk_52_method_4_46 rfl (q := 47) rfl ?_
  refine o_getS X3 SL (host := "") (Or.inl (w86 hw)) Via.refl d_jdk_52_method_4_47 (q := 50) rfl ?_
  intro T4 X4
  refine o_ishr X4 d_jdk_52_method_4_50 (w := (ch >>> ((8 : Int32) &&& 31))) rfl (q := 51) rfl ?_
  refine o_i2b X4 d_jdk_52_method_4_51 (w := ((ch >>> ((8 : Int32) &&& 31)).toInt8.toInt32)) rfl (q := 52) rfl ?_
  have f6 := (CHr.safe R3 (Vb.lt) S_b)
  refine o_bastore X4 1 V3 gb f6 (by decide) rfl (Nat.le_of_ble_eq_true rfl) (v := (.int (ch >>> ((8 : Int32) &&& 31)).toInt8.toInt32)) (by rw [own_narb]) d_jdk_52_method_4_52 (q := 53) rfl ?_
  intro T5 h5 l5 X5 W5 R5 V5
  have V5 : Arv Z h5 b kb .byte (6 : Int32) [(.int ch.toInt8.toInt32), (.int (ch >>> ((8 : Int32) &&& 31)).toInt8.toInt32), (.int u2), (.int u3), (.int u4), (.int u5)] (.int (0 : Int32)) := V5
  have k7 := Keep.wr (Keep.refl h0 [b]) W3 (Or.inl (by simp))
  have k8 := Keep.wr k7 W5 (Or.inl (by simp))
  exact o_ret X5 d_jdk_52_method_4_53 (fun Sf hSf => ⟨rfl, k8, V5⟩) (by decide) (by decide)
set_option maxRecDepth 65536 in
set_option maxHeartbeats 40000000 in
theorem c_put3_1 {l : Launch} {Z : State} {a0 : Array Value} (hw : W a0 Z) (b : Addr) (ch u0 u1 u2 u3 u4 u5 : Int32) (h0 : Heap) (SA : Sta Z Z.heap "java/lang/StringUTF16" "$assertionsDisabled" "Z" (.int (1 : Int32))) (SH : Sta Z Z.heap "java/lang/StringUTF16" "HI_BYTE_SHIFT" "I" (.int (0 : Int32))) (SL : Sta Z Z.heap "java/lang/StringUTF16" "LO_BYTE_SHIFT" "I" (.int (8 : Int32))) {kb : ClassId} (Vb : Arv Z h0 b kb .byte (6 : Int32) [(.int u0), (.int u1), (.int u2), (.int u3), (.int u4), (.int u5)] (.int (0 : Int32))) (gb : Z.heap.size ≤ b) :
    Con l Z EL0 (⟨"java/lang/StringUTF16", "putChar", "([BII)V"⟩ : MethodName) jdk_52_method_4_code 3 none ({ frames := 0, cells := 0, slots := 0, locals := 0 } : Room) #[(.ref b), (.int (1 : Int32)), (.int ch)] h0 [b] (fun v h' Sf => v = none ∧ Keep h0 h' [b] ∧ Arv Z h' b kb .byte (6 : Int32) [(.int u0), (.int u1), (.int ch.toInt8.toInt32), (.int (ch >>> ((8 : Int32) &&& 31)).toInt8.toInt32), (.int u4), (.int u5)] (.int (0 : Int32))) := by
  have hpn : plainName "java/lang/StringUTF16" = true := by first | (simp [plainName, overriddenIn]; done) | decide +kernel
  refine Con.intro (plainFor_of_name hpn) ?_
  intro p e s m below meth c T X hss
  have S_b := hss b (by simp)
  refine Goes.cast (g' := mkF m 0 #[.val (.ref b), .val (.int (1 : Int32)), .val (.int ch)] []) (by first | (simp [entryFrame, mkF, argsToLocals, Value.category]; done) | rfl) ?_
  refine o_getS X SA (host := "") (Or.inl (w84 hw)) Via.refl d_jdk_52_method_4_0 (q := 3) rfl ?_
  intro T1 X1
  refine o_ifY X1 d_jdk_52_method_4_3 (by decide) (by decide) (q := 28) (by decide) ?_
  refine o_iloadN X1 d_jdk_52_method_4_28 rfl (q := 29) rfl ?_
  refine o_iconst X1 d_jdk_52_method_4_29 (w := 1) rfl (q := 30) rfl ?_
  refine o_ishl X1 d_jdk_52_method_4_30 (w := (2 : Int32)) (by decide) (q := 31) rfl ?_
  refine o_istoreN X1 d_jdk_52_method_4_31 rfl (L' := #[.val (.ref b), .val (.int (2 : Int32)), .val (.int ch)]) rfl (q := 32) rfl ?_
  refine o_aloadN X1 d_jdk_52_method_4_32 rfl rfl (q := 33) rfl ?_
  refine o_iloadN X1 d_jdk_52_method_4_33 rfl (q := 34) rfl ?_
  refine o_iinc X1 d_jdk_52_method_4_34 rfl (z := (3 : Int32)) (by decide) (L' := #[.val (.ref b), .val (.int (3 : Int32)), .val (.int ch)]) rfl (q := 37) rfl ?_
  refine o_iloadN X1 d_jdk_52_method_4_37 rfl (q := 38) rfl ?_
  refine o_getS X1 SH (host := "") (Or.inl (w85 hw)) Via.refl d_jdk_52_method_4_38 (q := 41) rfl ?_
  intro T2 X2
  refine o_ishr X2 d_jdk_52_method_4_41 (w := (ch >>> ((0 : Int32) &&& 31))) rfl (q := 42) rfl ?_
  refine o_i2b X2 d_jdk_52_method_4_42 (w := ((ch >>> ((0 : Int32) &&& 31)).toInt8.toInt32)) rfl (q := 43) rfl ?_
  refine o_bastore X2 2 Vb gb S_b (by decide) rfl (Nat.le_of_ble_eq_true rfl) (v := (.int ch.toInt8.toInt32)) (by rw [own_narb, n_shr0]) d_jdk_52_method_4_43 (q := 44) rfl ?_
  intro T3 h3 l3 X3 W3 R3 V3
  have V3 : Arv Z h3 b kb .byte (6 : Int32) [(.int u0), (.int u1), (.int ch.toInt8.toInt32), (.int u3), (.int u4), (.int u5)] (.int (0 : Int32)) := V3
  refine o_aloadN X3 d_jdk_52_method_4_44 rfl rfl (q := 45) rfl ?_
  refine o_iloadN X3 d_jdk_52_method_4_45 rfl (q := 46) rfl ?_
  refine o_iloadN X3 d_jdk_52_method_4_46 rfl (q := 47) rfl ?_
  refine o_getS X3 SL (host := "") (Or.inl (w86 hw)) Via.refl d_jdk_52_method_4_47 (q := 50) rfl ?_
  intro T4 X4
  refine o_ishr X4 d_jdk_52_method_4_50 (w := (ch >>> ((8 : Int32) &&& 31))) rfl (q := 51) rfl ?_
  refine o_i2b X4 d_jdk_52_method_4_51 (w := ((ch >>> ((8 : Int32) &&& 31)).toInt8.toInt32)) rfl (q := 52) rfl ?_
  have f6 := (CHr.safe R3 (Vb.lt) S_b)
  refine o_bastore X4 3 V3 gb f6 (by decide) rfl (Nat.le_of_ble_eq_true rfl) (v := (.int (ch >>> ((8 : Int32) &&& 31)).toInt8.toInt32)) (by rw [own_narb]) d_jdk_52_method_4_52 (q := 53) rfl ?_
  intro T5 h5 l5 X5 W5 R5 V5
  have V5 : Arv Z h5 b kb .byte (6 : Int32) [(.int u0), (.int u1), (.int ch.toInt8.toInt32), (.int (ch >>> ((8 : Int32) &&& 31)).toInt8.toInt32), (.int u4), (.int u5)] (.int (0 : Int32)) := V5
  have k7 := Keep.wr (Keep.refl h0 [b]) W3 (Or.inl (by simp))
  have k8 := Keep.wr k7 W5 (Or.inl (by simp))
  exact o_ret X5 d_jdk_52_method_4_53 (fun Sf hSf => ⟨rfl, k8, V5⟩) (by decide) (by decide)
set_option maxRecDepth 65536 in
set_option maxHeartbeats 40000000 in
theorem c_put3_2 {l : Launch} {Z : State} {a0 : Array Value} (hw : W a0 Z) (b : Addr) (ch u0 u1 u2 u3 u4 u5 : Int32) (h0 : Heap) (SA : Sta Z Z.heap "java/lang/StringUTF16" "$assertionsDisabled" "Z" (.int (1 : Int32))) (SH : Sta Z Z.heap "java/lang/StringUTF16" "HI_BYTE_SHIFT" "I" (.int (0 : Int32))) (SL : Sta Z Z.heap "java/lang/StringUTF16" "LO_BYTE_SHIFT" "I" (.int (8 : Int32))) {kb : ClassId} (Vb : Arv Z h0 b kb .byte (6 : Int32) [(.int u0), (.int u1), (.int u2), (.int u3), (.int u4), (.int u5)] (.int (0 : Int32))) (gb : Z.heap.size ≤ b) :
    Con l Z EL0 (⟨"java/lang/StringUTF16", "putChar", "([BII)V"⟩ : MethodName) jdk_52_method_4_code 3 none ({ frames := 0, cells := 0, slots := 0, locals := 0 } : Room) #[(.ref b), (.int (2 : Int32)), (.int ch)] h0 [b] (fun v h' Sf => v = none ∧ Keep h0 h' [b] ∧ Arv Z h' b kb .byte (6 : Int32) [(.int u0), (.int u1), (.int u2), (.int u3), (.int ch.toInt8.toInt32), (.int (ch >>> ((8 : Int32) &&& 31)).toInt8.toInt32)] (.int (0 : Int32))) := by
  have hpn : plainName "java/lang/StringUTF16" = true := by first | (simp [plainName, overriddenIn]; done) | decide +kernel
  refine Con.intro (plainFor_of_name hpn) ?_
  intro p e s m below meth c T X hss
  have S_b := hss b (by simp)
  refine Goes.cast (g' := mkF m 0 #[.val (.ref b), .val (.int (2 : Int32)), .val (.int ch)] []) (by first | (simp [entryFrame, mkF, argsToLocals, Value.category]; done) | rfl) ?_
  refine o_getS X SA (host := "") (Or.inl (w84 hw)) Via.refl d_jdk_52_method_4_0 (q := 3) rfl ?_
  intro T1 X1
  refine o_ifY X1 d_jdk_52_method_4_3 (by decide) (by decide) (q := 28) (by decide) ?_
  refine o_iloadN X1 d_jdk_52_method_4_28 rfl (q := 29) rfl ?_
  refine o_iconst X1 d_jdk_52_method_4_29 (w := 1) rfl (q := 30) rfl ?_
  refine o_ishl X1 d_jdk_52_method_4_30 (w := (4 : Int32)) (by decide) (q := 31) rfl ?_
  refine o_istoreN X1 d_jdk_52_method_4_31 rfl (L' := #[.val (.ref b), .val (.int (4 : Int32)), .val (.int ch)]) rfl (q := 32) rfl ?_
  refine o_aloadN X1 d_jdk_52_method_4_32 rfl rfl (q := 33) rfl ?_
  refine o_iloadN X1 d_jdk_52_method_4_33 rfl (q := 34) rfl ?_
  refine o_iinc X1 d_jdk_52_method_4_34 rfl (z := (5 : Int32)) (by decide) (L' := #[.val (.ref b), .val (.int (5 : Int32)), .val (.int ch)]) rfl (q := 37) rfl ?_
  refine o_iloadN X1 d_jdk_52_method_4_37 rfl (q := 38) rfl ?_
  refine o_getS X1 SH (host := "") (Or.inl (w85 hw)) Via.refl d_jdk_52_method_4_38 (q := 41) rfl ?_
  intro T2 X2
  refine o_ishr X2 d_jdk_52_method_4_41 (w := (ch >>> ((0 : Int32) &&& 31))) rfl (q := 42) rfl ?_
  refine o_i2b X2 d_jdk_52_method_4_42 (w := ((ch >>> ((0 : Int32) &&& 31)).toInt8.toInt32)) rfl (q := 43) rfl ?_
  refine o_bastore X2 4 Vb gb S_b (by decide) rfl (Nat.le_of_ble_eq_true rfl) (v := (.int ch.toInt8.toInt32)) (by rw [own_narb, n_shr0]) d_jdk_52_method_4_43 (q := 44) rfl ?_
  intro T3 h3 l3 X3 W3 R3 V3
  have V3 : Arv Z h3 b kb .byte (6 : Int32) [(.int u0), (.int u1), (.int u2), (.int u3), (.int ch.toInt8.toInt32), (.int u5)] (.int (0 : Int32)) := V3
  refine o_aloadN X3 d_jdk_52_method_4_44 rfl rfl (q := 45) rfl ?_
  refine o_iloadN X3 d_jdk_52_method_4_45 rfl (q := 46) rfl ?_
  refine o_iloadN X3 d_jdk_52_method_4_46 rfl (q := 47) rfl ?_
  refine o_getS X3 SL (host := "") (Or.inl (w86 hw)) Via.refl d_jdk_52_method_4_47 (q := 50) rfl ?_
  intro T4 X4
  refine o_ishr X4 d_jdk_52_method_4_50 (w := (ch >>> ((8 : Int32) &&& 31))) rfl (q := 51) rfl ?_
  refine o_i2b X4 d_jdk_52_method_4_51 (w := ((ch >>> ((8 : Int32) &&& 31)).toInt8.toInt32)) rfl (q := 52) rfl ?_
  have f6 := (CHr.safe R3 (Vb.lt) S_b)
  refine o_bastore X4 5 V3 gb f6 (by decide) rfl (Nat.le_of_ble_eq_true rfl) (v := (.int (ch >>> ((8 : Int32) &&& 31)).toInt8.toInt32)) (by rw [own_narb]) d_jdk_52_method_4_52 (q := 53) rfl ?_
  intro T5 h5 l5 X5 W5 R5 V5
  have V5 : Arv Z h5 b kb .byte (6 : Int32) [(.int u0), (.int u1), (.int u2), (.int u3), (.int ch.toInt8.toInt32), (.int (ch >>> ((8 : Int32) &&& 31)).toInt8.toInt32)] (.int (0 : Int32)) := V5
  have k7 := Keep.wr (Keep.refl h0 [b]) W3 (Or.inl (by simp))
  have k8 := Keep.wr k7 W5 (Or.inl (by simp))
  exact o_ret X5 d_jdk_52_method_4_53 (fun Sf hSf => ⟨rfl, k8, V5⟩) (by decide) (by decide)
set_option maxRecDepth 65536 in
set_option maxHeartbeats 40000000 in
theorem c_tb3 {l : Launch} {Z : State} {a0 : Array Value} (hw : W a0 Z) (ar : Addr) (c0 c1 c2 : Int32) (h0 : Heap) (SA : Sta Z Z.heap "java/lang/StringUTF16" "$assertionsDisabled" "Z" (.int (1 : Int32))) (SH : Sta Z Z.heap "java/lang/StringUTF16" "HI_BYTE_SHIFT" "I" (.int (0 : Int32))) (SL : Sta Z Z.heap "java/lang/StringUTF16" "LO_BYTE_SHIFT" "I" (.int (8 : Int32))) {ka : ClassId} (Va : Arv Z h0 ar ka .char (3 : Int32) [(.int c0), (.int c1), (.int c2)] (.int (0 : Int32))) :
    Con l Z EL0 (⟨"java/lang/StringUTF16", "toBytes", "([CII)[B"⟩ : MethodName) jdk_52_method_14_code 5 (some (.array .byte)) ({ frames := 2, cells := 1, slots := 6, locals := 24 } : Room) #[(.ref ar), (.int (0 : Int32)), (.int (3 : Int32))] h0 [] (fun v h' Sf => ∃ (b : Addr) (kb : ClassId), v = some (.ref b) ∧ Keep h0 h' [] ∧ h0.size ≤ b ∧ Sf b ∧ Arv Z h' b kb .byte (6 : Int32) [(.int c0.toInt8.toInt32), (.int (c0 >>> ((8 : Int32) &&& 31)).toInt8.toInt32), (.int c1.toInt8.toInt32), (.int (c1 >>> ((8 : Int32) &&& 31)).toInt8.toInt32), (.int c2.toInt8.toInt32), (.int (c2 >>> ((8 : Int32) &&& 31)).toInt8.toInt32)] (.int (0 : Int32))) := by
  have hpn : plainName "java/lang/StringUTF16" = true := by first | (simp [plainName, overriddenIn]; done) | decide +kernel
  refine Con.intro (plainFor_of_name hpn) ?_
  intro p e s m below meth c T X hss
  refine Goes.cast (g' := mkF m 0 #[.val (.ref ar), .val (.int (0 : Int32)), .val (.int (3 : Int32)), .unset, .unset] []) (by first | (simp [entryFrame, mkF, argsToLocals, Value.category]; done) | rfl) ?_
  refine o_iloadN X d_jdk_52_method_14_0 rfl (q := 1) rfl ?_
  refine o_stat X [(.int (3 : Int32))] (y' := (⟨"java/lang/StringUTF16", "newBytesFor", "(I)[B"⟩ : MethodName)) (c_nbf3 hw _) all0 (w74 hw) (w75 hw) (w66 hw) (w76 hw) (by decide) d_jdk_52_method_14_1 (rest := []) rfl rfl (lenOf pd2 rfl) rfl (by decide) (Nat.le_of_ble_eq_true rfl) (by decide) (by decide) (q := 4) rfl ?_
  intro v1 vm1 T1 h1 l1 X1 R1 q1
  obtain ⟨b1, kb1, rfl, K1, g1, s1, V1⟩ := q1
  show Goes p e below _ T1 (mkF m 4 #[.val (.ref ar), .val (.int (0 : Int32)), .val (.int (3 : Int32)), .unset, .unset] [(.ref b1)])
  refine o_astoreN X1 d_jdk_52_method_14_4 rfl (L' := #[.val (.ref ar), .val (.int (0 : Int32)), .val (.int (3 : Int32)), .val (.ref b1), .unset]) rfl (q := 5) rfl ?_
  refine o_iconst X1 d_jdk_52_method_14_5 (w := 0) rfl (q := 6) rfl ?_
  refine o_istore X1 d_jdk_52_method_14_6 rfl (L' := #[.val (.ref ar), .val (.int (0 : Int32)), .val (.int (3 : Int32)), .val (.ref b1), .val (.int (0 : Int32))]) rfl (q := 8) rfl ?_
  refine o_iload X1 d_jdk_52_method_14_8 rfl (q := 10) rfl ?_
  refine o_iloadN X1 d_jdk_52_method_14_10 rfl (q := 11) rfl ?_
  refine o_icmpN X1 d_jdk_52_method_14_11 (by decide) (q := 14) rfl ?_
  refine o_aloadN X1 d_jdk_52_method_14_14 rfl rfl (q := 15) rfl ?_
  refine o_iload X1 d_jdk_52_method_14_15 rfl (q := 17) rfl ?_
  refine o_aloadN X1 d_jdk_52_method_14_17 rfl rfl (q := 18) rfl ?_
  refine o_iloadN X1 d_jdk_52_method_14_18 rfl (q := 19) rfl ?_
  have f2 := (Va.keep K1 nin0)
  refine o_caload X1 f2 (by decide) (v := (.int c0)) rfl d_jdk_52_method_14_19 (q := 20) rfl ?_
  refine o_stat X1 [(.ref b1), (.int (0 : Int32)), (.int c0)] (y' := (⟨"java/lang/StringUTF16", "putChar", "([BII)V"⟩ : MethodName)) (c_put3_0 hw b1 c0 ((0 : Int32)) ((0 : Int32)) ((0 : Int32)) ((0 : Int32)) ((0 : Int32)) ((0 : Int32)) _ SA SH SL V1 (Nat.le_trans X.size g1)) (allS ⟨V1.lt, s1⟩ all0) (w81 hw) (w82 hw) (w66 hw) (w83 hw) (by decide) d_jdk_52_method_14_20 (rest := []) rfl rfl (lenOf pd3 rfl) rfl (by decide) (Nat.le_of_ble_eq_true rfl) (by decide) (by decide) (q := 23) rfl ?_
  intro v3 vm3 T3 h3 l3 X3 R3 q3
  obtain ⟨rfl, K3, V3⟩ := q3
  show Goes p e below _ T3 (mkF m 23 #[.val (.ref ar), .val (.int (0 : Int32)), .val (.int (3 : Int32)), .val (.ref b1), .val (.int (0 : Int32))] [])
  refine o_iinc X3 d_jdk_52_method_14_23 rfl (z := (1 : Int32)) (by decide) (L' := #[.val (.ref ar), .val (.int (1 : Int32)), .val (.int (3 : Int32)), .val (.ref b1), .val (.int (0 : Int32))]) rfl (q := 26) rfl ?_
  refine o_iinc X3 d_jdk_52_method_14_26 rfl (z := (1 : Int32)) (by decide) (L' := #[.val (.ref ar), .val (.int (1 : Int32)), .val (.int (3 : Int32)), .val (.ref b1), .val (.int (1 : Int32))]) rfl (q := 29) rfl ?_
  refine o_goto X3 d_jdk_52_method_14_29 (by decide) (q := 8) (by decide) ?_
  refine o_iload X3 d_jdk_52_method_14_8 rfl (q := 10) rfl ?_
  refine o_iloadN X3 d_jdk_52_method_14_10 rfl (q := 11) rfl ?_
  refine o_icmpN X3 d_jdk_52_method_14_11 (by decide) (q := 14) rfl ?_
  refine o_aloadN X3 d_jdk_52_method_14_14 rfl rfl (q := 15) rfl ?_
  refine o_iload X3 d_jdk_52_method_14_15 rfl (q := 17) rfl ?_
  refine o_aloadN X3 d_jdk_52_method_14_17 rfl rfl (q := 18) rfl ?_
  refine o_iloadN X3 d_jdk_52_method_14_18 rfl (q := 19) rfl ?_
  have f4 := (f2.keep K3 (ninS (Nat.ne_of_lt (Nat.lt_of_lt_of_le Va.lt g1)) nin0))
  refine o_caload X3 f4 (by decide) (v := (.int c1)) rfl d_jdk_52_method_14_19 (q := 20) rfl ?_
  have f6 := (CHr.safe R3 (V1.lt) s1)
  refine o_stat X3 [(.ref b1), (.int (1 : Int32)), (.int c1)] (y' := (⟨"java/lang/StringUTF16", "putChar", "([BII)V"⟩ : MethodName)) (c_put3_1 hw b1 c1 (c0.toInt8.toInt32) ((c0 >>> ((8 : Int32) &&& 31)).toInt8.toInt32) ((0 : Int32)) ((0 : Int32)) ((0 : Int32)) ((0 : Int32)) _ SA SH SL V3 (Nat.le_trans X.size g1)) (allS ⟨V3.lt, f6⟩ all0) (w81 hw) (w82 hw) (w66 hw) (w83 hw) (by decide) d_jdk_52_method_14_20 (rest := []) rfl rfl (lenOf pd3 rfl) rfl (by decide) (Nat.le_of_ble_eq_true rfl) (by decide) (by decide) (q := 23) rfl ?_
  intro v5 vm5 T5 h5 l5 X5 R5 q5
  obtain ⟨rfl, K5, V5⟩ := q5
  show Goes p e below _ T5 (mkF m 23 #[.val (.ref ar), .val (.int (1 : Int32)), .val (.int (3 : Int32)), .val (.ref b1), .val (.int (1 : Int32))] [])
  refine o_iinc X5 d_jdk_52_method_14_23 rfl (z := (2 : Int32)) (by decide) (L' := #[.val (.ref ar), .val (.int (2 : Int32)), .val (.int (3 : Int32)), .val (.ref b1), .val (.int (1 : Int32))]) rfl (q := 26) rfl ?_
  refine o_iinc X5 d_jdk_52_method_14_26 rfl (z := (2 : Int32)) (by decide) (L' := #[.val (.ref ar), .val (.int (2 : Int32)), .val (.int (3 : Int32)), .val (.ref b1), .val (.int (2 : Int32))]) rfl (q := 29) rfl ?_
  refine o_goto X5 d_jdk_52_method_14_29 (by decide) (q := 8) (by decide) ?_
  refine o_iload X5 d_jdk_52_method_14_8 rfl (q := 10) rfl ?_
  refine o_iloadN X5 d_jdk_52_method_14_10 rfl (q := 11) rfl ?_
  refine o_icmpN X5 d_jdk_52_method_14_11 (by decide) (q := 14) rfl ?_
  refine o_aloadN X5 d_jdk_52_method_14_14 rfl rfl (q := 15) rfl ?_
  refine o_iload X5 d_jdk_52_method_14_15 rfl (q := 17) rfl ?_
  refine o_aloadN X5 d_jdk_52_method_14_17 rfl rfl (q := 18) rfl ?_
  refine o_iloadN X5 d_jdk_52_method_14_18 rfl (q := 19) rfl ?_
  have f7 := (f4.keep K5 (ninS (Nat.ne_of_lt (Nat.lt_of_lt_of_le Va.lt g1)) nin0))
  refine o_caload X5 f7 (by decide) (v := (.int c2)) rfl d_jdk_52_method_14_19 (q := 20) rfl ?_
  have f9 := (CHr.safe R5 (V3.lt) f6)
  refine o_stat X5 [(.ref b1), (.int (2 : Int32)), (.int c2)] (y' := (⟨"java/lang/StringUTF16", "putChar", "([BII)V"⟩ : MethodName)) (c_put3_2 hw b1 c2 (c0.toInt8.toInt32) ((c0 >>> ((8 : Int32) &&& 31)).toInt8.toInt32) (c1.toInt8.toInt32) ((c1 >>> ((8 : Int32) &&& 31)).toInt8.toInt32) ((0 : Int32)) ((0 : Int32)) _ SA SH SL V5 (Nat.le_trans X.size g1)) (allS ⟨V5.lt, f9⟩ all0) (w81 hw) (w82 hw) (w66 hw) (w83 hw) (by decide) d_jdk_52_method_14_20 (rest := []) rfl rfl (lenOf pd3 rfl) rfl (by decide) (Nat.le_of_ble_eq_true rfl) (by decide) (by decide) (q := 23) rfl ?_
  intro v8 vm8 T8 h8 l8 X8 R8 q8
  obtain ⟨rfl, K8, V8⟩ := q8
  show Goes p e below _ T8 (mkF m 23 #[.val (.ref ar), .val (.int (2 : Int32)), .val (.int (3 : Int32)), .val (.ref b1), .val (.int (2 : Int32))] [])
  refine o_iinc X8 d_jdk_52_method_14_23 rfl (z := (3 : Int32)) (by decide) (L' := #[.val (.ref ar), .val (.int (3 : Int32)), .val (.int (3 : Int32)), .val (.ref b1), .val (.int (2 : Int32))]) rfl (q := 26) rfl ?_
  refine o_iinc X8 d_jdk_52_method_14_26 rfl (z := (3 : Int32)) (by decide) (L' := #[.val (.ref ar), .val (.int (3 : Int32)), .val (.int (3 : Int32)), .val (.ref b1), .val (.int (3 : Int32))]) rfl (q := 29) rfl ?_
  refine o_goto X8 d_jdk_52_method_14_29 (by decide) (q := 8) (by decide) ?_
  refine o_iload X8 d_jdk_52_method_14_8 rfl (q := 10) rfl ?_
  refine o_iloadN X8 d_jdk_52_method_14_10 rfl (q := 11) rfl ?_
  refine o_icmpY X8 d_jdk_52_method_14_11 (by decide) (by decide) (q := 32) (by decide) ?_
  refine o_aloadN X8 d_jdk_52_method_14_32 rfl rfl (q := 33) rfl ?_
  have sz10 := Nat.le_trans (Keep.refl h0 []).1 g1
  have k11 := Keep.trans (Keep.refl h0 []) K1 all0
  have k12 := Keep.trans k11 K3 (allS (Or.inr sz10) all0)
  have k13 := Keep.trans k12 K5 (allS (Or.inr sz10) all0)
  have k14 := Keep.trans k13 K8 (allS (Or.inr sz10) all0)
  have f15 := (CHr.safe R8 (V5.lt) f9)
  exact o_retR X8 d_jdk_52_method_14_33 rfl rfl rfl (fun Sf hSf => ⟨b1, kb1, rfl, k14, sz10, hSf _ V8.lt f15, V8⟩) (by decide) (by decide)
set_option maxRecDepth 65536 in
set_option maxHeartbeats 40000000 in
theorem c_getCh {l : Launch} {Z : State} {a0 : Array Value} (hw : W a0 Z) (b : Addr) (kb : ClassId) (cs : List Int32) (i : Nat) (h0 : Heap) (SA : Sta Z Z.heap "java/lang/StringUTF16" "$assertionsDisabled" "Z" (.int (1 : Int32))) (SH : Sta Z Z.heap "java/lang/StringUTF16" "HI_BYTE_SHIFT" "I" (.int (0 : Int32))) (SL : Sta Z Z.heap "java/lang/StringUTF16" "LO_BYTE_SHIFT" "I" (.int (8 : Int32))) (Vb : Arv Z h0 b kb .byte (Int32.ofNat (2 * cs.length)) (StrChars.Road.wideBytes cs) (.int 0)) (hN : cs.length ≤ 4000) (hr : ∀ c ∈ cs, Rg c) (hi : i < cs.length) :
    Con l Z EL0 (⟨"java/lang/StringUTF16", "getChar", "([BI)C"⟩ : MethodName) jdk_52_method_5_code 2 (some .char) ({ frames := 0, cells := 0, slots := 0, locals := 0 } : Room) #[(.ref b), (.int (Int32.ofNat i))] h0 [] (fun v h' Sf => v = some (.int (cs.getD i 0)) ∧ h' = h0) := by
  have hpn : plainName "java/lang/StringUTF16" = true := by first | (simp [plainName, overriddenIn]; done) | decide +kernel
  refine Con.intro (plainFor_of_name hpn) ?_
  intro p e s m below meth c T X hss
  refine Goes.cast (g' := mkF m 0 #[.val (.ref b), .val (.int (Int32.ofNat i))] []) (by first | (simp [entryFrame, mkF, argsToLocals, Value.category]; done) | rfl) ?_
  refine o_getS X SA (host := "") (Or.inl (w84 hw)) Via.refl d_jdk_52_method_5_0 (q := 3) rfl ?_
  intro T1 X1
  refine o_ifY X1 d_jdk_52_method_5_3 (by decide) (by decide) (q := 28) (by decide) ?_
  refine o_iloadN X1 d_jdk_52_method_5_28 rfl (q := 29) rfl ?_
  refine o_iconst X1 d_jdk_52_method_5_29 (w := 1) rfl (q := 30) rfl ?_
  refine o_ishl X1 d_jdk_52_method_5_30 (w := (Int32.ofNat (2 * i))) (own_shl1 (by omega)) (q := 31) rfl ?_
  refine o_istoreN X1 d_jdk_52_method_5_31 rfl (L' := #[.val (.ref b), .val (.int (Int32.ofNat (2 * i)))]) rfl (q := 32) rfl ?_
  refine o_aloadN X1 d_jdk_52_method_5_32 rfl rfl (q := 33) rfl ?_
  refine o_iloadN X1 d_jdk_52_method_5_33 rfl (q := 34) rfl ?_
  refine o_iinc X1 d_jdk_52_method_5_34 rfl (z := (Int32.ofNat ((2 * i) + 1))) (n_add _ _) (L' := #[.val (.ref b), .val (.int (Int32.ofNat ((2 * i) + 1)))]) rfl (q := 37) rfl ?_
  refine o_baload X1 Vb (n_in (by omega) (by omega)) (v := .int (cs.getD i 0).toInt8.toInt32) (own_wlo hi hN) d_jdk_52_method_5_37 (q := 38) rfl ?_
  refine o_sipush X1 d_jdk_52_method_5_38 (w := 255) rfl (q := 41) rfl ?_
  refine o_iand X1 d_jdk_52_method_5_41 (w := ((cs.getD i 0).toInt8.toInt32 &&& (255 : Int32))) rfl (q := 42) rfl ?_
  refine o_getS X1 SH (host := "") (Or.inl (w85 hw)) Via.refl d_jdk_52_method_5_42 (q := 45) rfl ?_
  intro T2 X2
  refine o_ishl X2 d_jdk_52_method_5_45 (w := (((cs.getD i 0).toInt8.toInt32 &&& (255 : Int32)) <<< ((0 : Int32) &&& 31))) rfl (q := 46) rfl ?_
  refine o_aloadN X2 d_jdk_52_method_5_46 rfl rfl (q := 47) rfl ?_
  refine o_iloadN X2 d_jdk_52_method_5_47 rfl (q := 48) rfl ?_
  refine o_baload X2 Vb (n_in (by omega) (by omega)) (v := .int ((cs.getD i 0) >>> ((8 : Int32) &&& 31)).toInt8.toInt32) (own_whi hi hN) d_jdk_52_method_5_48 (q := 49) rfl ?_
  refine o_sipush X2 d_jdk_52_method_5_49 (w := 255) rfl (q := 52) rfl ?_
  refine o_iand X2 d_jdk_52_method_5_52 (w := (((cs.getD i 0) >>> ((8 : Int32) &&& 31)).toInt8.toInt32 &&& (255 : Int32))) rfl (q := 53) rfl ?_
  refine o_getS X2 SL (host := "") (Or.inl (w86 hw)) Via.refl d_jdk_52_method_5_53 (q := 56) rfl ?_
  intro T3 X3
  refine o_ishl X3 d_jdk_52_method_5_56 (w := ((((cs.getD i 0) >>> ((8 : Int32) &&& 31)).toInt8.toInt32 &&& (255 : Int32)) <<< ((8 : Int32) &&& 31))) rfl (q := 57) rfl ?_
  refine o_ior X3 d_jdk_52_method_5_57 (w := ((((cs.getD i 0).toInt8.toInt32 &&& (255 : Int32)) <<< ((0 : Int32) &&& 31)) ||| ((((cs.getD i 0) >>> ((8 : Int32) &&& 31)).toInt8.toInt32 &&& (255 : Int32)) <<< ((8 : Int32) &&& 31)))) rfl (q := 58) rfl ?_
  refine o_i2c X3 d_jdk_52_method_5_58 (w := (((((cs.getD i 0).toInt8.toInt32 &&& (255 : Int32)) <<< ((0 : Int32) &&& 31)) ||| ((((cs.getD i 0) >>> ((8 : Int32) &&& 31)).toInt8.toInt32 &&& (255 : Int32)) <<< ((8 : Int32) &&& 31))).toUInt32.toUInt16.toUInt32.toInt32)) rfl (q := 59) rfl ?_
  exact o_retN X3 d_jdk_52_method_5_59 (by simp) (fun Sf hSf => ⟨by rw [own_getch (hr _ (own_mem hi))], rfl⟩) (by decide) (by decide)
set_option maxRecDepth 65536 in
set_option maxHeartbeats 40000000 in
theorem c_cmp3_1_0 {l : Launch} {Z : State} {a0 : Array Value} (hw : W a0 Z) (ar : Addr) (c0 : Int32) (h0 : Heap) (SA : Sta Z Z.heap "java/lang/StringUTF16" "$assertionsDisabled" "Z" (.int (1 : Int32))) (SH : Sta Z Z.heap "java/lang/StringUTF16" "HI_BYTE_SHIFT" "I" (.int (0 : Int32))) (SL : Sta Z Z.heap "java/lang/StringUTF16" "LO_BYTE_SHIFT" "I" (.int (8 : Int32))) {ka : ClassId} (Va : Arv Z h0 ar ka .char (1 : Int32) [(.int c0)] (.int (0 : Int32))) (hr : ∀ c ∈ ([c0] : List Int32), Rg c) (hk : (255 : Int32) < c0) :
    Con l Z EL0 (⟨"java/lang/StringUTF16", "compress", "([CII)[B"⟩ : MethodName) jdk_52_method_16_code 6 (some (.array .byte)) ({ frames := 3, cells := 2, slots := 3, locals := 40 } : Room) #[(.ref ar), (.int (0 : Int32)), (.int (1 : Int32))] h0 [] (fun v h' Sf => ∃ (b : Addr) (kb : ClassId), v = some (.ref b) ∧ Keep h0 h' [] ∧ h0.size ≤ b ∧ Sf b ∧ Arv Z h' b kb .byte (2 : Int32) [(.int c0.toInt8.toInt32), (.int (c0 >>> ((8 : Int32) &&& 31)).toInt8.toInt32)] (.int (0 : Int32))) := by
  have hpn : plainName "java/lang/StringUTF16" = true := by first | (simp [plainName, overriddenIn]; done) | decide +kernel
  refine Con.intro (plainFor_of_name hpn) ?_
  intro p e s m below meth c T X hss
  refine Goes.cast (g' := mkF m 0 #[.val (.ref ar), .val (.int (0 : Int32)), .val (.int (1 : Int32)), .unset, .unset, .unset] []) (by first | (simp [entryFrame, mkF, argsToLocals, Value.category]; done) | rfl) ?_
  refine o_iloadN X d_jdk_52_method_16_0 rfl (q := 1) rfl ?_
  refine o_newarr X (aty := .byte) (cap := 1) 1 (w24 hw) d_jdk_52_method_16_1 (by decide) (by decide) (by decide) (by decide) (by decide) (q := 3) rfl ?_
  intro T1 h1 b1 k1 gb1 X1 E1 R1 S1 V1 g0_b1
  have V1 : Arv Z h1 b1 k1 .byte (1 : Int32) [(.int (0 : Int32))] (.int (0 : Int32)) := V1
  refine o_astoreN X1 d_jdk_52_method_16_3 rfl (L' := #[.val (.ref ar), .val (.int (0 : Int32)), .val (.int (1 : Int32)), .val (.ref b1), .unset, .unset]) rfl (q := 4) rfl ?_
  refine o_aloadN X1 d_jdk_52_method_16_4 rfl rfl (q := 5) rfl ?_
  refine o_iloadN X1 d_jdk_52_method_16_5 rfl (q := 6) rfl ?_
  refine o_aloadN X1 d_jdk_52_method_16_6 rfl rfl (q := 7) rfl ?_
  refine o_iconst X1 d_jdk_52_method_16_7 (w := 0) rfl (q := 8) rfl ?_
  refine o_iloadN X1 d_jdk_52_method_16_8 rfl (q := 9) rfl ?_
  have f2 := (Va.ext E1)
  refine o_stat X1 [(.ref ar), (.int (0 : Int32)), (.ref b1), (.int (0 : Int32)), (.int (1 : Int32))] (y' := (⟨"java/lang/StringUTF16", "compress", "([CI[BII)I"⟩ : MethodName)) (c_cmp5_1_0 hw ar b1 c0 _ f2 V1 g0_b1 (Nat.ne_of_lt (Nat.lt_of_lt_of_le Va.lt (Nat.le_of_eq gb1.symm))) hk) (allS ⟨V1.lt, S1⟩ all0) (w68 hw) (w69 hw) (w66 hw) (w70 hw) (by decide) d_jdk_52_method_16_9 (rest := []) rfl rfl (lenOf pd4 rfl) rfl (by decide) (Nat.le_of_ble_eq_true rfl) (by decide) (by decide) (q := 12) rfl ?_
  intro v3 vm3 T3 h3 l3 X3 R3 q3
  obtain ⟨rfl, K3⟩ := q3
  show Goes p e below _ T3 (mkF m 12 #[.val (.ref ar), .val (.int (0 : Int32)), .val (.int (1 : Int32)), .val (.ref b1), .unset, .unset] [(.int (0 : Int32))])
  refine o_istore X3 d_jdk_52_method_16_12 rfl (L' := #[.val (.ref ar), .val (.int (0 : Int32)), .val (.int (1 : Int32)), .val (.ref b1), .val (.int (0 : Int32)), .unset]) rfl (q := 14) rfl ?_
  refine o_iload X3 d_jdk_52_method_16_14 rfl (q := 16) rfl ?_
  refine o_iloadN X3 d_jdk_52_method_16_16 rfl (q := 17) rfl ?_
  refine o_icmpN X3 d_jdk_52_method_16_17 (by decide) (q := 20) rfl ?_
  refine o_aloadN X3 d_jdk_52_method_16_20 rfl rfl (q := 21) rfl ?_
  refine o_iloadN X3 d_jdk_52_method_16_21 rfl (q := 22) rfl ?_
  refine o_iloadN X3 d_jdk_52_method_16_22 rfl (q := 23) rfl ?_
  have f4 := (f2.keep K3 (ninS (Nat.ne_of_lt (Nat.lt_of_lt_of_le Va.lt (Nat.le_of_eq gb1.symm))) nin0))
  refine o_stat X3 [(.ref ar), (.int (0 : Int32)), (.int (1 : Int32))] (y' := (⟨"java/lang/StringUTF16", "toBytes", "([CII)[B"⟩ : MethodName)) (c_tb1 hw ar c0 _ SA SH SL f4) all0 (w71 hw) (w72 hw) (w66 hw) (w73 hw) (by decide) d_jdk_52_method_16_23 (rest := []) rfl rfl (lenOf pd5 rfl) rfl (by decide) (Nat.le_of_ble_eq_true rfl) (by decide) (by decide) (q := 26) rfl ?_
  intro v5 vm5 T5 h5 l5 X5 R5 q5
  obtain ⟨b5, kb5, rfl, K5, g5, s5, V5⟩ := q5
  show Goes p e below _ T5 (mkF m 26 #[.val (.ref ar), .val (.int (0 : Int32)), .val (.int (1 : Int32)), .val (.ref b1), .val (.int (0 : Int32)), .unset] [(.ref b5)])
  refine o_astore X5 d_jdk_52_method_16_26 rfl (L' := #[.val (.ref ar), .val (.int (0 : Int32)), .val (.int (1 : Int32)), .val (.ref b1), .val (.int (0 : Int32)), .val (.ref b5)]) rfl (q := 28) rfl ?_
  refine o_aload X5 d_jdk_52_method_16_28 rfl rfl (q := 30) rfl ?_
  refine o_iload X5 d_jdk_52_method_16_30 rfl (q := 32) rfl ?_
  refine o_stat X5 [(.ref b5), (.int (0 : Int32))] (y' := (⟨"java/lang/StringUTF16", "getChar", "([BI)C"⟩ : MethodName)) (c_getCh hw b5 kb5 [c0] 0 _ SA SH SL V5 (Nat.le_of_ble_eq_true rfl) hr (Nat.le_of_ble_eq_true rfl)) all0 (w87 hw) (w88 hw) (w66 hw) (w89 hw) (by decide) d_jdk_52_method_16_32 (rest := []) rfl rfl (lenOf pd6 rfl) rfl (by decide) (Nat.le_of_ble_eq_true rfl) (by decide) (by decide) (q := 35) rfl ?_
  intro v6 vm6 T6 h6 l6 X6 R6 q6
  obtain ⟨rfl, e6⟩ := q6
  have e6 := e6.symm
  subst e6
  show Goes p e below _ T6 (mkF m 35 #[.val (.ref ar), .val (.int (0 : Int32)), .val (.int (1 : Int32)), .val (.ref b1), .val (.int (0 : Int32)), .val (.ref b5)] [(.int c0)])
  refine o_sipush X6 d_jdk_52_method_16_35 (w := 255) rfl (q := 38) rfl ?_
  refine o_icmpY X6 d_jdk_52_method_16_38 (tlt hk).2.2.1 (by decide) (q := 54) (by decide) ?_
  refine o_aload X6 d_jdk_52_method_16_54 rfl rfl (q := 56) rfl ?_
  have sz7 := Nat.le_trans (Keep.refl h0 []).1 (Nat.le_of_eq gb1.symm)
  have k8 := Keep.ext (Keep.refl h0 []) E1
  have k9 := Keep.trans k8 K3 (allS (Or.inr sz7) all0)
  have sz10 := Nat.le_trans k9.1 g5
  have k11 := Keep.trans k9 K5 all0
  have f12 := (CHr.safe R6 (V5.lt) s5)
  have f13 := V5
  exact o_retR X6 d_jdk_52_method_16_56 rfl rfl rfl (fun Sf hSf => ⟨b5, kb5, rfl, k11, sz10, hSf _ V5.lt f12, f13⟩) (by decide) (by decide)
set_option maxRecDepth 65536 in
set_option maxHeartbeats 40000000 in
theorem c_cmp3_1_1 {l : Launch} {Z : State} {a0 : Array Value} (hw : W a0 Z) (ar : Addr) (c0 : Int32) (h0 : Heap) (SA : Sta Z Z.heap "java/lang/StringUTF16" "$assertionsDisabled" "Z" (.int (1 : Int32))) (SH : Sta Z Z.heap "java/lang/StringUTF16" "HI_BYTE_SHIFT" "I" (.int (0 : Int32))) (SL : Sta Z Z.heap "java/lang/StringUTF16" "LO_BYTE_SHIFT" "I" (.int (8 : Int32))) {ka : ClassId} (Va : Arv Z h0 ar ka .char (1 : Int32) [(.int c0)] (.int (0 : Int32))) (hr : ∀ c ∈ ([c0] : List Int32), Rg c) (hl0 : ¬ (255 : Int32) < c0) :
    Con l Z EL0 (⟨"java/lang/StringUTF16", "compress", "([CII)[B"⟩ : MethodName) jdk_52_method_16_code 6 (some (.array .byte)) ({ frames := 1, cells := 1, slots := 1, locals := 18 } : Room) #[(.ref ar), (.int (0 : Int32)), (.int (1 : Int32))] h0 [] (fun v h' Sf => ∃ (b : Addr) (kb : ClassId), v = some (.ref b) ∧ Keep h0 h' [] ∧ h0.size ≤ b ∧ Sf b ∧ Arv Z h' b kb .byte (1 : Int32) [(.int c0.toInt8.toInt32)] (.int (0 : Int32))) := by
  have hpn : plainName "java/lang/StringUTF16" = true := by first | (simp [plainName, overriddenIn]; done) | decide +kernel
  refine Con.intro (plainFor_of_name hpn) ?_
  intro p e s m below meth c T X hss
  refine Goes.cast (g' := mkF m 0 #[.val (.ref ar), .val (.int (0 : Int32)), .val (.int (1 : Int32)), .unset, .unset, .unset] []) (by first | (simp [entryFrame, mkF, argsToLocals, Value.category]; done) | rfl) ?_
  refine o_iloadN X d_jdk_52_method_16_0 rfl (q := 1) rfl ?_
  refine o_newarr X (aty := .byte) (cap := 1) 1 (w24 hw) d_jdk_52_method_16_1 (by decide) (by decide) (by decide) (by decide) (by decide) (q := 3) rfl ?_
  intro T1 h1 b1 k1 gb1 X1 E1 R1 S1 V1 g0_b1
  have V1 : Arv Z h1 b1 k1 .byte (1 : Int32) [(.int (0 : Int32))] (.int (0 : Int32)) := V1
  refine o_astoreN X1 d_jdk_52_method_16_3 rfl (L' := #[.val (.ref ar), .val (.int (0 : Int32)), .val (.int (1 : Int32)), .val (.ref b1), .unset, .unset]) rfl (q := 4) rfl ?_
  refine o_aloadN X1 d_jdk_52_method_16_4 rfl rfl (q := 5) rfl ?_
  refine o_iloadN X1 d_jdk_52_method_16_5 rfl (q := 6) rfl ?_
  refine o_aloadN X1 d_jdk_52_method_16_6 rfl rfl (q := 7) rfl ?_
  refine o_iconst X1 d_jdk_52_method_16_7 (w := 0) rfl (q := 8) rfl ?_
  refine o_iloadN X1 d_jdk_52_method_16_8 rfl (q := 9) rfl ?_
  have f2 := (Va.ext E1)
  refine o_stat X1 [(.ref ar), (.int (0 : Int32)), (.ref b1), (.int (0 : Int32)), (.int (1 : Int32))] (y' := (⟨"java/lang/StringUTF16", "compress", "([CI[BII)I"⟩ : MethodName)) (c_cmp5_1_1 hw ar b1 c0 _ f2 V1 g0_b1 (Nat.ne_of_lt (Nat.lt_of_lt_of_le Va.lt (Nat.le_of_eq gb1.symm))) hl0) (allS ⟨V1.lt, S1⟩ all0) (w68 hw) (w69 hw) (w66 hw) (w70 hw) (by decide) d_jdk_52_method_16_9 (rest := []) rfl rfl (lenOf pd4 rfl) rfl (by decide) (Nat.le_of_ble_eq_true rfl) (by decide) (by decide) (q := 12) rfl ?_
  intro v3 vm3 T3 h3 l3 X3 R3 q3
  obtain ⟨rfl, K3, V3⟩ := q3
  show Goes p e below _ T3 (mkF m 12 #[.val (.ref ar), .val (.int (0 : Int32)), .val (.int (1 : Int32)), .val (.ref b1), .unset, .unset] [(.int (1 : Int32))])
  refine o_istore X3 d_jdk_52_method_16_12 rfl (L' := #[.val (.ref ar), .val (.int (0 : Int32)), .val (.int (1 : Int32)), .val (.ref b1), .val (.int (1 : Int32)), .unset]) rfl (q := 14) rfl ?_
  refine o_iload X3 d_jdk_52_method_16_14 rfl (q := 16) rfl ?_
  refine o_iloadN X3 d_jdk_52_method_16_16 rfl (q := 17) rfl ?_
  refine o_icmpY X3 d_jdk_52_method_16_17 (by decide) (by decide) (q := 57) (by decide) ?_
  refine o_aloadN X3 d_jdk_52_method_16_57 rfl rfl (q := 58) rfl ?_
  have sz4 := Nat.le_trans (Keep.refl h0 []).1 (Nat.le_of_eq gb1.symm)
  have k5 := Keep.ext (Keep.refl h0 []) E1
  have k6 := Keep.trans k5 K3 (allS (Or.inr sz4) all0)
  have f7 := (CHr.safe R3 (V1.lt) S1)
  exact o_retR X3 d_jdk_52_method_16_58 rfl rfl rfl (fun Sf hSf => ⟨b1, k1, rfl, k6, sz4, hSf _ V3.lt f7, V3⟩) (by decide) (by decide)
set_option maxRecDepth 65536 in
set_option maxHeartbeats 40000000 in
theorem c_cfl1_0 {l : Launch} {Z : State} {a0 : Array Value} (hw : W a0 Z) (b : Addr) (kb : ClassId) (vs : List Value) (h0 : Heap) (Vb : Arv Z h0 b kb .byte (1 : Int32) vs (.int (0 : Int32))) :
    Con l Z EL0 (⟨"java/lang/StringUTF16", "coderFromArrayLen", "([BI)B"⟩ : MethodName) jdk_52_method_15_code 2 (some .byte) ({ frames := 0, cells := 0, slots := 0, locals := 0 } : Room) #[(.ref b), (.int (1 : Int32))] h0 [] (fun v h' Sf => v = some (.int (0 : Int32)) ∧ h' = h0) := by
  have hpn : plainName "java/lang/StringUTF16" = true := by first | (simp [plainName, overriddenIn]; done) | decide +kernel
  refine Con.intro (plainFor_of_name hpn) ?_
  intro p e s m below meth c T X hss
  refine Goes.cast (g' := mkF m 0 #[.val (.ref b), .val (.int (1 : Int32))] []) (by first | (simp [entryFrame, mkF, argsToLocals, Value.category]; done) | rfl) ?_
  refine o_iloadN X d_jdk_52_method_15_0 rfl (q := 1) rfl ?_
  refine o_aloadN X d_jdk_52_method_15_1 rfl rfl (q := 2) rfl ?_
  refine o_len X Vb d_jdk_52_method_15_2 (q := 3) rfl ?_
  refine o_isub X d_jdk_52_method_15_3 (w := (0 : Int32)) (by decide) (q := 4) rfl ?_
  refine o_bipush X d_jdk_52_method_15_4 (w := 31) rfl (q := 6) rfl ?_
  refine o_iushr X d_jdk_52_method_15_6 (w := (0 : Int32)) (by decide) (q := 7) rfl ?_
  refine o_i2b X d_jdk_52_method_15_7 (w := (0 : Int32)) (by decide) (q := 8) rfl ?_
  exact o_retN X d_jdk_52_method_15_8 (by simp) (fun Sf hSf => ⟨rfl, rfl⟩) (by decide) (by decide)
set_option maxRecDepth 65536 in
set_option maxHeartbeats 40000000 in
theorem c_cfl1_1 {l : Launch} {Z : State} {a0 : Array Value} (hw : W a0 Z) (b : Addr) (kb : ClassId) (vs : List Value) (h0 : Heap) (Vb : Arv Z h0 b kb .byte (2 : Int32) vs (.int (0 : Int32))) :
    Con l Z EL0 (⟨"java/lang/StringUTF16", "coderFromArrayLen", "([BI)B"⟩ : MethodName) jdk_52_method_15_code 2 (some .byte) ({ frames := 0, cells := 0, slots := 0, locals := 0 } : Room) #[(.ref b), (.int (1 : Int32))] h0 [] (fun v h' Sf => v = some (.int (1 : Int32)) ∧ h' = h0) := by
  have hpn : plainName "java/lang/StringUTF16" = true := by first | (simp [plainName, overriddenIn]; done) | decide +kernel
  refine Con.intro (plainFor_of_name hpn) ?_
  intro p e s m below meth c T X hss
  refine Goes.cast (g' := mkF m 0 #[.val (.ref b), .val (.int (1 : Int32))] []) (by first | (simp [entryFrame, mkF, argsToLocals, Value.category]; done) | rfl) ?_
  refine o_iloadN X d_jdk_52_method_15_0 rfl (q := 1) rfl ?_
  refine o_aloadN X d_jdk_52_method_15_1 rfl rfl (q := 2) rfl ?_
  refine o_len X Vb d_jdk_52_method_15_2 (q := 3) rfl ?_
  refine o_isub X d_jdk_52_method_15_3 (w := (-1 : Int32)) (by decide) (q := 4) rfl ?_
  refine o_bipush X d_jdk_52_method_15_4 (w := 31) rfl (q := 6) rfl ?_
  refine o_iushr X d_jdk_52_method_15_6 (w := (1 : Int32)) (by decide) (q := 7) rfl ?_
  refine o_i2b X d_jdk_52_method_15_7 (w := (1 : Int32)) (by decide) (q := 8) rfl ?_
  exact o_retN X d_jdk_52_method_15_8 (by simp) (fun Sf hSf => ⟨rfl, rfl⟩) (by decide) (by decide)
set_option maxRecDepth 65536 in
set_option maxHeartbeats 40000000 in
theorem c_ini4_1_0 {l : Launch} {Z : State} {a0 : Array Value} (hw : W a0 Z) (a ar : Addr) (c0 : Int32) (h0 : Heap) {zc : Int32} (O2 : Sta Z Z.heap "java/lang/String" "COMPACT_STRINGS" "Z" (.int zc)) (P5 : ¬ zc = 0) (SA : Sta Z Z.heap "java/lang/StringUTF16" "$assertionsDisabled" "Z" (.int (1 : Int32))) (SH : Sta Z Z.heap "java/lang/StringUTF16" "HI_BYTE_SHIFT" "I" (.int (0 : Int32))) (SL : Sta Z Z.heap "java/lang/StringUTF16" "LO_BYTE_SHIFT" "I" (.int (8 : Int32))) (E : Exa Z h0 a "java/lang/String") (ga : Z.heap.size ≤ a) (Fv : Fld Z h0 a "java/lang/String" "value" "[B" .null) (Fc : Fld Z h0 a "java/lang/String" "coder" "B" (.int (0 : Int32))) {ka : ClassId} (Va : Arv Z h0 ar ka .char (1 : Int32) [(.int c0)] (.int (0 : Int32))) (hne : ar ≠ a) (hr : ∀ c ∈ ([c0] : List Int32), Rg c) (hk : (255 : Int32) < c0) :
    Con l Z EL0 (⟨"java/lang/String", "<init>", "([CIILjava/lang/Void;)V"⟩ : MethodName) jdk_42_method_149_code 6 none ({ frames := 4, cells := 2, slots := 3, locals := 57 } : Room) #[(.ref a), (.ref ar), (.int (0 : Int32)), (.int (1 : Int32)), .null] h0 [a] (fun v h' Sf => v = none ∧ Keep h0 h' [a] ∧ ∃ (b : Addr) (kb : ClassId), h0.size ≤ b ∧ US Z h' a b kb [c0]) := by
  have hpn : plainName "java/lang/String" = true := by first | (simp [plainName, overriddenIn]; done) | decide +kernel
  refine Con.intro (plainFor_of_name hpn) ?_
  intro p e s m below meth c T X hss
  have S_a := hss a (by simp)
  refine Goes.cast (g' := mkF m 0 #[.val (.ref a), .val (.ref ar), .val (.int (0 : Int32)), .val (.int (1 : Int32)), .val .null, .unset] []) (by first | (simp [entryFrame, mkF, argsToLocals, Value.category]; done) | rfl) ?_
  refine o_aloadN X d_jdk_42_method_149_0 rfl rfl (q := 1) rfl ?_
  refine o_initO X (w20 hw) (w21 hw) (w22 hw) d_jdk_42_method_149_1 rfl (by decide) (Nat.le_of_ble_eq_true rfl) (q := 4) rfl ?_
  intro T1 X1
  refine o_iloadN X1 d_jdk_42_method_149_4 rfl (q := 5) rfl ?_
  refine o_ifY X1 d_jdk_42_method_149_5 (by decide) (by decide) (q := 27) (by decide) ?_
  refine o_getS X1 O2 (host := "") (Or.inl (w58 hw)) Via.refl d_jdk_42_method_149_27 (q := 30) rfl ?_
  intro T2 X2
  refine o_ifN X2 d_jdk_42_method_149_30 (feq P5).1 (q := 33) rfl ?_
  refine o_aloadN X2 d_jdk_42_method_149_33 rfl rfl (q := 34) rfl ?_
  refine o_iloadN X2 d_jdk_42_method_149_34 rfl (q := 35) rfl ?_
  refine o_iloadN X2 d_jdk_42_method_149_35 rfl (q := 36) rfl ?_
  refine o_stat X2 [(.ref ar), (.int (0 : Int32)), (.int (1 : Int32))] (y' := (⟨"java/lang/StringUTF16", "compress", "([CII)[B"⟩ : MethodName)) (c_cmp3_1_0 hw ar c0 _ SA SH SL Va hr hk) all0 (w64 hw) (w65 hw) (w66 hw) (w67 hw) (by decide) d_jdk_42_method_149_36 (rest := []) rfl rfl (lenOf pd5 rfl) rfl (by decide) (Nat.le_of_ble_eq_true rfl) (by decide) (by decide) (q := 39) rfl ?_
  intro v3 vm3 T3 h3 l3 X3 R3 q3
  obtain ⟨b3, kb3, rfl, K3, g3, s3, V3⟩ := q3
  show Goes p e below _ T3 (mkF m 39 #[.val (.ref a), .val (.ref ar), .val (.int (0 : Int32)), .val (.int (1 : Int32)), .val .null, .unset] [(.ref b3)])
  refine o_astore X3 d_jdk_42_method_149_39 rfl (L' := #[.val (.ref a), .val (.ref ar), .val (.int (0 : Int32)), .val (.int (1 : Int32)), .val .null, .val (.ref b3)]) rfl (q := 41) rfl ?_
  refine o_aloadN X3 d_jdk_42_method_149_41 rfl rfl (q := 42) rfl ?_
  refine o_aload X3 d_jdk_42_method_149_42 rfl rfl (q := 44) rfl ?_
  refine o_iloadN X3 d_jdk_42_method_149_44 rfl (q := 45) rfl ?_
  refine o_stat X3 [(.ref b3), (.int (1 : Int32))] (y' := (⟨"java/lang/StringUTF16", "coderFromArrayLen", "([BI)B"⟩ : MethodName)) (c_cfl1_1 hw b3 kb3 _ _ V3) all0 (w90 hw) (w91 hw) (w66 hw) (w92 hw) (by decide) d_jdk_42_method_149_45 (rest := [(.ref a)]) rfl rfl (lenOf pd7 rfl) rfl (by decide) (Nat.le_of_ble_eq_true rfl) (by decide) (by decide) (q := 48) rfl ?_
  intro v4 vm4 T4 h4 l4 X4 R4 q4
  obtain ⟨rfl, e4⟩ := q4
  have e4 := e4.symm
  subst e4
  show Goes p e below _ T4 (mkF m 48 #[.val (.ref a), .val (.ref ar), .val (.int (0 : Int32)), .val (.int (1 : Int32)), .val .null, .val (.ref b3)] [(.int (1 : Int32)), (.ref a)])
  have f5 := (Fc.keep K3 nin0)
  have f6 := (E.keep K3)
  have f8 := (CHr.safe R4 ((E.keep K3).lt) (CHr.safe R3 (E.lt) S_a))
  refine o_putF X4 f5 f6 ga f8 (host := "") (Or.inl (w30 hw)) Via.refl (Or.inr ⟨(w26 hw), rfl, rfl⟩) (w11 hw) (ty := .byte) (by decide) (by decide) (by decide) d_jdk_42_method_149_48 (q := 51) rfl ?_
  intro T7 h7 l7 X7 W7 R7 F7
  refine o_aloadN X7 d_jdk_42_method_149_51 rfl rfl (q := 52) rfl ?_
  refine o_aload X7 d_jdk_42_method_149_52 rfl rfl (q := 54) rfl ?_
  have f9 := ((Fv.keep K3 nin0).other W7 (Or.inr (slot_ne (Or.inr (w25 hw)) (Or.inr (w26 hw)) (by decide) (t := (.array .byte)) (t' := .byte) (by decide) (by decide))))
  have f10 := (f6.wr W7)
  have f12 := (CHr.safe R7 (f6.lt) f8)
  refine o_putF X7 f9 f10 ga f12 (host := "") (Or.inl (w29 hw)) Via.refl (Or.inr ⟨(w25 hw), rfl, rfl⟩) (w11 hw) (ty := (.array .byte)) (by decide) rfl rfl d_jdk_42_method_149_54 (q := 57) rfl ?_
  intro T11 h11 l11 X11 W11 R11 F11
  have sz13 := Nat.le_trans (Keep.refl h0 [a]).1 g3
  have k14 := Keep.trans (Keep.refl h0 [a]) K3 all0
  have k15 := Keep.wr k14 W7 (Or.inl (by simp))
  have k16 := Keep.wr k15 W11 (Or.inl (by simp))
  have f17 := (f10.wr W11)
  have f18 := (F7.other W11 (Or.inr (slot_ne (Or.inr (w26 hw)) (Or.inr (w25 hw)) (by decide) (t := .byte) (t' := (.array .byte)) (by decide) (by decide))))
  have f19 := ((V3.other W7 (Ne.symm (Nat.ne_of_lt (Nat.lt_of_lt_of_le E.lt g3)))).other W11 (Ne.symm (Nat.ne_of_lt (Nat.lt_of_lt_of_le E.lt g3))))
  exact o_ret X11 d_jdk_42_method_149_57 (fun Sf hSf => ⟨rfl, k16, b3, kb3, sz13, Or.inr ⟨f17, f18, F11, f19, ⟨c0, by simp, hk⟩, hr, Nat.le_of_ble_eq_true rfl⟩⟩) (by decide) (by decide)
set_option maxRecDepth 65536 in
set_option maxHeartbeats 40000000 in
theorem c_ini4_1_1 {l : Launch} {Z : State} {a0 : Array Value} (hw : W a0 Z) (a ar : Addr) (c0 : Int32) (h0 : Heap) {zc : Int32} (O2 : Sta Z Z.heap "java/lang/String" "COMPACT_STRINGS" "Z" (.int zc)) (P5 : ¬ zc = 0) (SA : Sta Z Z.heap "java/lang/StringUTF16" "$assertionsDisabled" "Z" (.int (1 : Int32))) (SH : Sta Z Z.heap "java/lang/StringUTF16" "HI_BYTE_SHIFT" "I" (.int (0 : Int32))) (SL : Sta Z Z.heap "java/lang/StringUTF16" "LO_BYTE_SHIFT" "I" (.int (8 : Int32))) (E : Exa Z h0 a "java/lang/String") (ga : Z.heap.size ≤ a) (Fv : Fld Z h0 a "java/lang/String" "value" "[B" .null) (Fc : Fld Z h0 a "java/lang/String" "coder" "B" (.int (0 : Int32))) {ka : ClassId} (Va : Arv Z h0 ar ka .char (1 : Int32) [(.int c0)] (.int (0 : Int32))) (hne : ar ≠ a) (hr : ∀ c ∈ ([c0] : List Int32), Rg c) (hl0 : ¬ (255 : Int32) < c0) :
    Con l Z EL0 (⟨"java/lang/String", "<init>", "([CIILjava/lang/Void;)V"⟩ : MethodName) jdk_42_method_149_code 6 none ({ frames := 4, cells := 2, slots := 3, locals := 57 } : Room) #[(.ref a), (.ref ar), (.int (0 : Int32)), (.int (1 : Int32)), .null] h0 [a] (fun v h' Sf => v = none ∧ Keep h0 h' [a] ∧ ∃ (b : Addr) (kb : ClassId), h0.size ≤ b ∧ US Z h' a b kb [c0]) := by
  have hpn : plainName "java/lang/String" = true := by first | (simp [plainName, overriddenIn]; done) | decide +kernel
  refine Con.intro (plainFor_of_name hpn) ?_
  intro p e s m below meth c T X hss
  have S_a := hss a (by simp)
  refine Goes.cast (g' := mkF m 0 #[.val (.ref a), .val (.ref ar), .val (.int (0 : Int32)), .val (.int (1 : Int32)), .val .null, .unset] []) (by first | (simp [entryFrame, mkF, argsToLocals, Value.category]; done) | rfl) ?_
  refine o_aloadN X d_jdk_42_method_149_0 rfl rfl (q := 1) rfl ?_
  refine o_initO X (w20 hw) (w21 hw) (w22 hw) d_jdk_42_method_149_1 rfl (by decide) (Nat.le_of_ble_eq_true rfl) (q := 4) rfl ?_
  intro T1 X1
  refine o_iloadN X1 d_jdk_42_method_149_4 rfl (q := 5) rfl ?_
  refine o_ifY X1 d_jdk_42_method_149_5 (by decide) (by decide) (q := 27) (by decide) ?_
  refine o_getS X1 O2 (host := "") (Or.inl (w58 hw)) Via.refl d_jdk_42_method_149_27 (q := 30) rfl ?_
  intro T2 X2
  refine o_ifN X2 d_jdk_42_method_149_30 (feq P5).1 (q := 33) rfl ?_
  refine o_aloadN X2 d_jdk_42_method_149_33 rfl rfl (q := 34) rfl ?_
  refine o_iloadN X2 d_jdk_42_method_149_34 rfl (q := 35) rfl ?_
  refine o_iloadN X2 d_jdk_42_method_149_35 rfl (q := 36) rfl ?_
  refine o_stat X2 [(.ref ar), (.int (0 : Int32)), (.int (1 : Int32))] (y' := (⟨"java/lang/StringUTF16", "compress", "([CII)[B"⟩ : MethodName)) (c_cmp3_1_1 hw ar c0 _ SA SH SL Va hr hl0) all0 (w64 hw) (w65 hw) (w66 hw) (w67 hw) (by decide) d_jdk_42_method_149_36 (rest := []) rfl rfl (lenOf pd5 rfl) rfl (by decide) (Nat.le_of_ble_eq_true rfl) (by decide) (by decide) (q := 39) rfl ?_
  intro v3 vm3 T3 h3 l3 X3 R3 q3
  obtain ⟨b3, kb3, rfl, K3, g3, s3, V3⟩ := q3
  show Goes p e below _ T3 (mkF m 39 #[.val (.ref a), .val (.ref ar), .val (.int (0 : Int32)), .val (.int (1 : Int32)), .val .null, .unset] [(.ref b3)])
  refine o_astore X3 d_jdk_42_method_149_39 rfl (L' := #[.val (.ref a), .val (.ref ar), .val (.int (0 : Int32)), .val (.int (1 : Int32)), .val .null, .val (.ref b3)]) rfl (q := 41) rfl ?_
  refine o_aloadN X3 d_jdk_42_method_149_41 rfl rfl (q := 42) rfl ?_
  refine o_aload X3 d_jdk_42_method_149_42 rfl rfl (q := 44) rfl ?_
  refine o_iloadN X3 d_jdk_42_method_149_44 rfl (q := 45) rfl ?_
  refine o_stat X3 [(.ref b3), (.int (1 : Int32))] (y' := (⟨"java/lang/StringUTF16", "coderFromArrayLen", "([BI)B"⟩ : MethodName)) (c_cfl1_0 hw b3 kb3 _ _ V3) all0 (w90 hw) (w91 hw) (w66 hw) (w92 hw) (by decide) d_jdk_42_method_149_45 (rest := [(.ref a)]) rfl rfl (lenOf pd7 rfl) rfl (by decide) (Nat.le_of_ble_eq_true rfl) (by decide) (by decide) (q := 48) rfl ?_
  intro v4 vm4 T4 h4 l4 X4 R4 q4
  obtain ⟨rfl, e4⟩ := q4
  have e4 := e4.symm
  subst e4
  show Goes p e below _ T4 (mkF m 48 #[.val (.ref a), .val (.ref ar), .val (.int (0 : Int32)), .val (.int (1 : Int32)), .val .null, .val (.ref b3)] [(.int (0 : Int32)), (.ref a)])
  have f5 := (Fc.keep K3 nin0)
  have f6 := (E.keep K3)
  have f8 := (CHr.safe R4 ((E.keep K3).lt) (CHr.safe R3 (E.lt) S_a))
  refine o_putF X4 f5 f6 ga f8 (host := "") (Or.inl (w30 hw)) Via.refl (Or.inr ⟨(w26 hw), rfl, rfl⟩) (w11 hw) (ty := .byte) (by decide) (by decide) (by decide) d_jdk_42_method_149_48 (q := 51) rfl ?_
  intro T7 h7 l7 X7 W7 R7 F7
  refine o_aloadN X7 d_jdk_42_method_149_51 rfl rfl (q := 52) rfl ?_
  refine o_aload X7 d_jdk_42_method_149_52 rfl rfl (q := 54) rfl ?_
  have f9 := ((Fv.keep K3 nin0).other W7 (Or.inr (slot_ne (Or.inr (w25 hw)) (Or.inr (w26 hw)) (by decide) (t := (.array .byte)) (t' := .byte) (by decide) (by decide))))
  have f10 := (f6.wr W7)
  have f12 := (CHr.safe R7 (f6.lt) f8)
  refine o_putF X7 f9 f10 ga f12 (host := "") (Or.inl (w29 hw)) Via.refl (Or.inr ⟨(w25 hw), rfl, rfl⟩) (w11 hw) (ty := (.array .byte)) (by decide) rfl rfl d_jdk_42_method_149_54 (q := 57) rfl ?_
  intro T11 h11 l11 X11 W11 R11 F11
  have sz13 := Nat.le_trans (Keep.refl h0 [a]).1 g3
  have k14 := Keep.trans (Keep.refl h0 [a]) K3 all0
  have k15 := Keep.wr k14 W7 (Or.inl (by simp))
  have k16 := Keep.wr k15 W11 (Or.inl (by simp))
  have f17 := (f10.wr W11)
  have f18 := (F7.other W11 (Or.inr (slot_ne (Or.inr (w26 hw)) (Or.inr (w25 hw)) (by decide) (t := .byte) (t' := (.array .byte)) (by decide) (by decide))))
  have f19 := ((V3.other W7 (Ne.symm (Nat.ne_of_lt (Nat.lt_of_lt_of_le E.lt g3)))).other W11 (Ne.symm (Nat.ne_of_lt (Nat.lt_of_lt_of_le E.lt g3))))
  exact o_ret X11 d_jdk_42_method_149_57 (fun Sf hSf => ⟨rfl, k16, b3, kb3, sz13, Or.inl ⟨f17, f18, F11, f19, (own_lat hr (by simp only [List.forall_mem_cons]; exact ⟨hl0, (fun c hc => nomatch hc)⟩)), Nat.le_of_ble_eq_true rfl⟩⟩) (by decide) (by decide)
theorem c_ini4_1 {l : Launch} {Z : State} {a0 : Array Value} (hw : W a0 Z) (a ar : Addr) (c0 : Int32) (h0 : Heap) {zc : Int32} (O2 : Sta Z Z.heap "java/lang/String" "COMPACT_STRINGS" "Z" (.int zc)) (P5 : ¬ zc = 0) (SA : Sta Z Z.heap "java/lang/StringUTF16" "$assertionsDisabled" "Z" (.int (1 : Int32))) (SH : Sta Z Z.heap "java/lang/StringUTF16" "HI_BYTE_SHIFT" "I" (.int (0 : Int32))) (SL : Sta Z Z.heap "java/lang/StringUTF16" "LO_BYTE_SHIFT" "I" (.int (8 : Int32))) (E : Exa Z h0 a "java/lang/String") (ga : Z.heap.size ≤ a) (Fv : Fld Z h0 a "java/lang/String" "value" "[B" .null) (Fc : Fld Z h0 a "java/lang/String" "coder" "B" (.int (0 : Int32))) {ka : ClassId} (Va : Arv Z h0 ar ka .char (1 : Int32) [(.int c0)] (.int (0 : Int32))) (hne : ar ≠ a) (hr : ∀ c ∈ ([c0] : List Int32), Rg c) :
    Con l Z EL0 (⟨"java/lang/String", "<init>", "([CIILjava/lang/Void;)V"⟩ : MethodName) jdk_42_method_149_code 6 none ({ frames := 4, cells := 2, slots := 3, locals := 57 } : Room) #[(.ref a), (.ref ar), (.int (0 : Int32)), (.int (1 : Int32)), .null] h0 [a] (fun v h' Sf => v = none ∧ Keep h0 h' [a] ∧ ∃ (b : Addr) (kb : ClassId), h0.size ≤ b ∧ US Z h' a b kb [c0]) := by
  by_cases hl0 : (255 : Int32) < c0
  · exact c_ini4_1_0 hw a ar c0 h0 O2 P5 SA SH SL E ga Fv Fc Va hne hr hl0
  exact c_ini4_1_1 hw a ar c0 h0 O2 P5 SA SH SL E ga Fv Fc Va hne hr hl0
set_option maxRecDepth 65536 in
set_option maxHeartbeats 40000000 in
theorem c_newS1 {l : Launch} {Z : State} {a0 : Array Value} (hw : W a0 Z) (a ar : Addr) (c0 : Int32) (h0 : Heap) {zc : Int32} (O2 : Sta Z Z.heap "java/lang/String" "COMPACT_STRINGS" "Z" (.int zc)) (P5 : ¬ zc = 0) (SA : Sta Z Z.heap "java/lang/StringUTF16" "$assertionsDisabled" "Z" (.int (1 : Int32))) (SH : Sta Z Z.heap "java/lang/StringUTF16" "HI_BYTE_SHIFT" "I" (.int (0 : Int32))) (SL : Sta Z Z.heap "java/lang/StringUTF16" "LO_BYTE_SHIFT" "I" (.int (8 : Int32))) (E : Exa Z h0 a "java/lang/String") (ga : Z.heap.size ≤ a) (Fv : Fld Z h0 a "java/lang/String" "value" "[B" .null) (Fc : Fld Z h0 a "java/lang/String" "coder" "B" (.int (0 : Int32))) {ka : ClassId} (Va : Arv Z h0 ar ka .char (1 : Int32) [(.int c0)] (.int (0 : Int32))) (hne : ar ≠ a) (hr : ∀ c ∈ ([c0] : List Int32), Rg c) :
    Con l Z EL0 (⟨"java/lang/String", "<init>", "([C)V"⟩ : MethodName) jdk_42_method_3_code 2 none ({ frames := 5, cells := 2, slots := 3, locals := 74 } : Room) #[(.ref a), (.ref ar)] h0 [a] (fun v h' Sf => v = none ∧ Keep h0 h' [a] ∧ ∃ (b : Addr) (kb : ClassId), h0.size ≤ b ∧ US Z h' a b kb [c0]) := by
  have hpn : plainName "java/lang/String" = true := by first | (simp [plainName, overriddenIn]; done) | decide +kernel
  refine Con.intro (plainFor_of_name hpn) ?_
  intro p e s m below meth c T X hss
  have S_a := hss a (by simp)
  refine Goes.cast (g' := mkF m 0 #[.val (.ref a), .val (.ref ar)] []) (by first | (simp [entryFrame, mkF, argsToLocals, Value.category]; done) | rfl) ?_
  refine o_aloadN X d_jdk_42_method_3_0 rfl rfl (q := 1) rfl ?_
  refine o_aloadN X d_jdk_42_method_3_1 rfl rfl (q := 2) rfl ?_
  refine o_iconst X d_jdk_42_method_3_2 (w := 0) rfl (q := 3) rfl ?_
  refine o_aloadN X d_jdk_42_method_3_3 rfl rfl (q := 4) rfl ?_
  refine o_len X Va d_jdk_42_method_3_4 (q := 5) rfl ?_
  refine o_null X d_jdk_42_method_3_5 (q := 6) rfl ?_
  refine o_spec X [(.ref ar), (.int (0 : Int32)), (.int (1 : Int32)), .null] (y' := (⟨"java/lang/String", "<init>", "([CIILjava/lang/Void;)V"⟩ : MethodName)) (c_ini4_1 hw a ar c0 _ O2 P5 SA SH SL E ga Fv Fc Va hne hr) (allS ⟨E.lt, S_a⟩ all0) rfl (w16 hw) (w17 hw) (w19 hw) (w12 hw) (by decide) d_jdk_42_method_3_6 (rest := []) rfl rfl (lenOf pd0 rfl) rfl (by decide) (Nat.le_of_ble_eq_true rfl) (by decide) (by decide) (q := 9) rfl ?_
  intro v1 vm1 T1 h1 l1 X1 R1 q1
  obtain ⟨rfl, K1, b1, kb1, g1, U1⟩ := q1
  show Goes p e below _ T1 (mkF m 9 #[.val (.ref a), .val (.ref ar)] [])
  have k2 := Keep.trans (Keep.refl h0 [a]) K1 (allS (Or.inl (by simp)) all0)
  exact o_ret X1 d_jdk_42_method_3_9 (fun Sf hSf => ⟨rfl, k2, b1, kb1, g1, U1⟩) (by decide) (by decide)
set_option maxRecDepth 65536 in
set_option maxHeartbeats 40000000 in
theorem c_cmp3_2_0 {l : Launch} {Z : State} {a0 : Array Value} (hw : W a0 Z) (ar : Addr) (c0 c1 : Int32) (h0 : Heap) (SA : Sta Z Z.heap "java/lang/StringUTF16" "$assertionsDisabled" "Z" (.int (1 : Int32))) (SH : Sta Z Z.heap "java/lang/StringUTF16" "HI_BYTE_SHIFT" "I" (.int (0 : Int32))) (SL : Sta Z Z.heap "java/lang/StringUTF16" "LO_BYTE_SHIFT" "I" (.int (8 : Int32))) {ka : ClassId} (Va : Arv Z h0 ar ka .char (2 : Int32) [(.int c0), (.int c1)] (.int (0 : Int32))) (hr : ∀ c ∈ ([c0, c1] : List Int32), Rg c) (hk : (255 : Int32) < c0) :
    Con l Z EL0 (⟨"java/lang/StringUTF16", "compress", "([CII)[B"⟩ : MethodName) jdk_52_method_16_code 6 (some (.array .byte)) ({ frames := 3, cells := 2, slots := 6, locals := 40 } : Room) #[(.ref ar), (.int (0 : Int32)), (.int (2 : Int32))] h0 [] (fun v h' Sf => ∃ (b : Addr) (kb : ClassId), v = some (.ref b) ∧ Keep h0 h' [] ∧ h0.size ≤ b ∧ Sf b ∧ Arv Z h' b kb .byte (4 : Int32) [(.int c0.toInt8.toInt32), (.int (c0 >>> ((8 : Int32) &&& 31)).toInt8.toInt32), (.int c1.toInt8.toInt32), (.int (c1 >>> ((8 : Int32) &&& 31)).toInt8.toInt32)] (.int (0 : Int32))) := by
  have hpn : plainName "java/lang/StringUTF16" = true := by first | (simp [plainName, overriddenIn]; done) | decide +kernel
  refine Con.intro (plainFor_of_name hpn) ?_
  intro p e s m below meth c T X hss
  refine Goes.cast (g' := mkF m 0 #[.val (.ref ar), .val (.int (0 : Int32)), .val (.int (2 : Int32)), .unset, .unset, .unset] []) (by first | (simp [entryFrame, mkF, argsToLocals, Value.category]; done) | rfl) ?_
  refine o_iloadN X d_jdk_52_method_16_0 rfl (q := 1) rfl ?_
  refine o_newarr X (aty := .byte) (cap := 2) 2 (w24 hw) d_jdk_52_method_16_1 (by decide) (by decide) (by decide) (by decide) (by decide) (q := 3) rfl ?_
  intro T1 h1 b1 k1 gb1 X1 E1 R1 S1 V1 g0_b1
  have V1 : Arv Z h1 b1 k1 .byte (2 : Int32) [(.int (0 : Int32)), (.int (0 : Int32))] (.int (0 : Int32)) := V1
  refine o_astoreN X1 d_jdk_52_method_16_3 rfl (L' := #[.val (.ref ar), .val (.int (0 : Int32)), .val (.int (2 : Int32)), .val (.ref b1), .unset, .unset]) rfl (q := 4) rfl ?_
  refine o_aloadN X1 d_jdk_52_method_16_4 rfl rfl (q := 5) rfl ?_
  refine o_iloadN X1 d_jdk_52_method_16_5 rfl (q := 6) rfl ?_
  refine o_aloadN X1 d_jdk_52_method_16_6 rfl rfl (q := 7) rfl ?_
  refine o_iconst X1 d_jdk_52_method_16_7 (w := 0) rfl (q := 8) rfl ?_
  refine o_iloadN X1 d_jdk_52_method_16_8 rfl (q := 9) rfl ?_
  have f2 := (Va.ext E1)
  refine o_stat X1 [(.ref ar), (.int (0 : Int32)), (.ref b1), (.int (0 : Int32)), (.int (2 : Int32))] (y' := (⟨"java/lang/StringUTF16", "compress", "([CI[BII)I"⟩ : MethodName)) (c_cmp5_2_0 hw ar b1 c0 c1 _ f2 V1 g0_b1 (Nat.ne_of_lt (Nat.lt_of_lt_of_le Va.lt (Nat.le_of_eq gb1.symm))) hk) (allS ⟨V1.lt, S1⟩ all0) (w68 hw) (w69 hw) (w66 hw) (w70 hw) (by decide) d_jdk_52_method_16_9 (rest := []) rfl rfl (lenOf pd4 rfl) rfl (by decide) (Nat.le_of_ble_eq_true rfl) (by decide) (by decide) (q := 12) rfl ?_
  intro v3 vm3 T3 h3 l3 X3 R3 q3
  obtain ⟨rfl, K3⟩ := q3
  show Goes p e below _ T3 (mkF m 12 #[.val (.ref ar), .val (.int (0 : Int32)), .val (.int (2 : Int32)), .val (.ref b1), .unset, .unset] [(.int (0 : Int32))])
  refine o_istore X3 d_jdk_52_method_16_12 rfl (L' := #[.val (.ref ar), .val (.int (0 : Int32)), .val (.int (2 : Int32)), .val (.ref b1), .val (.int (0 : Int32)), .unset]) rfl (q := 14) rfl ?_
  refine o_iload X3 d_jdk_52_method_16_14 rfl (q := 16) rfl ?_
  refine o_iloadN X3 d_jdk_52_method_16_16 rfl (q := 17) rfl ?_
  refine o_icmpN X3 d_jdk_52_method_16_17 (by decide) (q := 20) rfl ?_
  refine o_aloadN X3 d_jdk_52_method_16_20 rfl rfl (q := 21) rfl ?_
  refine o_iloadN X3 d_jdk_52_method_16_21 rfl (q := 22) rfl ?_
  refine o_iloadN X3 d_jdk_52_method_16_22 rfl (q := 23) rfl ?_
  have f4 := (f2.keep K3 (ninS (Nat.ne_of_lt (Nat.lt_of_lt_of_le Va.lt (Nat.le_of_eq gb1.symm))) nin0))
  refine o_stat X3 [(.ref ar), (.int (0 : Int32)), (.int (2 : Int32))] (y' := (⟨"java/lang/StringUTF16", "toBytes", "([CII)[B"⟩ : MethodName)) (c_tb2 hw ar c0 c1 _ SA SH SL f4) all0 (w71 hw) (w72 hw) (w66 hw) (w73 hw) (by decide) d_jdk_52_method_16_23 (rest := []) rfl rfl (lenOf pd5 rfl) rfl (by decide) (Nat.le_of_ble_eq_true rfl) (by decide) (by decide) (q := 26) rfl ?_
  intro v5 vm5 T5 h5 l5 X5 R5 q5
  obtain ⟨b5, kb5, rfl, K5, g5, s5, V5⟩ := q5
  show Goes p e below _ T5 (mkF m 26 #[.val (.ref ar), .val (.int (0 : Int32)), .val (.int (2 : Int32)), .val (.ref b1), .val (.int (0 : Int32)), .unset] [(.ref b5)])
  refine o_astore X5 d_jdk_52_method_16_26 rfl (L' := #[.val (.ref ar), .val (.int (0 : Int32)), .val (.int (2 : Int32)), .val (.ref b1), .val (.int (0 : Int32)), .val (.ref b5)]) rfl (q := 28) rfl ?_
  refine o_aload X5 d_jdk_52_method_16_28 rfl rfl (q := 30) rfl ?_
  refine o_iload X5 d_jdk_52_method_16_30 rfl (q := 32) rfl ?_
  refine o_stat X5 [(.ref b5), (.int (0 : Int32))] (y' := (⟨"java/lang/StringUTF16", "getChar", "([BI)C"⟩ : MethodName)) (c_getCh hw b5 kb5 [c0, c1] 0 _ SA SH SL V5 (Nat.le_of_ble_eq_true rfl) hr (Nat.le_of_ble_eq_true rfl)) all0 (w87 hw) (w88 hw) (w66 hw) (w89 hw) (by decide) d_jdk_52_method_16_32 (rest := []) rfl rfl (lenOf pd6 rfl) rfl (by decide) (Nat.le_of_ble_eq_true rfl) (by decide) (by decide) (q := 35) rfl ?_
  intro v6 vm6 T6 h6 l6 X6 R6 q6
  obtain ⟨rfl, e6⟩ := q6
  have e6 := e6.symm
  subst e6
  show Goes p e below _ T6 (mkF m 35 #[.val (.ref ar), .val (.int (0 : Int32)), .val (.int (2 : Int32)), .val (.ref b1), .val (.int (0 : Int32)), .val (.ref b5)] [(.int c0)])
  refine o_sipush X6 d_jdk_52_method_16_35 (w := 255) rfl (q := 38) rfl ?_
  refine o_icmpY X6 d_jdk_52_method_16_38 (tlt hk).2.2.1 (by decide) (q := 54) (by decide) ?_
  refine o_aload X6 d_jdk_52_method_16_54 rfl rfl (q := 56) rfl ?_
  have sz7 := Nat.le_trans (Keep.refl h0 []).1 (Nat.le_of_eq gb1.symm)
  have k8 := Keep.ext (Keep.refl h0 []) E1
  have k9 := Keep.trans k8 K3 (allS (Or.inr sz7) all0)
  have sz10 := Nat.le_trans k9.1 g5
  have k11 := Keep.trans k9 K5 all0
  have f12 := (CHr.safe R6 (V5.lt) s5)
  have f13 := V5
  exact o_retR X6 d_jdk_52_method_16_56 rfl rfl rfl (fun Sf hSf => ⟨b5, kb5, rfl, k11, sz10, hSf _ V5.lt f12, f13⟩) (by decide) (by decide)
set_option maxRecDepth 65536 in
set_option maxHeartbeats 40000000 in
theorem c_cmp3_2_1 {l : Launch} {Z : State} {a0 : Array Value} (hw : W a0 Z) (ar : Addr) (c0 c1 : Int32) (h0 : Heap) (SA : Sta Z Z.heap "java/lang/StringUTF16" "$assertionsDisabled" "Z" (.int (1 : Int32))) (SH : Sta Z Z.heap "java/lang/StringUTF16" "HI_BYTE_SHIFT" "I" (.int (0 : Int32))) (SL : Sta Z Z.heap "java/lang/StringUTF16" "LO_BYTE_SHIFT" "I" (.int (8 : Int32))) {ka : ClassId} (Va : Arv Z h0 ar ka .char (2 : Int32) [(.int c0), (.int c1)] (.int (0 : Int32))) (hr : ∀ c ∈ ([c0, c1] : List Int32), Rg c) (hl0 : ¬ (255 : Int32) < c0) (hk : (255 : Int32) < c1) :
    Con l Z EL0 (⟨"java/lang/StringUTF16", "compress", "([CII)[B"⟩ : MethodName) jdk_52_method_16_code 6 (some (.array .byte)) ({ frames := 3, cells := 2, slots := 6, locals := 40 } : Room) #[(.ref ar), (.int (0 : Int32)), (.int (2 : Int32))] h0 [] (fun v h' Sf => ∃ (b : Addr) (kb : ClassId), v = some (.ref b) ∧ Keep h0 h' [] ∧ h0.size ≤ b ∧ Sf b ∧ Arv Z h' b kb .byte (4 : Int32) [(.int c0.toInt8.toInt32), (.int (c0 >>> ((8 : Int32) &&& 31)).toInt8.toInt32), (.int c1.toInt8.toInt32), (.int (c1 >>> ((8 : Int32) &&& 31)).toInt8.toInt32)] (.int (0 : Int32))) := by
  have hpn : plainName "java/lang/StringUTF16" = true := by first | (simp [plainName, overriddenIn]; done) | decide +kernel
  refine Con.intro (plainFor_of_name hpn) ?_
  intro p e s m below meth c T X hss
  refine Goes.cast (g' := mkF m 0 #[.val (.ref ar), .val (.int (0 : Int32)), .val (.int (2 : Int32)), .unset, .unset, .unset] []) (by first | (simp [entryFrame, mkF, argsToLocals, Value.category]; done) | rfl) ?_
  refine o_iloadN X d_jdk_52_method_16_0 rfl (q := 1) rfl ?_
  refine o_newarr X (aty := .byte) (cap := 2) 2 (w24 hw) d_jdk_52_method_16_1 (by decide) (by decide) (by decide) (by decide) (by decide) (q := 3) rfl ?_
  intro T1 h1 b1 k1 gb1 X1 E1 R1 S1 V1 g0_b1
  have V1 : Arv Z h1 b1 k1 .byte (2 : Int32) [(.int (0 : Int32)), (.int (0 : Int32))] (.int (0 : Int32)) := V1
  refine o_astoreN X1 d_jdk_52_method_16_3 rfl (L' := #[.val (.ref ar), .val (.int (0 : Int32)), .val (.int (2 : Int32)), .val (.ref b1), .unset, .unset]) rfl (q := 4) rfl ?_
  refine o_aloadN X1 d_jdk_52_method_16_4 rfl rfl (q := 5) rfl ?_
  refine o_iloadN X1 d_jdk_52_method_16_5 rfl (q := 6) rfl ?_
  refine o_aloadN X1 d_jdk_52_method_16_6 rfl rfl (q := 7) rfl ?_
  refine o_iconst X1 d_jdk_52_method_16_7 (w := 0) rfl (q := 8) rfl ?_
  refine o_iloadN X1 d_jdk_52_method_16_8 rfl (q := 9) rfl ?_
  have f2 := (Va.ext E1)
  refine o_stat X1 [(.ref ar), (.int (0 : Int32)), (.ref b1), (.int (0 : Int32)), (.int (2 : Int32))] (y' := (⟨"java/lang/StringUTF16", "compress", "([CI[BII)I"⟩ : MethodName)) (c_cmp5_2_1 hw ar b1 c0 c1 _ f2 V1 g0_b1 (Nat.ne_of_lt (Nat.lt_of_lt_of_le Va.lt (Nat.le_of_eq gb1.symm))) hl0 hk) (allS ⟨V1.lt, S1⟩ all0) (w68 hw) (w69 hw) (w66 hw) (w70 hw) (by decide) d_jdk_52_method_16_9 (rest := []) rfl rfl (lenOf pd4 rfl) rfl (by decide) (Nat.le_of_ble_eq_true rfl) (by decide) (by decide) (q := 12) rfl ?_
  intro v3 vm3 T3 h3 l3 X3 R3 q3
  obtain ⟨rfl, K3⟩ := q3
  show Goes p e below _ T3 (mkF m 12 #[.val (.ref ar), .val (.int (0 : Int32)), .val (.int (2 : Int32)), .val (.ref b1), .unset, .unset] [(.int (1 : Int32))])
  refine o_istore X3 d_jdk_52_method_16_12 rfl (L' := #[.val (.ref ar), .val (.int (0 : Int32)), .val (.int (2 : Int32)), .val (.ref b1), .val (.int (1 : Int32)), .unset]) rfl (q := 14) rfl ?_
  refine o_iload X3 d_jdk_52_method_16_14 rfl (q := 16) rfl ?_
  refine o_iloadN X3 d_jdk_52_method_16_16 rfl (q := 17) rfl ?_
  refine o_icmpN X3 d_jdk_52_method_16_17 (by decide) (q := 20) rfl ?_
  refine o_aloadN X3 d_jdk_52_method_16_20 rfl rfl (q := 21) rfl ?_
  refine o_iloadN X3 d_jdk_52_method_16_21 rfl (q := 22) rfl ?_
  refine o_iloadN X3 d_jdk_52_method_16_22 rfl (q := 23) rfl ?_
  have f4 := (f2.keep K3 (ninS (Nat.ne_of_lt (Nat.lt_of_lt_of_le Va.lt (Nat.le_of_eq gb1.symm))) nin0))
  refine o_stat X3 [(.ref ar), (.int (0 : Int32)), (.int (2 : Int32))] (y' := (⟨"java/lang/StringUTF16", "toBytes", "([CII)[B"⟩ : MethodName)) (c_tb2 hw ar c0 c1 _ SA SH SL f4) all0 (w71 hw) (w72 hw) (w66 hw) (w73 hw) (by decide) d_jdk_52_method_16_23 (rest := []) rfl rfl (lenOf pd5 rfl) rfl (by decide) (Nat.le_of_ble_eq_true rfl) (by decide) (by decide) (q := 26) rfl ?_
  intro v5 vm5 T5 h5 l5 X5 R5 q5
  obtain ⟨b5, kb5, rfl, K5, g5, s5, V5⟩ := q5
  show Goes p e below _ T5 (mkF m 26 #[.val (.ref ar), .val (.int (0 : Int32)), .val (.int (2 : Int32)), .val (.ref b1), .val (.int (1 : Int32)), .unset] [(.ref b5)])
  refine o_astore X5 d_jdk_52_method_16_26 rfl (L' := #[.val (.ref ar), .val (.int (0 : Int32)), .val (.int (2 : Int32)), .val (.ref b1), .val (.int (1 : Int32)), .val (.ref b5)]) rfl (q := 28) rfl ?_
  refine o_aload X5 d_jdk_52_method_16_28 rfl rfl (q := 30) rfl ?_
  refine o_iload X5 d_jdk_52_method_16_30 rfl (q := 32) rfl ?_
  refine o_stat X5 [(.ref b5), (.int (1 : Int32))] (y' := (⟨"java/lang/StringUTF16", "getChar", "([BI)C"⟩ : MethodName)) (c_getCh hw b5 kb5 [c0, c1] 1 _ SA SH SL V5 (Nat.le_of_ble_eq_true rfl) hr (Nat.le_of_ble_eq_true rfl)) all0 (w87 hw) (w88 hw) (w66 hw) (w89 hw) (by decide) d_jdk_52_method_16_32 (rest := []) rfl rfl (lenOf pd6 rfl) rfl (by decide) (Nat.le_of_ble_eq_true rfl) (by decide) (by decide) (q := 35) rfl ?_
  intro v6 vm6 T6 h6 l6 X6 R6 q6
  obtain ⟨rfl, e6⟩ := q6
  have e6 := e6.symm
  subst e6
  show Goes p e below _ T6 (mkF m 35 #[.val (.ref ar), .val (.int (0 : Int32)), .val (.int (2 : Int32)), .val (.ref b1), .val (.int (1 : Int32)), .val (.ref b5)] [(.int c1)])
  refine o_sipush X6 d_jdk_52_method_16_35 (w := 255) rfl (q := 38) rfl ?_
  refine o_icmpY X6 d_jdk_52_method_16_38 (tlt hk).2.2.1 (by decide) (q := 54) (by decide) ?_
  refine o_aload X6 d_jdk_52_method_16_54 rfl rfl (q := 56) rfl ?_
  have sz7 := Nat.le_trans (Keep.refl h0 []).1 (Nat.le_of_eq gb1.symm)
  have k8 := Keep.ext (Keep.refl h0 []) E1
  have k9 := Keep.trans k8 K3 (allS (Or.inr sz7) all0)
  have sz10 := Nat.le_trans k9.1 g5
  have k11 := Keep.trans k9 K5 all0
  have f12 := (CHr.safe R6 (V5.lt) s5)
  have f13 := V5
  exact o_retR X6 d_jdk_52_method_16_56 rfl rfl rfl (fun Sf hSf => ⟨b5, kb5, rfl, k11, sz10, hSf _ V5.lt f12, f13⟩) (by decide) (by decide)
set_option maxRecDepth 65536 in
set_option maxHeartbeats 40000000 in
theorem c_cmp3_2_2 {l : Launch} {Z : State} {a0 : Array Value} (hw : W a0 Z) (ar : Addr) (c0 c1 : Int32) (h0 : Heap) (SA : Sta Z Z.heap "java/lang/StringUTF16" "$assertionsDisabled" "Z" (.int (1 : Int32))) (SH : Sta Z Z.heap "java/lang/StringUTF16" "HI_BYTE_SHIFT" "I" (.int (0 : Int32))) (SL : Sta Z Z.heap "java/lang/StringUTF16" "LO_BYTE_SHIFT" "I" (.int (8 : Int32))) {ka : ClassId} (Va : Arv Z h0 ar ka .char (2 : Int32) [(.int c0), (.int c1)] (.int (0 : Int32))) (hr : ∀ c ∈ ([c0, c1] : List Int32), Rg c) (hl0 : ¬ (255 : Int32) < c0) (hl1 : ¬ (255 : Int32) < c1) :
    Con l Z EL0 (⟨"java/lang/StringUTF16", "compress", "([CII)[B"⟩ : MethodName) jdk_52_method_16_code 6 (some (.array .byte)) ({ frames := 1, cells := 1, slots := 2, locals := 18 } : Room) #[(.ref ar), (.int (0 : Int32)), (.int (2 : Int32))] h0 [] (fun v h' Sf => ∃ (b : Addr) (kb : ClassId), v = some (.ref b) ∧ Keep h0 h' [] ∧ h0.size ≤ b ∧ Sf b ∧ Arv Z h' b kb .byte (2 : Int32) [(.int c0.toInt8.toInt32), (.int c1.toInt8.toInt32)] (.int (0 : Int32))) := by
  have hpn : plainName "java/lang/StringUTF16" = true := by first | (simp [plainName, overriddenIn]; done) | decide +kernel
  refine Con.intro (plainFor_of_name hpn) ?_
  intro p e s m below meth c T X hss
  refine Goes.cast (g' := mkF m 0 #[.val (.ref ar), .val (.int (0 : Int32)), .val (.int (2 : Int32)), .unset, .unset, .unset] []) (by first | (simp [entryFrame, mkF, argsToLocals, Value.category]; done) | rfl) ?_
  refine o_iloadN X d_jdk_52_method_16_0 rfl (q := 1) rfl ?_
  refine o_newarr X (aty := .byte) (cap := 2) 2 (w24 hw) d_jdk_52_method_16_1 (by decide) (by decide) (by decide) (by decide) (by decide) (q := 3) rfl ?_
  intro T1 h1 b1 k1 gb1 X1 E1 R1 S1 V1 g0_b1
  have V1 : Arv Z h1 b1 k1 .byte (2 : Int32) [(.int (0 : Int32)), (.int (0 : Int32))] (.int (0 : Int32)) := V1
  refine o_astoreN X1 d_jdk_52_method_16_3 rfl (L' := #[.val (.ref ar), .val (.int (0 : Int32)), .val (.int (2 : Int32)), .val (.ref b1), .unset, .unset]) rfl (q := 4) rfl ?_
  refine o_aloadN X1 d_jdk_52_method_16_4 rfl rfl (q := 5) rfl ?_
  refine o_iloadN X1 d_jdk_52_method_16_5 rfl (q := 6) rfl ?_
  refine o_aloadN X1 d_jdk_52_method_16_6 rfl rfl (q := 7) rfl ?_
  refine o_iconst X1 d_jdk_52_method_16_7 (w := 0) rfl (q := 8) rfl ?_
  refine o_iloadN X1 d_jdk_52_method_16_8 rfl (q := 9) rfl ?_
  have f2 := (Va.ext E1)
  refine o_stat X1 [(.ref ar), (.int (0 : Int32)), (.ref b1), (.int (0 : Int32)), (.int (2 : Int32))] (y' := (⟨"java/lang/StringUTF16", "compress", "([CI[BII)I"⟩ : MethodName)) (c_cmp5_2_2 hw ar b1 c0 c1 _ f2 V1 g0_b1 (Nat.ne_of_lt (Nat.lt_of_lt_of_le Va.lt (Nat.le_of_eq gb1.symm))) hl0 hl1) (allS ⟨V1.lt, S1⟩ all0) (w68 hw) (w69 hw) (w66 hw) (w70 hw) (by decide) d_jdk_52_method_16_9 (rest := []) rfl rfl (lenOf pd4 rfl) rfl (by decide) (Nat.le_of_ble_eq_true rfl) (by decide) (by decide) (q := 12) rfl ?_
  intro v3 vm3 T3 h3 l3 X3 R3 q3
  obtain ⟨rfl, K3, V3⟩ := q3
  show Goes p e below _ T3 (mkF m 12 #[.val (.ref ar), .val (.int (0 : Int32)), .val (.int (2 : Int32)), .val (.ref b1), .unset, .unset] [(.int (2 : Int32))])
  refine o_istore X3 d_jdk_52_method_16_12 rfl (L' := #[.val (.ref ar), .val (.int (0 : Int32)), .val (.int (2 : Int32)), .val (.ref b1), .val (.int (2 : Int32)), .unset]) rfl (q := 14) rfl ?_
  refine o_iload X3 d_jdk_52_method_16_14 rfl (q := 16) rfl ?_
  refine o_iloadN X3 d_jdk_52_method_16_16 rfl (q := 17) rfl ?_
  refine o_icmpY X3 d_jdk_52_method_16_17 (by decide) (by decide) (q := 57) (by decide) ?_
  refine o_aloadN X3 d_jdk_52_method_16_57 rfl rfl (q := 58) rfl ?_
  have sz4 := Nat.le_trans (Keep.refl h0 []).1 (Nat.le_of_eq gb1.symm)
  have k5 := Keep.ext (Keep.refl h0 []) E1
  have k6 := Keep.trans k5 K3 (allS (Or.inr sz4) all0)
  have f7 := (CHr.safe R3 (V1.lt) S1)
  exact o_retR X3 d_jdk_52_method_16_58 rfl rfl rfl (fun Sf hSf => ⟨b1, k1, rfl, k6, sz4, hSf _ V3.lt f7, V3⟩) (by decide) (by decide)
set_option maxRecDepth 65536 in
set_option maxHeartbeats 40000000 in
theorem c_cfl2_0 {l : Launch} {Z : State} {a0 : Array Value} (hw : W a0 Z) (b : Addr) (kb : ClassId) (vs : List Value) (h0 : Heap) (Vb : Arv Z h0 b kb .byte (2 : Int32) vs (.int (0 : Int32))) :
    Con l Z EL0 (⟨"java/lang/StringUTF16", "coderFromArrayLen", "([BI)B"⟩ : MethodName) jdk_52_method_15_code 2 (some .byte) ({ frames := 0, cells := 0, slots := 0, locals := 0 } : Room) #[(.ref b), (.int (2 : Int32))] h0 [] (fun v h' Sf => v = some (.int (0 : Int32)) ∧ h' = h0) := by
  have hpn : plainName "java/lang/StringUTF16" = true := by first | (simp [plainName, overriddenIn]; done) | decide +kernel
  refine Con.intro (plainFor_of_name hpn) ?_
  intro p e s m below meth c T X hss
  refine Goes.cast (g' := mkF m 0 #[.val (.ref b), .val (.int (2 : Int32))] []) (by first | (simp [entryFrame, mkF, argsToLocals, Value.category]; done) | rfl) ?_
  refine o_iloadN X d_jdk_52_method_15_0 rfl (q := 1) rfl ?_
  refine o_aloadN X d_jdk_52_method_15_1 rfl rfl (q := 2) rfl ?_
  refine o_len X Vb d_jdk_52_method_15_2 (q := 3) rfl ?_
  refine o_isub X d_jdk_52_method_15_3 (w := (0 : Int32)) (by decide) (q := 4) rfl ?_
  refine o_bipush X d_jdk_52_method_15_4 (w := 31) rfl (q := 6) rfl ?_
  refine o_iushr X d_jdk_52_method_15_6 (w := (0 : Int32)) (by decide) (q := 7) rfl ?_
  refine o_i2b X d_jdk_52_method_15_7 (w := (0 : Int32)) (by decide) (q := 8) rfl ?_
  exact o_retN X d_jdk_52_method_15_8 (by simp) (fun Sf hSf => ⟨rfl, rfl⟩) (by decide) (by decide)
set_option maxRecDepth 65536 in
set_option maxHeartbeats 40000000 in
theorem c_cfl2_1 {l : Launch} {Z : State} {a0 : Array Value} (hw : W a0 Z) (b : Addr) (kb : ClassId) (vs : List Value) (h0 : Heap) (Vb : Arv Z h0 b kb .byte (4 : Int32) vs (.int (0 : Int32))) :
    Con l Z EL0 (⟨"java/lang/StringUTF16", "coderFromArrayLen", "([BI)B"⟩ : MethodName) jdk_52_method_15_code 2 (some .byte) ({ frames := 0, cells := 0, slots := 0, locals := 0 } : Room) #[(.ref b), (.int (2 : Int32))] h0 [] (fun v h' Sf => v = some (.int (1 : Int32)) ∧ h' = h0) := by
  have hpn : plainName "java/lang/StringUTF16" = true := by first | (simp [plainName, overriddenIn]; done) | decide +kernel
  refine Con.intro (plainFor_of_name hpn) ?_
  intro p e s m below meth c T X hss
  refine Goes.cast (g' := mkF m 0 #[.val (.ref b), .val (.int (2 : Int32))] []) (by first | (simp [entryFrame, mkF, argsToLocals, Value.category]; done) | rfl) ?_
  refine o_iloadN X d_jdk_52_method_15_0 rfl (q := 1) rfl ?_
  refine o_aloadN X d_jdk_52_method_15_1 rfl rfl (q := 2) rfl ?_
  refine o_len X Vb d_jdk_52_method_15_2 (q := 3) rfl ?_
  refine o_isub X d_jdk_52_method_15_3 (w := (-2 : Int32)) (by decide) (q := 4) rfl ?_
  refine o_bipush X d_jdk_52_method_15_4 (w := 31) rfl (q := 6) rfl ?_
  refine o_iushr X d_jdk_52_method_15_6 (w := (1 : Int32)) (by decide) (q := 7) rfl ?_
  refine o_i2b X d_jdk_52_method_15_7 (w := (1 : Int32)) (by decide) (q := 8) rfl ?_
  exact o_retN X d_jdk_52_method_15_8 (by simp) (fun Sf hSf => ⟨rfl, rfl⟩) (by decide) (by decide)
set_option maxRecDepth 65536 in
set_option maxHeartbeats 40000000 in
theorem c_ini4_2_0 {l : Launch} {Z : State} {a0 : Array Value} (hw : W a0 Z) (a ar : Addr) (c0 c1 : Int32) (h0 : Heap) {zc : Int32} (O2 : Sta Z Z.heap "java/lang/String" "COMPACT_STRINGS" "Z" (.int zc)) (P5 : ¬ zc = 0) (SA : Sta Z Z.heap "java/lang/StringUTF16" "$assertionsDisabled" "Z" (.int (1 : Int32))) (SH : Sta Z Z.heap "java/lang/StringUTF16" "HI_BYTE_SHIFT" "I" (.int (0 : Int32))) (SL : Sta Z Z.heap "java/lang/StringUTF16" "LO_BYTE_SHIFT" "I" (.int (8 : Int32))) (E : Exa Z h0 a "java/lang/String") (ga : Z.heap.size ≤ a) (Fv : Fld Z h0 a "java/lang/String" "value" "[B" .null) (Fc : Fld Z h0 a "java/lang/String" "coder" "B" (.int (0 : Int32))) {ka : ClassId} (Va : Arv Z h0 ar ka .char (2 : Int32) [(.int c0), (.int c1)] (.int (0 : Int32))) (hne : ar ≠ a) (hr : ∀ c ∈ ([c0, c1] : List Int32), Rg c) (hk : (255 : Int32) < c0) :
    Con l Z EL0 (⟨"java/lang/String", "<init>", "([CIILjava/lang/Void;)V"⟩ : MethodName) jdk_42_method_149_code 6 none ({ frames := 4, cells := 2, slots := 6, locals := 57 } : Room) #[(.ref a), (.ref ar), (.int (0 : Int32)), (.int (2 : Int32)), .null] h0 [a] (fun v h' Sf => v = none ∧ Keep h0 h' [a] ∧ ∃ (b : Addr) (kb : ClassId), h0.size ≤ b ∧ US Z h' a b kb [c0, c1]) := by
  have hpn : plainName "java/lang/String" = true := by first | (simp [plainName, overriddenIn]; done) | decide +kernel
  refine Con.intro (plainFor_of_name hpn) ?_
  intro p e s m below meth c T X hss
  have S_a := hss a (by simp)
  refine Goes.cast (g' := mkF m 0 #[.val (.ref a), .val (.ref ar), .val (.int (0 : Int32)), .val (.int (2 : Int32)), .val .null, .unset] []) (by first | (simp [entryFrame, mkF, argsToLocals, Value.category]; done) | rfl) ?_
  refine o_aloadN X d_jdk_42_method_149_0 rfl rfl (q := 1) rfl ?_
  refine o_initO X (w20 hw) (w21 hw) (w22 hw) d_jdk_42_method_149_1 rfl (by decide) (Nat.le_of_ble_eq_true rfl) (q := 4) rfl ?_
  intro T1 X1
  refine o_iloadN X1 d_jdk_42_method_149_4 rfl (q := 5) rfl ?_
  refine o_ifY X1 d_jdk_42_method_149_5 (by decide) (by decide) (q := 27) (by decide) ?_
  refine o_getS X1 O2 (host := "") (Or.inl (w58 hw)) Via.refl d_jdk_42_method_149_27 (q := 30) rfl ?_
  intro T2 X2
  refine o_ifN X2 d_jdk_42_method_149_30 (feq P5).1 (q := 33) rfl ?_
  refine o_aloadN X2 d_jdk_42_method_149_33 rfl rfl (q := 34) rfl ?_
  refine o_iloadN X2 d_jdk_42_method_149_34 rfl (q := 35) rfl ?_
  refine o_iloadN X2 d_jdk_42_method_149_35 rfl (q := 36) rfl ?_
  refine o_stat X2 [(.ref ar), (.int (0 : Int32)), (.int (2 : Int32))] (y' := (⟨"java/lang/StringUTF16", "compress", "([CII)[B"⟩ : MethodName)) (c_cmp3_2_0 hw ar c0 c1 _ SA SH SL Va hr hk) all0 (w64 hw) (w65 hw) (w66 hw) (w67 hw) (by decide) d_jdk_42_method_149_36 (rest := []) rfl rfl (lenOf pd5 rfl) rfl (by decide) (Nat.le_of_ble_eq_true rfl) (by decide) (by decide) (q := 39) rfl ?_
  intro v3 vm3 T3 h3 l3 X3 R3 q3
  obtain ⟨b3, kb3, rfl, K3, g3, s3, V3⟩ := q3
  show Goes p e below _ T3 (mkF m 39 #[.val (.ref a), .val (.ref ar), .val (.int (0 : Int32)), .val (.int (2 : Int32)), .val .null, .unset] [(.ref b3)])
  refine o_astore X3 d_jdk_42_method_149_39 rfl (L' := #[.val (.ref a), .val (.ref ar), .val (.int (0 : Int32)), .val (.int (2 : Int32)), .val .null, .val (.ref b3)]) rfl (q := 41) rfl ?_
  refine o_aloadN X3 d_jdk_42_method_149_41 rfl rfl (q := 42) rfl ?_
  refine o_aload X3 d_jdk_42_method_149_42 rfl rfl (q := 44) rfl ?_
  refine o_iloadN X3 d_jdk_42_method_149_44 rfl (q := 45) rfl ?_
  refine o_stat X3 [(.ref b3), (.int (2 : Int32))] (y' := (⟨"java/lang/StringUTF16", "coderFromArrayLen", "([BI)B"⟩ : MethodName)) (c_cfl2_1 hw b3 kb3 _ _ V3) all0 (w90 hw) (w91 hw) (w66 hw) (w92 hw) (by decide) d_jdk_42_method_149_45 (rest := [(.ref a)]) rfl rfl (lenOf pd7 rfl) rfl (by decide) (Nat.le_of_ble_eq_true rfl) (by decide) (by decide) (q := 48) rfl ?_
  intro v4 vm4 T4 h4 l4 X4 R4 q4
  obtain ⟨rfl, e4⟩ := q4
  have e4 := e4.symm
  subst e4
  show Goes p e below _ T4 (mkF m 48 #[.val (.ref a), .val (.ref ar), .val (.int (0 : Int32)), .val (.int (2 : Int32)), .val .null, .val (.ref b3)] [(.int (1 : Int32)), (.ref a)])
  have f5 := (Fc.keep K3 nin0)
  have f6 := (E.keep K3)
  have f8 := (CHr.safe R4 ((E.keep K3).lt) (CHr.safe R3 (E.lt) S_a))
  refine o_putF X4 f5 f6 ga f8 (host := "") (Or.inl (w30 hw)) Via.refl (Or.inr ⟨(w26 hw), rfl, rfl⟩) (w11 hw) (ty := .byte) (by decide) (by decide) (by decide) d_jdk_42_method_149_48 (q := 51) rfl ?_
  intro T7 h7 l7 X7 W7 R7 F7
  refine o_aloadN X7 d_jdk_42_method_149_51 rfl rfl (q := 52) rfl ?_
  refine o_aload X7 d_jdk_42_method_149_52 rfl rfl (q := 54) rfl ?_
  have f9 := ((Fv.keep K3 nin0).other W7 (Or.inr (slot_ne (Or.inr (w25 hw)) (Or.inr (w26 hw)) (by decide) (t := (.array .byte)) (t' := .byte) (by decide) (by decide))))
  have f10 := (f6.wr W7)
  have f12 := (CHr.safe R7 (f6.lt) f8)
  refine o_putF X7 f9 f10 ga f12 (host := "") (Or.inl (w29 hw)) Via.refl (Or.inr ⟨(w25 hw), rfl, rfl⟩) (w11 hw) (ty := (.array .byte)) (by decide) rfl rfl d_jdk_42_method_149_54 (q := 57) rfl ?_
  intro T11 h11 l11 X11 W11 R11 F11
  have sz13 := Nat.le_trans (Keep.refl h0 [a]).1 g3
  have k14 := Keep.trans (Keep.refl h0 [a]) K3 all0
  have k15 := Keep.wr k14 W7 (Or.inl (by simp))
  have k16 := Keep.wr k15 W11 (Or.inl (by simp))
  have f17 := (f10.wr W11)
  have f18 := (F7.other W11 (Or.inr (slot_ne (Or.inr (w26 hw)) (Or.inr (w25 hw)) (by decide) (t := .byte) (t' := (.array .byte)) (by decide) (by decide))))
  have f19 := ((V3.other W7 (Ne.symm (Nat.ne_of_lt (Nat.lt_of_lt_of_le E.lt g3)))).other W11 (Ne.symm (Nat.ne_of_lt (Nat.lt_of_lt_of_le E.lt g3))))
  exact o_ret X11 d_jdk_42_method_149_57 (fun Sf hSf => ⟨rfl, k16, b3, kb3, sz13, Or.inr ⟨f17, f18, F11, f19, ⟨c0, by simp, hk⟩, hr, Nat.le_of_ble_eq_true rfl⟩⟩) (by decide) (by decide)
set_option maxRecDepth 65536 in
set_option maxHeartbeats 40000000 in
theorem c_ini4_2_1 {l : Launch} {Z : State} {a0 : Array Value} (hw : W a0 Z) (a ar : Addr) (c0 c1 : Int32) (h0 : Heap) {zc : Int32} (O2 : Sta Z Z.heap "java/lang/String" "COMPACT_STRINGS" "Z" (.int zc)) (P5 : ¬ zc = 0) (SA : Sta Z Z.heap "java/lang/StringUTF16" "$assertionsDisabled" "Z" (.int (1 : Int32))) (SH : Sta Z Z.heap "java/lang/StringUTF16" "HI_BYTE_SHIFT" "I" (.int (0 : Int32))) (SL : Sta Z Z.heap "java/lang/StringUTF16" "LO_BYTE_SHIFT" "I" (.int (8 : Int32))) (E : Exa Z h0 a "java/lang/String") (ga : Z.heap.size ≤ a) (Fv : Fld Z h0 a "java/lang/String" "value" "[B" .null) (Fc : Fld Z h0 a "java/lang/String" "coder" "B" (.int (0 : Int32))) {ka : ClassId} (Va : Arv Z h0 ar ka .char (2 : Int32) [(.int c0), (.int c1)] (.int (0 : Int32))) (hne : ar ≠ a) (hr : ∀ c ∈ ([c0, c1] : List Int32), Rg c) (hl0 : ¬ (255 : Int32) < c0) (hk : (255 : Int32) < c1) :
    Con l Z EL0 (⟨"java/lang/String", "<init>", "([CIILjava/lang/Void;)V"⟩ : MethodName) jdk_42_method_149_code 6 none ({ frames := 4, cells := 2, slots := 6, locals := 57 } : Room) #[(.ref a), (.ref ar), (.int (0 : Int32)), (.int (2 : Int32)), .null] h0 [a] (fun v h' Sf => v = none ∧ Keep h0 h' [a] ∧ ∃ (b : Addr) (kb : ClassId), h0.size ≤ b ∧ US Z h' a b kb [c0, c1]) := by
  have hpn : plainName "java/lang/String" = true := by first | (simp [plainName, overriddenIn]; done) | decide +kernel
  refine Con.intro (plainFor_of_name hpn) ?_
  intro p e s m below meth c T X hss
  have S_a := hss a (by simp)
  refine Goes.cast (g' := mkF m 0 #[.val (.ref a), .val (.ref ar), .val (.int (0 : Int32)), .val (.int (2 : Int32)), .val .null, .unset] []) (by first | (simp [entryFrame, mkF, argsToLocals, Value.category]; done) | rfl) ?_
  refine o_aloadN X d_jdk_42_method_149_0 rfl rfl (q := 1) rfl ?_
  refine o_initO X (w20 hw) (w21 hw) (w22 hw) d_jdk_42_method_149_1 rfl (by decide) (Nat.le_of_ble_eq_true rfl) (q := 4) rfl ?_
  intro T1 X1
  refine o_iloadN X1 d_jdk_42_method_149_4 rfl (q := 5) rfl ?_
  refine o_ifY X1 d_jdk_42_method_149_5 (by decide) (by decide) (q := 27) (by decide) ?_
  refine o_getS X1 O2 (host := "") (Or.inl (w58 hw)) Via.refl d_jdk_42_method_149_27 (q := 30) rfl ?_
  intro T2 X2
  refine o_ifN X2 d_jdk_42_method_149_30 (feq P5).1 (q := 33) rfl ?_
  refine o_aloadN X2 d_jdk_42_method_149_33 rfl rfl (q := 34) rfl ?_
  refine o_iloadN X2 d_jdk_42_method_149_34 rfl (q := 35) rfl ?_
  refine o_iloadN X2 d_jdk_42_method_149_35 rfl (q := 36) rfl ?_
  refine o_stat X2 [(.ref ar), (.int (0 : Int32)), (.int (2 : Int32))] (y' := (⟨"java/lang/StringUTF16", "compress", "([CII)[B"⟩ : MethodName)) (c_cmp3_2_1 hw ar c0 c1 _ SA SH SL Va hr hl0 hk) all0 (w64 hw) (w65 hw) (w66 hw) (w67 hw) (by decide) d_jdk_42_method_149_36 (rest := []) rfl rfl (lenOf pd5 rfl) rfl (by decide) (Nat.le_of_ble_eq_true rfl) (by decide) (by decide) (q := 39) rfl ?_
  intro v3 vm3 T3 h3 l3 X3 R3 q3
  obtain ⟨b3, kb3, rfl, K3, g3, s3, V3⟩ := q3
  show Goes p e below _ T3 (mkF m 39 #[.val (.ref a), .val (.ref ar), .val (.int (0 : Int32)), .val (.int (2 : Int32)), .val .null, .unset] [(.ref b3)])
  refine o_astore X3 d_jdk_42_method_149_39 rfl (L' := #[.val (.ref a), .val (.ref ar), .val (.int (0 : Int32)), .val (.int (2 : Int32)), .val .null, .val (.ref b3)]) rfl (q := 41) rfl ?_
  refine o_aloadN X3 d_jdk_42_method_149_41 rfl rfl (q := 42) rfl ?_
  refine o_aload X3 d_jdk_42_method_149_42 rfl rfl (q := 44) rfl ?_
  refine o_iloadN X3 d_jdk_42_method_149_44 rfl (q := 45) rfl ?_
  refine o_stat X3 [(.ref b3), (.int (2 : Int32))] (y' := (⟨"java/lang/StringUTF16", "coderFromArrayLen", "([BI)B"⟩ : MethodName)) (c_cfl2_1 hw b3 kb3 _ _ V3) all0 (w90 hw) (w91 hw) (w66 hw) (w92 hw) (by decide) d_jdk_42_method_149_45 (rest := [(.ref a)]) rfl rfl (lenOf pd7 rfl) rfl (by decide) (Nat.le_of_ble_eq_true rfl) (by decide) (by decide) (q := 48) rfl ?_
  intro v4 vm4 T4 h4 l4 X4 R4 q4
  obtain ⟨rfl, e4⟩ := q4
  have e4 := e4.symm
  subst e4
  show Goes p e below _ T4 (mkF m 48 #[.val (.ref a), .val (.ref ar), .val (.int (0 : Int32)), .val (.int (2 : Int32)), .val .null, .val (.ref b3)] [(.int (1 : Int32)), (.ref a)])
  have f5 := (Fc.keep K3 nin0)
  have f6 := (E.keep K3)
  have f8 := (CHr.safe R4 ((E.keep K3).lt) (CHr.safe R3 (E.lt) S_a))
  refine o_putF X4 f5 f6 ga f8 (host := "") (Or.inl (w30 hw)) Via.refl (Or.inr ⟨(w26 hw), rfl, rfl⟩) (w11 hw) (ty := .byte) (by decide) (by decide) (by decide) d_jdk_42_method_149_48 (q := 51) rfl ?_
  intro T7 h7 l7 X7 W7 R7 F7
  refine o_aloadN X7 d_jdk_42_method_149_51 rfl rfl (q := 52) rfl ?_
  refine o_aload X7 d_jdk_42_method_149_52 rfl rfl (q := 54) rfl ?_
  have f9 := ((Fv.keep K3 nin0).other W7 (Or.inr (slot_ne (Or.inr (w25 hw)) (Or.inr (w26 hw)) (by decide) (t := (.array .byte)) (t' := .byte) (by decide) (by decide))))
  have f10 := (f6.wr W7)
  have f12 := (CHr.safe R7 (f6.lt) f8)
  refine o_putF X7 f9 f10 ga f12 (host := "") (Or.inl (w29 hw)) Via.refl (Or.inr ⟨(w25 hw), rfl, rfl⟩) (w11 hw) (ty := (.array .byte)) (by decide) rfl rfl d_jdk_42_method_149_54 (q := 57) rfl ?_
  intro T11 h11 l11 X11 W11 R11 F11
  have sz13 := Nat.le_trans (Keep.refl h0 [a]).1 g3
  have k14 := Keep.trans (Keep.refl h0 [a]) K3 all0
  have k15 := Keep.wr k14 W7 (Or.inl (by simp))
  have k16 := Keep.wr k15 W11 (Or.inl (by simp))
  have f17 := (f10.wr W11)
  have f18 := (F7.other W11 (Or.inr (slot_ne (Or.inr (w26 hw)) (Or.inr (w25 hw)) (by decide) (t := .byte) (t' := (.array .byte)) (by decide) (by decide))))
  have f19 := ((V3.other W7 (Ne.symm (Nat.ne_of_lt (Nat.lt_of_lt_of_le E.lt g3)))).other W11 (Ne.symm (Nat.ne_of_lt (Nat.lt_of_lt_of_le E.lt g3))))
  exact o_ret X11 d_jdk_42_method_149_57 (fun Sf hSf => ⟨rfl, k16, b3, kb3, sz13, Or.inr ⟨f17, f18, F11, f19, ⟨c1, by simp, hk⟩, hr, Nat.le_of_ble_eq_true rfl⟩⟩) (by decide) (by decide)
set_option maxRecDepth 65536 in
set_option maxHeartbeats 40000000 in
theorem c_ini4_2_2 {l : Launch} {Z : State} {a0 : Array Value} (hw : W a0 Z) (a ar : Addr) (c0 c1 : Int32) (h0 : Heap) {zc : Int32} (O2 : Sta Z Z.heap "java/lang/String" "COMPACT_STRINGS" "Z" (.int zc)) (P5 : ¬ zc = 0) (SA : Sta Z Z.heap "java/lang/StringUTF16" "$assertionsDisabled" "Z" (.int (1 : Int32))) (SH : Sta Z Z.heap "java/lang/StringUTF16" "HI_BYTE_SHIFT" "I" (.int (0 : Int32))) (SL : Sta Z Z.heap "java/lang/StringUTF16" "LO_BYTE_SHIFT" "I" (.int (8 : Int32))) (E : Exa Z h0 a "java/lang/String") (ga : Z.heap.size ≤ a) (Fv : Fld Z h0 a "java/lang/String" "value" "[B" .null) (Fc : Fld Z h0 a "java/lang/String" "coder" "B" (.int (0 : Int32))) {ka : ClassId} (Va : Arv Z h0 ar ka .char (2 : Int32) [(.int c0), (.int c1)] (.int (0 : Int32))) (hne : ar ≠ a) (hr : ∀ c ∈ ([c0, c1] : List Int32), Rg c) (hl0 : ¬ (255 : Int32) < c0) (hl1 : ¬ (255 : Int32) < c1) :
    Con l Z EL0 (⟨"java/lang/String", "<init>", "([CIILjava/lang/Void;)V"⟩ : MethodName) jdk_42_method_149_code 6 none ({ frames := 4, cells := 2, slots := 6, locals := 57 } : Room) #[(.ref a), (.ref ar), (.int (0 : Int32)), (.int (2 : Int32)), .null] h0 [a] (fun v h' Sf => v = none ∧ Keep h0 h' [a] ∧ ∃ (b : Addr) (kb : ClassId), h0.size ≤ b ∧ US Z h' a b kb [c0, c1]) := by
  have hpn : plainName "java/lang/String" = true := by first | (simp [plainName, overriddenIn]; done) | decide +kernel
  refine Con.intro (plainFor_of_name hpn) ?_
  intro p e s m below meth c T X hss
  have S_a := hss a (by simp)
  refine Goes.cast (g' := mkF m 0 #[.val (.ref a), .val (.ref ar), .val (.int (0 : Int32)), .val (.int (2 : Int32)), .val .null, .unset] []) (by first | (simp [entryFrame, mkF, argsToLocals, Value.category]; done) | rfl) ?_
  refine o_aloadN X d_jdk_42_method_149_0 rfl rfl (q := 1) rfl ?_
  refine o_initO X (w20 hw) (w21 hw) (w22 hw) d_jdk_42_method_149_1 rfl (by decide) (Nat.le_of_ble_eq_true rfl) (q := 4) rfl ?_
  intro T1 X1
  refine o_iloadN X1 d_jdk_42_method_149_4 rfl (q := 5) rfl ?_
  refine o_ifY X1 d_jdk_42_method_149_5 (by decide) (by decide) (q := 27) (by decide) ?_
  refine o_getS X1 O2 (host := "") (Or.inl (w58 hw)) Via.refl d_jdk_42_method_149_27 (q := 30) rfl ?_
  intro T2 X2
  refine o_ifN X2 d_jdk_42_method_149_30 (feq P5).1 (q := 33) rfl ?_
  refine o_aloadN X2 d_jdk_42_method_149_33 rfl rfl (q := 34) rfl ?_
  refine o_iloadN X2 d_jdk_42_method_149_34 rfl (q := 35) rfl ?_
  refine o_iloadN X2 d_jdk_42_method_149_35 rfl (q := 36) rfl ?_
  refine o_stat X2 [(.ref ar), (.int (0 : Int32)), (.int (2 : Int32))] (y' := (⟨"java/lang/StringUTF16", "compress", "([CII)[B"⟩ : MethodName)) (c_cmp3_2_2 hw ar c0 c1 _ SA SH SL Va hr hl0 hl1) all0 (w64 hw) (w65 hw) (w66 hw) (w67 hw) (by decide) d_jdk_42_method_149_36 (rest := []) rfl rfl (lenOf pd5 rfl) rfl (by decide) (Nat.le_of_ble_eq_true rfl) (by decide) (by decide) (q := 39) rfl ?_
  intro v3 vm3 T3 h3 l3 X3 R3 q3
  obtain ⟨b3, kb3, rfl, K3, g3, s3, V3⟩ := q3
  show Goes p e below _ T3 (mkF m 39 #[.val (.ref a), .val (.ref ar), .val (.int (0 : Int32)), .val (.int (2 : Int32)), .val .null, .unset] [(.ref b3)])
  refine o_astore X3 d_jdk_42_method_149_39 rfl (L' := #[.val (.ref a), .val (.ref ar), .val (.int (0 : Int32)), .val (.int (2 : Int32)), .val .null, .val (.ref b3)]) rfl (q := 41) rfl ?_
  refine o_aloadN X3 d_jdk_42_method_149_41 rfl rfl (q := 42) rfl ?_
  refine o_aload X3 d_jdk_42_method_149_42 rfl rfl (q := 44) rfl ?_
  refine o_iloadN X3 d_jdk_42_method_149_44 rfl (q := 45) rfl ?_
  refine o_stat X3 [(.ref b3), (.int (2 : Int32))] (y' := (⟨"java/lang/StringUTF16", "coderFromArrayLen", "([BI)B"⟩ : MethodName)) (c_cfl2_0 hw b3 kb3 _ _ V3) all0 (w90 hw) (w91 hw) (w66 hw) (w92 hw) (by decide) d_jdk_42_method_149_45 (rest := [(.ref a)]) rfl rfl (lenOf pd7 rfl) rfl (by decide) (Nat.le_of_ble_eq_true rfl) (by decide) (by decide) (q := 48) rfl ?_
  intro v4 vm4 T4 h4 l4 X4 R4 q4
  obtain ⟨rfl, e4⟩ := q4
  have e4 := e4.symm
  subst e4
  show Goes p e below _ T4 (mkF m 48 #[.val (.ref a), .val (.ref ar), .val (.int (0 : Int32)), .val (.int (2 : Int32)), .val .null, .val (.ref b3)] [(.int (0 : Int32)), (.ref a)])
  have f5 := (Fc.keep K3 nin0)
  have f6 := (E.keep K3)
  have f8 := (CHr.safe R4 ((E.keep K3).lt) (CHr.safe R3 (E.lt) S_a))
  refine o_putF X4 f5 f6 ga f8 (host := "") (Or.inl (w30 hw)) Via.refl (Or.inr ⟨(w26 hw), rfl, rfl⟩) (w11 hw) (ty := .byte) (by decide) (by decide) (by decide) d_jdk_42_method_149_48 (q := 51) rfl ?_
  intro T7 h7 l7 X7 W7 R7 F7
  refine o_aloadN X7 d_jdk_42_method_149_51 rfl rfl (q := 52) rfl ?_
  refine o_aload X7 d_jdk_42_method_149_52 rfl rfl (q := 54) rfl ?_
  have f9 := ((Fv.keep K3 nin0).other W7 (Or.inr (slot_ne (Or.inr (w25 hw)) (Or.inr (w26 hw)) (by decide) (t := (.array .byte)) (t' := .byte) (by decide) (by decide))))
  have f10 := (f6.wr W7)
  have f12 := (CHr.safe R7 (f6.lt) f8)
  refine o_putF X7 f9 f10 ga f12 (host := "") (Or.inl (w29 hw)) Via.refl (Or.inr ⟨(w25 hw), rfl, rfl⟩) (w11 hw) (ty := (.array .byte)) (by decide) rfl rfl d_jdk_42_method_149_54 (q := 57) rfl ?_
  intro T11 h11 l11 X11 W11 R11 F11
  have sz13 := Nat.le_trans (Keep.refl h0 [a]).1 g3
  have k14 := Keep.trans (Keep.refl h0 [a]) K3 all0
  have k15 := Keep.wr k14 W7 (Or.inl (by simp))
  have k16 := Keep.wr k15 W11 (Or.inl (by simp))
  have f17 := (f10.wr W11)
  have f18 := (F7.other W11 (Or.inr (slot_ne (Or.inr (w26 hw)) (Or.inr (w25 hw)) (by decide) (t := .byte) (t' := (.array .byte)) (by decide) (by decide))))
  have f19 := ((V3.other W7 (Ne.symm (Nat.ne_of_lt (Nat.lt_of_lt_of_le E.lt g3)))).other W11 (Ne.symm (Nat.ne_of_lt (Nat.lt_of_lt_of_le E.lt g3))))
  exact o_ret X11 d_jdk_42_method_149_57 (fun Sf hSf => ⟨rfl, k16, b3, kb3, sz13, Or.inl ⟨f17, f18, F11, f19, (own_lat hr (by simp only [List.forall_mem_cons]; exact ⟨hl0, hl1, (fun c hc => nomatch hc)⟩)), Nat.le_of_ble_eq_true rfl⟩⟩) (by decide) (by decide)
theorem c_ini4_2 {l : Launch} {Z : State} {a0 : Array Value} (hw : W a0 Z) (a ar : Addr) (c0 c1 : Int32) (h0 : Heap) {zc : Int32} (O2 : Sta Z Z.heap "java/lang/String" "COMPACT_STRINGS" "Z" (.int zc)) (P5 : ¬ zc = 0) (SA : Sta Z Z.heap "java/lang/StringUTF16" "$assertionsDisabled" "Z" (.int (1 : Int32))) (SH : Sta Z Z.heap "java/lang/StringUTF16" "HI_BYTE_SHIFT" "I" (.int (0 : Int32))) (SL : Sta Z Z.heap "java/lang/StringUTF16" "LO_BYTE_SHIFT" "I" (.int (8 : Int32))) (E : Exa Z h0 a "java/lang/String") (ga : Z.heap.size ≤ a) (Fv : Fld Z h0 a "java/lang/String" "value" "[B" .null) (Fc : Fld Z h0 a "java/lang/String" "coder" "B" (.int (0 : Int32))) {ka : ClassId} (Va : Arv Z h0 ar ka .char (2 : Int32) [(.int c0), (.int c1)] (.int (0 : Int32))) (hne : ar ≠ a) (hr : ∀ c ∈ ([c0, c1] : List Int32), Rg c) :
    Con l Z EL0 (⟨"java/lang/String", "<init>", "([CIILjava/lang/Void;)V"⟩ : MethodName) jdk_42_method_149_code 6 none ({ frames := 4, cells := 2, slots := 6, locals := 57 } : Room) #[(.ref a), (.ref ar), (.int (0 : Int32)), (.int (2 : Int32)), .null] h0 [a] (fun v h' Sf => v = none ∧ Keep h0 h' [a] ∧ ∃ (b : Addr) (kb : ClassId), h0.size ≤ b ∧ US Z h' a b kb [c0, c1]) := by
  by_cases hl0 : (255 : Int32) < c0
  · exact c_ini4_2_0 hw a ar c0 c1 h0 O2 P5 SA SH SL E ga Fv Fc Va hne hr hl0
  by_cases hl1 : (255 : Int32) < c1
  · exact c_ini4_2_1 hw a ar c0 c1 h0 O2 P5 SA SH SL E ga Fv Fc Va hne hr hl0 hl1
  exact c_ini4_2_2 hw a ar c0 c1 h0 O2 P5 SA SH SL E ga Fv Fc Va hne hr hl0 hl1
set_option maxRecDepth 65536 in
set_option maxHeartbeats 40000000 in
theorem c_newS2 {l : Launch} {Z : State} {a0 : Array Value} (hw : W a0 Z) (a ar : Addr) (c0 c1 : Int32) (h0 : Heap) {zc : Int32} (O2 : Sta Z Z.heap "java/lang/String" "COMPACT_STRINGS" "Z" (.int zc)) (P5 : ¬ zc = 0) (SA : Sta Z Z.heap "java/lang/StringUTF16" "$assertionsDisabled" "Z" (.int (1 : Int32))) (SH : Sta Z Z.heap "java/lang/StringUTF16" "HI_BYTE_SHIFT" "I" (.int (0 : Int32))) (SL : Sta Z Z.heap "java/lang/StringUTF16" "LO_BYTE_SHIFT" "I" (.int (8 : Int32))) (E : Exa Z h0 a "java/lang/String") (ga : Z.heap.size ≤ a) (Fv : Fld Z h0 a "java/lang/String" "value" "[B" .null) (Fc : Fld Z h0 a "java/lang/String" "coder" "B" (.int (0 : Int32))) {ka : ClassId} (Va : Arv Z h0 ar ka .char (2 : Int32) [(.int c0), (.int c1)] (.int (0 : Int32))) (hne : ar ≠ a) (hr : ∀ c ∈ ([c0, c1] : List Int32), Rg c) :
    Con l Z EL0 (⟨"java/lang/String", "<init>", "([C)V"⟩ : MethodName) jdk_42_method_3_code 2 none ({ frames := 5, cells := 2, slots := 6, locals := 74 } : Room) #[(.ref a), (.ref ar)] h0 [a] (fun v h' Sf => v = none ∧ Keep h0 h' [a] ∧ ∃ (b : Addr) (kb : ClassId), h0.size ≤ b ∧ US Z h' a b kb [c0, c1]) := by
  have hpn : plainName "java/lang/String" = true := by first | (simp [plainName, overriddenIn]; done) | decide +kernel
  refine Con.intro (plainFor_of_name hpn) ?_
  intro p e s m below meth c T X hss
  have S_a := hss a (by simp)
  refine Goes.cast (g' := mkF m 0 #[.val (.ref a), .val (.ref ar)] []) (by first | (simp [entryFrame, mkF, argsToLocals, Value.category]; done) | rfl) ?_
  refine o_aloadN X d_jdk_42_method_3_0 rfl rfl (q := 1) rfl ?_
  refine o_aloadN X d_jdk_42_method_3_1 rfl rfl (q := 2) rfl ?_
  refine o_iconst X d_jdk_42_method_3_2 (w := 0) rfl (q := 3) rfl ?_
  refine o_aloadN X d_jdk_42_method_3_3 rfl rfl (q := 4) rfl ?_
  refine o_len X Va d_jdk_42_method_3_4 (q := 5) rfl ?_
  refine o_null X d_jdk_42_method_3_5 (q := 6) rfl ?_
  refine o_spec X [(.ref ar), (.int (0 : Int32)), (.int (2 : Int32)), .null] (y' := (⟨"java/lang/String", "<init>", "([CIILjava/lang/Void;)V"⟩ : MethodName)) (c_ini4_2 hw a ar c0 c1 _ O2 P5 SA SH SL E ga Fv Fc Va hne hr) (allS ⟨E.lt, S_a⟩ all0) rfl (w16 hw) (w17 hw) (w19 hw) (w12 hw) (by decide) d_jdk_42_method_3_6 (rest := []) rfl rfl (lenOf pd0 rfl) rfl (by decide) (Nat.le_of_ble_eq_true rfl) (by decide) (by decide) (q := 9) rfl ?_
  intro v1 vm1 T1 h1 l1 X1 R1 q1
  obtain ⟨rfl, K1, b1, kb1, g1, U1⟩ := q1
  show Goes p e below _ T1 (mkF m 9 #[.val (.ref a), .val (.ref ar)] [])
  have k2 := Keep.trans (Keep.refl h0 [a]) K1 (allS (Or.inl (by simp)) all0)
  exact o_ret X1 d_jdk_42_method_3_9 (fun Sf hSf => ⟨rfl, k2, b1, kb1, g1, U1⟩) (by decide) (by decide)
set_option maxRecDepth 65536 in
set_option maxHeartbeats 40000000 in
theorem c_cmp3_3_0 {l : Launch} {Z : State} {a0 : Array Value} (hw : W a0 Z) (ar : Addr) (c0 c1 c2 : Int32) (h0 : Heap) (SA : Sta Z Z.heap "java/lang/StringUTF16" "$assertionsDisabled" "Z" (.int (1 : Int32))) (SH : Sta Z Z.heap "java/lang/StringUTF16" "HI_BYTE_SHIFT" "I" (.int (0 : Int32))) (SL : Sta Z Z.heap "java/lang/StringUTF16" "LO_BYTE_SHIFT" "I" (.int (8 : Int32))) {ka : ClassId} (Va : Arv Z h0 ar ka .char (3 : Int32) [(.int c0), (.int c1), (.int c2)] (.int (0 : Int32))) (hr : ∀ c ∈ ([c0, c1, c2] : List Int32), Rg c) (hk : (255 : Int32) < c0) :
    Con l Z EL0 (⟨"java/lang/StringUTF16", "compress", "([CII)[B"⟩ : MethodName) jdk_52_method_16_code 6 (some (.array .byte)) ({ frames := 3, cells := 2, slots := 9, locals := 40 } : Room) #[(.ref ar), (.int (0 : Int32)), (.int (3 : Int32))] h0 [] (fun v h' Sf => ∃ (b : Addr) (kb : ClassId), v = some (.ref b) ∧ Keep h0 h' [] ∧ h0.size ≤ b ∧ Sf b ∧ Arv Z h' b kb .byte (6 : Int32) [(.int c0.toInt8.toInt32), (.int (c0 >>> ((8 : Int32) &&& 31)).toInt8.toInt32), (.int c1.toInt8.toInt32), (.int (c1 >>> ((8 : Int32) &&& 31)).toInt8.toInt32), (.int c2.toInt8.toInt32), (.int (c2 >>> ((8 : Int32) &&& 31)).toInt8.toInt32)] (.int (0 : Int32))) := by
  have hpn : plainName "java/lang/StringUTF16" = true := by first | (simp [plainName, overriddenIn]; done) | decide +kernel
  refine Con.intro (plainFor_of_name hpn) ?_
  intro p e s m below meth c T X hss
  refine Goes.cast (g' := mkF m 0 #[.val (.ref ar), .val (.int (0 : Int32)), .val (.int (3 : Int32)), .unset, .unset, .unset] []) (by first | (simp [entryFrame, mkF, argsToLocals, Value.category]; done) | rfl) ?_
  refine o_iloadN X d_jdk_52_method_16_0 rfl (q := 1) rfl ?_
  refine o_newarr X (aty := .byte) (cap := 3) 3 (w24 hw) d_jdk_52_method_16_1 (by decide) (by decide) (by decide) (by decide) (by decide) (q := 3) rfl ?_
  intro T1 h1 b1 k1 gb1 X1 E1 R1 S1 V1 g0_b1
  have V1 : Arv Z h1 b1 k1 .byte (3 : Int32) [(.int (0 : Int32)), (.int (0 : Int32)), (.int (0 : Int32))] (.int (0 : Int32)) := V1
  refine o_astoreN X1 d_jdk_52_method_16_3 rfl (L' := #[.val (.ref ar), .val (.int (0 : Int32)), .val (.int (3 : Int32)), .val (.ref b1), .unset, .unset]) rfl (q := 4) rfl ?_
  refine o_aloadN X1 d_jdk_52_method_16_4 rfl rfl (q := 5) rfl ?_
  refine o_iloadN X1 d_jdk_52_method_16_5 rfl (q := 6) rfl ?_
  refine o_aloadN X1 d_jdk_52_method_16_6 rfl rfl (q := 7) rfl ?_
  refine o_iconst X1 d_jdk_52_method_16_7 (w := 0) rfl (q := 8) rfl ?_
  refine o_iloadN X1 d_jdk_52_method_16_8 rfl (q := 9) rfl ?_
  have f2 := (Va.ext E1)
  refine o_stat X1 [(.ref ar), (.int (0 : Int32)), (.ref b1), (.int (0 : Int32)), (.int (3 : Int32))] (y' := (⟨"java/lang/StringUTF16", "compress", "([CI[BII)I"⟩ : MethodName)) (c_cmp5_3_0 hw ar b1 c0 c1 c2 _ f2 V1 g0_b1 (Nat.ne_of_lt (Nat.lt_of_lt_of_le Va.lt (Nat.le_of_eq gb1.symm))) hk) (allS ⟨V1.lt, S1⟩ all0) (w68 hw) (w69 hw) (w66 hw) (w70 hw) (by decide) d_jdk_52_method_16_9 (rest := []) rfl rfl (lenOf pd4 rfl) rfl (by decide) (Nat.le_of_ble_eq_true rfl) (by decide) (by decide) (q := 12) rfl ?_
  intro v3 vm3 T3 h3 l3 X3 R3 q3
  obtain ⟨rfl, K3⟩ := q3
  show Goes p e below _ T3 (mkF m 12 #[.val (.ref ar), .val (.int (0 : Int32)), .val (.int (3 : Int32)), .val (.ref b1), .unset, .unset] [(.int (0 : Int32))])
  refine o_istore X3 d_jdk_52_method_16_12 rfl (L' := #[.val (.ref ar), .val (.int (0 : Int32)), .val (.int (3 : Int32)), .val (.ref b1), .val (.int (0 : Int32)), .unset]) rfl (q := 14) rfl ?_
  refine o_iload X3 d_jdk_52_method_16_14 rfl (q := 16) rfl ?_
  refine o_iloadN X3 d_jdk_52_method_16_16 rfl (q := 17) rfl ?_
  refine o_icmpN X3 d_jdk_52_method_16_17 (by decide) (q := 20) rfl ?_
  refine o_aloadN X3 d_jdk_52_method_16_20 rfl rfl (q := 21) rfl ?_
  refine o_iloadN X3 d_jdk_52_method_16_21 rfl (q := 22) rfl ?_
  refine o_iloadN X3 d_jdk_52_method_16_22 rfl (q := 23) rfl ?_
  have f4 := (f2.keep K3 (ninS (Nat.ne_of_lt (Nat.lt_of_lt_of_le Va.lt (Nat.le_of_eq gb1.symm))) nin0))
  refine o_stat X3 [(.ref ar), (.int (0 : Int32)), (.int (3 : Int32))] (y' := (⟨"java/lang/StringUTF16", "toBytes", "([CII)[B"⟩ : MethodName)) (c_tb3 hw ar c0 c1 c2 _ SA SH SL f4) all0 (w71 hw) (w72 hw) (w66 hw) (w73 hw) (by decide) d_jdk_52_method_16_23 (rest := []) rfl rfl (lenOf pd5 rfl) rfl (by decide) (Nat.le_of_ble_eq_true rfl) (by decide) (by decide) (q := 26) rfl ?_
  intro v5 vm5 T5 h5 l5 X5 R5 q5
  obtain ⟨b5, kb5, rfl, K5, g5, s5, V5⟩ := q5
  show Goes p e below _ T5 (mkF m 26 #[.val (.ref ar), .val (.int (0 : Int32)), .val (.int (3 : Int32)), .val (.ref b1), .val (.int (0 : Int32)), .unset] [(.ref b5)])
  refine o_astore X5 d_jdk_52_method_16_26 rfl (L' := #[.val (.ref ar), .val (.int (0 : Int32)), .val (.int (3 : Int32)), .val (.ref b1), .val (.int (0 : Int32)), .val (.ref b5)]) rfl (q := 28) rfl ?_
  refine o_aload X5 d_jdk_52_method_16_28 rfl rfl (q := 30) rfl ?_
  refine o_iload X5 d_jdk_52_method_16_30 rfl (q := 32) rfl ?_
  refine o_stat X5 [(.ref b5), (.int (0 : Int32))] (y' := (⟨"java/lang/StringUTF16", "getChar", "([BI)C"⟩ : MethodName)) (c_getCh hw b5 kb5 [c0, c1, c2] 0 _ SA SH SL V5 (Nat.le_of_ble_eq_true rfl) hr (Nat.le_of_ble_eq_true rfl)) all0 (w87 hw) (w88 hw) (w66 hw) (w89 hw) (by decide) d_jdk_52_method_16_32 (rest := []) rfl rfl (lenOf pd6 rfl) rfl (by decide) (Nat.le_of_ble_eq_true rfl) (by decide) (by decide) (q := 35) rfl ?_
  intro v6 vm6 T6 h6 l6 X6 R6 q6
  obtain ⟨rfl, e6⟩ := q6
  have e6 := e6.symm
  subst e6
  show Goes p e below _ T6 (mkF m 35 #[.val (.ref ar), .val (.int (0 : Int32)), .val (.int (3 : Int32)), .val (.ref b1), .val (.int (0 : Int32)), .val (.ref b5)] [(.int c0)])
  refine o_sipush X6 d_jdk_52_method_16_35 (w := 255) rfl (q := 38) rfl ?_
  refine o_icmpY X6 d_jdk_52_method_16_38 (tlt hk).2.2.1 (by decide) (q := 54) (by decide) ?_
  refine o_aload X6 d_jdk_52_method_16_54 rfl rfl (q := 56) rfl ?_
  have sz7 := Nat.le_trans (Keep.refl h0 []).1 (Nat.le_of_eq gb1.symm)
  have k8 := Keep.ext (Keep.refl h0 []) E1
  have k9 := Keep.trans k8 K3 (allS (Or.inr sz7) all0)
  have sz10 := Nat.le_trans k9.1 g5
  have k11 := Keep.trans k9 K5 all0
  have f12 := (CHr.safe R6 (V5.lt) s5)
  have f13 := V5
  exact o_retR X6 d_jdk_52_method_16_56 rfl rfl rfl (fun Sf hSf => ⟨b5, kb5, rfl, k11, sz10, hSf _ V5.lt f12, f13⟩) (by decide) (by decide)
set_option maxRecDepth 65536 in
set_option maxHeartbeats 40000000 in
theorem c_cmp3_3_1 {l : Launch} {Z : State} {a0 : Array Value} (hw : W a0 Z) (ar : Addr) (c0 c1 c2 : Int32) (h0 : Heap) (SA : Sta Z Z.heap "java/lang/StringUTF16" "$assertionsDisabled" "Z" (.int (1 : Int32))) (SH : Sta Z Z.heap "java/lang/StringUTF16" "HI_BYTE_SHIFT" "I" (.int (0 : Int32))) (SL : Sta Z Z.heap "java/lang/StringUTF16" "LO_BYTE_SHIFT" "I" (.int (8 : Int32))) {ka : ClassId} (Va : Arv Z h0 ar ka .char (3 : Int32) [(.int c0), (.int c1), (.int c2)] (.int (0 : Int32))) (hr : ∀ c ∈ ([c0, c1, c2] : List Int32), Rg c) (hl0 : ¬ (255 : Int32) < c0) (hk : (255 : Int32) < c1) :
    Con l Z EL0 (⟨"java/lang/StringUTF16", "compress", "([CII)[B"⟩ : MethodName) jdk_52_method_16_code 6 (some (.array .byte)) ({ frames := 3, cells := 2, slots := 9, locals := 40 } : Room) #[(.ref ar), (.int (0 : Int32)), (.int (3 : Int32))] h0 [] (fun v h' Sf => ∃ (b : Addr) (kb : ClassId), v = some (.ref b) ∧ Keep h0 h' [] ∧ h0.size ≤ b ∧ Sf b ∧ Arv Z h' b kb .byte (6 : Int32) [(.int c0.toInt8.toInt32), (.int (c0 >>> ((8 : Int32) &&& 31)).toInt8.toInt32), (.int c1.toInt8.toInt32), (.int (c1 >>> ((8 : Int32) &&& 31)).toInt8.toInt32), (.int c2.toInt8.toInt32), (.int (c2 >>> ((8 : Int32) &&& 31)).toInt8.toInt32)] (.int (0 : Int32))) := by
  have hpn : plainName "java/lang/StringUTF16" = true := by first | (simp [plainName, overriddenIn]; done) | decide +kernel
  refine Con.intro (plainFor_of_name hpn) ?_
  intro p e s m below meth c T X hss
  refine Goes.cast (g' := mkF m 0 #[.val (.ref ar), .val (.int (0 : Int32)), .val (.int (3 : Int32)), .unset, .unset, .unset] []) (by first | (simp [entryFrame, mkF, argsToLocals, Value.category]; done) | rfl) ?_
  refine o_iloadN X d_jdk_52_method_16_0 rfl (q := 1) rfl ?_
  refine o_newarr X (aty := .byte) (cap := 3) 3 (w24 hw) d_jdk_52_method_16_1 (by decide) (by decide) (by decide) (by decide) (by decide) (q := 3) rfl ?_
  intro T1 h1 b1 k1 gb1 X1 E1 R1 S1 V1 g0_b1
  have V1 : Arv Z h1 b1 k1 .byte (3 : Int32) [(.int (0 : Int32)), (.int (0 : Int32)), (.int (0 : Int32))] (.int (0 : Int32)) := V1
  refine o_astoreN X1 d_jdk_52_method_16_3 rfl (L' := #[.val (.ref ar), .val (.int (0 : Int32)), .val (.int (3 : Int32)), .val (.ref b1), .unset, .unset]) rfl (q := 4) rfl ?_
  refine o_aloadN X1 d_jdk_52_method_16_4 rfl rfl (q := 5) rfl ?_
  refine o_iloadN X1 d_jdk_52_method_16_5 rfl (q := 6) rfl ?_
  refine o_aloadN X1 d_jdk_52_method_16_6 rfl rfl (q := 7) rfl ?_
  refine o_iconst X1 d_jdk_52_method_16_7 (w := 0) rfl (q := 8) rfl ?_
  refine o_iloadN X1 d_jdk_52_method_16_8 rfl (q := 9) rfl ?_
  have f2 := (Va.ext E1)
  refine o_stat X1 [(.ref ar), (.int (0 : Int32)), (.ref b1), (.int (0 : Int32)), (.int (3 : Int32))] (y' := (⟨"java/lang/StringUTF16", "compress", "([CI[BII)I"⟩ : MethodName)) (c_cmp5_3_1 hw ar b1 c0 c1 c2 _ f2 V1 g0_b1 (Nat.ne_of_lt (Nat.lt_of_lt_of_le Va.lt (Nat.le_of_eq gb1.symm))) hl0 hk) (allS ⟨V1.lt, S1⟩ all0) (w68 hw) (w69 hw) (w66 hw) (w70 hw) (by decide) d_jdk_52_method_16_9 (rest := []) rfl rfl (lenOf pd4 rfl) rfl (by decide) (Nat.le_of_ble_eq_true rfl) (by decide) (by decide) (q := 12) rfl ?_
  intro v3 vm3 T3 h3 l3 X3 R3 q3
  obtain ⟨rfl, K3⟩ := q3
  show Goes p e below _ T3 (mkF m 12 #[.val (.ref ar), .val (.int (0 : Int32)), .val (.int (3 : Int32)), .val (.ref b1), .unset, .unset] [(.int (1 : Int32))])
  refine o_istore X3 d_jdk_52_method_16_12 rfl (L' := #[.val (.ref ar), .val (.int (0 : Int32)), .val (.int (3 : Int32)), .val (.ref b1), .val (.int (1 : Int32)), .unset]) rfl (q := 14) rfl ?_
  refine o_iload X3 d_jdk_52_method_16_14 rfl (q := 16) rfl ?_
  refine o_iloadN X3 d_jdk_52_method_16_16 rfl (q := 17) rfl ?_
  refine o_icmpN X3 d_jdk_52_method_16_17 (by decide) (q := 20) rfl ?_
  refine o_aloadN X3 d_jdk_52_method_16_20 rfl rfl (q := 21) rfl ?_
  refine o_iloadN X3 d_jdk_52_method_16_21 rfl (q := 22) rfl ?_
  refine o_iloadN X3 d_jdk_52_method_16_22 rfl (q := 23) rfl ?_
  have f4 := (f2.keep K3 (ninS (Nat.ne_of_lt (Nat.lt_of_lt_of_le Va.lt (Nat.le_of_eq gb1.symm))) nin0))
  refine o_stat X3 [(.ref ar), (.int (0 : Int32)), (.int (3 : Int32))] (y' := (⟨"java/lang/StringUTF16", "toBytes", "([CII)[B"⟩ : MethodName)) (c_tb3 hw ar c0 c1 c2 _ SA SH SL f4) all0 (w71 hw) (w72 hw) (w66 hw) (w73 hw) (by decide) d_jdk_52_method_16_23 (rest := []) rfl rfl (lenOf pd5 rfl) rfl (by decide) (Nat.le_of_ble_eq_true rfl) (by decide) (by decide) (q := 26) rfl ?_
  intro v5 vm5 T5 h5 l5 X5 R5 q5
  obtain ⟨b5, kb5, rfl, K5, g5, s5, V5⟩ := q5
  show Goes p e below _ T5 (mkF m 26 #[.val (.ref ar), .val (.int (0 : Int32)), .val (.int (3 : Int32)), .val (.ref b1), .val (.int (1 : Int32)), .unset] [(.ref b5)])
  refine o_astore X5 d_jdk_52_method_16_26 rfl (L' := #[.val (.ref ar), .val (.int (0 : Int32)), .val (.int (3 : Int32)), .val (.ref b1), .val (.int (1 : Int32)), .val (.ref b5)]) rfl (q := 28) rfl ?_
  refine o_aload X5 d_jdk_52_method_16_28 rfl rfl (q := 30) rfl ?_
  refine o_iload X5 d_jdk_52_method_16_30 rfl (q := 32) rfl ?_
  refine o_stat X5 [(.ref b5), (.int (1 : Int32))] (y' := (⟨"java/lang/StringUTF16", "getChar", "([BI)C"⟩ : MethodName)) (c_getCh hw b5 kb5 [c0, c1, c2] 1 _ SA SH SL V5 (Nat.le_of_ble_eq_true rfl) hr (Nat.le_of_ble_eq_true rfl)) all0 (w87 hw) (w88 hw) (w66 hw) (w89 hw) (by decide) d_jdk_52_method_16_32 (rest := []) rfl rfl (lenOf pd6 rfl) rfl (by decide) (Nat.le_of_ble_eq_true rfl) (by decide) (by decide) (q := 35) rfl ?_
  intro v6 vm6 T6 h6 l6 X6 R6 q6
  obtain ⟨rfl, e6⟩ := q6
  have e6 := e6.symm
  subst e6
  show Goes p e below _ T6 (mkF m 35 #[.val (.ref ar), .val (.int (0 : Int32)), .val (.int (3 : Int32)), .val (.ref b1), .val (.int (1 : Int32)), .val (.ref b5)] [(.int c1)])
  refine o_sipush X6 d_jdk_52_method_16_35 (w := 255) rfl (q := 38) rfl ?_
  refine o_icmpY X6 d_jdk_52_method_16_38 (tlt hk).2.2.1 (by decide) (q := 54) (by decide) ?_
  refine o_aload X6 d_jdk_52_method_16_54 rfl rfl (q := 56) rfl ?_
  have sz7 := Nat.le_trans (Keep.refl h0 []).1 (Nat.le_of_eq gb1.symm)
  have k8 := Keep.ext (Keep.refl h0 []) E1
  have k9 := Keep.trans k8 K3 (allS (Or.inr sz7) all0)
  have sz10 := Nat.le_trans k9.1 g5
  have k11 := Keep.trans k9 K5 all0
  have f12 := (CHr.safe R6 (V5.lt) s5)
  have f13 := V5
  exact o_retR X6 d_jdk_52_method_16_56 rfl rfl rfl (fun Sf hSf => ⟨b5, kb5, rfl, k11, sz10, hSf _ V5.lt f12, f13⟩) (by decide) (by decide)
set_option maxRecDepth 65536 in
set_option maxHeartbeats 40000000 in
theorem c_cmp3_3_2 {l : Launch} {Z : State} {a0 : Array Value} (hw : W a0 Z) (ar : Addr) (c0 c1 c2 : Int32) (h0 : Heap) (SA : Sta Z Z.heap "java/lang/StringUTF16" "$assertionsDisabled" "Z" (.int (1 : Int32))) (SH : Sta Z Z.heap "java/lang/StringUTF16" "HI_BYTE_SHIFT" "I" (.int (0 : Int32))) (SL : Sta Z Z.heap "java/lang/StringUTF16" "LO_BYTE_SHIFT" "I" (.int (8 : Int32))) {ka : ClassId} (Va : Arv Z h0 ar ka .char (3 : Int32) [(.int c0), (.int c1), (.int c2)] (.int (0 : Int32))) (hr : ∀ c ∈ ([c0, c1, c2] : List Int32), Rg c) (hl0 : ¬ (255 : Int32) < c0) (hl1 : ¬ (255 : Int32) < c1) (hk : (255 : Int32) < c2) :
    Con l Z EL0 (⟨"java/lang/StringUTF16", "compress", "([CII)[B"⟩ : MethodName) jdk_52_method_16_code 6 (some (.array .byte)) ({ frames := 3, cells := 2, slots := 9, locals := 40 } : Room) #[(.ref ar), (.int (0 : Int32)), (.int (3 : Int32))] h0 [] (fun v h' Sf => ∃ (b : Addr) (kb : ClassId), v = some (.ref b) ∧ Keep h0 h' [] ∧ h0.size ≤ b ∧ Sf b ∧ Arv Z h' b kb .byte (6 : Int32) [(.int c0.toInt8.toInt32), (.int (c0 >>> ((8 : Int32) &&& 31)).toInt8.toInt32), (.int c1.toInt8.toInt32), (.int (c1 >>> ((8 : Int32) &&& 31)).toInt8.toInt32), (.int c2.toInt8.toInt32), (.int (c2 >>> ((8 : Int32) &&& 31)).toInt8.toInt32)] (.int (0 : Int32))) := by
  have hpn : plainName "java/lang/StringUTF16" = true := by first | (simp [plainName, overriddenIn]; done) | decide +kernel
  refine Con.intro (plainFor_of_name hpn) ?_
  intro p e s m below meth c T X hss
  refine Goes.cast (g' := mkF m 0 #[.val (.ref ar), .val (.int (0 : Int32)), .val (.int (3 : Int32)), .unset, .unset, .unset] []) (by first | (simp [entryFrame, mkF, argsToLocals, Value.category]; done) | rfl) ?_
  refine o_iloadN X d_jdk_52_method_16_0 rfl (q := 1) rfl ?_
  refine o_newarr X (aty := .byte) (cap := 3) 3 (w24 hw) d_jdk_52_method_16_1 (by decide) (by decide) (by decide) (by decide) (by decide) (q := 3) rfl ?_
  intro T1 h1 b1 k1 gb1 X1 E1 R1 S1 V1 g0_b1
  have V1 : Arv Z h1 b1 k1 .byte (3 : Int32) [(.int (0 : Int32)), (.int (0 : Int32)), (.int (0 : Int32))] (.int (0 : Int32)) := V1
  refine o_astoreN X1 d_jdk_52_method_16_3 rfl (L' := #[.val (.ref ar), .val (.int (0 : Int32)), .val (.int (3 : Int32)), .val (.ref b1), .unset, .unset]) rfl (q := 4) rfl ?_
  refine o_aloadN X1 d_jdk_52_method_16_4 rfl rfl (q := 5) rfl ?_
  refine o_iloadN X1 d_jdk_52_method_16_5 rfl (q := 6) rfl ?_
  refine o_aloadN X1 d_jdk_52_method_16_6 rfl rfl (q := 7) rfl ?_
  refine o_iconst X1 d_jdk_52_method_16_7 (w := 0) rfl (q := 8) rfl ?_
  refine o_iloadN X1 d_jdk_52_method_16_8 rfl (q := 9) rfl ?_
  have f2 := (Va.ext E1)
  refine o_stat X1 [(.ref ar), (.int (0 : Int32)), (.ref b1), (.int (0 : Int32)), (.int (3 : Int32))] (y' := (⟨"java/lang/StringUTF16", "compress", "([CI[BII)I"⟩ : MethodName)) (c_cmp5_3_2 hw ar b1 c0 c1 c2 _ f2 V1 g0_b1 (Nat.ne_of_lt (Nat.lt_of_lt_of_le Va.lt (Nat.le_of_eq gb1.symm))) hl0 hl1 hk) (allS ⟨V1.lt, S1⟩ all0) (w68 hw) (w69 hw) (w66 hw) (w70 hw) (by decide) d_jdk_52_method_16_9 (rest := []) rfl rfl (lenOf pd4 rfl) rfl (by decide) (Nat.le_of_ble_eq_true rfl) (by decide) (by decide) (q := 12) rfl ?_
  intro v3 vm3 T3 h3 l3 X3 R3 q3
  obtain ⟨rfl, K3⟩ := q3
  show Goes p e below _ T3 (mkF m 12 #[.val (.ref ar), .val (.int (0 : Int32)), .val (.int (3 : Int32)), .val (.ref b1), .unset, .unset] [(.int (2 : Int32))])
  refine o_istore X3 d_jdk_52_method_16_12 rfl (L' := #[.val (.ref ar), .val (.int (0 : Int32)), .val (.int (3 : Int32)), .val (.ref b1), .val (.int (2 : Int32)), .unset]) rfl (q := 14) rfl ?_
  refine o_iload X3 d_jdk_52_method_16_14 rfl (q := 16) rfl ?_
  refine o_iloadN X3 d_jdk_52_method_16_16 rfl (q := 17) rfl ?_
  refine o_icmpN X3 d_jdk_52_method_16_17 (by decide) (q := 20) rfl ?_
  refine o_aloadN X3 d_jdk_52_method_16_20 rfl rfl (q := 21) rfl ?_
  refine o_iloadN X3 d_jdk_52_method_16_21 rfl (q := 22) rfl ?_
  refine o_iloadN X3 d_jdk_52_method_16_22 rfl (q := 23) rfl ?_
  have f4 := (f2.keep K3 (ninS (Nat.ne_of_lt (Nat.lt_of_lt_of_le Va.lt (Nat.le_of_eq gb1.symm))) nin0))
  refine o_stat X3 [(.ref ar), (.int (0 : Int32)), (.int (3 : Int32))] (y' := (⟨"java/lang/StringUTF16", "toBytes", "([CII)[B"⟩ : MethodName)) (c_tb3 hw ar c0 c1 c2 _ SA SH SL f4) all0 (w71 hw) (w72 hw) (w66 hw) (w73 hw) (by decide) d_jdk_52_method_16_23 (rest := []) rfl rfl (lenOf pd5 rfl) rfl (by decide) (Nat.le_of_ble_eq_true rfl) (by decide) (by decide) (q := 26) rfl ?_
  intro v5 vm5 T5 h5 l5 X5 R5 q5
  obtain ⟨b5, kb5, rfl, K5, g5, s5, V5⟩ := q5
  show Goes p e below _ T5 (mkF m 26 #[.val (.ref ar), .val (.int (0 : Int32)), .val (.int (3 : Int32)), .val (.ref b1), .val (.int (2 : Int32)), .unset] [(.ref b5)])
  refine o_astore X5 d_jdk_52_method_16_26 rfl (L' := #[.val (.ref ar), .val (.int (0 : Int32)), .val (.int (3 : Int32)), .val (.ref b1), .val (.int (2 : Int32)), .val (.ref b5)]) rfl (q := 28) rfl ?_
  refine o_aload X5 d_jdk_52_method_16_28 rfl rfl (q := 30) rfl ?_
  refine o_iload X5 d_jdk_52_method_16_30 rfl (q := 32) rfl ?_
  refine o_stat X5 [(.ref b5), (.int (2 : Int32))] (y' := (⟨"java/lang/StringUTF16", "getChar", "([BI)C"⟩ : MethodName)) (c_getCh hw b5 kb5 [c0, c1, c2] 2 _ SA SH SL V5 (Nat.le_of_ble_eq_true rfl) hr (Nat.le_of_ble_eq_true rfl)) all0 (w87 hw) (w88 hw) (w66 hw) (w89 hw) (by decide) d_jdk_52_method_16_32 (rest := []) rfl rfl (lenOf pd6 rfl) rfl (by decide) (Nat.le_of_ble_eq_true rfl) (by decide) (by decide) (q := 35) rfl ?_
  intro v6 vm6 T6 h6 l6 X6 R6 q6
  obtain ⟨rfl, e6⟩ := q6
  have e6 := e6.symm
  subst e6
  show Goes p e below _ T6 (mkF m 35 #[.val (.ref ar), .val (.int (0 : Int32)), .val (.int (3 : Int32)), .val (.ref b1), .val (.int (2 : Int32)), .val (.ref b5)] [(.int c2)])
  refine o_sipush X6 d_jdk_52_method_16_35 (w := 255) rfl (q := 38) rfl ?_
  refine o_icmpY X6 d_jdk_52_method_16_38 (tlt hk).2.2.1 (by decide) (q := 54) (by decide) ?_
  refine o_aload X6 d_jdk_52_method_16_54 rfl rfl (q := 56) rfl ?_
  have sz7 := Nat.le_trans (Keep.refl h0 []).1 (Nat.le_of_eq gb1.symm)
  have k8 := Keep.ext (Keep.refl h0 []) E1
  have k9 := Keep.trans k8 K3 (allS (Or.inr sz7) all0)
  have sz10 := Nat.le_trans k9.1 g5
  have k11 := Keep.trans k9 K5 all0
  have f12 := (CHr.safe R6 (V5.lt) s5)
  have f13 := V5
  exact o_retR X6 d_jdk_52_method_16_56 rfl rfl rfl (fun Sf hSf => ⟨b5, kb5, rfl, k11, sz10, hSf _ V5.lt f12, f13⟩) (by decide) (by decide)
set_option maxRecDepth 65536 in
set_option maxHeartbeats 40000000 in
theorem c_cmp3_3_3 {l : Launch} {Z : State} {a0 : Array Value} (hw : W a0 Z) (ar : Addr) (c0 c1 c2 : Int32) (h0 : Heap) (SA : Sta Z Z.heap "java/lang/StringUTF16" "$assertionsDisabled" "Z" (.int (1 : Int32))) (SH : Sta Z Z.heap "java/lang/StringUTF16" "HI_BYTE_SHIFT" "I" (.int (0 : Int32))) (SL : Sta Z Z.heap "java/lang/StringUTF16" "LO_BYTE_SHIFT" "I" (.int (8 : Int32))) {ka : ClassId} (Va : Arv Z h0 ar ka .char (3 : Int32) [(.int c0), (.int c1), (.int c2)] (.int (0 : Int32))) (hr : ∀ c ∈ ([c0, c1, c2] : List Int32), Rg c) (hl0 : ¬ (255 : Int32) < c0) (hl1 : ¬ (255 : Int32) < c1) (hl2 : ¬ (255 : Int32) < c2) :
    Con l Z EL0 (⟨"java/lang/StringUTF16", "compress", "([CII)[B"⟩ : MethodName) jdk_52_method_16_code 6 (some (.array .byte)) ({ frames := 1, cells := 1, slots := 3, locals := 18 } : Room) #[(.ref ar), (.int (0 : Int32)), (.int (3 : Int32))] h0 [] (fun v h' Sf => ∃ (b : Addr) (kb : ClassId), v = some (.ref b) ∧ Keep h0 h' [] ∧ h0.size ≤ b ∧ Sf b ∧ Arv Z h' b kb .byte (3 : Int32) [(.int c0.toInt8.toInt32), (.int c1.toInt8.toInt32), (.int c2.toInt8.toInt32)] (.int (0 : Int32))) := by
  have hpn : plainName "java/lang/StringUTF16" = true := by first | (simp [plainName, overriddenIn]; done) | decide +kernel
  refine Con.intro (plainFor_of_name hpn) ?_
  intro p e s m below meth c T X hss
  refine Goes.cast (g' := mkF m 0 #[.val (.ref ar), .val (.int (0 : Int32)), .val (.int (3 : Int32)), .unset, .unset, .unset] []) (by first | (simp [entryFrame, mkF, argsToLocals, Value.category]; done) | rfl) ?_
  refine o_iloadN X d_jdk_52_method_16_0 rfl (q := 1) rfl ?_
  refine o_newarr X (aty := .byte) (cap := 3) 3 (w24 hw) d_jdk_52_method_16_1 (by decide) (by decide) (by decide) (by decide) (by decide) (q := 3) rfl ?_
  intro T1 h1 b1 k1 gb1 X1 E1 R1 S1 V1 g0_b1
  have V1 : Arv Z h1 b1 k1 .byte (3 : Int32) [(.int (0 : Int32)), (.int (0 : Int32)), (.int (0 : Int32))] (.int (0 : Int32)) := V1
  refine o_astoreN X1 d_jdk_52_method_16_3 rfl (L' := #[.val (.ref ar), .val (.int (0 : Int32)), .val (.int (3 : Int32)), .val (.ref b1), .unset, .unset]) rfl (q := 4) rfl ?_
  refine o_aloadN X1 d_jdk_52_method_16_4 rfl rfl (q := 5) rfl ?_
  refine o_iloadN X1 d_jdk_52_method_16_5 rfl (q := 6) rfl ?_
  refine o_aloadN X1 d_jdk_52_method_16_6 rfl rfl (q := 7) rfl ?_
  refine o_iconst X1 d_jdk_52_method_16_7 (w := 0) rfl (q := 8) rfl ?_
  refine o_iloadN X1 d_jdk_52_method_16_8 rfl (q := 9) rfl ?_
  have f2 := (Va.ext E1)
  refine o_stat X1 [(.ref ar), (.int (0 : Int32)), (.ref b1), (.int (0 : Int32)), (.int (3 : Int32))] (y' := (⟨"java/lang/StringUTF16", "compress", "([CI[BII)I"⟩ : MethodName)) (c_cmp5_3_3 hw ar b1 c0 c1 c2 _ f2 V1 g0_b1 (Nat.ne_of_lt (Nat.lt_of_lt_of_le Va.lt (Nat.le_of_eq gb1.symm))) hl0 hl1 hl2) (allS ⟨V1.lt, S1⟩ all0) (w68 hw) (w69 hw) (w66 hw) (w70 hw) (by decide) d_jdk_52_method_16_9 (rest := []) rfl rfl (lenOf pd4 rfl) rfl (by decide) (Nat.le_of_ble_eq_true rfl) (by decide) (by decide) (q := 12) rfl ?_
  intro v3 vm3 T3 h3 l3 X3 R3 q3
  obtain ⟨rfl, K3, V3⟩ := q3
  show Goes p e below _ T3 (mkF m 12 #[.val (.ref ar), .val (.int (0 : Int32)), .val (.int (3 : Int32)), .val (.ref b1), .unset, .unset] [(.int (3 : Int32))])
  refine o_istore X3 d_jdk_52_method_16_12 rfl (L' := #[.val (.ref ar), .val (.int (0 : Int32)), .val (.int (3 : Int32)), .val (.ref b1), .val (.int (3 : Int32)), .unset]) rfl (q := 14) rfl ?_
  refine o_iload X3 d_jdk_52_method_16_14 rfl (q := 16) rfl ?_
  refine o_iloadN X3 d_jdk_52_method_16_16 rfl (q := 17) rfl ?_
  refine o_icmpY X3 d_jdk_52_method_16_17 (by decide) (by decide) (q := 57) (by decide) ?_
  refine o_aloadN X3 d_jdk_52_method_16_57 rfl rfl (q := 58) rfl ?_
  have sz4 := Nat.le_trans (Keep.refl h0 []).1 (Nat.le_of_eq gb1.symm)
  have k5 := Keep.ext (Keep.refl h0 []) E1
  have k6 := Keep.trans k5 K3 (allS (Or.inr sz4) all0)
  have f7 := (CHr.safe R3 (V1.lt) S1)
  exact o_retR X3 d_jdk_52_method_16_58 rfl rfl rfl (fun Sf hSf => ⟨b1, k1, rfl, k6, sz4, hSf _ V3.lt f7, V3⟩) (by decide) (by decide)
set_option maxRecDepth 65536 in
set_option maxHeartbeats 40000000 in
theorem c_cfl3_0 {l : Launch} {Z : State} {a0 : Array Value} (hw : W a0 Z) (b : Addr) (kb : ClassId) (vs : List Value) (h0 : Heap) (Vb : Arv Z h0 b kb .byte (3 : Int32) vs (.int (0 : Int32))) :
    Con l Z EL0 (⟨"java/lang/StringUTF16", "coderFromArrayLen", "([BI)B"⟩ : MethodName) jdk_52_method_15_code 2 (some .byte) ({ frames := 0, cells := 0, slots := 0, locals := 0 } : Room) #[(.ref b), (.int (3 : Int32))] h0 [] (fun v h' Sf => v = some (.int (0 : Int32)) ∧ h' = h0) := by
  have hpn : plainName "java/lang/StringUTF16" = true := by first | (simp [plainName, overriddenIn]; done) | decide +kernel
  refine Con.intro (plainFor_of_name hpn) ?_
  intro p e s m below meth c T X hss
  refine Goes.cast (g' := mkF m 0 #[.val (.ref b), .val (.int (3 : Int32))] []) (by first | (simp [entryFrame, mkF, argsToLocals, Value.category]; done) | rfl) ?_
  refine o_iloadN X d_jdk_52_method_15_0 rfl (q := 1) rfl ?_
  refine o_aloadN X d_jdk_52_method_15_1 rfl rfl (q := 2) rfl ?_
  refine o_len X Vb d_jdk_52_method_15_2 (q := 3) rfl ?_
  refine o_isub X d_jdk_52_method_15_3 (w := (0 : Int32)) (by decide) (q := 4) rfl ?_
  refine o_bipush X d_jdk_52_method_15_4 (w := 31) rfl (q := 6) rfl ?_
  refine o_iushr X d_jdk_52_method_15_6 (w := (0 : Int32)) (by decide) (q := 7) rfl ?_
  refine o_i2b X d_jdk_52_method_15_7 (w := (0 : Int32)) (by decide) (q := 8) rfl ?_
  exact o_retN X d_jdk_52_method_15_8 (by simp) (fun Sf hSf => ⟨rfl, rfl⟩) (by decide) (by decide)
set_option maxRecDepth 65536 in
set_option maxHeartbeats 40000000 in
theorem c_cfl3_1 {l : Launch} {Z : State} {a0 : Array Value} (hw : W a0 Z) (b : Addr) (kb : ClassId) (vs : List Value) (h0 : Heap) (Vb : Arv Z h0 b kb .byte (6 : Int32) vs (.int (0 : Int32))) :
    Con l Z EL0 (⟨"java/lang/StringUTF16", "coderFromArrayLen", "([BI)B"⟩ : MethodName) jdk_52_method_15_code 2 (some .byte) ({ frames := 0, cells := 0, slots := 0, locals := 0 } : Room) #[(.ref b), (.int (3 : Int32))] h0 [] (fun v h' Sf => v = some (.int (1 : Int32)) ∧ h' = h0) := by
  have hpn : plainName "java/lang/StringUTF16" = true := by first | (simp [plainName, overriddenIn]; done) | decide +kernel
  refine Con.intro (plainFor_of_name hpn) ?_
  intro p e s m below meth c T X hss
  refine Goes.cast (g' := mkF m 0 #[.val (.ref b), .val (.int (3 : Int32))] []) (by first | (simp [entryFrame, mkF, argsToLocals, Value.category]; done) | rfl) ?_
  refine o_iloadN X d_jdk_52_method_15_0 rfl (q := 1) rfl ?_
  refine o_aloadN X d_jdk_52_method_15_1 rfl rfl (q := 2) rfl ?_
  refine o_len X Vb d_jdk_52_method_15_2 (q := 3) rfl ?_
  refine o_isub X d_jdk_52_method_15_3 (w := (-3 : Int32)) (by decide) (q := 4) rfl ?_
  refine o_bipush X d_jdk_52_method_15_4 (w := 31) rfl (q := 6) rfl ?_
  refine o_iushr X d_jdk_52_method_15_6 (w := (1 : Int32)) (by decide) (q := 7) rfl ?_
  refine o_i2b X d_jdk_52_method_15_7 (w := (1 : Int32)) (by decide) (q := 8) rfl ?_
  exact o_retN X d_jdk_52_method_15_8 (by simp) (fun Sf hSf => ⟨rfl, rfl⟩) (by decide) (by decide)
set_option maxRecDepth 65536 in
set_option maxHeartbeats 40000000 in
theorem c_ini4_3_0 {l : Launch} {Z : State} {a0 : Array Value} (hw : W a0 Z) (a ar : Addr) (c0 c1 c2 : Int32) (h0 : Heap) {zc : Int32} (O2 : Sta Z Z.heap "java/lang/String" "COMPACT_STRINGS" "Z" (.int zc)) (P5 : ¬ zc = 0) (SA : Sta Z Z.heap "java/lang/StringUTF16" "$assertionsDisabled" "Z" (.int (1 : Int32))) (SH : Sta Z Z.heap "java/lang/StringUTF16" "HI_BYTE_SHIFT" "I" (.int (0 : Int32))) (SL : Sta Z Z.heap "java/lang/StringUTF16" "LO_BYTE_SHIFT" "I" (.int (8 : Int32))) (E : Exa Z h0 a "java/lang/String") (ga : Z.heap.size ≤ a) (Fv : Fld Z h0 a "java/lang/String" "value" "[B" .null) (Fc : Fld Z h0 a "java/lang/String" "coder" "B" (.int (0 : Int32))) {ka : ClassId} (Va : Arv Z h0 ar ka .char (3 : Int32) [(.int c0), (.int c1), (.int c2)] (.int (0 : Int32))) (hne : ar ≠ a) (hr : ∀ c ∈ ([c0, c1, c2] : List Int32), Rg c) (hk : (255 : Int32) < c0) :
    Con l Z EL0 (⟨"java/lang/String", "<init>", "([CIILjava/lang/Void;)V"⟩ : MethodName) jdk_42_method_149_code 6 none ({ frames := 4, cells := 2, slots := 9, locals := 57 } : Room) #[(.ref a), (.ref ar), (.int (0 : Int32)), (.int (3 : Int32)), .null] h0 [a] (fun v h' Sf => v = none ∧ Keep h0 h' [a] ∧ ∃ (b : Addr) (kb : ClassId), h0.size ≤ b ∧ US Z h' a b kb [c0, c1, c2]) := by
  have hpn : plainName "java/lang/String" = true := by first | (simp [plainName, overriddenIn]; done) | decide +kernel
  refine Con.intro (plainFor_of_name hpn) ?_
  intro p e s m below meth c T X hss
  have S_a := hss a (by simp)
  refine Goes.cast (g' := mkF m 0 #[.val (.ref a), .val (.ref ar), .val (.int (0 : Int32)), .val (.int (3 : Int32)), .val .null, .unset] []) (by first | (simp [entryFrame, mkF, argsToLocals, Value.category]; done) | rfl) ?_
  refine o_aloadN X d_jdk_42_method_149_0 rfl rfl (q := 1) rfl ?_
  refine o_initO X (w20 hw) (w21 hw) (w22 hw) d_jdk_42_method_149_1 rfl (by decide) (Nat.le_of_ble_eq_true rfl) (q := 4) rfl ?_
  intro T1 X1
  refine o_iloadN X1 d_jdk_42_method_149_4 rfl (q := 5) rfl ?_
  refine o_ifY X1 d_jdk_42_method_149_5 (by decide) (by decide) (q := 27) (by decide) ?_
  refine o_getS X1 O2 (host := "") (Or.inl (w58 hw)) Via.refl d_jdk_42_method_149_27 (q := 30) rfl ?_
  intro T2 X2
  refine o_ifN X2 d_jdk_42_method_149_30 (feq P5).1 (q := 33) rfl ?_
  refine o_aloadN X2 d_jdk_42_method_149_33 rfl rfl (q := 34) rfl ?_
  refine o_iloadN X2 d_jdk_42_method_149_34 rfl (q := 35) rfl ?_
  refine o_iloadN X2 d_jdk_42_method_149_35 rfl (q := 36) rfl ?_
  refine o_stat X2 [(.ref ar), (.int (0 : Int32)), (.int (3 : Int32))] (y' := (⟨"java/lang/StringUTF16", "compress", "([CII)[B"⟩ : MethodName)) (c_cmp3_3_0 hw ar c0 c1 c2 _ SA SH SL Va hr hk) all0 (w64 hw) (w65 hw) (w66 hw) (w67 hw) (by decide) d_jdk_42_method_149_36 (rest := []) rfl rfl (lenOf pd5 rfl) rfl (by decide) (Nat.le_of_ble_eq_true rfl) (by decide) (by decide) (q := 39) rfl ?_
  intro v3 vm3 T3 h3 l3 X3 R3 q3
  obtain ⟨b3, kb3, rfl, K3, g3, s3, V3⟩ := q3
  show Goes p e below _ T3 (mkF m 39 #[.val (.ref a), .val (.ref ar), .val (.int (0 : Int32)), .val (.int (3 : Int32)), .val .null, .unset] [(.ref b3)])
  refine o_astore X3 d_jdk_42_method_149_39 rfl (L' := #[.val (.ref a), .val (.ref ar), .val (.int (0 : Int32)), .val (.int (3 : Int32)), .val .null, .val (.ref b3)]) rfl (q := 41) rfl ?_
  refine o_aloadN X3 d_jdk_42_method_149_41 rfl rfl (q := 42) rfl ?_
  refine o_aload X3 d_jdk_42_method_149_42 rfl rfl (q := 44) rfl ?_
  refine o_iloadN X3 d_jdk_42_method_149_44 rfl (q := 45) rfl ?_
  refine o_stat X3 [(.ref b3), (.int (3 : Int32))] (y' := (⟨"java/lang/StringUTF16", "coderFromArrayLen", "([BI)B"⟩ : MethodName)) (c_cfl3_1 hw b3 kb3 _ _ V3) all0 (w90 hw) (w91 hw) (w66 hw) (w92 hw) (by decide) d_jdk_42_method_149_45 (rest := [(.ref a)]) rfl rfl (lenOf pd7 rfl) rfl (by decide) (Nat.le_of_ble_eq_true rfl) (by decide) (by decide) (q := 48) rfl ?_
  intro v4 vm4 T4 h4 l4 X4 R4 q4
  obtain ⟨rfl, e4⟩ := q4
  have e4 := e4.symm
  subst e4
  show Goes p e below _ T4 (mkF m 48 #[.val (.ref a), .val (.ref ar), .val (.int (0 : Int32)), .val (.int (3 : Int32)), .val .null, .val (.ref b3)] [(.int (1 : Int32)), (.ref a)])
  have f5 := (Fc.keep K3 nin0)
  have f6 := (E.keep K3)
  have f8 := (CHr.safe R4 ((E.keep K3).lt) (CHr.safe R3 (E.lt) S_a))
  refine o_putF X4 f5 f6 ga f8 (host := "") (Or.inl (w30 hw)) Via.refl (Or.inr ⟨(w26 hw), rfl, rfl⟩) (w11 hw) (ty := .byte) (by decide) (by decide) (by decide) d_jdk_42_method_149_48 (q := 51) rfl ?_
  intro T7 h7 l7 X7 W7 R7 F7
  refine o_aloadN X7 d_jdk_42_method_149_51 rfl rfl (q := 52) rfl ?_
  refine o_aload X7 d_jdk_42_method_149_52 rfl rfl (q := 54) rfl ?_
  have f9 := ((Fv.keep K3 nin0).other W7 (Or.inr (slot_ne (Or.inr (w25 hw)) (Or.inr (w26 hw)) (by decide) (t := (.array .byte)) (t' := .byte) (by decide) (by decide))))
  have f10 := (f6.wr W7)
  have f12 := (CHr.safe R7 (f6.lt) f8)
  refine o_putF X7 f9 f10 ga f12 (host := "") (Or.inl (w29 hw)) Via.refl (Or.inr ⟨(w25 hw), rfl, rfl⟩) (w11 hw) (ty := (.array .byte)) (by decide) rfl rfl d_jdk_42_method_149_54 (q := 57) rfl ?_
  intro T11 h11 l11 X11 W11 R11 F11
  have sz13 := Nat.le_trans (Keep.refl h0 [a]).1 g3
  have k14 := Keep.trans (Keep.refl h0 [a]) K3 all0
  have k15 := Keep.wr k14 W7 (Or.inl (by simp))
  have k16 := Keep.wr k15 W11 (Or.inl (by simp))
  have f17 := (f10.wr W11)
  have f18 := (F7.other W11 (Or.inr (slot_ne (Or.inr (w26 hw)) (Or.inr (w25 hw)) (by decide) (t := .byte) (t' := (.array .byte)) (by decide) (by decide))))
  have f19 := ((V3.other W7 (Ne.symm (Nat.ne_of_lt (Nat.lt_of_lt_of_le E.lt g3)))).other W11 (Ne.symm (Nat.ne_of_lt (Nat.lt_of_lt_of_le E.lt g3))))
  exact o_ret X11 d_jdk_42_method_149_57 (fun Sf hSf => ⟨rfl, k16, b3, kb3, sz13, Or.inr ⟨f17, f18, F11, f19, ⟨c0, by simp, hk⟩, hr, Nat.le_of_ble_eq_true rfl⟩⟩) (by decide) (by decide)
set_option maxRecDepth 65536 in
set_option maxHeartbeats 40000000 in
theorem c_ini4_3_1 {l : Launch} {Z : State} {a0 : Array Value} (hw : W a0 Z) (a ar : Addr) (c0 c1 c2 : Int32) (h0 : Heap) {zc : Int32} (O2 : Sta Z Z.heap "java/lang/String" "COMPACT_STRINGS" "Z" (.int zc)) (P5 : ¬ zc = 0) (SA : Sta Z Z.heap "java/lang/StringUTF16" "$assertionsDisabled" "Z" (.int (1 : Int32))) (SH : Sta Z Z.heap "java/lang/StringUTF16" "HI_BYTE_SHIFT" "I" (.int (0 : Int32))) (SL : Sta Z Z.heap "java/lang/StringUTF16" "LO_BYTE_SHIFT" "I" (.int (8 : Int32))) (E : Exa Z h0 a "java/lang/String") (ga : Z.heap.size ≤ a) (Fv : Fld Z h0 a "java/lang/String" "value" "[B" .null) (Fc : Fld Z h0 a "java/lang/String" "coder" "B" (.int (0 : Int32))) {ka : ClassId} (Va : Arv Z h0 ar ka .char (3 : Int32) [(.int c0), (.int c1), (.int c2)] (.int (0 : Int32))) (hne : ar ≠ a) (hr : ∀ c ∈ ([c0, c1, c2] : List Int32), Rg c) (hl0 : ¬ (255 : Int32) < c0) (hk : (255 : Int32) < c1) :
    Con l Z EL0 (⟨"java/lang/String", "<init>", "([CIILjava/lang/Void;)V"⟩ : MethodName) jdk_42_method_149_code 6 none ({ frames := 4, cells := 2, slots := 9, locals := 57 } : Room) #[(.ref a), (.ref ar), (.int (0 : Int32)), (.int (3 : Int32)), .null] h0 [a] (fun v h' Sf => v = none ∧ Keep h0 h' [a] ∧ ∃ (b : Addr) (kb : ClassId), h0.size ≤ b ∧ US Z h' a b kb [c0, c1, c2]) := by
  have hpn : plainName "java/lang/String" = true := by first | (simp [plainName, overriddenIn]; done) | decide +kernel
  refine Con.intro (plainFor_of_name hpn) ?_
  intro p e s m below meth c T X hss
  have S_a := hss a (by simp)
  refine Goes.cast (g' := mkF m 0 #[.val (.ref a), .val (.ref ar), .val (.int (0 : Int32)), .val (.int (3 : Int32)), .val .null, .unset] []) (by first | (simp [entryFrame, mkF, argsToLocals, Value.category]; done) | rfl) ?_
  refine o_aloadN X d_jdk_42_method_149_0 rfl rfl (q := 1) rfl ?_
  refine o_initO X (w20 hw) (w21 hw) (w22 hw) d_jdk_42_method_149_1 rfl (by decide) (Nat.le_of_ble_eq_true rfl) (q := 4) rfl ?_
  intro T1 X1
  refine o_iloadN X1 d_jdk_42_method_149_4 rfl (q := 5) rfl ?_
  refine o_ifY X1 d_jdk_42_method_149_5 (by decide) (by decide) (q := 27) (by decide) ?_
  refine o_getS X1 O2 (host := "") (Or.inl (w58 hw)) Via.refl d_jdk_42_method_149_27 (q := 30) rfl ?_
  intro T2 X2
  refine o_ifN X2 d_jdk_42_method_149_30 (feq P5).1 (q := 33) rfl ?_
  refine o_aloadN X2 d_jdk_42_method_149_33 rfl rfl (q := 34) rfl ?_
  refine o_iloadN X2 d_jdk_42_method_149_34 rfl (q := 35) rfl ?_
  refine o_iloadN X2 d_jdk_42_method_149_35 rfl (q := 36) rfl ?_
  refine o_stat X2 [(.ref ar), (.int (0 : Int32)), (.int (3 : Int32))] (y' := (⟨"java/lang/StringUTF16", "compress", "([CII)[B"⟩ : MethodName)) (c_cmp3_3_1 hw ar c0 c1 c2 _ SA SH SL Va hr hl0 hk) all0 (w64 hw) (w65 hw) (w66 hw) (w67 hw) (by decide) d_jdk_42_method_149_36 (rest := []) rfl rfl (lenOf pd5 rfl) rfl (by decide) (Nat.le_of_ble_eq_true rfl) (by decide) (by decide) (q := 39) rfl ?_
  intro v3 vm3 T3 h3 l3 X3 R3 q3
  obtain ⟨b3, kb3, rfl, K3, g3, s3, V3⟩ := q3
  show Goes p e below _ T3 (mkF m 39 #[.val (.ref a), .val (.ref ar), .val (.int (0 : Int32)), .val (.int (3 : Int32)), .val .null, .unset] [(.ref b3)])
  refine o_astore X3 d_jdk_42_method_149_39 rfl (L' := #[.val (.ref a), .val (.ref ar), .val (.int (0 : Int32)), .val (.int (3 : Int32)), .val .null, .val (.ref b3)]) rfl (q := 41) rfl ?_
  refine o_aloadN X3 d_jdk_42_method_149_41 rfl rfl (q := 42) rfl ?_
  refine o_aload X3 d_jdk_42_method_149_42 rfl rfl (q := 44) rfl ?_
  refine o_iloadN X3 d_jdk_42_method_149_44 rfl (q := 45) rfl ?_
  refine o_stat X3 [(.ref b3), (.int (3 : Int32))] (y' := (⟨"java/lang/StringUTF16", "coderFromArrayLen", "([BI)B"⟩ : MethodName)) (c_cfl3_1 hw b3 kb3 _ _ V3) all0 (w90 hw) (w91 hw) (w66 hw) (w92 hw) (by decide) d_jdk_42_method_149_45 (rest := [(.ref a)]) rfl rfl (lenOf pd7 rfl) rfl (by decide) (Nat.le_of_ble_eq_true rfl) (by decide) (by decide) (q := 48) rfl ?_
  intro v4 vm4 T4 h4 l4 X4 R4 q4
  obtain ⟨rfl, e4⟩ := q4
  have e4 := e4.symm
  subst e4
  show Goes p e below _ T4 (mkF m 48 #[.val (.ref a), .val (.ref ar), .val (.int (0 : Int32)), .val (.int (3 : Int32)), .val .null, .val (.ref b3)] [(.int (1 : Int32)), (.ref a)])
  have f5 := (Fc.keep K3 nin0)
  have f6 := (E.keep K3)
  have f8 := (CHr.safe R4 ((E.keep K3).lt) (CHr.safe R3 (E.lt) S_a))
  refine o_putF X4 f5 f6 ga f8 (host := "") (Or.inl (w30 hw)) Via.refl (Or.inr ⟨(w26 hw), rfl, rfl⟩) (w11 hw) (ty := .byte) (by decide) (by decide) (by decide) d_jdk_42_method_149_48 (q := 51) rfl ?_
  intro T7 h7 l7 X7 W7 R7 F7
  refine o_aloadN X7 d_jdk_42_method_149_51 rfl rfl (q := 52) rfl ?_
  refine o_aload X7 d_jdk_42_method_149_52 rfl rfl (q := 54) rfl ?_
  have f9 := ((Fv.keep K3 nin0).other W7 (Or.inr (slot_ne (Or.inr (w25 hw)) (Or.inr (w26 hw)) (by decide) (t := (.array .byte)) (t' := .byte) (by decide) (by decide))))
  have f10 := (f6.wr W7)
  have f12 := (CHr.safe R7 (f6.lt) f8)
  refine o_putF X7 f9 f10 ga f12 (host := "") (Or.inl (w29 hw)) Via.refl (Or.inr ⟨(w25 hw), rfl, rfl⟩) (w11 hw) (ty := (.array .byte)) (by decide) rfl rfl d_jdk_42_method_149_54 (q := 57) rfl ?_
  intro T11 h11 l11 X11 W11 R11 F11
  have sz13 := Nat.le_trans (Keep.refl h0 [a]).1 g3
  have k14 := Keep.trans (Keep.refl h0 [a]) K3 all0
  have k15 := Keep.wr k14 W7 (Or.inl (by simp))
  have k16 := Keep.wr k15 W11 (Or.inl (by simp))
  have f17 := (f10.wr W11)
  have f18 := (F7.other W11 (Or.inr (slot_ne (Or.inr (w26 hw)) (Or.inr (w25 hw)) (by decide) (t := .byte) (t' := (.array .byte)) (by decide) (by decide))))
  have f19 := ((V3.other W7 (Ne.symm (Nat.ne_of_lt (Nat.lt_of_lt_of_le E.lt g3)))).other W11 (Ne.symm (Nat.ne_of_lt (Nat.lt_of_lt_of_le E.lt g3))))
  exact o_ret X11 d_jdk_42_method_149_57 (fun Sf hSf => ⟨rfl, k16, b3, kb3, sz13, Or.inr ⟨f17, f18, F11, f19, ⟨c1, by simp, hk⟩, hr, Nat.le_of_ble_eq_true rfl⟩⟩) (by decide) (by decide)
set_option maxRecDepth 65536 in
set_option maxHeartbeats 40000000 in
theorem c_ini4_3_2 {l : Launch} {Z : State} {a0 : Array Value} (hw : W a0 Z) (a ar : Addr) (c0 c1 c2 : Int32) (h0 : Heap) {zc : Int32} (O2 : Sta Z Z.heap "java/lang/String" "COMPACT_STRINGS" "Z" (.int zc)) (P5 : ¬ zc = 0) (SA : Sta Z Z.heap "java/lang/StringUTF16" "$assertionsDisabled" "Z" (.int (1 : Int32))) (SH : Sta Z Z.heap "java/lang/StringUTF16" "HI_BYTE_SHIFT" "I" (.int (0 : Int32))) (SL : Sta Z Z.heap "java/lang/StringUTF16" "LO_BYTE_SHIFT" "I" (.int (8 : Int32))) (E : Exa Z h0 a "java/lang/String") (ga : Z.heap.size ≤ a) (Fv : Fld Z h0 a "java/lang/String" "value" "[B" .null) (Fc : Fld Z h0 a "java/lang/String" "coder" "B" (.int (0 : Int32))) {ka : ClassId} (Va : Arv Z h0 ar ka .char (3 : Int32) [(.int c0), (.int c1), (.int c2)] (.int (0 : Int32))) (hne : ar ≠ a) (hr : ∀ c ∈ ([c0, c1, c2] : List Int32), Rg c) (hl0 : ¬ (255 : Int32) < c0) (hl1 : ¬ (255 : Int32) < c1) (hk : (255 : Int32) < c2) :
    Con l Z EL0 (⟨"java/lang/String", "<init>", "([CIILjava/lang/Void;)V"⟩ : MethodName) jdk_42_method_149_code 6 none ({ frames := 4, cells := 2, slots := 9, locals := 57 } : Room) #[(.ref a), (.ref ar), (.int (0 : Int32)), (.int (3 : Int32)), .null] h0 [a] (fun v h' Sf => v = none ∧ Keep h0 h' [a] ∧ ∃ (b : Addr) (kb : ClassId), h0.size ≤ b ∧ US Z h' a b kb [c0, c1, c2]) := by
  have hpn : plainName "java/lang/String" = true := by first | (simp [plainName, overriddenIn]; done) | decide +kernel
  refine Con.intro (plainFor_of_name hpn) ?_
  intro p e s m below meth c T X hss
  have S_a := hss a (by simp)
  refine Goes.cast (g' := mkF m 0 #[.val (.ref a), .val (.ref ar), .val (.int (0 : Int32)), .val (.int (3 : Int32)), .val .null, .unset] []) (by first | (simp [entryFrame, mkF, argsToLocals, Value.category]; done) | rfl) ?_
  refine o_aloadN X d_jdk_42_method_149_0 rfl rfl (q := 1) rfl ?_
  refine o_initO X (w20 hw) (w21 hw) (w22 hw) d_jdk_42_method_149_1 rfl (by decide) (Nat.le_of_ble_eq_true rfl) (q := 4) rfl ?_
  intro T1 X1
  refine o_iloadN X1 d_jdk_42_method_149_4 rfl (q := 5) rfl ?_
  refine o_ifY X1 d_jdk_42_method_149_5 (by decide) (by decide) (q := 27) (by decide) ?_
  refine o_getS X1 O2 (host := "") (Or.inl (w58 hw)) Via.refl d_jdk_42_method_149_27 (q := 30) rfl ?_
  intro T2 X2
  refine o_ifN X2 d_jdk_42_method_149_30 (feq P5).1 (q := 33) rfl ?_
  refine o_aloadN X2 d_jdk_42_method_149_33 rfl rfl (q := 34) rfl ?_
  refine o_iloadN X2 d_jdk_42_method_149_34 rfl (q := 35) rfl ?_
  refine o_iloadN X2 d_jdk_42_method_149_35 rfl (q := 36) rfl ?_
  refine o_stat X2 [(.ref ar), (.int (0 : Int32)), (.int (3 : Int32))] (y' := (⟨"java/lang/StringUTF16", "compress", "([CII)[B"⟩ : MethodName)) (c_cmp3_3_2 hw ar c0 c1 c2 _ SA SH SL Va hr hl0 hl1 hk) all0 (w64 hw) (w65 hw) (w66 hw) (w67 hw) (by decide) d_jdk_42_method_149_36 (rest := []) rfl rfl (lenOf pd5 rfl) rfl (by decide) (Nat.le_of_ble_eq_true rfl) (by decide) (by decide) (q := 39) rfl ?_
  intro v3 vm3 T3 h3 l3 X3 R3 q3
  obtain ⟨b3, kb3, rfl, K3, g3, s3, V3⟩ := q3
  show Goes p e below _ T3 (mkF m 39 #[.val (.ref a), .val (.ref ar), .val (.int (0 : Int32)), .val (.int (3 : Int32)), .val .null, .unset] [(.ref b3)])
  refine o_astore X3 d_jdk_42_method_149_39 rfl (L' := #[.val (.ref a), .val (.ref ar), .val (.int (0 : Int32)), .val (.int (3 : Int32)), .val .null, .val (.ref b3)]) rfl (q := 41) rfl ?_
  refine o_aloadN X3 d_jdk_42_method_149_41 rfl rfl (q := 42) rfl ?_
  refine o_aload X3 d_jdk_42_method_149_42 rfl rfl (q := 44) rfl ?_
  refine o_iloadN X3 d_jdk_42_method_149_44 rfl (q := 45) rfl ?_
  refine o_stat X3 [(.ref b3), (.int (3 : Int32))] (y' := (⟨"java/lang/StringUTF16", "coderFromArrayLen", "([BI)B"⟩ : MethodName)) (c_cfl3_1 hw b3 kb3 _ _ V3) all0 (w90 hw) (w91 hw) (w66 hw) (w92 hw) (by decide) d_jdk_42_method_149_45 (rest := [(.ref a)]) rfl rfl (lenOf pd7 rfl) rfl (by decide) (Nat.le_of_ble_eq_true rfl) (by decide) (by decide) (q := 48) rfl ?_
  intro v4 vm4 T4 h4 l4 X4 R4 q4
  obtain ⟨rfl, e4⟩ := q4
  have e4 := e4.symm
  subst e4
  show Goes p e below _ T4 (mkF m 48 #[.val (.ref a), .val (.ref ar), .val (.int (0 : Int32)), .val (.int (3 : Int32)), .val .null, .val (.ref b3)] [(.int (1 : Int32)), (.ref a)])
  have f5 := (Fc.keep K3 nin0)
  have f6 := (E.keep K3)
  have f8 := (CHr.safe R4 ((E.keep K3).lt) (CHr.safe R3 (E.lt) S_a))
  refine o_putF X4 f5 f6 ga f8 (host := "") (Or.inl (w30 hw)) Via.refl (Or.inr ⟨(w26 hw), rfl, rfl⟩) (w11 hw) (ty := .byte) (by decide) (by decide) (by decide) d_jdk_42_method_149_48 (q := 51) rfl ?_
  intro T7 h7 l7 X7 W7 R7 F7
  refine o_aloadN X7 d_jdk_42_method_149_51 rfl rfl (q := 52) rfl ?_
  refine o_aload X7 d_jdk_42_method_149_52 rfl rfl (q := 54) rfl ?_
  have f9 := ((Fv.keep K3 nin0).other W7 (Or.inr (slot_ne (Or.inr (w25 hw)) (Or.inr (w26 hw)) (by decide) (t := (.array .byte)) (t' := .byte) (by decide) (by decide))))
  have f10 := (f6.wr W7)
  have f12 := (CHr.safe R7 (f6.lt) f8)
  refine o_putF X7 f9 f10 ga f12 (host := "") (Or.inl (w29 hw)) Via.refl (Or.inr ⟨(w25 hw), rfl, rfl⟩) (w11 hw) (ty := (.array .byte)) (by decide) rfl rfl d_jdk_42_method_149_54 (q := 57) rfl ?_
  intro T11 h11 l11 X11 W11 R11 F11
  have sz13 := Nat.le_trans (Keep.refl h0 [a]).1 g3
  have k14 := Keep.trans (Keep.refl h0 [a]) K3 all0
  have k15 := Keep.wr k14 W7 (Or.inl (by simp))
  have k16 := Keep.wr k15 W11 (Or.inl (by simp))
  have f17 := (f10.wr W11)
  have f18 := (F7.other W11 (Or.inr (slot_ne (Or.inr (w26 hw)) (Or.inr (w25 hw)) (by decide) (t := .byte) (t' := (.array .byte)) (by decide) (by decide))))
  have f19 := ((V3.other W7 (Ne.symm (Nat.ne_of_lt (Nat.lt_of_lt_of_le E.lt g3)))).other W11 (Ne.symm (Nat.ne_of_lt (Nat.lt_of_lt_of_le E.lt g3))))
  exact o_ret X11 d_jdk_42_method_149_57 (fun Sf hSf => ⟨rfl, k16, b3, kb3, sz13, Or.inr ⟨f17, f18, F11, f19, ⟨c2, by simp, hk⟩, hr, Nat.le_of_ble_eq_true rfl⟩⟩) (by decide) (by decide)
set_option maxRecDepth 65536 in
set_option maxHeartbeats 40000000 in
theorem c_ini4_3_3 {l : Launch} {Z : State} {a0 : Array Value} (hw : W a0 Z) (a ar : Addr) (c0 c1 c2 : Int32) (h0 : Heap) {zc : Int32} (O2 : Sta Z Z.heap "java/lang/String" "COMPACT_STRINGS" "Z" (.int zc)) (P5 : ¬ zc = 0) (SA : Sta Z Z.heap "java/lang/StringUTF16" "$assertionsDisabled" "Z" (.int (1 : Int32))) (SH : Sta Z Z.heap "java/lang/StringUTF16" "HI_BYTE_SHIFT" "I" (.int (0 : Int32))) (SL : Sta Z Z.heap "java/lang/StringUTF16" "LO_BYTE_SHIFT" "I" (.int (8 : Int32))) (E : Exa Z h0 a "java/lang/String") (ga : Z.heap.size ≤ a) (Fv : Fld Z h0 a "java/lang/String" "value" "[B" .null) (Fc : Fld Z h0 a "java/lang/String" "coder" "B" (.int (0 : Int32))) {ka : ClassId} (Va : Arv Z h0 ar ka .char (3 : Int32) [(.int c0), (.int c1), (.int c2)] (.int (0 : Int32))) (hne : ar ≠ a) (hr : ∀ c ∈ ([c0, c1, c2] : List Int32), Rg c) (hl0 : ¬ (255 : Int32) < c0) (hl1 : ¬ (255 : Int32) < c1) (hl2 : ¬ (255 : Int32) < c2) :
    Con l Z EL0 (⟨"java/lang/String", "<init>", "([CIILjava/lang/Void;)V"⟩ : MethodName) jdk_42_method_149_code 6 none ({ frames := 4, cells := 2, slots := 9, locals := 57 } : Room) #[(.ref a), (.ref ar), (.int (0 : Int32)), (.int (3 : Int32)), .null] h0 [a] (fun v h' Sf => v = none ∧ Keep h0 h' [a] ∧ ∃ (b : Addr) (kb : ClassId), h0.size ≤ b ∧ US Z h' a b kb [c0, c1, c2]) := by
  have hpn : plainName "java/lang/String" = true := by first | (simp [plainName, overriddenIn]; done) | decide +kernel
  refine Con.intro (plainFor_of_name hpn) ?_
  intro p e s m below meth c T X hss
  have S_a := hss a (by simp)
  refine Goes.cast (g' := mkF m 0 #[.val (.ref a), .val (.ref ar), .val (.int (0 : Int32)), .val (.int (3 : Int32)), .val .null, .unset] []) (by first | (simp [entryFrame, mkF, argsToLocals, Value.category]; done) | rfl) ?_
  refine o_aloadN X d_jdk_42_method_149_0 rfl rfl (q := 1) rfl ?_
  refine o_initO X (w20 hw) (w21 hw) (w22 hw) d_jdk_42_method_149_1 rfl (by decide) (Nat.le_of_ble_eq_true rfl) (q := 4) rfl ?_
  intro T1 X1
  refine o_iloadN X1 d_jdk_42_method_149_4 rfl (q := 5) rfl ?_
  refine o_ifY X1 d_jdk_42_method_149_5 (by decide) (by decide) (q := 27) (by decide) ?_
  refine o_getS X1 O2 (host := "") (Or.inl (w58 hw)) Via.refl d_jdk_42_method_149_27 (q := 30) rfl ?_
  intro T2 X2
  refine o_ifN X2 d_jdk_42_method_149_30 (feq P5).1 (q := 33) rfl ?_
  refine o_aloadN X2 d_jdk_42_method_149_33 rfl rfl (q := 34) rfl ?_
  refine o_iloadN X2 d_jdk_42_method_149_34 rfl (q := 35) rfl ?_
  refine o_iloadN X2 d_jdk_42_method_149_35 rfl (q := 36) rfl ?_
  refine o_stat X2 [(.ref ar), (.int (0 : Int32)), (.int (3 : Int32))] (y' := (⟨"java/lang/StringUTF16", "compress", "([CII)[B"⟩ : MethodName)) (c_cmp3_3_3 hw ar c0 c1 c2 _ SA SH SL Va hr hl0 hl1 hl2) all0 (w64 hw) (w65 hw) (w66 hw) (w67 hw) (by decide) d_jdk_42_method_149_36 (rest := []) rfl rfl (lenOf pd5 rfl) rfl (by decide) (Nat.le_of_ble_eq_true rfl) (by decide) (by decide) (q := 39) rfl ?_
  intro v3 vm3 T3 h3 l3 X3 R3 q3
  obtain ⟨b3, kb3, rfl, K3, g3, s3, V3⟩ := q3
  show Goes p e below _ T3 (mkF m 39 #[.val (.ref a), .val (.ref ar), .val (.int (0 : Int32)), .val (.int (3 : Int32)), .val .null, .unset] [(.ref b3)])
  refine o_astore X3 d_jdk_42_method_149_39 rfl (L' := #[.val (.ref a), .val (.ref ar), .val (.int (0 : Int32)), .val (.int (3 : Int32)), .val .null, .val (.ref b3)]) rfl (q := 41) rfl ?_
  refine o_aloadN X3 d_jdk_42_method_149_41 rfl rfl (q := 42) rfl ?_
  refine o_aload X3 d_jdk_42_method_149_42 rfl rfl (q := 44) rfl ?_
  refine o_iloadN X3 d_jdk_42_method_149_44 rfl (q := 45) rfl ?_
  refine o_stat X3 [(.ref b3), (.int (3 : Int32))] (y' := (⟨"java/lang/StringUTF16", "coderFromArrayLen", "([BI)B"⟩ : MethodName)) (c_cfl3_0 hw b3 kb3 _ _ V3) all0 (w90 hw) (w91 hw) (w66 hw) (w92 hw) (by decide) d_jdk_42_method_149_45 (rest := [(.ref a)]) rfl rfl (lenOf pd7 rfl) rfl (by decide) (Nat.le_of_ble_eq_true rfl) (by decide) (by decide) (q := 48) rfl ?_
  intro v4 vm4 T4 h4 l4 X4 R4 q4
  obtain ⟨rfl, e4⟩ := q4
  have e4 := e4.symm
  subst e4
  show Goes p e below _ T4 (mkF m 48 #[.val (.ref a), .val (.ref ar), .val (.int (0 : Int32)), .val (.int (3 : Int32)), .val .null, .val (.ref b3)] [(.int (0 : Int32)), (.ref a)])
  have f5 := (Fc.keep K3 nin0)
  have f6 := (E.keep K3)
  have f8 := (CHr.safe R4 ((E.keep K3).lt) (CHr.safe R3 (E.lt) S_a))
  refine o_putF X4 f5 f6 ga f8 (host := "") (Or.inl (w30 hw)) Via.refl (Or.inr ⟨(w26 hw), rfl, rfl⟩) (w11 hw) (ty := .byte) (by decide) (by decide) (by decide) d_jdk_42_method_149_48 (q := 51) rfl ?_
  intro T7 h7 l7 X7 W7 R7 F7
  refine o_aloadN X7 d_jdk_42_method_149_51 rfl rfl (q := 52) rfl ?_
  refine o_aload X7 d_jdk_42_method_149_52 rfl rfl (q := 54) rfl ?_
  have f9 := ((Fv.keep K3 nin0).other W7 (Or.inr (slot_ne (Or.inr (w25 hw)) (Or.inr (w26 hw)) (by decide) (t := (.array .byte)) (t' := .byte) (by decide) (by decide))))
  have f10 := (f6.wr W7)
  have f12 := (CHr.safe R7 (f6.lt) f8)
  refine o_putF X7 f9 f10 ga f12 (host := "") (Or.inl (w29 hw)) Via.refl (Or.inr ⟨(w25 hw), rfl, rfl⟩) (w11 hw) (ty := (.array .byte)) (by decide) rfl rfl d_jdk_42_method_149_54 (q := 57) rfl ?_
  intro T11 h11 l11 X11 W11 R11 F11
  have sz13 := Nat.le_trans (Keep.refl h0 [a]).1 g3
  have k14 := Keep.trans (Keep.refl h0 [a]) K3 all0
  have k15 := Keep.wr k14 W7 (Or.inl (by simp))
  have k16 := Keep.wr k15 W11 (Or.inl (by simp))
  have f17 := (f10.wr W11)
  have f18 := (F7.other W11 (Or.inr (slot_ne (Or.inr (w26 hw)) (Or.inr (w25 hw)) (by decide) (t := .byte) (t' := (.array .byte)) (by decide) (by decide))))
  have f19 := ((V3.other W7 (Ne.symm (Nat.ne_of_lt (Nat.lt_of_lt_of_le E.lt g3)))).other W11 (Ne.symm (Nat.ne_of_lt (Nat.lt_of_lt_of_le E.lt g3))))
  exact o_ret X11 d_jdk_42_method_149_57 (fun Sf hSf => ⟨rfl, k16, b3, kb3, sz13, Or.inl ⟨f17, f18, F11, f19, (own_lat hr (by simp only [List.forall_mem_cons]; exact ⟨hl0, hl1, hl2, (fun c hc => nomatch hc)⟩)), Nat.le_of_ble_eq_true rfl⟩⟩) (by decide) (by decide)
theorem c_ini4_3 {l : Launch} {Z : State} {a0 : Array Value} (hw : W a0 Z) (a ar : Addr) (c0 c1 c2 : Int32) (h0 : Heap) {zc : Int32} (O2 : Sta Z Z.heap "java/lang/String" "COMPACT_STRINGS" "Z" (.int zc)) (P5 : ¬ zc = 0) (SA : Sta Z Z.heap "java/lang/StringUTF16" "$assertionsDisabled" "Z" (.int (1 : Int32))) (SH : Sta Z Z.heap "java/lang/StringUTF16" "HI_BYTE_SHIFT" "I" (.int (0 : Int32))) (SL : Sta Z Z.heap "java/lang/StringUTF16" "LO_BYTE_SHIFT" "I" (.int (8 : Int32))) (E : Exa Z h0 a "java/lang/String") (ga : Z.heap.size ≤ a) (Fv : Fld Z h0 a "java/lang/String" "value" "[B" .null) (Fc : Fld Z h0 a "java/lang/String" "coder" "B" (.int (0 : Int32))) {ka : ClassId} (Va : Arv Z h0 ar ka .char (3 : Int32) [(.int c0), (.int c1), (.int c2)] (.int (0 : Int32))) (hne : ar ≠ a) (hr : ∀ c ∈ ([c0, c1, c2] : List Int32), Rg c) :
    Con l Z EL0 (⟨"java/lang/String", "<init>", "([CIILjava/lang/Void;)V"⟩ : MethodName) jdk_42_method_149_code 6 none ({ frames := 4, cells := 2, slots := 9, locals := 57 } : Room) #[(.ref a), (.ref ar), (.int (0 : Int32)), (.int (3 : Int32)), .null] h0 [a] (fun v h' Sf => v = none ∧ Keep h0 h' [a] ∧ ∃ (b : Addr) (kb : ClassId), h0.size ≤ b ∧ US Z h' a b kb [c0, c1, c2]) := by
  by_cases hl0 : (255 : Int32) < c0
  · exact c_ini4_3_0 hw a ar c0 c1 c2 h0 O2 P5 SA SH SL E ga Fv Fc Va hne hr hl0
  by_cases hl1 : (255 : Int32) < c1
  · exact c_ini4_3_1 hw a ar c0 c1 c2 h0 O2 P5 SA SH SL E ga Fv Fc Va hne hr hl0 hl1
  by_cases hl2 : (255 : Int32) < c2
  · exact c_ini4_3_2 hw a ar c0 c1 c2 h0 O2 P5 SA SH SL E ga Fv Fc Va hne hr hl0 hl1 hl2
  exact c_ini4_3_3 hw a ar c0 c1 c2 h0 O2 P5 SA SH SL E ga Fv Fc Va hne hr hl0 hl1 hl2
set_option maxRecDepth 65536 in
set_option maxHeartbeats 40000000 in
theorem c_newS3 {l : Launch} {Z : State} {a0 : Array Value} (hw : W a0 Z) (a ar : Addr) (c0 c1 c2 : Int32) (h0 : Heap) {zc : Int32} (O2 : Sta Z Z.heap "java/lang/String" "COMPACT_STRINGS" "Z" (.int zc)) (P5 : ¬ zc = 0) (SA : Sta Z Z.heap "java/lang/StringUTF16" "$assertionsDisabled" "Z" (.int (1 : Int32))) (SH : Sta Z Z.heap "java/lang/StringUTF16" "HI_BYTE_SHIFT" "I" (.int (0 : Int32))) (SL : Sta Z Z.heap "java/lang/StringUTF16" "LO_BYTE_SHIFT" "I" (.int (8 : Int32))) (E : Exa Z h0 a "java/lang/String") (ga : Z.heap.size ≤ a) (Fv : Fld Z h0 a "java/lang/String" "value" "[B" .null) (Fc : Fld Z h0 a "java/lang/String" "coder" "B" (.int (0 : Int32))) {ka : ClassId} (Va : Arv Z h0 ar ka .char (3 : Int32) [(.int c0), (.int c1), (.int c2)] (.int (0 : Int32))) (hne : ar ≠ a) (hr : ∀ c ∈ ([c0, c1, c2] : List Int32), Rg c) :
    Con l Z EL0 (⟨"java/lang/String", "<init>", "([C)V"⟩ : MethodName) jdk_42_method_3_code 2 none ({ frames := 5, cells := 2, slots := 9, locals := 74 } : Room) #[(.ref a), (.ref ar)] h0 [a] (fun v h' Sf => v = none ∧ Keep h0 h' [a] ∧ ∃ (b : Addr) (kb : ClassId), h0.size ≤ b ∧ US Z h' a b kb [c0, c1, c2]) := by
  have hpn : plainName "java/lang/String" = true := by first | (simp [plainName, overriddenIn]; done) | decide +kernel
  refine Con.intro (plainFor_of_name hpn) ?_
  intro p e s m below meth c T X hss
  have S_a := hss a (by simp)
  refine Goes.cast (g' := mkF m 0 #[.val (.ref a), .val (.ref ar)] []) (by first | (simp [entryFrame, mkF, argsToLocals, Value.category]; done) | rfl) ?_
  refine o_aloadN X d_jdk_42_method_3_0 rfl rfl (q := 1) rfl ?_
  refine o_aloadN X d_jdk_42_method_3_1 rfl rfl (q := 2) rfl ?_
  refine o_iconst X d_jdk_42_method_3_2 (w := 0) rfl (q := 3) rfl ?_
  refine o_aloadN X d_jdk_42_method_3_3 rfl rfl (q := 4) rfl ?_
  refine o_len X Va d_jdk_42_method_3_4 (q := 5) rfl ?_
  refine o_null X d_jdk_42_method_3_5 (q := 6) rfl ?_
  refine o_spec X [(.ref ar), (.int (0 : Int32)), (.int (3 : Int32)), .null] (y' := (⟨"java/lang/String", "<init>", "([CIILjava/lang/Void;)V"⟩ : MethodName)) (c_ini4_3 hw a ar c0 c1 c2 _ O2 P5 SA SH SL E ga Fv Fc Va hne hr) (allS ⟨E.lt, S_a⟩ all0) rfl (w16 hw) (w17 hw) (w19 hw) (w12 hw) (by decide) d_jdk_42_method_3_6 (rest := []) rfl rfl (lenOf pd0 rfl) rfl (by decide) (Nat.le_of_ble_eq_true rfl) (by decide) (by decide) (q := 9) rfl ?_
  intro v1 vm1 T1 h1 l1 X1 R1 q1
  obtain ⟨rfl, K1, b1, kb1, g1, U1⟩ := q1
  show Goes p e below _ T1 (mkF m 9 #[.val (.ref a), .val (.ref ar)] [])
  have k2 := Keep.trans (Keep.refl h0 [a]) K1 (allS (Or.inl (by simp)) all0)
  exact o_ret X1 d_jdk_42_method_3_9 (fun Sf hSf => ⟨rfl, k2, b1, kb1, g1, U1⟩) (by decide) (by decide)
set_option maxRecDepth 65536 in
set_option maxHeartbeats 40000000 in
theorem c_mk0 {l : Launch} {Z : State} {a0 : Array Value} (hw : W a0 Z) (ar : Addr) (c0 c1 c2 : Int32) (h0 : Heap) {zc : Int32} (O2 : Sta Z Z.heap "java/lang/String" "COMPACT_STRINGS" "Z" (.int zc)) (P5 : ¬ zc = 0) (SA : Sta Z Z.heap "java/lang/StringUTF16" "$assertionsDisabled" "Z" (.int (1 : Int32))) (SH : Sta Z Z.heap "java/lang/StringUTF16" "HI_BYTE_SHIFT" "I" (.int (0 : Int32))) (SL : Sta Z Z.heap "java/lang/StringUTF16" "LO_BYTE_SHIFT" "I" (.int (8 : Int32))) {ka : ClassId} (Va : Arv Z h0 ar ka .char (3 : Int32) [(.int c0), (.int c1), (.int c2)] (.int (0 : Int32))) (r0 : Rg c0) (r1 : Rg c1) (r2 : Rg c2) :
    Con l Z EL0 (⟨"com/example/refinement/refinement/io/CodePointOrderComparePinLaw", "make", "([CI)Ljava/lang/String;"⟩ : MethodName) method_4_code 2 (some (.object "java/lang/String")) ({ frames := 6, cells := 6, slots := 16, locals := 88 } : Room) #[(.ref ar), (.int (0 : Int32))] h0 [] (fun v h' Sf => ∃ (r b : Addr) (kb : ClassId), v = some (.ref r) ∧ Keep h0 h' [] ∧ US Z h' r b kb []) := by
  have hpn : plainName "com/example/refinement/refinement/io/CodePointOrderComparePinLaw" = true := by first | (simp [plainName, overriddenIn]; done) | decide +kernel
  refine Con.intro (plainFor_of_name hpn) ?_
  intro p e s m below meth c T X hss
  refine Goes.cast (g' := mkF m 0 #[.val (.ref ar), .val (.int (0 : Int32))] []) (by first | (simp [entryFrame, mkF, argsToLocals, Value.category]; done) | rfl) ?_
  refine o_iloadN X d_method_4_0 rfl (q := 1) rfl ?_
  refine o_ifN X d_method_4_1 (by decide) (q := 4) rfl ?_
  refine o_new X (w10 hw) (w11 hw) (w12 hw) d_method_4_4 (by decide) (by decide) (q := 7) rfl ?_
  intro T1 h1 b1 gb1 X1 E1 R1 S1 A1 D1 g0_b1
  have f2 : Fld Z h1 b1 "java/lang/String" "value" "[B" .null := D1 (Or.inr (w25 hw)) (ty := (.array .byte)) (by decide)
  have f3 : Fld Z h1 b1 "java/lang/String" "coder" "B" (.int (0 : Int32)) := D1 (Or.inr (w26 hw)) (ty := .byte) (by decide)
  refine o_dup X1 d_method_4_7 rfl (q := 8) rfl ?_
  refine o_iconst X1 d_method_4_8 (w := 0) rfl (q := 9) rfl ?_
  refine o_newarr X1 (aty := .char) (cap := 0) 0 (w0 hw) d_method_4_9 (by decide) (by decide) (by decide) (by decide) (by decide) (q := 11) rfl ?_
  intro T4 h4 b4 k4 gb4 X4 E4 R4 S4 V4 g0_b4
  have V4 : Arv Z h4 b4 k4 .char (0 : Int32) [] (.int (0 : Int32)) := V4
  have f5 := (A1.ext E4)
  have f6 := (f2.ext E4)
  have f7 := (f3.ext E4)
  have f9 := (CHr.safe R4 (A1.lt) S1)
  refine o_spec X4 [(.ref b4)] (y' := (⟨"java/lang/String", "<init>", "([C)V"⟩ : MethodName)) (c_strE hw b1 b4 _ f5 g0_b1 f6 f7 V4) (allS ⟨f5.lt, f9⟩ all0) rfl (w13 hw) (w14 hw) (w15 hw) (w12 hw) (by decide) d_method_4_11 (rest := [(.ref b1)]) rfl rfl (lenOf pd8 rfl) rfl (by decide) (Nat.le_of_ble_eq_true rfl) (by decide) (by decide) (q := 14) rfl ?_
  intro v8 vm8 T8 h8 l8 X8 R8 q8
  obtain ⟨rfl, K8, b8, kb8, L8⟩ := q8
  show Goes p e below _ T8 (mkF m 14 #[.val (.ref ar), .val (.int (0 : Int32))] [(.ref b1)])
  have sz10 := Nat.le_trans (Keep.refl h0 []).1 (Nat.le_of_eq gb1.symm)
  have k11 := Keep.ext (Keep.refl h0 []) E1
  have sz12 := Nat.le_trans k11.1 (Nat.le_of_eq gb4.symm)
  have k13 := Keep.ext k11 E4
  have k14 := Keep.trans k13 K8 (allS (Or.inr sz10) all0)
  exact o_retR X8 d_method_4_14 rfl rfl rfl (fun Sf hSf => ⟨b1, b8, kb8, rfl, k14, Or.inl L8⟩) (by decide) (by decide)
set_option maxRecDepth 65536 in
set_option maxHeartbeats 40000000 in
theorem c_mk1 {l : Launch} {Z : State} {a0 : Array Value} (hw : W a0 Z) (ar : Addr) (c0 c1 c2 : Int32) (h0 : Heap) {zc : Int32} (O2 : Sta Z Z.heap "java/lang/String" "COMPACT_STRINGS" "Z" (.int zc)) (P5 : ¬ zc = 0) (SA : Sta Z Z.heap "java/lang/StringUTF16" "$assertionsDisabled" "Z" (.int (1 : Int32))) (SH : Sta Z Z.heap "java/lang/StringUTF16" "HI_BYTE_SHIFT" "I" (.int (0 : Int32))) (SL : Sta Z Z.heap "java/lang/StringUTF16" "LO_BYTE_SHIFT" "I" (.int (8 : Int32))) {ka : ClassId} (Va : Arv Z h0 ar ka .char (3 : Int32) [(.int c0), (.int c1), (.int c2)] (.int (0 : Int32))) (r0 : Rg c0) (r1 : Rg c1) (r2 : Rg c2) :
    Con l Z EL0 (⟨"com/example/refinement/refinement/io/CodePointOrderComparePinLaw", "make", "([CI)Ljava/lang/String;"⟩ : MethodName) method_4_code 2 (some (.object "java/lang/String")) ({ frames := 6, cells := 6, slots := 16, locals := 88 } : Room) #[(.ref ar), (.int (1 : Int32))] h0 [] (fun v h' Sf => ∃ (r b : Addr) (kb : ClassId), v = some (.ref r) ∧ Keep h0 h' [] ∧ US Z h' r b kb [c0]) := by
  have hpn : plainName "com/example/refinement/refinement/io/CodePointOrderComparePinLaw" = true := by first | (simp [plainName, overriddenIn]; done) | decide +kernel
  refine Con.intro (plainFor_of_name hpn) ?_
  intro p e s m below meth c T X hss
  refine Goes.cast (g' := mkF m 0 #[.val (.ref ar), .val (.int (1 : Int32))] []) (by first | (simp [entryFrame, mkF, argsToLocals, Value.category]; done) | rfl) ?_
  refine o_iloadN X d_method_4_0 rfl (q := 1) rfl ?_
  refine o_ifY X d_method_4_1 (by decide) (by decide) (q := 15) (by decide) ?_
  refine o_iloadN X d_method_4_15 rfl (q := 16) rfl ?_
  refine o_iconst X d_method_4_16 (w := 1) rfl (q := 17) rfl ?_
  refine o_icmpN X d_method_4_17 (by decide) (q := 20) rfl ?_
  refine o_new X (w10 hw) (w11 hw) (w12 hw) d_method_4_20 (by decide) (by decide) (q := 23) rfl ?_
  intro T1 h1 b1 gb1 X1 E1 R1 S1 A1 D1 g0_b1
  have f2 : Fld Z h1 b1 "java/lang/String" "value" "[B" .null := D1 (Or.inr (w25 hw)) (ty := (.array .byte)) (by decide)
  have f3 : Fld Z h1 b1 "java/lang/String" "coder" "B" (.int (0 : Int32)) := D1 (Or.inr (w26 hw)) (ty := .byte) (by decide)
  refine o_dup X1 d_method_4_23 rfl (q := 24) rfl ?_
  refine o_iconst X1 d_method_4_24 (w := 1) rfl (q := 25) rfl ?_
  refine o_newarr X1 (aty := .char) (cap := 1) 1 (w0 hw) d_method_4_25 (by decide) (by decide) (by decide) (by decide) (by decide) (q := 27) rfl ?_
  intro T4 h4 b4 k4 gb4 X4 E4 R4 S4 V4 g0_b4
  have V4 : Arv Z h4 b4 k4 .char (1 : Int32) [(.int (0 : Int32))] (.int (0 : Int32)) := V4
  refine o_dup X4 d_method_4_27 rfl (q := 28) rfl ?_
  refine o_iconst X4 d_method_4_28 (w := 0) rfl (q := 29) rfl ?_
  refine o_aloadN X4 d_method_4_29 rfl rfl (q := 30) rfl ?_
  refine o_iconst X4 d_method_4_30 (w := 0) rfl (q := 31) rfl ?_
  have f5 := ((Va.ext E1).ext E4)
  refine o_caload X4 f5 (by decide) (v := (.int c0)) rfl d_method_4_31 (q := 32) rfl ?_
  refine o_castore X4 0 V4 g0_b4 (Safe.arv X4.alike V4 (by decide)) (by decide) rfl (Nat.le_of_ble_eq_true rfl) (v := (.int c0)) (by rw [own_narc r0]) d_method_4_32 (q := 33) rfl ?_
  intro T6 h6 l6 X6 W6 R6 V6
  have V6 : Arv Z h6 b4 k4 .char (1 : Int32) [(.int c0)] (.int (0 : Int32)) := V6
  have f7 := ((A1.ext E4).wr W6)
  have f8 := ((f2.ext E4).other W6 (Or.inl (Nat.ne_of_lt (Nat.lt_of_lt_of_le A1.lt (Nat.le_of_eq gb4.symm)))))
  have f9 := ((f3.ext E4).other W6 (Or.inl (Nat.ne_of_lt (Nat.lt_of_lt_of_le A1.lt (Nat.le_of_eq gb4.symm)))))
  have f11 := (CHr.safe R6 ((A1.ext E4).lt) (CHr.safe R4 (A1.lt) S1))
  refine o_spec X6 [(.ref b4)] (y' := (⟨"java/lang/String", "<init>", "([C)V"⟩ : MethodName)) (c_newS1 hw b1 b4 c0 _ O2 P5 SA SH SL f7 g0_b1 f8 f9 V6 (Ne.symm (Nat.ne_of_lt (Nat.lt_of_lt_of_le A1.lt (Nat.le_of_eq gb4.symm)))) (own_all1 r0)) (allS ⟨f7.lt, f11⟩ all0) rfl (w13 hw) (w14 hw) (w15 hw) (w12 hw) (by decide) d_method_4_33 (rest := [(.ref b1)]) rfl rfl (lenOf pd8 rfl) rfl (by decide) (Nat.le_of_ble_eq_true rfl) (by decide) (by decide) (q := 36) rfl ?_
  intro v10 vm10 T10 h10 l10 X10 R10 q10
  obtain ⟨rfl, K10, b10, kb10, g10, L10⟩ := q10
  show Goes p e below _ T10 (mkF m 36 #[.val (.ref ar), .val (.int (1 : Int32))] [(.ref b1)])
  have sz12 := Nat.le_trans (Keep.refl h0 []).1 (Nat.le_of_eq gb1.symm)
  have k13 := Keep.ext (Keep.refl h0 []) E1
  have sz14 := Nat.le_trans k13.1 (Nat.le_of_eq gb4.symm)
  have k15 := Keep.ext k13 E4
  have k16 := Keep.wr k15 W6 (Or.inr sz14)
  have k17 := Keep.trans k16 K10 (allS (Or.inr sz12) all0)
  exact o_retR X10 d_method_4_36 rfl rfl rfl (fun Sf hSf => ⟨b1, b10, kb10, rfl, k17, L10⟩) (by decide) (by decide)
set_option maxRecDepth 65536 in
set_option maxHeartbeats 40000000 in
theorem c_mk2 {l : Launch} {Z : State} {a0 : Array Value} (hw : W a0 Z) (ar : Addr) (c0 c1 c2 : Int32) (h0 : Heap) {zc : Int32} (O2 : Sta Z Z.heap "java/lang/String" "COMPACT_STRINGS" "Z" (.int zc)) (P5 : ¬ zc = 0) (SA : Sta Z Z.heap "java/lang/StringUTF16" "$assertionsDisabled" "Z" (.int (1 : Int32))) (SH : Sta Z Z.heap "java/lang/StringUTF16" "HI_BYTE_SHIFT" "I" (.int (0 : Int32))) (SL : Sta Z Z.heap "java/lang/StringUTF16" "LO_BYTE_SHIFT" "I" (.int (8 : Int32))) {ka : ClassId} (Va : Arv Z h0 ar ka .char (3 : Int32) [(.int c0), (.int c1), (.int c2)] (.int (0 : Int32))) (r0 : Rg c0) (r1 : Rg c1) (r2 : Rg c2) :
    Con l Z EL0 (⟨"com/example/refinement/refinement/io/CodePointOrderComparePinLaw", "make", "([CI)Ljava/lang/String;"⟩ : MethodName) method_4_code 2 (some (.object "java/lang/String")) ({ frames := 6, cells := 6, slots := 16, locals := 88 } : Room) #[(.ref ar), (.int (2 : Int32))] h0 [] (fun v h' Sf => ∃ (r b : Addr) (kb : ClassId), v = some (.ref r) ∧ Keep h0 h' [] ∧ US Z h' r b kb [c0, c1]) := by
  have hpn : plainName "com/example/refinement/refinement/io/CodePointOrderComparePinLaw" = true := by first | (simp [plainName, overriddenIn]; done) | decide +kernel
  refine Con.intro (plainFor_of_name hpn) ?_
  intro p e s m below meth c T X hss
  refine Goes.cast (g' := mkF m 0 #[.val (.ref ar), .val (.int (2 : Int32))] []) (by first | (simp [entryFrame, mkF, argsToLocals, Value.category]; done) | rfl) ?_
  refine o_iloadN X d_method_4_0 rfl (q := 1) rfl ?_
  refine o_ifY X d_method_4_1 (by decide) (by decide) (q := 15) (by decide) ?_
  refine o_iloadN X d_method_4_15 rfl (q := 16) rfl ?_
  refine o_iconst X d_method_4_16 (w := 1) rfl (q := 17) rfl ?_
  refine o_icmpY X d_method_4_17 (by decide) (by decide) (q := 37) (by decide) ?_
  refine o_iloadN X d_method_4_37 rfl (q := 38) rfl ?_
  refine o_iconst X d_method_4_38 (w := 2) rfl (q := 39) rfl ?_
  refine o_icmpN X d_method_4_39 (by decide) (q := 42) rfl ?_
  refine o_new X (w10 hw) (w11 hw) (w12 hw) d_method_4_42 (by decide) (by decide) (q := 45) rfl ?_
  intro T1 h1 b1 gb1 X1 E1 R1 S1 A1 D1 g0_b1
  have f2 : Fld Z h1 b1 "java/lang/String" "value" "[B" .null := D1 (Or.inr (w25 hw)) (ty := (.array .byte)) (by decide)
  have f3 : Fld Z h1 b1 "java/lang/String" "coder" "B" (.int (0 : Int32)) := D1 (Or.inr (w26 hw)) (ty := .byte) (by decide)
  refine o_dup X1 d_method_4_45 rfl (q := 46) rfl ?_
  refine o_iconst X1 d_method_4_46 (w := 2) rfl (q := 47) rfl ?_
  refine o_newarr X1 (aty := .char) (cap := 2) 2 (w0 hw) d_method_4_47 (by decide) (by decide) (by decide) (by decide) (by decide) (q := 49) rfl ?_
  intro T4 h4 b4 k4 gb4 X4 E4 R4 S4 V4 g0_b4
  have V4 : Arv Z h4 b4 k4 .char (2 : Int32) [(.int (0 : Int32)), (.int (0 : Int32))] (.int (0 : Int32)) := V4
  refine o_dup X4 d_method_4_49 rfl (q := 50) rfl ?_
  refine o_iconst X4 d_method_4_50 (w := 0) rfl (q := 51) rfl ?_
  refine o_aloadN X4 d_method_4_51 rfl rfl (q := 52) rfl ?_
  refine o_iconst X4 d_method_4_52 (w := 0) rfl (q := 53) rfl ?_
  have f5 := ((Va.ext E1).ext E4)
  refine o_caload X4 f5 (by decide) (v := (.int c0)) rfl d_method_4_53 (q := 54) rfl ?_
  refine o_castore X4 0 V4 g0_b4 (Safe.arv X4.alike V4 (by decide)) (by decide) rfl (Nat.le_of_ble_eq_true rfl) (v := (.int c0)) (by rw [own_narc r0]) d_method_4_54 (q := 55) rfl ?_
  intro T6 h6 l6 X6 W6 R6 V6
  have V6 : Arv Z h6 b4 k4 .char (2 : Int32) [(.int c0), (.int (0 : Int32))] (.int (0 : Int32)) := V6
  refine o_dup X6 d_method_4_55 rfl (q := 56) rfl ?_
  refine o_iconst X6 d_method_4_56 (w := 1) rfl (q := 57) rfl ?_
  refine o_aloadN X6 d_method_4_57 rfl rfl (q := 58) rfl ?_
  refine o_iconst X6 d_method_4_58 (w := 1) rfl (q := 59) rfl ?_
  have f7 := (f5.other W6 (Nat.ne_of_lt (Nat.lt_of_lt_of_le (Va.ext E1).lt (Nat.le_of_eq gb4.symm))))
  refine o_caload X6 f7 (by decide) (v := (.int c1)) rfl d_method_4_59 (q := 60) rfl ?_
  refine o_castore X6 1 V6 g0_b4 (Safe.arv X6.alike V6 (by decide)) (by decide) rfl (Nat.le_of_ble_eq_true rfl) (v := (.int c1)) (by rw [own_narc r1]) d_method_4_60 (q := 61) rfl ?_
  intro T8 h8 l8 X8 W8 R8 V8
  have V8 : Arv Z h8 b4 k4 .char (2 : Int32) [(.int c0), (.int c1)] (.int (0 : Int32)) := V8
  have f9 := (((A1.ext E4).wr W6).wr W8)
  have f10 := (((f2.ext E4).other W6 (Or.inl (Nat.ne_of_lt (Nat.lt_of_lt_of_le A1.lt (Nat.le_of_eq gb4.symm))))).other W8 (Or.inl (Nat.ne_of_lt (Nat.lt_of_lt_of_le A1.lt (Nat.le_of_eq gb4.symm)))))
  have f11 := (((f3.ext E4).other W6 (Or.inl (Nat.ne_of_lt (Nat.lt_of_lt_of_le A1.lt (Nat.le_of_eq gb4.symm))))).other W8 (Or.inl (Nat.ne_of_lt (Nat.lt_of_lt_of_le A1.lt (Nat.le_of_eq gb4.symm)))))
  have f13 := (CHr.safe R8 (((A1.ext E4).wr W6).lt) (CHr.safe R6 ((A1.ext E4).lt) (CHr.safe R4 (A1.lt) S1)))
  refine o_spec X8 [(.ref b4)] (y' := (⟨"java/lang/String", "<init>", "([C)V"⟩ : MethodName)) (c_newS2 hw b1 b4 c0 c1 _ O2 P5 SA SH SL f9 g0_b1 f10 f11 V8 (Ne.symm (Nat.ne_of_lt (Nat.lt_of_lt_of_le A1.lt (Nat.le_of_eq gb4.symm)))) (own_all2 r0 r1)) (allS ⟨f9.lt, f13⟩ all0) rfl (w13 hw) (w14 hw) (w15 hw) (w12 hw) (by decide) d_method_4_61 (rest := [(.ref b1)]) rfl rfl (lenOf pd8 rfl) rfl (by decide) (Nat.le_of_ble_eq_true rfl) (by decide) (by decide) (q := 64) rfl ?_
  intro v12 vm12 T12 h12 l12 X12 R12 q12
  obtain ⟨rfl, K12, b12, kb12, g12, L12⟩ := q12
  show Goes p e below _ T12 (mkF m 64 #[.val (.ref ar), .val (.int (2 : Int32))] [(.ref b1)])
  have sz14 := Nat.le_trans (Keep.refl h0 []).1 (Nat.le_of_eq gb1.symm)
  have k15 := Keep.ext (Keep.refl h0 []) E1
  have sz16 := Nat.le_trans k15.1 (Nat.le_of_eq gb4.symm)
  have k17 := Keep.ext k15 E4
  have k18 := Keep.wr k17 W6 (Or.inr sz16)
  have k19 := Keep.wr k18 W8 (Or.inr sz16)
  have k20 := Keep.trans k19 K12 (allS (Or.inr sz14) all0)
  exact o_retR X12 d_method_4_64 rfl rfl rfl (fun Sf hSf => ⟨b1, b12, kb12, rfl, k20, L12⟩) (by decide) (by decide)
set_option maxRecDepth 65536 in
set_option maxHeartbeats 40000000 in
theorem c_mk3 {l : Launch} {Z : State} {a0 : Array Value} (hw : W a0 Z) (ar : Addr) (c0 c1 c2 : Int32) (h0 : Heap) {zc : Int32} (O2 : Sta Z Z.heap "java/lang/String" "COMPACT_STRINGS" "Z" (.int zc)) (P5 : ¬ zc = 0) (SA : Sta Z Z.heap "java/lang/StringUTF16" "$assertionsDisabled" "Z" (.int (1 : Int32))) (SH : Sta Z Z.heap "java/lang/StringUTF16" "HI_BYTE_SHIFT" "I" (.int (0 : Int32))) (SL : Sta Z Z.heap "java/lang/StringUTF16" "LO_BYTE_SHIFT" "I" (.int (8 : Int32))) {ka : ClassId} (Va : Arv Z h0 ar ka .char (3 : Int32) [(.int c0), (.int c1), (.int c2)] (.int (0 : Int32))) (r0 : Rg c0) (r1 : Rg c1) (r2 : Rg c2) :
    Con l Z EL0 (⟨"com/example/refinement/refinement/io/CodePointOrderComparePinLaw", "make", "([CI)Ljava/lang/String;"⟩ : MethodName) method_4_code 2 (some (.object "java/lang/String")) ({ frames := 6, cells := 6, slots := 16, locals := 88 } : Room) #[(.ref ar), (.int (3 : Int32))] h0 [] (fun v h' Sf => ∃ (r b : Addr) (kb : ClassId), v = some (.ref r) ∧ Keep h0 h' [] ∧ US Z h' r b kb [c0, c1, c2]) := by
  have hpn : plainName "com/example/refinement/refinement/io/CodePointOrderComparePinLaw" = true := by first | (simp [plainName, overriddenIn]; done) | decide +kernel
  refine Con.intro (plainFor_of_name hpn) ?_
  intro p e s m below meth c T X hss
  refine Goes.cast (g' := mkF m 0 #[.val (.ref ar), .val (.int (3 : Int32))] []) (by first | (simp [entryFrame, mkF, argsToLocals, Value.category]; done) | rfl) ?_
  refine o_iloadN X d_method_4_0 rfl (q := 1) rfl ?_
  refine o_ifY X d_method_4_1 (by decide) (by decide) (q := 15) (by decide) ?_
  refine o_iloadN X d_method_4_15 rfl (q := 16) rfl ?_
  refine o_iconst X d_method_4_16 (w := 1) rfl (q := 17) rfl ?_
  refine o_icmpY X d_method_4_17 (by decide) (by decide) (q := 37) (by decide) ?_
  refine o_iloadN X d_method_4_37 rfl (q := 38) rfl ?_
  refine o_iconst X d_method_4_38 (w := 2) rfl (q := 39) rfl ?_
  refine o_icmpY X d_method_4_39 (by decide) (by decide) (q := 65) (by decide) ?_
  refine o_new X (w10 hw) (w11 hw) (w12 hw) d_method_4_65 (by decide) (by decide) (q := 68) rfl ?_
  intro T1 h1 b1 gb1 X1 E1 R1 S1 A1 D1 g0_b1
  have f2 : Fld Z h1 b1 "java/lang/String" "value" "[B" .null := D1 (Or.inr (w25 hw)) (ty := (.array .byte)) (by decide)
  have f3 : Fld Z h1 b1 "java/lang/String" "coder" "B" (.int (0 : Int32)) := D1 (Or.inr (w26 hw)) (ty := .byte) (by decide)
  refine o_dup X1 d_method_4_68 rfl (q := 69) rfl ?_
  refine o_iconst X1 d_method_4_69 (w := 3) rfl (q := 70) rfl ?_
  refine o_newarr X1 (aty := .char) (cap := 3) 3 (w0 hw) d_method_4_70 (by decide) (by decide) (by decide) (by decide) (by decide) (q := 72) rfl ?_
  intro T4 h4 b4 k4 gb4 X4 E4 R4 S4 V4 g0_b4
  have V4 : Arv Z h4 b4 k4 .char (3 : Int32) [(.int (0 : Int32)), (.int (0 : Int32)), (.int (0 : Int32))] (.int (0 : Int32)) := V4
  refine o_dup X4 d_method_4_72 rfl (q := 73) rfl ?_
  refine o_iconst X4 d_method_4_73 (w := 0) rfl (q := 74) rfl ?_
  refine o_aloadN X4 d_method_4_74 rfl rfl (q := 75) rfl ?_
  refine o_iconst X4 d_method_4_75 (w := 0) rfl (q := 76) rfl ?_
  have f5 := ((Va.ext E1).ext E4)
  refine o_caload X4 f5 (by decide) (v := (.int c0)) rfl d_method_4_76 (q := 77) rfl ?_
  refine o_castore X4 0 V4 g0_b4 (Safe.arv X4.alike V4 (by decide)) (by decide) rfl (Nat.le_of_ble_eq_true rfl) (v := (.int c0)) (by rw [own_narc r0]) d_method_4_77 (q := 78) rfl ?_
  intro T6 h6 l6 X6 W6 R6 V6
  have V6 : Arv Z h6 b4 k4 .char (3 : Int32) [(.int c0), (.int (0 : Int32)), (.int (0 : Int32))] (.int (0 : Int32)) := V6
  refine o_dup X6 d_method_4_78 rfl (q := 79) rfl ?_
  refine o_iconst X6 d_method_4_79 (w := 1) rfl (q := 80) rfl ?_
  refine o_aloadN X6 d_method_4_80 rfl rfl (q := 81) rfl ?_
  refine o_iconst X6 d_method_4_81 (w := 1) rfl (q := 82) rfl ?_
  have f7 := (f5.other W6 (Nat.ne_of_lt (Nat.lt_of_lt_of_le (Va.ext E1).lt (Nat.le_of_eq gb4.symm))))
  refine o_caload X6 f7 (by decide) (v := (.int c1)) rfl d_method_4_82 (q := 83) rfl ?_
  refine o_castore X6 1 V6 g0_b4 (Safe.arv X6.alike V6 (by decide)) (by decide) rfl (Nat.le_of_ble_eq_true rfl) (v := (.int c1)) (by rw [own_narc r1]) d_method_4_83 (q := 84) rfl ?_
  intro T8 h8 l8 X8 W8 R8 V8
  have V8 : Arv Z h8 b4 k4 .char (3 : Int32) [(.int c0), (.int c1), (.int (0 : Int32))] (.int (0 : Int32)) := V8
  refine o_dup X8 d_method_4_84 rfl (q := 85) rfl ?_
  refine o_iconst X8 d_method_4_85 (w := 2) rfl (q := 86) rfl ?_
  refine o_aloadN X8 d_method_4_86 rfl rfl (q := 87) rfl ?_
  refine o_iconst X8 d_method_4_87 (w := 2) rfl (q := 88) rfl ?_
  have f9 := (f7.other W8 (Nat.ne_of_lt (Nat.lt_of_lt_of_le (Va.ext E1).lt (Nat.le_of_eq gb4.symm))))
  refine o_caload X8 f9 (by decide) (v := (.int c2)) rfl d_method_4_88 (q := 89) rfl ?_
  refine o_castore X8 2 V8 g0_b4 (Safe.arv X8.alike V8 (by decide)) (by decide) rfl (Nat.le_of_ble_eq_true rfl) (v := (.int c2)) (by rw [own_narc r2]) d_method_4_89 (q := 90) rfl ?_
  intro T10 h10 l10 X10 W10 R10 V10
  have V10 : Arv Z h10 b4 k4 .char (3 : Int32) [(.int c0), (.int c1), (.int c2)] (.int (0 : Int32)) := V10
  have f11 := ((((A1.ext E4).wr W6).wr W8).wr W10)
  have f12 := ((((f2.ext E4).other W6 (Or.inl (Nat.ne_of_lt (Nat.lt_of_lt_of_le A1.lt (Nat.le_of_eq gb4.symm))))).other W8 (Or.inl (Nat.ne_of_lt (Nat.lt_of_lt_of_le A1.lt (Nat.le_of_eq gb4.symm))))).other W10 (Or.inl (Nat.ne_of_lt (Nat.lt_of_lt_of_le A1.lt (Nat.le_of_eq gb4.symm)))))
  have f13 := ((((f3.ext E4).other W6 (Or.inl (Nat.ne_of_lt (Nat.lt_of_lt_of_le A1.lt (Nat.le_of_eq gb4.symm))))).other W8 (Or.inl (Nat.ne_of_lt (Nat.lt_of_lt_of_le A1.lt (Nat.le_of_eq gb4.symm))))).other W10 (Or.inl (Nat.ne_of_lt (Nat.lt_of_lt_of_le A1.lt (Nat.le_of_eq gb4.symm)))))
  have f15 := (CHr.safe R10 ((((A1.ext E4).wr W6).wr W8).lt) (CHr.safe R8 (((A1.ext E4).wr W6).lt) (CHr.safe R6 ((A1.ext E4).lt) (CHr.safe R4 (A1.lt) S1))))
  refine o_spec X10 [(.ref b4)] (y' := (⟨"java/lang/String", "<init>", "([C)V"⟩ : MethodName)) (c_newS3 hw b1 b4 c0 c1 c2 _ O2 P5 SA SH SL f11 g0_b1 f12 f13 V10 (Ne.symm (Nat.ne_of_lt (Nat.lt_of_lt_of_le A1.lt (Nat.le_of_eq gb4.symm)))) (own_all3 r0 r1 r2)) (allS ⟨f11.lt, f15⟩ all0) rfl (w13 hw) (w14 hw) (w15 hw) (w12 hw) (by decide) d_method_4_90 (rest := [(.ref b1)]) rfl rfl (lenOf pd8 rfl) rfl (by decide) (Nat.le_of_ble_eq_true rfl) (by decide) (by decide) (q := 93) rfl ?_
  intro v14 vm14 T14 h14 l14 X14 R14 q14
  obtain ⟨rfl, K14, b14, kb14, g14, L14⟩ := q14
  show Goes p e below _ T14 (mkF m 93 #[.val (.ref ar), .val (.int (3 : Int32))] [(.ref b1)])
  have sz16 := Nat.le_trans (Keep.refl h0 []).1 (Nat.le_of_eq gb1.symm)
  have k17 := Keep.ext (Keep.refl h0 []) E1
  have sz18 := Nat.le_trans k17.1 (Nat.le_of_eq gb4.symm)
  have k19 := Keep.ext k17 E4
  have k20 := Keep.wr k19 W6 (Or.inr sz18)
  have k21 := Keep.wr k20 W8 (Or.inr sz18)
  have k22 := Keep.wr k21 W10 (Or.inr sz18)
  have k23 := Keep.trans k22 K14 (allS (Or.inr sz16) all0)
  exact o_retR X14 d_method_4_93 rfl rfl rfl (fun Sf hSf => ⟨b1, b14, kb14, rfl, k23, L14⟩) (by decide) (by decide)
theorem c_mk {l : Launch} {Z : State} {a0 : Array Value} (hw : W a0 Z) (ar : Addr) (c0 c1 c2 n : Int32) (h0 : Heap) {zc : Int32} (O2 : Sta Z Z.heap "java/lang/String" "COMPACT_STRINGS" "Z" (.int zc)) (P5 : ¬ zc = 0) (SA : Sta Z Z.heap "java/lang/StringUTF16" "$assertionsDisabled" "Z" (.int (1 : Int32))) (SH : Sta Z Z.heap "java/lang/StringUTF16" "HI_BYTE_SHIFT" "I" (.int (0 : Int32))) (SL : Sta Z Z.heap "java/lang/StringUTF16" "LO_BYTE_SHIFT" "I" (.int (8 : Int32))) {ka : ClassId} (Va : Arv Z h0 ar ka .char (3 : Int32) [(.int c0), (.int c1), (.int c2)] (.int (0 : Int32))) (r0 : Rg c0) (r1 : Rg c1) (r2 : Rg c2) (hn : n = 0 ∨ n = 1 ∨ n = 2 ∨ n = 3) :
    Con l Z EL0 (⟨"com/example/refinement/refinement/io/CodePointOrderComparePinLaw", "make", "([CI)Ljava/lang/String;"⟩ : MethodName) method_4_code 2 (some (.object "java/lang/String")) ({ frames := 6, cells := 6, slots := 16, locals := 88 } : Room) #[(.ref ar), (.int n)] h0 [] (fun v h' Sf => ∃ (r b : Addr) (kb : ClassId), v = some (.ref r) ∧ Keep h0 h' [] ∧ US Z h' r b kb (takeC n c0 c1 c2)) := by
  rcases hn with rfl | rfl | rfl | rfl
  · exact c_mk0 hw ar c0 c1 c2 h0 O2 P5 SA SH SL Va r0 r1 r2
  · exact c_mk1 hw ar c0 c1 c2 h0 O2 P5 SA SH SL Va r0 r1 r2
  · exact c_mk2 hw ar c0 c1 c2 h0 O2 P5 SA SH SL Va r0 r1 r2
  · exact c_mk3 hw ar c0 c1 c2 h0 O2 P5 SA SH SL Va r0 r1 r2
set_option maxRecDepth 65536 in
set_option maxHeartbeats 40000000 in
theorem c_ish {l : Launch} {Z : State} {a0 : Array Value} (hw : W a0 Z) (x : Int32) (h0 : Heap)  :
    Con l Z EL0 (⟨"com/example/refinement/refinement/io/CodePointOrderComparePinLaw", "isHigh", "(C)Z"⟩ : MethodName) method_5_code 1 (some .boolean) ({ frames := 0, cells := 0, slots := 0, locals := 0 } : Room) #[(.int x)] h0 [] (fun v h' Sf => ∃ z : Int32, v = some (.int z) ∧ h' = h0 ∧ (z = 0 ↔ isHi x = false)) := by
  have hpn : plainName "com/example/refinement/refinement/io/CodePointOrderComparePinLaw" = true := by first | (simp [plainName, overriddenIn]; done) | decide +kernel
  refine Con.intro (plainFor_of_name hpn) ?_
  intro p e s m below meth c T X hss
  refine Goes.cast (g' := mkF m 0 #[.val (.int x)] []) (by first | (simp [entryFrame, mkF, argsToLocals, Value.category]; done) | rfl) ?_
  refine o_iloadN X d_method_5_0 rfl (q := 1) rfl ?_
  refine o_ldcI X (w63 hw) d_method_5_1 (q := 3) rfl ?_
  by_cases hc3 : x < (55296 : Int32)
  · refine o_icmpY X d_method_5_3 (tlt hc3).1 (by decide) (q := 16) (by decide) ?_
    refine o_iconst X d_method_5_16 (w := 0) rfl (q := 17) rfl ?_
    exact o_retN X d_method_5_17 (by simp) (fun Sf hSf => ⟨(0 : Int32), rfl, rfl, by simp [isHi, hc3]⟩) (by decide) (by decide)
  · refine o_icmpN X d_method_5_3 (flt hc3).1 (q := 6) rfl ?_
    refine o_iloadN X d_method_5_6 rfl (q := 7) rfl ?_
    refine o_ldcI X (w96 hw) d_method_5_7 (q := 9) rfl ?_
    by_cases hc9 : (56319 : Int32) < x
    · refine o_icmpY X d_method_5_9 (tlt hc9).2.2.1 (by decide) (q := 16) (by decide) ?_
      refine o_iconst X d_method_5_16 (w := 0) rfl (q := 17) rfl ?_
      exact o_retN X d_method_5_17 (by simp) (fun Sf hSf => ⟨(0 : Int32), rfl, rfl, by rw [own_56] at hc9; simp [isHi, hc3, hc9]⟩) (by decide) (by decide)
    · refine o_icmpN X d_method_5_9 (flt hc9).2.2.1 (q := 12) rfl ?_
      refine o_iconst X d_method_5_12 (w := 1) rfl (q := 13) rfl ?_
      refine o_goto X d_method_5_13 (by decide) (q := 17) (by decide) ?_
      exact o_retN X d_method_5_17 (by simp) (fun Sf hSf => ⟨(1 : Int32), rfl, rfl, by rw [own_56] at hc9; simp [isHi, hc3, hc9]⟩) (by decide) (by decide)
set_option maxRecDepth 65536 in
set_option maxHeartbeats 40000000 in
theorem c_isl {l : Launch} {Z : State} {a0 : Array Value} (hw : W a0 Z) (x : Int32) (h0 : Heap)  :
    Con l Z EL0 (⟨"com/example/refinement/refinement/io/CodePointOrderComparePinLaw", "isLow", "(C)Z"⟩ : MethodName) method_6_code 1 (some .boolean) ({ frames := 0, cells := 0, slots := 0, locals := 0 } : Room) #[(.int x)] h0 [] (fun v h' Sf => ∃ z : Int32, v = some (.int z) ∧ h' = h0 ∧ (z = 0 ↔ isLo x = false)) := by
  have hpn : plainName "com/example/refinement/refinement/io/CodePointOrderComparePinLaw" = true := by first | (simp [plainName, overriddenIn]; done) | decide +kernel
  refine Con.intro (plainFor_of_name hpn) ?_
  intro p e s m below meth c T X hss
  refine Goes.cast (g' := mkF m 0 #[.val (.int x)] []) (by first | (simp [entryFrame, mkF, argsToLocals, Value.category]; done) | rfl) ?_
  refine o_iloadN X d_method_6_0 rfl (q := 1) rfl ?_
  refine o_ldcI X (w100 hw) d_method_6_1 (q := 3) rfl ?_
  by_cases hc3 : x < (56320 : Int32)
  · refine o_icmpY X d_method_6_3 (tlt hc3).1 (by decide) (q := 16) (by decide) ?_
    refine o_iconst X d_method_6_16 (w := 0) rfl (q := 17) rfl ?_
    exact o_retN X d_method_6_17 (by simp) (fun Sf hSf => ⟨(0 : Int32), rfl, rfl, by simp [isLo, hc3]⟩) (by decide) (by decide)
  · refine o_icmpN X d_method_6_3 (flt hc3).1 (q := 6) rfl ?_
    refine o_iloadN X d_method_6_6 rfl (q := 7) rfl ?_
    refine o_ldcI X (w101 hw) d_method_6_7 (q := 9) rfl ?_
    by_cases hc9 : (57343 : Int32) < x
    · refine o_icmpY X d_method_6_9 (tlt hc9).2.2.1 (by decide) (q := 16) (by decide) ?_
      refine o_iconst X d_method_6_16 (w := 0) rfl (q := 17) rfl ?_
      exact o_retN X d_method_6_17 (by simp) (fun Sf hSf => ⟨(0 : Int32), rfl, rfl, by rw [own_57] at hc9; simp [isLo, hc3, hc9]⟩) (by decide) (by decide)
    · refine o_icmpN X d_method_6_9 (flt hc9).2.2.1 (q := 12) rfl ?_
      refine o_iconst X d_method_6_12 (w := 1) rfl (q := 13) rfl ?_
      refine o_goto X d_method_6_13 (by decide) (q := 17) (by decide) ?_
      exact o_retN X d_method_6_17 (by simp) (fun Sf hSf => ⟨(1 : Int32), rfl, rfl, by rw [own_57] at hc9; simp [isLo, hc3, hc9]⟩) (by decide) (by decide)
set_option maxRecDepth 65536 in
set_option maxHeartbeats 40000000 in
theorem c_isHS {l : Launch} {Z : State} {a0 : Array Value} (hw : W a0 Z) (x : Int32) (h0 : Heap)  :
    Con l Z EL0 (⟨"java/lang/Character", "isHighSurrogate", "(C)Z"⟩ : MethodName) jdk_89_method_14_code 1 (some .boolean) ({ frames := 0, cells := 0, slots := 0, locals := 0 } : Room) #[(.int x)] h0 [] (fun v h' Sf => ∃ z : Int32, v = some (.int z) ∧ h' = h0 ∧ (z = 0 ↔ isHi x = false)) := by
  have hpn : plainName "java/lang/Character" = true := by first | (simp [plainName, overriddenIn]; done) | decide +kernel
  refine Con.intro (plainFor_of_name hpn) ?_
  intro p e s m below meth c T X hss
  refine Goes.cast (g' := mkF m 0 #[.val (.int x)] []) (by first | (simp [entryFrame, mkF, argsToLocals, Value.category]; done) | rfl) ?_
  refine o_iloadN X d_jdk_89_method_14_0 rfl (q := 1) rfl ?_
  refine o_ldcI X (w131 hw) d_jdk_89_method_14_1 (q := 3) rfl ?_
  by_cases hc3 : x < (55296 : Int32)
  · refine o_icmpY X d_jdk_89_method_14_3 (tlt hc3).1 (by decide) (q := 16) (by decide) ?_
    refine o_iconst X d_jdk_89_method_14_16 (w := 0) rfl (q := 17) rfl ?_
    exact o_retN X d_jdk_89_method_14_17 (by simp) (fun Sf hSf => ⟨(0 : Int32), rfl, rfl, by simp [isHi, hc3]⟩) (by decide) (by decide)
  · refine o_icmpN X d_jdk_89_method_14_3 (flt hc3).1 (q := 6) rfl ?_
    refine o_iloadN X d_jdk_89_method_14_6 rfl (q := 7) rfl ?_
    refine o_ldcI X (w132 hw) d_jdk_89_method_14_7 (q := 9) rfl ?_
    by_cases hc9 : x < (56320 : Int32)
    · refine o_icmpN X d_jdk_89_method_14_9 (tlt hc9).2.1 (q := 12) rfl ?_
      refine o_iconst X d_jdk_89_method_14_12 (w := 1) rfl (q := 13) rfl ?_
      refine o_goto X d_jdk_89_method_14_13 (by decide) (q := 17) (by decide) ?_
      exact o_retN X d_jdk_89_method_14_17 (by simp) (fun Sf hSf => ⟨(1 : Int32), rfl, rfl, by simp [isHi, hc3, hc9]⟩) (by decide) (by decide)
    · refine o_icmpY X d_jdk_89_method_14_9 (flt hc9).2.1 (by decide) (q := 16) (by decide) ?_
      refine o_iconst X d_jdk_89_method_14_16 (w := 0) rfl (q := 17) rfl ?_
      exact o_retN X d_jdk_89_method_14_17 (by simp) (fun Sf hSf => ⟨(0 : Int32), rfl, rfl, by simp [isHi, hc3, hc9]⟩) (by decide) (by decide)
set_option maxRecDepth 65536 in
set_option maxHeartbeats 40000000 in
theorem c_isLS {l : Launch} {Z : State} {a0 : Array Value} (hw : W a0 Z) (x : Int32) (h0 : Heap)  :
    Con l Z EL0 (⟨"java/lang/Character", "isLowSurrogate", "(C)Z"⟩ : MethodName) jdk_89_method_15_code 1 (some .boolean) ({ frames := 0, cells := 0, slots := 0, locals := 0 } : Room) #[(.int x)] h0 [] (fun v h' Sf => ∃ z : Int32, v = some (.int z) ∧ h' = h0 ∧ (z = 0 ↔ isLo x = false)) := by
  have hpn : plainName "java/lang/Character" = true := by first | (simp [plainName, overriddenIn]; done) | decide +kernel
  refine Con.intro (plainFor_of_name hpn) ?_
  intro p e s m below meth c T X hss
  refine Goes.cast (g' := mkF m 0 #[.val (.int x)] []) (by first | (simp [entryFrame, mkF, argsToLocals, Value.category]; done) | rfl) ?_
  refine o_iloadN X d_jdk_89_method_15_0 rfl (q := 1) rfl ?_
  refine o_ldcI X (w132 hw) d_jdk_89_method_15_1 (q := 3) rfl ?_
  by_cases hc3 : x < (56320 : Int32)
  · refine o_icmpY X d_jdk_89_method_15_3 (tlt hc3).1 (by decide) (q := 16) (by decide) ?_
    refine o_iconst X d_jdk_89_method_15_16 (w := 0) rfl (q := 17) rfl ?_
    exact o_retN X d_jdk_89_method_15_17 (by simp) (fun Sf hSf => ⟨(0 : Int32), rfl, rfl, by simp [isLo, hc3]⟩) (by decide) (by decide)
  · refine o_icmpN X d_jdk_89_method_15_3 (flt hc3).1 (q := 6) rfl ?_
    refine o_iloadN X d_jdk_89_method_15_6 rfl (q := 7) rfl ?_
    refine o_ldcI X (w140 hw) d_jdk_89_method_15_7 (q := 9) rfl ?_
    by_cases hc9 : x < (57344 : Int32)
    · refine o_icmpN X d_jdk_89_method_15_9 (tlt hc9).2.1 (q := 12) rfl ?_
      refine o_iconst X d_jdk_89_method_15_12 (w := 1) rfl (q := 13) rfl ?_
      refine o_goto X d_jdk_89_method_15_13 (by decide) (q := 17) (by decide) ?_
      exact o_retN X d_jdk_89_method_15_17 (by simp) (fun Sf hSf => ⟨(1 : Int32), rfl, rfl, by simp [isLo, hc3, hc9]⟩) (by decide) (by decide)
    · refine o_icmpY X d_jdk_89_method_15_9 (flt hc9).2.1 (by decide) (q := 16) (by decide) ?_
      refine o_iconst X d_jdk_89_method_15_16 (w := 0) rfl (q := 17) rfl ?_
      exact o_retN X d_jdk_89_method_15_17 (by simp) (fun Sf hSf => ⟨(0 : Int32), rfl, rfl, by simp [isLo, hc3, hc9]⟩) (by decide) (by decide)
set_option maxRecDepth 65536 in
set_option maxHeartbeats 40000000 in
theorem c_w0_0 {l : Launch} {Z : State} {a0 : Array Value} (hw : W a0 Z) (ar : Addr) (c0 c1 c2 : Int32) (h0 : Heap) {ka : ClassId} (Va : Arv Z h0 ar ka .char (3 : Int32) [(.int c0), (.int c1), (.int c2)] (.int (0 : Int32))) :
    Con l Z EL0 (⟨"com/example/refinement/refinement/io/CodePointOrderComparePinLaw", "width", "([CII)I"⟩ : MethodName) method_7_code 3 (some .int) ({ frames := 0, cells := 0, slots := 0, locals := 0 } : Room) #[(.ref ar), (.int (0 : Int32)), (.int (0 : Int32))] h0 [] (fun v h' Sf => v = some (.int (0 : Int32)) ∧ h' = h0) := by
  have hpn : plainName "com/example/refinement/refinement/io/CodePointOrderComparePinLaw" = true := by first | (simp [plainName, overriddenIn]; done) | decide +kernel
  refine Con.intro (plainFor_of_name hpn) ?_
  intro p e s m below meth c T X hss
  refine Goes.cast (g' := mkF m 0 #[.val (.ref ar), .val (.int (0 : Int32)), .val (.int (0 : Int32))] []) (by first | (simp [entryFrame, mkF, argsToLocals, Value.category]; done) | rfl) ?_
  refine o_iloadN X d_method_7_0 rfl (q := 1) rfl ?_
  refine o_iloadN X d_method_7_1 rfl (q := 2) rfl ?_
  refine o_icmpN X d_method_7_2 (by decide) (q := 5) rfl ?_
  refine o_iconst X d_method_7_5 (w := 0) rfl (q := 6) rfl ?_
  exact o_retI X d_method_7_6 (fun Sf hSf => ⟨rfl, rfl⟩) (by decide) (by decide)
set_option maxRecDepth 65536 in
set_option maxHeartbeats 40000000 in
theorem c_w1_0 {l : Launch} {Z : State} {a0 : Array Value} (hw : W a0 Z) (ar : Addr) (c0 c1 c2 : Int32) (h0 : Heap) {ka : ClassId} (Va : Arv Z h0 ar ka .char (3 : Int32) [(.int c0), (.int c1), (.int c2)] (.int (0 : Int32))) :
    Con l Z EL0 (⟨"com/example/refinement/refinement/io/CodePointOrderComparePinLaw", "width", "([CII)I"⟩ : MethodName) method_7_code 3 (some .int) ({ frames := 0, cells := 0, slots := 0, locals := 0 } : Room) #[(.ref ar), (.int (1 : Int32)), (.int (0 : Int32))] h0 [] (fun v h' Sf => v = some (.int (1 : Int32)) ∧ h' = h0) := by
  have hpn : plainName "com/example/refinement/refinement/io/CodePointOrderComparePinLaw" = true := by first | (simp [plainName, overriddenIn]; done) | decide +kernel
  refine Con.intro (plainFor_of_name hpn) ?_
  intro p e s m below meth c T X hss
  refine Goes.cast (g' := mkF m 0 #[.val (.ref ar), .val (.int (1 : Int32)), .val (.int (0 : Int32))] []) (by first | (simp [entryFrame, mkF, argsToLocals, Value.category]; done) | rfl) ?_
  refine o_iloadN X d_method_7_0 rfl (q := 1) rfl ?_
  refine o_iloadN X d_method_7_1 rfl (q := 2) rfl ?_
  refine o_icmpY X d_method_7_2 (by decide) (by decide) (q := 7) (by decide) ?_
  refine o_iloadN X d_method_7_7 rfl (q := 8) rfl ?_
  refine o_iconst X d_method_7_8 (w := 1) rfl (q := 9) rfl ?_
  refine o_iadd X d_method_7_9 (w := (1 : Int32)) (by decide) (q := 10) rfl ?_
  refine o_iloadN X d_method_7_10 rfl (q := 11) rfl ?_
  refine o_icmpY X d_method_7_11 (by decide) (by decide) (q := 36) (by decide) ?_
  refine o_iconst X d_method_7_36 (w := 1) rfl (q := 37) rfl ?_
  exact o_retI X d_method_7_37 (fun Sf hSf => ⟨rfl, rfl⟩) (by decide) (by decide)
set_option maxRecDepth 65536 in
set_option maxHeartbeats 40000000 in
theorem c_w1_1 {l : Launch} {Z : State} {a0 : Array Value} (hw : W a0 Z) (ar : Addr) (c0 c1 c2 : Int32) (h0 : Heap) {ka : ClassId} (Va : Arv Z h0 ar ka .char (3 : Int32) [(.int c0), (.int c1), (.int c2)] (.int (0 : Int32))) :
    Con l Z EL0 (⟨"com/example/refinement/refinement/io/CodePointOrderComparePinLaw", "width", "([CII)I"⟩ : MethodName) method_7_code 3 (some .int) ({ frames := 0, cells := 0, slots := 0, locals := 0 } : Room) #[(.ref ar), (.int (1 : Int32)), (.int (1 : Int32))] h0 [] (fun v h' Sf => v = some (.int (0 : Int32)) ∧ h' = h0) := by
  have hpn : plainName "com/example/refinement/refinement/io/CodePointOrderComparePinLaw" = true := by first | (simp [plainName, overriddenIn]; done) | decide +kernel
  refine Con.intro (plainFor_of_name hpn) ?_
  intro p e s m below meth c T X hss
  refine Goes.cast (g' := mkF m 0 #[.val (.ref ar), .val (.int (1 : Int32)), .val (.int (1 : Int32))] []) (by first | (simp [entryFrame, mkF, argsToLocals, Value.category]; done) | rfl) ?_
  refine o_iloadN X d_method_7_0 rfl (q := 1) rfl ?_
  refine o_iloadN X d_method_7_1 rfl (q := 2) rfl ?_
  refine o_icmpN X d_method_7_2 (by decide) (q := 5) rfl ?_
  refine o_iconst X d_method_7_5 (w := 0) rfl (q := 6) rfl ?_
  exact o_retI X d_method_7_6 (fun Sf hSf => ⟨rfl, rfl⟩) (by decide) (by decide)
set_option maxRecDepth 65536 in
set_option maxHeartbeats 40000000 in
theorem c_w2_0y {l : Launch} {Z : State} {a0 : Array Value} (hw : W a0 Z) (ar : Addr) (c0 c1 c2 : Int32) (h0 : Heap) {ka : ClassId} (Va : Arv Z h0 ar ka .char (3 : Int32) [(.int c0), (.int c1), (.int c2)] (.int (0 : Int32))) (hp0 : (isHi c0 && isLo c1) = true) :
    Con l Z EL0 (⟨"com/example/refinement/refinement/io/CodePointOrderComparePinLaw", "width", "([CII)I"⟩ : MethodName) method_7_code 3 (some .int) ({ frames := 1, cells := 0, slots := 0, locals := 12 } : Room) #[(.ref ar), (.int (2 : Int32)), (.int (0 : Int32))] h0 [] (fun v h' Sf => v = some (.int (2 : Int32)) ∧ h' = h0) := by
  have hpn : plainName "com/example/refinement/refinement/io/CodePointOrderComparePinLaw" = true := by first | (simp [plainName, overriddenIn]; done) | decide +kernel
  refine Con.intro (plainFor_of_name hpn) ?_
  intro p e s m below meth c T X hss
  refine Goes.cast (g' := mkF m 0 #[.val (.ref ar), .val (.int (2 : Int32)), .val (.int (0 : Int32))] []) (by first | (simp [entryFrame, mkF, argsToLocals, Value.category]; done) | rfl) ?_
  refine o_iloadN X d_method_7_0 rfl (q := 1) rfl ?_
  refine o_iloadN X d_method_7_1 rfl (q := 2) rfl ?_
  refine o_icmpY X d_method_7_2 (by decide) (by decide) (q := 7) (by decide) ?_
  refine o_iloadN X d_method_7_7 rfl (q := 8) rfl ?_
  refine o_iconst X d_method_7_8 (w := 1) rfl (q := 9) rfl ?_
  refine o_iadd X d_method_7_9 (w := (1 : Int32)) (by decide) (q := 10) rfl ?_
  refine o_iloadN X d_method_7_10 rfl (q := 11) rfl ?_
  refine o_icmpN X d_method_7_11 (by decide) (q := 14) rfl ?_
  refine o_aloadN X d_method_7_14 rfl rfl (q := 15) rfl ?_
  refine o_iloadN X d_method_7_15 rfl (q := 16) rfl ?_
  refine o_caload X Va (by decide) (v := (.int c0)) rfl d_method_7_16 (q := 17) rfl ?_
  refine o_stat X [(.int c0)] (y' := (⟨"com/example/refinement/refinement/io/CodePointOrderComparePinLaw", "isHigh", "(C)Z"⟩ : MethodName)) (c_ish hw c0 _) all0 (w93 hw) (w94 hw) (w3 hw) (w95 hw) (by decide) d_method_7_17 (rest := []) rfl rfl (lenOf pd9 rfl) rfl (by decide) (Nat.le_of_ble_eq_true rfl) (by decide) (by decide) (q := 20) rfl ?_
  intro v1 vm1 T1 h1 l1 X1 R1 q1
  obtain ⟨z1, rfl, e1, hz1⟩ := q1
  have e1 := e1.symm
  subst e1
  show Goes p e below _ T1 (mkF m 20 #[.val (.ref ar), .val (.int (2 : Int32)), .val (.int (0 : Int32))] [(.int z1)])
  refine o_ifN X1 d_method_7_20 (feq (own_nz hz1 ((Bool.and_eq_true _ _).mp hp0).1)).1 (q := 23) rfl ?_
  refine o_aloadN X1 d_method_7_23 rfl rfl (q := 24) rfl ?_
  refine o_iloadN X1 d_method_7_24 rfl (q := 25) rfl ?_
  refine o_iconst X1 d_method_7_25 (w := 1) rfl (q := 26) rfl ?_
  refine o_iadd X1 d_method_7_26 (w := (1 : Int32)) (by decide) (q := 27) rfl ?_
  have f2 := Va
  refine o_caload X1 f2 (by decide) (v := (.int c1)) rfl d_method_7_27 (q := 28) rfl ?_
  refine o_stat X1 [(.int c1)] (y' := (⟨"com/example/refinement/refinement/io/CodePointOrderComparePinLaw", "isLow", "(C)Z"⟩ : MethodName)) (c_isl hw c1 _) all0 (w97 hw) (w98 hw) (w3 hw) (w99 hw) (by decide) d_method_7_28 (rest := []) rfl rfl (lenOf pd9 rfl) rfl (by decide) (Nat.le_of_ble_eq_true rfl) (by decide) (by decide) (q := 31) rfl ?_
  intro v3 vm3 T3 h3 l3 X3 R3 q3
  obtain ⟨z3, rfl, e3, hz3⟩ := q3
  have e3 := e3.symm
  subst e3
  show Goes p e below _ T3 (mkF m 31 #[.val (.ref ar), .val (.int (2 : Int32)), .val (.int (0 : Int32))] [(.int z3)])
  refine o_ifN X3 d_method_7_31 (feq (own_nz hz3 ((Bool.and_eq_true _ _).mp hp0).2)).1 (q := 34) rfl ?_
  refine o_iconst X3 d_method_7_34 (w := 2) rfl (q := 35) rfl ?_
  exact o_retI X3 d_method_7_35 (fun Sf hSf => ⟨rfl, rfl⟩) (by decide) (by decide)
set_option maxRecDepth 65536 in
set_option maxHeartbeats 40000000 in
theorem c_w2_0n {l : Launch} {Z : State} {a0 : Array Value} (hw : W a0 Z) (ar : Addr) (c0 c1 c2 : Int32) (h0 : Heap) {ka : ClassId} (Va : Arv Z h0 ar ka .char (3 : Int32) [(.int c0), (.int c1), (.int c2)] (.int (0 : Int32))) (hp0 : ¬ (isHi c0 && isLo c1) = true) :
    Con l Z EL0 (⟨"com/example/refinement/refinement/io/CodePointOrderComparePinLaw", "width", "([CII)I"⟩ : MethodName) method_7_code 3 (some .int) ({ frames := 1, cells := 0, slots := 0, locals := 12 } : Room) #[(.ref ar), (.int (2 : Int32)), (.int (0 : Int32))] h0 [] (fun v h' Sf => v = some (.int (1 : Int32)) ∧ h' = h0) := by
  have hpn : plainName "com/example/refinement/refinement/io/CodePointOrderComparePinLaw" = true := by first | (simp [plainName, overriddenIn]; done) | decide +kernel
  refine Con.intro (plainFor_of_name hpn) ?_
  intro p e s m below meth c T X hss
  refine Goes.cast (g' := mkF m 0 #[.val (.ref ar), .val (.int (2 : Int32)), .val (.int (0 : Int32))] []) (by first | (simp [entryFrame, mkF, argsToLocals, Value.category]; done) | rfl) ?_
  refine o_iloadN X d_method_7_0 rfl (q := 1) rfl ?_
  refine o_iloadN X d_method_7_1 rfl (q := 2) rfl ?_
  refine o_icmpY X d_method_7_2 (by decide) (by decide) (q := 7) (by decide) ?_
  refine o_iloadN X d_method_7_7 rfl (q := 8) rfl ?_
  refine o_iconst X d_method_7_8 (w := 1) rfl (q := 9) rfl ?_
  refine o_iadd X d_method_7_9 (w := (1 : Int32)) (by decide) (q := 10) rfl ?_
  refine o_iloadN X d_method_7_10 rfl (q := 11) rfl ?_
  refine o_icmpN X d_method_7_11 (by decide) (q := 14) rfl ?_
  refine o_aloadN X d_method_7_14 rfl rfl (q := 15) rfl ?_
  refine o_iloadN X d_method_7_15 rfl (q := 16) rfl ?_
  refine o_caload X Va (by decide) (v := (.int c0)) rfl d_method_7_16 (q := 17) rfl ?_
  refine o_stat X [(.int c0)] (y' := (⟨"com/example/refinement/refinement/io/CodePointOrderComparePinLaw", "isHigh", "(C)Z"⟩ : MethodName)) (c_ish hw c0 _) all0 (w93 hw) (w94 hw) (w3 hw) (w95 hw) (by decide) d_method_7_17 (rest := []) rfl rfl (lenOf pd9 rfl) rfl (by decide) (Nat.le_of_ble_eq_true rfl) (by decide) (by decide) (q := 20) rfl ?_
  intro v1 vm1 T1 h1 l1 X1 R1 q1
  obtain ⟨z1, rfl, e1, hz1⟩ := q1
  have e1 := e1.symm
  subst e1
  show Goes p e below _ T1 (mkF m 20 #[.val (.ref ar), .val (.int (2 : Int32)), .val (.int (0 : Int32))] [(.int z1)])
  by_cases hc20 : z1 = (0 : Int32)
  · refine o_ifY X1 d_method_7_20 (teq hc20).1 (by decide) (q := 36) (by decide) ?_
    refine o_iconst X1 d_method_7_36 (w := 1) rfl (q := 37) rfl ?_
    exact o_retI X1 d_method_7_37 (fun Sf hSf => ⟨rfl, rfl⟩) (by decide) (by decide)
  · refine o_ifN X1 d_method_7_20 (feq hc20).1 (q := 23) rfl ?_
    refine o_aloadN X1 d_method_7_23 rfl rfl (q := 24) rfl ?_
    refine o_iloadN X1 d_method_7_24 rfl (q := 25) rfl ?_
    refine o_iconst X1 d_method_7_25 (w := 1) rfl (q := 26) rfl ?_
    refine o_iadd X1 d_method_7_26 (w := (1 : Int32)) (by decide) (q := 27) rfl ?_
    have f2 := Va
    refine o_caload X1 f2 (by decide) (v := (.int c1)) rfl d_method_7_27 (q := 28) rfl ?_
    refine o_stat X1 [(.int c1)] (y' := (⟨"com/example/refinement/refinement/io/CodePointOrderComparePinLaw", "isLow", "(C)Z"⟩ : MethodName)) (c_isl hw c1 _) all0 (w97 hw) (w98 hw) (w3 hw) (w99 hw) (by decide) d_method_7_28 (rest := []) rfl rfl (lenOf pd9 rfl) rfl (by decide) (Nat.le_of_ble_eq_true rfl) (by decide) (by decide) (q := 31) rfl ?_
    intro v3 vm3 T3 h3 l3 X3 R3 q3
    obtain ⟨z3, rfl, e3, hz3⟩ := q3
    have e3 := e3.symm
    subst e3
    show Goes p e below _ T3 (mkF m 31 #[.val (.ref ar), .val (.int (2 : Int32)), .val (.int (0 : Int32))] [(.int z3)])
    refine o_ifY X3 d_method_7_31 (teq (own_z3 hz1 hc20 hz3 hp0)).1 (by decide) (q := 36) (by decide) ?_
    refine o_iconst X3 d_method_7_36 (w := 1) rfl (q := 37) rfl ?_
    exact o_retI X3 d_method_7_37 (fun Sf hSf => ⟨rfl, rfl⟩) (by decide) (by decide)
set_option maxRecDepth 65536 in
set_option maxHeartbeats 40000000 in
theorem c_w2_1 {l : Launch} {Z : State} {a0 : Array Value} (hw : W a0 Z) (ar : Addr) (c0 c1 c2 : Int32) (h0 : Heap) {ka : ClassId} (Va : Arv Z h0 ar ka .char (3 : Int32) [(.int c0), (.int c1), (.int c2)] (.int (0 : Int32))) :
    Con l Z EL0 (⟨"com/example/refinement/refinement/io/CodePointOrderComparePinLaw", "width", "([CII)I"⟩ : MethodName) method_7_code 3 (some .int) ({ frames := 0, cells := 0, slots := 0, locals := 0 } : Room) #[(.ref ar), (.int (2 : Int32)), (.int (1 : Int32))] h0 [] (fun v h' Sf => v = some (.int (1 : Int32)) ∧ h' = h0) := by
  have hpn : plainName "com/example/refinement/refinement/io/CodePointOrderComparePinLaw" = true := by first | (simp [plainName, overriddenIn]; done) | decide +kernel
  refine Con.intro (plainFor_of_name hpn) ?_
  intro p e s m below meth c T X hss
  refine Goes.cast (g' := mkF m 0 #[.val (.ref ar), .val (.int (2 : Int32)), .val (.int (1 : Int32))] []) (by first | (simp [entryFrame, mkF, argsToLocals, Value.category]; done) | rfl) ?_
  refine o_iloadN X d_method_7_0 rfl (q := 1) rfl ?_
  refine o_iloadN X d_method_7_1 rfl (q := 2) rfl ?_
  refine o_icmpY X d_method_7_2 (by decide) (by decide) (q := 7) (by decide) ?_
  refine o_iloadN X d_method_7_7 rfl (q := 8) rfl ?_
  refine o_iconst X d_method_7_8 (w := 1) rfl (q := 9) rfl ?_
  refine o_iadd X d_method_7_9 (w := (2 : Int32)) (by decide) (q := 10) rfl ?_
  refine o_iloadN X d_method_7_10 rfl (q := 11) rfl ?_
  refine o_icmpY X d_method_7_11 (by decide) (by decide) (q := 36) (by decide) ?_
  refine o_iconst X d_method_7_36 (w := 1) rfl (q := 37) rfl ?_
  exact o_retI X d_method_7_37 (fun Sf hSf => ⟨rfl, rfl⟩) (by decide) (by decide)
set_option maxRecDepth 65536 in
set_option maxHeartbeats 40000000 in
theorem c_w2_2 {l : Launch} {Z : State} {a0 : Array Value} (hw : W a0 Z) (ar : Addr) (c0 c1 c2 : Int32) (h0 : Heap) {ka : ClassId} (Va : Arv Z h0 ar ka .char (3 : Int32) [(.int c0), (.int c1), (.int c2)] (.int (0 : Int32))) :
    Con l Z EL0 (⟨"com/example/refinement/refinement/io/CodePointOrderComparePinLaw", "width", "([CII)I"⟩ : MethodName) method_7_code 3 (some .int) ({ frames := 0, cells := 0, slots := 0, locals := 0 } : Room) #[(.ref ar), (.int (2 : Int32)), (.int (2 : Int32))] h0 [] (fun v h' Sf => v = some (.int (0 : Int32)) ∧ h' = h0) := by
  have hpn : plainName "com/example/refinement/refinement/io/CodePointOrderComparePinLaw" = true := by first | (simp [plainName, overriddenIn]; done) | decide +kernel
  refine Con.intro (plainFor_of_name hpn) ?_
  intro p e s m below meth c T X hss
  refine Goes.cast (g' := mkF m 0 #[.val (.ref ar), .val (.int (2 : Int32)), .val (.int (2 : Int32))] []) (by first | (simp [entryFrame, mkF, argsToLocals, Value.category]; done) | rfl) ?_
  refine o_iloadN X d_method_7_0 rfl (q := 1) rfl ?_
  refine o_iloadN X d_method_7_1 rfl (q := 2) rfl ?_
  refine o_icmpN X d_method_7_2 (by decide) (q := 5) rfl ?_
  refine o_iconst X d_method_7_5 (w := 0) rfl (q := 6) rfl ?_
  exact o_retI X d_method_7_6 (fun Sf hSf => ⟨rfl, rfl⟩) (by decide) (by decide)
set_option maxRecDepth 65536 in
set_option maxHeartbeats 40000000 in
theorem c_w3_0y {l : Launch} {Z : State} {a0 : Array Value} (hw : W a0 Z) (ar : Addr) (c0 c1 c2 : Int32) (h0 : Heap) {ka : ClassId} (Va : Arv Z h0 ar ka .char (3 : Int32) [(.int c0), (.int c1), (.int c2)] (.int (0 : Int32))) (hp0 : (isHi c0 && isLo c1) = true) :
    Con l Z EL0 (⟨"com/example/refinement/refinement/io/CodePointOrderComparePinLaw", "width", "([CII)I"⟩ : MethodName) method_7_code 3 (some .int) ({ frames := 1, cells := 0, slots := 0, locals := 12 } : Room) #[(.ref ar), (.int (3 : Int32)), (.int (0 : Int32))] h0 [] (fun v h' Sf => v = some (.int (2 : Int32)) ∧ h' = h0) := by
  have hpn : plainName "com/example/refinement/refinement/io/CodePointOrderComparePinLaw" = true := by first | (simp [plainName, overriddenIn]; done) | decide +kernel
  refine Con.intro (plainFor_of_name hpn) ?_
  intro p e s m below meth c T X hss
  refine Goes.cast (g' := mkF m 0 #[.val (.ref ar), .val (.int (3 : Int32)), .val (.int (0 : Int32))] []) (by first | (simp [entryFrame, mkF, argsToLocals, Value.category]; done) | rfl) ?_
  refine o_iloadN X d_method_7_0 rfl (q := 1) rfl ?_
  refine o_iloadN X d_method_7_1 rfl (q := 2) rfl ?_
  refine o_icmpY X d_method_7_2 (by decide) (by decide) (q := 7) (by decide) ?_
  refine o_iloadN X d_method_7_7 rfl (q := 8) rfl ?_
  refine o_iconst X d_method_7_8 (w := 1) rfl (q := 9) rfl ?_
  refine o_iadd X d_method_7_9 (w := (1 : Int32)) (by decide) (q := 10) rfl ?_
  refine o_iloadN X d_method_7_10 rfl (q := 11) rfl ?_
  refine o_icmpN X d_method_7_11 (by decide) (q := 14) rfl ?_
  refine o_aloadN X d_method_7_14 rfl rfl (q := 15) rfl ?_
  refine o_iloadN X d_method_7_15 rfl (q := 16) rfl ?_
  refine o_caload X Va (by decide) (v := (.int c0)) rfl d_method_7_16 (q := 17) rfl ?_
  refine o_stat X [(.int c0)] (y' := (⟨"com/example/refinement/refinement/io/CodePointOrderComparePinLaw", "isHigh", "(C)Z"⟩ : MethodName)) (c_ish hw c0 _) all0 (w93 hw) (w94 hw) (w3 hw) (w95 hw) (by decide) d_method_7_17 (rest := []) rfl rfl (lenOf pd9 rfl) rfl (by decide) (Nat.le_of_ble_eq_true rfl) (by decide) (by decide) (q := 20) rfl ?_
  intro v1 vm1 T1 h1 l1 X1 R1 q1
  obtain ⟨z1, rfl, e1, hz1⟩ := q1
  have e1 := e1.symm
  subst e1
  show Goes p e below _ T1 (mkF m 20 #[.val (.ref ar), .val (.int (3 : Int32)), .val (.int (0 : Int32))] [(.int z1)])
  refine o_ifN X1 d_method_7_20 (feq (own_nz hz1 ((Bool.and_eq_true _ _).mp hp0).1)).1 (q := 23) rfl ?_
  refine o_aloadN X1 d_method_7_23 rfl rfl (q := 24) rfl ?_
  refine o_iloadN X1 d_method_7_24 rfl (q := 25) rfl ?_
  refine o_iconst X1 d_method_7_25 (w := 1) rfl (q := 26) rfl ?_
  refine o_iadd X1 d_method_7_26 (w := (1 : Int32)) (by decide) (q := 27) rfl ?_
  have f2 := Va
  refine o_caload X1 f2 (by decide) (v := (.int c1)) rfl d_method_7_27 (q := 28) rfl ?_
  refine o_stat X1 [(.int c1)] (y' := (⟨"com/example/refinement/refinement/io/CodePointOrderComparePinLaw", "isLow", "(C)Z"⟩ : MethodName)) (c_isl hw c1 _) all0 (w97 hw) (w98 hw) (w3 hw) (w99 hw) (by decide) d_method_7_28 (rest := []) rfl rfl (lenOf pd9 rfl) rfl (by decide) (Nat.le_of_ble_eq_true rfl) (by decide) (by decide) (q := 31) rfl ?_
  intro v3 vm3 T3 h3 l3 X3 R3 q3
  obtain ⟨z3, rfl, e3, hz3⟩ := q3
  have e3 := e3.symm
  subst e3
  show Goes p e below _ T3 (mkF m 31 #[.val (.ref ar), .val (.int (3 : Int32)), .val (.int (0 : Int32))] [(.int z3)])
  refine o_ifN X3 d_method_7_31 (feq (own_nz hz3 ((Bool.and_eq_true _ _).mp hp0).2)).1 (q := 34) rfl ?_
  refine o_iconst X3 d_method_7_34 (w := 2) rfl (q := 35) rfl ?_
  exact o_retI X3 d_method_7_35 (fun Sf hSf => ⟨rfl, rfl⟩) (by decide) (by decide)
set_option maxRecDepth 65536 in
set_option maxHeartbeats 40000000 in
theorem c_w3_0n {l : Launch} {Z : State} {a0 : Array Value} (hw : W a0 Z) (ar : Addr) (c0 c1 c2 : Int32) (h0 : Heap) {ka : ClassId} (Va : Arv Z h0 ar ka .char (3 : Int32) [(.int c0), (.int c1), (.int c2)] (.int (0 : Int32))) (hp0 : ¬ (isHi c0 && isLo c1) = true) :
    Con l Z EL0 (⟨"com/example/refinement/refinement/io/CodePointOrderComparePinLaw", "width", "([CII)I"⟩ : MethodName) method_7_code 3 (some .int) ({ frames := 1, cells := 0, slots := 0, locals := 12 } : Room) #[(.ref ar), (.int (3 : Int32)), (.int (0 : Int32))] h0 [] (fun v h' Sf => v = some (.int (1 : Int32)) ∧ h' = h0) := by
  have hpn : plainName "com/example/refinement/refinement/io/CodePointOrderComparePinLaw" = true := by first | (simp [plainName, overriddenIn]; done) | decide +kernel
  refine Con.intro (plainFor_of_name hpn) ?_
  intro p e s m below meth c T X hss
  refine Goes.cast (g' := mkF m 0 #[.val (.ref ar), .val (.int (3 : Int32)), .val (.int (0 : Int32))] []) (by first | (simp [entryFrame, mkF, argsToLocals, Value.category]; done) | rfl) ?_
  refine o_iloadN X d_method_7_0 rfl (q := 1) rfl ?_
  refine o_iloadN X d_method_7_1 rfl (q := 2) rfl ?_
  refine o_icmpY X d_method_7_2 (by decide) (by decide) (q := 7) (by decide) ?_
  refine o_iloadN X d_method_7_7 rfl (q := 8) rfl ?_
  refine o_iconst X d_method_7_8 (w := 1) rfl (q := 9) rfl ?_
  refine o_iadd X d_method_7_9 (w := (1 : Int32)) (by decide) (q := 10) rfl ?_
  refine o_iloadN X d_method_7_10 rfl (q := 11) rfl ?_
  refine o_icmpN X d_method_7_11 (by decide) (q := 14) rfl ?_
  refine o_aloadN X d_method_7_14 rfl rfl (q := 15) rfl ?_
  refine o_iloadN X d_method_7_15 rfl (q := 16) rfl ?_
  refine o_caload X Va (by decide) (v := (.int c0)) rfl d_method_7_16 (q := 17) rfl ?_
  refine o_stat X [(.int c0)] (y' := (⟨"com/example/refinement/refinement/io/CodePointOrderComparePinLaw", "isHigh", "(C)Z"⟩ : MethodName)) (c_ish hw c0 _) all0 (w93 hw) (w94 hw) (w3 hw) (w95 hw) (by decide) d_method_7_17 (rest := []) rfl rfl (lenOf pd9 rfl) rfl (by decide) (Nat.le_of_ble_eq_true rfl) (by decide) (by decide) (q := 20) rfl ?_
  intro v1 vm1 T1 h1 l1 X1 R1 q1
  obtain ⟨z1, rfl, e1, hz1⟩ := q1
  have e1 := e1.symm
  subst e1
  show Goes p e below _ T1 (mkF m 20 #[.val (.ref ar), .val (.int (3 : Int32)), .val (.int (0 : Int32))] [(.int z1)])
  by_cases hc20 : z1 = (0 : Int32)
  · refine o_ifY X1 d_method_7_20 (teq hc20).1 (by decide) (q := 36) (by decide) ?_
    refine o_iconst X1 d_method_7_36 (w := 1) rfl (q := 37) rfl ?_
    exact o_retI X1 d_method_7_37 (fun Sf hSf => ⟨rfl, rfl⟩) (by decide) (by decide)
  · refine o_ifN X1 d_method_7_20 (feq hc20).1 (q := 23) rfl ?_
    refine o_aloadN X1 d_method_7_23 rfl rfl (q := 24) rfl ?_
    refine o_iloadN X1 d_method_7_24 rfl (q := 25) rfl ?_
    refine o_iconst X1 d_method_7_25 (w := 1) rfl (q := 26) rfl ?_
    refine o_iadd X1 d_method_7_26 (w := (1 : Int32)) (by decide) (q := 27) rfl ?_
    have f2 := Va
    refine o_caload X1 f2 (by decide) (v := (.int c1)) rfl d_method_7_27 (q := 28) rfl ?_
    refine o_stat X1 [(.int c1)] (y' := (⟨"com/example/refinement/refinement/io/CodePointOrderComparePinLaw", "isLow", "(C)Z"⟩ : MethodName)) (c_isl hw c1 _) all0 (w97 hw) (w98 hw) (w3 hw) (w99 hw) (by decide) d_method_7_28 (rest := []) rfl rfl (lenOf pd9 rfl) rfl (by decide) (Nat.le_of_ble_eq_true rfl) (by decide) (by decide) (q := 31) rfl ?_
    intro v3 vm3 T3 h3 l3 X3 R3 q3
    obtain ⟨z3, rfl, e3, hz3⟩ := q3
    have e3 := e3.symm
    subst e3
    show Goes p e below _ T3 (mkF m 31 #[.val (.ref ar), .val (.int (3 : Int32)), .val (.int (0 : Int32))] [(.int z3)])
    refine o_ifY X3 d_method_7_31 (teq (own_z3 hz1 hc20 hz3 hp0)).1 (by decide) (q := 36) (by decide) ?_
    refine o_iconst X3 d_method_7_36 (w := 1) rfl (q := 37) rfl ?_
    exact o_retI X3 d_method_7_37 (fun Sf hSf => ⟨rfl, rfl⟩) (by decide) (by decide)
set_option maxRecDepth 65536 in
set_option maxHeartbeats 40000000 in
theorem c_w3_1y {l : Launch} {Z : State} {a0 : Array Value} (hw : W a0 Z) (ar : Addr) (c0 c1 c2 : Int32) (h0 : Heap) {ka : ClassId} (Va : Arv Z h0 ar ka .char (3 : Int32) [(.int c0), (.int c1), (.int c2)] (.int (0 : Int32))) (hp1 : (isHi c1 && isLo c2) = true) :
    Con l Z EL0 (⟨"com/example/refinement/refinement/io/CodePointOrderComparePinLaw", "width", "([CII)I"⟩ : MethodName) method_7_code 3 (some .int) ({ frames := 1, cells := 0, slots := 0, locals := 12 } : Room) #[(.ref ar), (.int (3 : Int32)), (.int (1 : Int32))] h0 [] (fun v h' Sf => v = some (.int (2 : Int32)) ∧ h' = h0) := by
  have hpn : plainName "com/example/refinement/refinement/io/CodePointOrderComparePinLaw" = true := by first | (simp [plainName, overriddenIn]; done) | decide +kernel
  refine Con.intro (plainFor_of_name hpn) ?_
  intro p e s m below meth c T X hss
  refine Goes.cast (g' := mkF m 0 #[.val (.ref ar), .val (.int (3 : Int32)), .val (.int (1 : Int32))] []) (by first | (simp [entryFrame, mkF, argsToLocals, Value.category]; done) | rfl) ?_
  refine o_iloadN X d_method_7_0 rfl (q := 1) rfl ?_
  refine o_iloadN X d_method_7_1 rfl (q := 2) rfl ?_
  refine o_icmpY X d_method_7_2 (by decide) (by decide) (q := 7) (by decide) ?_
  refine o_iloadN X d_method_7_7 rfl (q := 8) rfl ?_
  refine o_iconst X d_method_7_8 (w := 1) rfl (q := 9) rfl ?_
  refine o_iadd X d_method_7_9 (w := (2 : Int32)) (by decide) (q := 10) rfl ?_
  refine o_iloadN X d_method_7_10 rfl (q := 11) rfl ?_
  refine o_icmpN X d_method_7_11 (by decide) (q := 14) rfl ?_
  refine o_aloadN X d_method_7_14 rfl rfl (q := 15) rfl ?_
  refine o_iloadN X d_method_7_15 rfl (q := 16) rfl ?_
  refine o_caload X Va (by decide) (v := (.int c1)) rfl d_method_7_16 (q := 17) rfl ?_
  refine o_stat X [(.int c1)] (y' := (⟨"com/example/refinement/refinement/io/CodePointOrderComparePinLaw", "isHigh", "(C)Z"⟩ : MethodName)) (c_ish hw c1 _) all0 (w93 hw) (w94 hw) (w3 hw) (w95 hw) (by decide) d_method_7_17 (rest := []) rfl rfl (lenOf pd9 rfl) rfl (by decide) (Nat.le_of_ble_eq_true rfl) (by decide) (by decide) (q := 20) rfl ?_
  intro v1 vm1 T1 h1 l1 X1 R1 q1
  obtain ⟨z1, rfl, e1, hz1⟩ := q1
  have e1 := e1.symm
  subst e1
  show Goes p e below _ T1 (mkF m 20 #[.val (.ref ar), .val (.int (3 : Int32)), .val (.int (1 : Int32))] [(.int z1)])
  refine o_ifN X1 d_method_7_20 (feq (own_nz hz1 ((Bool.and_eq_true _ _).mp hp1).1)).1 (q := 23) rfl ?_
  refine o_aloadN X1 d_method_7_23 rfl rfl (q := 24) rfl ?_
  refine o_iloadN X1 d_method_7_24 rfl (q := 25) rfl ?_
  refine o_iconst X1 d_method_7_25 (w := 1) rfl (q := 26) rfl ?_
  refine o_iadd X1 d_method_7_26 (w := (2 : Int32)) (by decide) (q := 27) rfl ?_
  have f2 := Va
  refine o_caload X1 f2 (by decide) (v := (.int c2)) rfl d_method_7_27 (q := 28) rfl ?_
  refine o_stat X1 [(.int c2)] (y' := (⟨"com/example/refinement/refinement/io/CodePointOrderComparePinLaw", "isLow", "(C)Z"⟩ : MethodName)) (c_isl hw c2 _) all0 (w97 hw) (w98 hw) (w3 hw) (w99 hw) (by decide) d_method_7_28 (rest := []) rfl rfl (lenOf pd9 rfl) rfl (by decide) (Nat.le_of_ble_eq_true rfl) (by decide) (by decide) (q := 31) rfl ?_
  intro v3 vm3 T3 h3 l3 X3 R3 q3
  obtain ⟨z3, rfl, e3, hz3⟩ := q3
  have e3 := e3.symm
  subst e3
  show Goes p e below _ T3 (mkF m 31 #[.val (.ref ar), .val (.int (3 : Int32)), .val (.int (1 : Int32))] [(.int z3)])
  refine o_ifN X3 d_method_7_31 (feq (own_nz hz3 ((Bool.and_eq_true _ _).mp hp1).2)).1 (q := 34) rfl ?_
  refine o_iconst X3 d_method_7_34 (w := 2) rfl (q := 35) rfl ?_
  exact o_retI X3 d_method_7_35 (fun Sf hSf => ⟨rfl, rfl⟩) (by decide) (by decide)
set_option maxRecDepth 65536 in
set_option maxHeartbeats 40000000 in
theorem c_w3_1n {l : Launch} {Z : State} {a0 : Array Value} (hw : W a0 Z) (ar : Addr) (c0 c1 c2 : Int32) (h0 : Heap) {ka : ClassId} (Va : Arv Z h0 ar ka .char (3 : Int32) [(.int c0), (.int c1), (.int c2)] (.int (0 : Int32))) (hp1 : ¬ (isHi c1 && isLo c2) = true) :
    Con l Z EL0 (⟨"com/example/refinement/refinement/io/CodePointOrderComparePinLaw", "width", "([CII)I"⟩ : MethodName) method_7_code 3 (some .int) ({ frames := 1, cells := 0, slots := 0, locals := 12 } : Room) #[(.ref ar), (.int (3 : Int32)), (.int (1 : Int32))] h0 [] (fun v h' Sf => v = some (.int (1 : Int32)) ∧ h' = h0) := by
  have hpn : plainName "com/example/refinement/refinement/io/CodePointOrderComparePinLaw" = true := by first | (simp [plainName, overriddenIn]; done) | decide +kernel
  refine Con.intro (plainFor_of_name hpn) ?_
  intro p e s m below meth c T X hss
  refine Goes.cast (g' := mkF m 0 #[.val (.ref ar), .val (.int (3 : Int32)), .val (.int (1 : Int32))] []) (by first | (simp [entryFrame, mkF, argsToLocals, Value.category]; done) | rfl) ?_
  refine o_iloadN X d_method_7_0 rfl (q := 1) rfl ?_
  refine o_iloadN X d_method_7_1 rfl (q := 2) rfl ?_
  refine o_icmpY X d_method_7_2 (by decide) (by decide) (q := 7) (by decide) ?_
  refine o_iloadN X d_method_7_7 rfl (q := 8) rfl ?_
  refine o_iconst X d_method_7_8 (w := 1) rfl (q := 9) rfl ?_
  refine o_iadd X d_method_7_9 (w := (2 : Int32)) (by decide) (q := 10) rfl ?_
  refine o_iloadN X d_method_7_10 rfl (q := 11) rfl ?_
  refine o_icmpN X d_method_7_11 (by decide) (q := 14) rfl ?_
  refine o_aloadN X d_method_7_14 rfl rfl (q := 15) rfl ?_
  refine o_iloadN X d_method_7_15 rfl (q := 16) rfl ?_
  refine o_caload X Va (by decide) (v := (.int c1)) rfl d_method_7_16 (q := 17) rfl ?_
  refine o_stat X [(.int c1)] (y' := (⟨"com/example/refinement/refinement/io/CodePointOrderComparePinLaw", "isHigh", "(C)Z"⟩ : MethodName)) (c_ish hw c1 _) all0 (w93 hw) (w94 hw) (w3 hw) (w95 hw) (by decide) d_method_7_17 (rest := []) rfl rfl (lenOf pd9 rfl) rfl (by decide) (Nat.le_of_ble_eq_true rfl) (by decide) (by decide) (q := 20) rfl ?_
  intro v1 vm1 T1 h1 l1 X1 R1 q1
  obtain ⟨z1, rfl, e1, hz1⟩ := q1
  have e1 := e1.symm
  subst e1
  show Goes p e below _ T1 (mkF m 20 #[.val (.ref ar), .val (.int (3 : Int32)), .val (.int (1 : Int32))] [(.int z1)])
  by_cases hc20 : z1 = (0 : Int32)
  · refine o_ifY X1 d_method_7_20 (teq hc20).1 (by decide) (q := 36) (by decide) ?_
    refine o_iconst X1 d_method_7_36 (w := 1) rfl (q := 37) rfl ?_
    exact o_retI X1 d_method_7_37 (fun Sf hSf => ⟨rfl, rfl⟩) (by decide) (by decide)
  · refine o_ifN X1 d_method_7_20 (feq hc20).1 (q := 23) rfl ?_
    refine o_aloadN X1 d_method_7_23 rfl rfl (q := 24) rfl ?_
    refine o_iloadN X1 d_method_7_24 rfl (q := 25) rfl ?_
    refine o_iconst X1 d_method_7_25 (w := 1) rfl (q := 26) rfl ?_
    refine o_iadd X1 d_method_7_26 (w := (2 : Int32)) (by decide) (q := 27) rfl ?_
    have f2 := Va
    refine o_caload X1 f2 (by decide) (v := (.int c2)) rfl d_method_7_27 (q := 28) rfl ?_
    refine o_stat X1 [(.int c2)] (y' := (⟨"com/example/refinement/refinement/io/CodePointOrderComparePinLaw", "isLow", "(C)Z"⟩ : MethodName)) (c_isl hw c2 _) all0 (w97 hw) (w98 hw) (w3 hw) (w99 hw) (by decide) d_method_7_28 (rest := []) rfl rfl (lenOf pd9 rfl) rfl (by decide) (Nat.le_of_ble_eq_true rfl) (by decide) (by decide) (q := 31) rfl ?_
    intro v3 vm3 T3 h3 l3 X3 R3 q3
    obtain ⟨z3, rfl, e3, hz3⟩ := q3
    have e3 := e3.symm
    subst e3
    show Goes p e below _ T3 (mkF m 31 #[.val (.ref ar), .val (.int (3 : Int32)), .val (.int (1 : Int32))] [(.int z3)])
    refine o_ifY X3 d_method_7_31 (teq (own_z3 hz1 hc20 hz3 hp1)).1 (by decide) (q := 36) (by decide) ?_
    refine o_iconst X3 d_method_7_36 (w := 1) rfl (q := 37) rfl ?_
    exact o_retI X3 d_method_7_37 (fun Sf hSf => ⟨rfl, rfl⟩) (by decide) (by decide)
set_option maxRecDepth 65536 in
set_option maxHeartbeats 40000000 in
theorem c_w3_2 {l : Launch} {Z : State} {a0 : Array Value} (hw : W a0 Z) (ar : Addr) (c0 c1 c2 : Int32) (h0 : Heap) {ka : ClassId} (Va : Arv Z h0 ar ka .char (3 : Int32) [(.int c0), (.int c1), (.int c2)] (.int (0 : Int32))) :
    Con l Z EL0 (⟨"com/example/refinement/refinement/io/CodePointOrderComparePinLaw", "width", "([CII)I"⟩ : MethodName) method_7_code 3 (some .int) ({ frames := 0, cells := 0, slots := 0, locals := 0 } : Room) #[(.ref ar), (.int (3 : Int32)), (.int (2 : Int32))] h0 [] (fun v h' Sf => v = some (.int (1 : Int32)) ∧ h' = h0) := by
  have hpn : plainName "com/example/refinement/refinement/io/CodePointOrderComparePinLaw" = true := by first | (simp [plainName, overriddenIn]; done) | decide +kernel
  refine Con.intro (plainFor_of_name hpn) ?_
  intro p e s m below meth c T X hss
  refine Goes.cast (g' := mkF m 0 #[.val (.ref ar), .val (.int (3 : Int32)), .val (.int (2 : Int32))] []) (by first | (simp [entryFrame, mkF, argsToLocals, Value.category]; done) | rfl) ?_
  refine o_iloadN X d_method_7_0 rfl (q := 1) rfl ?_
  refine o_iloadN X d_method_7_1 rfl (q := 2) rfl ?_
  refine o_icmpY X d_method_7_2 (by decide) (by decide) (q := 7) (by decide) ?_
  refine o_iloadN X d_method_7_7 rfl (q := 8) rfl ?_
  refine o_iconst X d_method_7_8 (w := 1) rfl (q := 9) rfl ?_
  refine o_iadd X d_method_7_9 (w := (3 : Int32)) (by decide) (q := 10) rfl ?_
  refine o_iloadN X d_method_7_10 rfl (q := 11) rfl ?_
  refine o_icmpY X d_method_7_11 (by decide) (by decide) (q := 36) (by decide) ?_
  refine o_iconst X d_method_7_36 (w := 1) rfl (q := 37) rfl ?_
  exact o_retI X d_method_7_37 (fun Sf hSf => ⟨rfl, rfl⟩) (by decide) (by decide)
set_option maxRecDepth 65536 in
set_option maxHeartbeats 40000000 in
theorem c_w3_3 {l : Launch} {Z : State} {a0 : Array Value} (hw : W a0 Z) (ar : Addr) (c0 c1 c2 : Int32) (h0 : Heap) {ka : ClassId} (Va : Arv Z h0 ar ka .char (3 : Int32) [(.int c0), (.int c1), (.int c2)] (.int (0 : Int32))) :
    Con l Z EL0 (⟨"com/example/refinement/refinement/io/CodePointOrderComparePinLaw", "width", "([CII)I"⟩ : MethodName) method_7_code 3 (some .int) ({ frames := 0, cells := 0, slots := 0, locals := 0 } : Room) #[(.ref ar), (.int (3 : Int32)), (.int (3 : Int32))] h0 [] (fun v h' Sf => v = some (.int (0 : Int32)) ∧ h' = h0) := by
  have hpn : plainName "com/example/refinement/refinement/io/CodePointOrderComparePinLaw" = true := by first | (simp [plainName, overriddenIn]; done) | decide +kernel
  refine Con.intro (plainFor_of_name hpn) ?_
  intro p e s m below meth c T X hss
  refine Goes.cast (g' := mkF m 0 #[.val (.ref ar), .val (.int (3 : Int32)), .val (.int (3 : Int32))] []) (by first | (simp [entryFrame, mkF, argsToLocals, Value.category]; done) | rfl) ?_
  refine o_iloadN X d_method_7_0 rfl (q := 1) rfl ?_
  refine o_iloadN X d_method_7_1 rfl (q := 2) rfl ?_
  refine o_icmpN X d_method_7_2 (by decide) (q := 5) rfl ?_
  refine o_iconst X d_method_7_5 (w := 0) rfl (q := 6) rfl ?_
  exact o_retI X d_method_7_6 (fun Sf hSf => ⟨rfl, rfl⟩) (by decide) (by decide)
set_option maxRecDepth 65536 in
set_option maxHeartbeats 40000000 in
theorem c_v0_0 {l : Launch} {Z : State} {a0 : Array Value} (hw : W a0 Z) (ar : Addr) (c0 c1 c2 : Int32) (h0 : Heap) {ka : ClassId} (Va : Arv Z h0 ar ka .char (3 : Int32) [(.int c0), (.int c1), (.int c2)] (.int (0 : Int32))) :
    Con l Z EL0 (⟨"com/example/refinement/refinement/io/CodePointOrderComparePinLaw", "value", "([CII)I"⟩ : MethodName) method_8_code 3 (some .int) ({ frames := 0, cells := 0, slots := 0, locals := 0 } : Room) #[(.ref ar), (.int (0 : Int32)), (.int (0 : Int32))] h0 [] (fun v h' Sf => v = some (.int (0 : Int32)) ∧ h' = h0) := by
  have hpn : plainName "com/example/refinement/refinement/io/CodePointOrderComparePinLaw" = true := by first | (simp [plainName, overriddenIn]; done) | decide +kernel
  refine Con.intro (plainFor_of_name hpn) ?_
  intro p e s m below meth c T X hss
  refine Goes.cast (g' := mkF m 0 #[.val (.ref ar), .val (.int (0 : Int32)), .val (.int (0 : Int32))] []) (by first | (simp [entryFrame, mkF, argsToLocals, Value.category]; done) | rfl) ?_
  refine o_iloadN X d_method_8_0 rfl (q := 1) rfl ?_
  refine o_ifN X d_method_8_1 (by decide) (q := 4) rfl ?_
  refine o_iconst X d_method_8_4 (w := 0) rfl (q := 5) rfl ?_
  exact o_retI X d_method_8_5 (fun Sf hSf => ⟨rfl, rfl⟩) (by decide) (by decide)
set_option maxRecDepth 65536 in
set_option maxHeartbeats 40000000 in
theorem c_v0_1 {l : Launch} {Z : State} {a0 : Array Value} (hw : W a0 Z) (ar : Addr) (c0 c1 c2 : Int32) (h0 : Heap) {ka : ClassId} (Va : Arv Z h0 ar ka .char (3 : Int32) [(.int c0), (.int c1), (.int c2)] (.int (0 : Int32))) :
    Con l Z EL0 (⟨"com/example/refinement/refinement/io/CodePointOrderComparePinLaw", "value", "([CII)I"⟩ : MethodName) method_8_code 3 (some .int) ({ frames := 0, cells := 0, slots := 0, locals := 0 } : Room) #[(.ref ar), (.int (0 : Int32)), (.int (1 : Int32))] h0 [] (fun v h' Sf => v = some (.int c0) ∧ h' = h0) := by
  have hpn : plainName "com/example/refinement/refinement/io/CodePointOrderComparePinLaw" = true := by first | (simp [plainName, overriddenIn]; done) | decide +kernel
  refine Con.intro (plainFor_of_name hpn) ?_
  intro p e s m below meth c T X hss
  refine Goes.cast (g' := mkF m 0 #[.val (.ref ar), .val (.int (0 : Int32)), .val (.int (1 : Int32))] []) (by first | (simp [entryFrame, mkF, argsToLocals, Value.category]; done) | rfl) ?_
  refine o_iloadN X d_method_8_0 rfl (q := 1) rfl ?_
  refine o_ifY X d_method_8_1 (by decide) (by decide) (q := 6) (by decide) ?_
  refine o_iloadN X d_method_8_6 rfl (q := 7) rfl ?_
  refine o_iconst X d_method_8_7 (w := 1) rfl (q := 8) rfl ?_
  refine o_icmpN X d_method_8_8 (by decide) (q := 11) rfl ?_
  refine o_aloadN X d_method_8_11 rfl rfl (q := 12) rfl ?_
  refine o_iloadN X d_method_8_12 rfl (q := 13) rfl ?_
  refine o_caload X Va (by decide) (v := (.int c0)) rfl d_method_8_13 (q := 14) rfl ?_
  exact o_retI X d_method_8_14 (fun Sf hSf => ⟨rfl, rfl⟩) (by decide) (by decide)
set_option maxRecDepth 65536 in
set_option maxHeartbeats 40000000 in
theorem c_v0_2 {l : Launch} {Z : State} {a0 : Array Value} (hw : W a0 Z) (ar : Addr) (c0 c1 c2 : Int32) (h0 : Heap) {ka : ClassId} (Va : Arv Z h0 ar ka .char (3 : Int32) [(.int c0), (.int c1), (.int c2)] (.int (0 : Int32))) :
    Con l Z EL0 (⟨"com/example/refinement/refinement/io/CodePointOrderComparePinLaw", "value", "([CII)I"⟩ : MethodName) method_8_code 3 (some .int) ({ frames := 0, cells := 0, slots := 0, locals := 0 } : Room) #[(.ref ar), (.int (0 : Int32)), (.int (2 : Int32))] h0 [] (fun v h' Sf => v = some (.int (toCP c0 c1)) ∧ h' = h0) := by
  have hpn : plainName "com/example/refinement/refinement/io/CodePointOrderComparePinLaw" = true := by first | (simp [plainName, overriddenIn]; done) | decide +kernel
  refine Con.intro (plainFor_of_name hpn) ?_
  intro p e s m below meth c T X hss
  refine Goes.cast (g' := mkF m 0 #[.val (.ref ar), .val (.int (0 : Int32)), .val (.int (2 : Int32))] []) (by first | (simp [entryFrame, mkF, argsToLocals, Value.category]; done) | rfl) ?_
  refine o_iloadN X d_method_8_0 rfl (q := 1) rfl ?_
  refine o_ifY X d_method_8_1 (by decide) (by decide) (q := 6) (by decide) ?_
  refine o_iloadN X d_method_8_6 rfl (q := 7) rfl ?_
  refine o_iconst X d_method_8_7 (w := 1) rfl (q := 8) rfl ?_
  refine o_icmpY X d_method_8_8 (by decide) (by decide) (q := 15) (by decide) ?_
  refine o_aloadN X d_method_8_15 rfl rfl (q := 16) rfl ?_
  refine o_iloadN X d_method_8_16 rfl (q := 17) rfl ?_
  refine o_caload X Va (by decide) (v := (.int c0)) rfl d_method_8_17 (q := 18) rfl ?_
  refine o_ldcI X (w63 hw) d_method_8_18 (q := 20) rfl ?_
  refine o_isub X d_method_8_20 (w := (c0 - (55296 : Int32))) rfl (q := 21) rfl ?_
  refine o_bipush X d_method_8_21 (w := 10) rfl (q := 23) rfl ?_
  refine o_ishl X d_method_8_23 (w := ((c0 - (55296 : Int32)) <<< ((10 : Int32) &&& 31))) rfl (q := 24) rfl ?_
  refine o_aloadN X d_method_8_24 rfl rfl (q := 25) rfl ?_
  refine o_iloadN X d_method_8_25 rfl (q := 26) rfl ?_
  refine o_iconst X d_method_8_26 (w := 1) rfl (q := 27) rfl ?_
  refine o_iadd X d_method_8_27 (w := (1 : Int32)) (by decide) (q := 28) rfl ?_
  refine o_caload X Va (by decide) (v := (.int c1)) rfl d_method_8_28 (q := 29) rfl ?_
  refine o_ldcI X (w100 hw) d_method_8_29 (q := 31) rfl ?_
  refine o_isub X d_method_8_31 (w := (c1 - (56320 : Int32))) rfl (q := 32) rfl ?_
  refine o_iadd X d_method_8_32 (w := (((c0 - (55296 : Int32)) <<< ((10 : Int32) &&& 31)) + (c1 - (56320 : Int32)))) rfl (q := 33) rfl ?_
  refine o_ldcI X (w102 hw) d_method_8_33 (q := 35) rfl ?_
  refine o_iadd X d_method_8_35 (w := ((((c0 - (55296 : Int32)) <<< ((10 : Int32) &&& 31)) + (c1 - (56320 : Int32))) + (65536 : Int32))) rfl (q := 36) rfl ?_
  exact o_retI X d_method_8_36 (fun Sf hSf => ⟨by rw [own_val], rfl⟩) (by decide) (by decide)
set_option maxRecDepth 65536 in
set_option maxHeartbeats 40000000 in
theorem c_v1_0 {l : Launch} {Z : State} {a0 : Array Value} (hw : W a0 Z) (ar : Addr) (c0 c1 c2 : Int32) (h0 : Heap) {ka : ClassId} (Va : Arv Z h0 ar ka .char (3 : Int32) [(.int c0), (.int c1), (.int c2)] (.int (0 : Int32))) :
    Con l Z EL0 (⟨"com/example/refinement/refinement/io/CodePointOrderComparePinLaw", "value", "([CII)I"⟩ : MethodName) method_8_code 3 (some .int) ({ frames := 0, cells := 0, slots := 0, locals := 0 } : Room) #[(.ref ar), (.int (1 : Int32)), (.int (0 : Int32))] h0 [] (fun v h' Sf => v = some (.int (0 : Int32)) ∧ h' = h0) := by
  have hpn : plainName "com/example/refinement/refinement/io/CodePointOrderComparePinLaw" = true := by first | (simp [plainName, overriddenIn]; done) | decide +kernel
  refine Con.intro (plainFor_of_name hpn) ?_
  intro p e s m below meth c T X hss
  refine Goes.cast (g' := mkF m 0 #[.val (.ref ar), .val (.int (1 : Int32)), .val (.int (0 : Int32))] []) (by first | (simp [entryFrame, mkF, argsToLocals, Value.category]; done) | rfl) ?_
  refine o_iloadN X d_method_8_0 rfl (q := 1) rfl ?_
  refine o_ifN X d_method_8_1 (by decide) (q := 4) rfl ?_
  refine o_iconst X d_method_8_4 (w := 0) rfl (q := 5) rfl ?_
  exact o_retI X d_method_8_5 (fun Sf hSf => ⟨rfl, rfl⟩) (by decide) (by decide)
set_option maxRecDepth 65536 in
set_option maxHeartbeats 40000000 in
theorem c_v1_1 {l : Launch} {Z : State} {a0 : Array Value} (hw : W a0 Z) (ar : Addr) (c0 c1 c2 : Int32) (h0 : Heap) {ka : ClassId} (Va : Arv Z h0 ar ka .char (3 : Int32) [(.int c0), (.int c1), (.int c2)] (.int (0 : Int32))) :
    Con l Z EL0 (⟨"com/example/refinement/refinement/io/CodePointOrderComparePinLaw", "value", "([CII)I"⟩ : MethodName) method_8_code 3 (some .int) ({ frames := 0, cells := 0, slots := 0, locals := 0 } : Room) #[(.ref ar), (.int (1 : Int32)), (.int (1 : Int32))] h0 [] (fun v h' Sf => v = some (.int c1) ∧ h' = h0) := by
  have hpn : plainName "com/example/refinement/refinement/io/CodePointOrderComparePinLaw" = true := by first | (simp [plainName, overriddenIn]; done) | decide +kernel
  refine Con.intro (plainFor_of_name hpn) ?_
  intro p e s m below meth c T X hss
  refine Goes.cast (g' := mkF m 0 #[.val (.ref ar), .val (.int (1 : Int32)), .val (.int (1 : Int32))] []) (by first | (simp [entryFrame, mkF, argsToLocals, Value.category]; done) | rfl) ?_
  refine o_iloadN X d_method_8_0 rfl (q := 1) rfl ?_
  refine o_ifY X d_method_8_1 (by decide) (by decide) (q := 6) (by decide) ?_
  refine o_iloadN X d_method_8_6 rfl (q := 7) rfl ?_
  refine o_iconst X d_method_8_7 (w := 1) rfl (q := 8) rfl ?_
  refine o_icmpN X d_method_8_8 (by decide) (q := 11) rfl ?_
  refine o_aloadN X d_method_8_11 rfl rfl (q := 12) rfl ?_
  refine o_iloadN X d_method_8_12 rfl (q := 13) rfl ?_
  refine o_caload X Va (by decide) (v := (.int c1)) rfl d_method_8_13 (q := 14) rfl ?_
  exact o_retI X d_method_8_14 (fun Sf hSf => ⟨rfl, rfl⟩) (by decide) (by decide)
set_option maxRecDepth 65536 in
set_option maxHeartbeats 40000000 in
theorem c_v1_2 {l : Launch} {Z : State} {a0 : Array Value} (hw : W a0 Z) (ar : Addr) (c0 c1 c2 : Int32) (h0 : Heap) {ka : ClassId} (Va : Arv Z h0 ar ka .char (3 : Int32) [(.int c0), (.int c1), (.int c2)] (.int (0 : Int32))) :
    Con l Z EL0 (⟨"com/example/refinement/refinement/io/CodePointOrderComparePinLaw", "value", "([CII)I"⟩ : MethodName) method_8_code 3 (some .int) ({ frames := 0, cells := 0, slots := 0, locals := 0 } : Room) #[(.ref ar), (.int (1 : Int32)), (.int (2 : Int32))] h0 [] (fun v h' Sf => v = some (.int (toCP c1 c2)) ∧ h' = h0) := by
  have hpn : plainName "com/example/refinement/refinement/io/CodePointOrderComparePinLaw" = true := by first | (simp [plainName, overriddenIn]; done) | decide +kernel
  refine Con.intro (plainFor_of_name hpn) ?_
  intro p e s m below meth c T X hss
  refine Goes.cast (g' := mkF m 0 #[.val (.ref ar), .val (.int (1 : Int32)), .val (.int (2 : Int32))] []) (by first | (simp [entryFrame, mkF, argsToLocals, Value.category]; done) | rfl) ?_
  refine o_iloadN X d_method_8_0 rfl (q := 1) rfl ?_
  refine o_ifY X d_method_8_1 (by decide) (by decide) (q := 6) (by decide) ?_
  refine o_iloadN X d_method_8_6 rfl (q := 7) rfl ?_
  refine o_iconst X d_method_8_7 (w := 1) rfl (q := 8) rfl ?_
  refine o_icmpY X d_method_8_8 (by decide) (by decide) (q := 15) (by decide) ?_
  refine o_aloadN X d_method_8_15 rfl rfl (q := 16) rfl ?_
  refine o_iloadN X d_method_8_16 rfl (q := 17) rfl ?_
  refine o_caload X Va (by decide) (v := (.int c1)) rfl d_method_8_17 (q := 18) rfl ?_
  refine o_ldcI X (w63 hw) d_method_8_18 (q := 20) rfl ?_
  refine o_isub X d_method_8_20 (w := (c1 - (55296 : Int32))) rfl (q := 21) rfl ?_
  refine o_bipush X d_method_8_21 (w := 10) rfl (q := 23) rfl ?_
  refine o_ishl X d_method_8_23 (w := ((c1 - (55296 : Int32)) <<< ((10 : Int32) &&& 31))) rfl (q := 24) rfl ?_
  refine o_aloadN X d_method_8_24 rfl rfl (q := 25) rfl ?_
  refine o_iloadN X d_method_8_25 rfl (q := 26) rfl ?_
  refine o_iconst X d_method_8_26 (w := 1) rfl (q := 27) rfl ?_
  refine o_iadd X d_method_8_27 (w := (2 : Int32)) (by decide) (q := 28) rfl ?_
  refine o_caload X Va (by decide) (v := (.int c2)) rfl d_method_8_28 (q := 29) rfl ?_
  refine o_ldcI X (w100 hw) d_method_8_29 (q := 31) rfl ?_
  refine o_isub X d_method_8_31 (w := (c2 - (56320 : Int32))) rfl (q := 32) rfl ?_
  refine o_iadd X d_method_8_32 (w := (((c1 - (55296 : Int32)) <<< ((10 : Int32) &&& 31)) + (c2 - (56320 : Int32)))) rfl (q := 33) rfl ?_
  refine o_ldcI X (w102 hw) d_method_8_33 (q := 35) rfl ?_
  refine o_iadd X d_method_8_35 (w := ((((c1 - (55296 : Int32)) <<< ((10 : Int32) &&& 31)) + (c2 - (56320 : Int32))) + (65536 : Int32))) rfl (q := 36) rfl ?_
  exact o_retI X d_method_8_36 (fun Sf hSf => ⟨by rw [own_val], rfl⟩) (by decide) (by decide)
set_option maxRecDepth 65536 in
set_option maxHeartbeats 40000000 in
theorem c_v2_0 {l : Launch} {Z : State} {a0 : Array Value} (hw : W a0 Z) (ar : Addr) (c0 c1 c2 : Int32) (h0 : Heap) {ka : ClassId} (Va : Arv Z h0 ar ka .char (3 : Int32) [(.int c0), (.int c1), (.int c2)] (.int (0 : Int32))) :
    Con l Z EL0 (⟨"com/example/refinement/refinement/io/CodePointOrderComparePinLaw", "value", "([CII)I"⟩ : MethodName) method_8_code 3 (some .int) ({ frames := 0, cells := 0, slots := 0, locals := 0 } : Room) #[(.ref ar), (.int (2 : Int32)), (.int (0 : Int32))] h0 [] (fun v h' Sf => v = some (.int (0 : Int32)) ∧ h' = h0) := by
  have hpn : plainName "com/example/refinement/refinement/io/CodePointOrderComparePinLaw" = true := by first | (simp [plainName, overriddenIn]; done) | decide +kernel
  refine Con.intro (plainFor_of_name hpn) ?_
  intro p e s m below meth c T X hss
  refine Goes.cast (g' := mkF m 0 #[.val (.ref ar), .val (.int (2 : Int32)), .val (.int (0 : Int32))] []) (by first | (simp [entryFrame, mkF, argsToLocals, Value.category]; done) | rfl) ?_
  refine o_iloadN X d_method_8_0 rfl (q := 1) rfl ?_
  refine o_ifN X d_method_8_1 (by decide) (q := 4) rfl ?_
  refine o_iconst X d_method_8_4 (w := 0) rfl (q := 5) rfl ?_
  exact o_retI X d_method_8_5 (fun Sf hSf => ⟨rfl, rfl⟩) (by decide) (by decide)
set_option maxRecDepth 65536 in
set_option maxHeartbeats 40000000 in
theorem c_v2_1 {l : Launch} {Z : State} {a0 : Array Value} (hw : W a0 Z) (ar : Addr) (c0 c1 c2 : Int32) (h0 : Heap) {ka : ClassId} (Va : Arv Z h0 ar ka .char (3 : Int32) [(.int c0), (.int c1), (.int c2)] (.int (0 : Int32))) :
    Con l Z EL0 (⟨"com/example/refinement/refinement/io/CodePointOrderComparePinLaw", "value", "([CII)I"⟩ : MethodName) method_8_code 3 (some .int) ({ frames := 0, cells := 0, slots := 0, locals := 0 } : Room) #[(.ref ar), (.int (2 : Int32)), (.int (1 : Int32))] h0 [] (fun v h' Sf => v = some (.int c2) ∧ h' = h0) := by
  have hpn : plainName "com/example/refinement/refinement/io/CodePointOrderComparePinLaw" = true := by first | (simp [plainName, overriddenIn]; done) | decide +kernel
  refine Con.intro (plainFor_of_name hpn) ?_
  intro p e s m below meth c T X hss
  refine Goes.cast (g' := mkF m 0 #[.val (.ref ar), .val (.int (2 : Int32)), .val (.int (1 : Int32))] []) (by first | (simp [entryFrame, mkF, argsToLocals, Value.category]; done) | rfl) ?_
  refine o_iloadN X d_method_8_0 rfl (q := 1) rfl ?_
  refine o_ifY X d_method_8_1 (by decide) (by decide) (q := 6) (by decide) ?_
  refine o_iloadN X d_method_8_6 rfl (q := 7) rfl ?_
  refine o_iconst X d_method_8_7 (w := 1) rfl (q := 8) rfl ?_
  refine o_icmpN X d_method_8_8 (by decide) (q := 11) rfl ?_
  refine o_aloadN X d_method_8_11 rfl rfl (q := 12) rfl ?_
  refine o_iloadN X d_method_8_12 rfl (q := 13) rfl ?_
  refine o_caload X Va (by decide) (v := (.int c2)) rfl d_method_8_13 (q := 14) rfl ?_
  exact o_retI X d_method_8_14 (fun Sf hSf => ⟨rfl, rfl⟩) (by decide) (by decide)
set_option maxRecDepth 65536 in
set_option maxHeartbeats 40000000 in
theorem c_v3_0 {l : Launch} {Z : State} {a0 : Array Value} (hw : W a0 Z) (ar : Addr) (c0 c1 c2 : Int32) (h0 : Heap) {ka : ClassId} (Va : Arv Z h0 ar ka .char (3 : Int32) [(.int c0), (.int c1), (.int c2)] (.int (0 : Int32))) :
    Con l Z EL0 (⟨"com/example/refinement/refinement/io/CodePointOrderComparePinLaw", "value", "([CII)I"⟩ : MethodName) method_8_code 3 (some .int) ({ frames := 0, cells := 0, slots := 0, locals := 0 } : Room) #[(.ref ar), (.int (3 : Int32)), (.int (0 : Int32))] h0 [] (fun v h' Sf => v = some (.int (0 : Int32)) ∧ h' = h0) := by
  have hpn : plainName "com/example/refinement/refinement/io/CodePointOrderComparePinLaw" = true := by first | (simp [plainName, overriddenIn]; done) | decide +kernel
  refine Con.intro (plainFor_of_name hpn) ?_
  intro p e s m below meth c T X hss
  refine Goes.cast (g' := mkF m 0 #[.val (.ref ar), .val (.int (3 : Int32)), .val (.int (0 : Int32))] []) (by first | (simp [entryFrame, mkF, argsToLocals, Value.category]; done) | rfl) ?_
  refine o_iloadN X d_method_8_0 rfl (q := 1) rfl ?_
  refine o_ifN X d_method_8_1 (by decide) (q := 4) rfl ?_
  refine o_iconst X d_method_8_4 (w := 0) rfl (q := 5) rfl ?_
  exact o_retI X d_method_8_5 (fun Sf hSf => ⟨rfl, rfl⟩) (by decide) (by decide)
set_option maxRecDepth 65536 in
set_option maxHeartbeats 40000000 in
theorem c_dec0 {l : Launch} {Z : State} {a0 : Array Value} (hw : W a0 Z) (ar out : Addr) (c0 c1 c2 : Int32) (h0 : Heap) {ka : ClassId} (Va : Arv Z h0 ar ka .char (3 : Int32) [(.int c0), (.int c1), (.int c2)] (.int (0 : Int32))) {ko : ClassId} (Vo : Arv Z h0 out ko .int (4 : Int32) [(.int (0 : Int32)), (.int (0 : Int32)), (.int (0 : Int32)), (.int (0 : Int32))] (.int (0 : Int32))) (go : Z.heap.size ≤ out) (hne : ar ≠ out) :
    Con l Z EL0 (⟨"com/example/refinement/refinement/io/CodePointOrderComparePinLaw", "decode", "([CI[I)V"⟩ : MethodName) method_9_code 8 none ({ frames := 2, cells := 0, slots := 0, locals := 26 } : Room) #[(.ref ar), (.int (0 : Int32)), (.ref out)] h0 [] (fun v h' Sf => v = none ∧ Keep h0 h' [out] ∧ Arv Z h' out ko .int (4 : Int32) (padV (cps [])) (.int (0 : Int32))) := by
  have hpn : plainName "com/example/refinement/refinement/io/CodePointOrderComparePinLaw" = true := by first | (simp [plainName, overriddenIn]; done) | decide +kernel
  refine Con.intro (plainFor_of_name hpn) ?_
  intro p e s m below meth c T X hss
  refine Goes.cast (g' := mkF m 0 #[.val (.ref ar), .val (.int (0 : Int32)), .val (.ref out), .unset, .unset, .unset, .unset, .unset] []) (by first | (simp [entryFrame, mkF, argsToLocals, Value.category]; done) | rfl) ?_
  refine o_aloadN X d_method_9_0 rfl rfl (q := 1) rfl ?_
  refine o_iloadN X d_method_9_1 rfl (q := 2) rfl ?_
  refine o_iconst X d_method_9_2 (w := 0) rfl (q := 3) rfl ?_
  refine o_stat X [(.ref ar), (.int (0 : Int32)), (.int (0 : Int32))] (y' := (⟨"com/example/refinement/refinement/io/CodePointOrderComparePinLaw", "width", "([CII)I"⟩ : MethodName)) (c_w0_0 hw ar c0 c1 c2 _ Va) all0 (w35 hw) (w36 hw) (w3 hw) (w37 hw) (by decide) d_method_9_3 (rest := []) rfl rfl (lenOf pd10 rfl) rfl (by decide) (Nat.le_of_ble_eq_true rfl) (by decide) (by decide) (q := 6) rfl ?_
  intro v1 vm1 T1 h1 l1 X1 R1 q1
  obtain ⟨rfl, e1⟩ := q1
  have e1 := e1.symm
  subst e1
  show Goes p e below _ T1 (mkF m 6 #[.val (.ref ar), .val (.int (0 : Int32)), .val (.ref out), .unset, .unset, .unset, .unset, .unset] [(.int (0 : Int32))])
  refine o_istoreN X1 d_method_9_6 rfl (L' := #[.val (.ref ar), .val (.int (0 : Int32)), .val (.ref out), .val (.int (0 : Int32)), .unset, .unset, .unset, .unset]) rfl (q := 7) rfl ?_
  refine o_aloadN X1 d_method_9_7 rfl rfl (q := 8) rfl ?_
  refine o_iconst X1 d_method_9_8 (w := 0) rfl (q := 9) rfl ?_
  refine o_aloadN X1 d_method_9_9 rfl rfl (q := 10) rfl ?_
  refine o_iconst X1 d_method_9_10 (w := 0) rfl (q := 11) rfl ?_
  refine o_iloadN X1 d_method_9_11 rfl (q := 12) rfl ?_
  have f2 := Va
  refine o_stat X1 [(.ref ar), (.int (0 : Int32)), (.int (0 : Int32))] (y' := (⟨"com/example/refinement/refinement/io/CodePointOrderComparePinLaw", "value", "([CII)I"⟩ : MethodName)) (c_v0_0 hw ar c0 c1 c2 _ f2) all0 (w38 hw) (w39 hw) (w3 hw) (w40 hw) (by decide) d_method_9_12 (rest := [(.int (0 : Int32)), (.ref out)]) rfl rfl (lenOf pd10 rfl) rfl (by decide) (Nat.le_of_ble_eq_true rfl) (by decide) (by decide) (q := 15) rfl ?_
  intro v3 vm3 T3 h3 l3 X3 R3 q3
  obtain ⟨rfl, e3⟩ := q3
  have e3 := e3.symm
  subst e3
  show Goes p e below _ T3 (mkF m 15 #[.val (.ref ar), .val (.int (0 : Int32)), .val (.ref out), .val (.int (0 : Int32)), .unset, .unset, .unset, .unset] [(.int (0 : Int32)), (.int (0 : Int32)), (.ref out)])
  have f4 := Vo
  refine o_iastore X3 0 f4 go (Safe.arv X3.alike f4 (by decide)) (by decide) rfl (Nat.le_of_ble_eq_true rfl) (v := (.int (0 : Int32))) rfl d_method_9_15 (q := 16) rfl ?_
  intro T5 h5 l5 X5 W5 R5 V5
  have V5 : Arv Z h5 out ko .int (4 : Int32) [(.int (0 : Int32)), (.int (0 : Int32)), (.int (0 : Int32)), (.int (0 : Int32))] (.int (0 : Int32)) := V5
  refine o_iloadN X5 d_method_9_16 rfl (q := 17) rfl ?_
  refine o_istore X5 d_method_9_17 rfl (L' := #[.val (.ref ar), .val (.int (0 : Int32)), .val (.ref out), .val (.int (0 : Int32)), .val (.int (0 : Int32)), .unset, .unset, .unset]) rfl (q := 19) rfl ?_
  refine o_aloadN X5 d_method_9_19 rfl rfl (q := 20) rfl ?_
  refine o_iloadN X5 d_method_9_20 rfl (q := 21) rfl ?_
  refine o_iload X5 d_method_9_21 rfl (q := 23) rfl ?_
  have f6 := (f2.other W5 hne)
  refine o_stat X5 [(.ref ar), (.int (0 : Int32)), (.int (0 : Int32))] (y' := (⟨"com/example/refinement/refinement/io/CodePointOrderComparePinLaw", "width", "([CII)I"⟩ : MethodName)) (c_w0_0 hw ar c0 c1 c2 _ f6) all0 (w35 hw) (w36 hw) (w3 hw) (w37 hw) (by decide) d_method_9_23 (rest := []) rfl rfl (lenOf pd10 rfl) rfl (by decide) (Nat.le_of_ble_eq_true rfl) (by decide) (by decide) (q := 26) rfl ?_
  intro v7 vm7 T7 h7 l7 X7 R7 q7
  obtain ⟨rfl, e7⟩ := q7
  have e7 := e7.symm
  subst e7
  show Goes p e below _ T7 (mkF m 26 #[.val (.ref ar), .val (.int (0 : Int32)), .val (.ref out), .val (.int (0 : Int32)), .val (.int (0 : Int32)), .unset, .unset, .unset] [(.int (0 : Int32))])
  refine o_istore X7 d_method_9_26 rfl (L' := #[.val (.ref ar), .val (.int (0 : Int32)), .val (.ref out), .val (.int (0 : Int32)), .val (.int (0 : Int32)), .val (.int (0 : Int32)), .unset, .unset]) rfl (q := 28) rfl ?_
  refine o_aloadN X7 d_method_9_28 rfl rfl (q := 29) rfl ?_
  refine o_iconst X7 d_method_9_29 (w := 1) rfl (q := 30) rfl ?_
  refine o_aloadN X7 d_method_9_30 rfl rfl (q := 31) rfl ?_
  refine o_iload X7 d_method_9_31 rfl (q := 33) rfl ?_
  refine o_iload X7 d_method_9_33 rfl (q := 35) rfl ?_
  have f8 := f6
  refine o_stat X7 [(.ref ar), (.int (0 : Int32)), (.int (0 : Int32))] (y' := (⟨"com/example/refinement/refinement/io/CodePointOrderComparePinLaw", "value", "([CII)I"⟩ : MethodName)) (c_v0_0 hw ar c0 c1 c2 _ f8) all0 (w38 hw) (w39 hw) (w3 hw) (w40 hw) (by decide) d_method_9_35 (rest := [(.int (1 : Int32)), (.ref out)]) rfl rfl (lenOf pd10 rfl) rfl (by decide) (Nat.le_of_ble_eq_true rfl) (by decide) (by decide) (q := 38) rfl ?_
  intro v9 vm9 T9 h9 l9 X9 R9 q9
  obtain ⟨rfl, e9⟩ := q9
  have e9 := e9.symm
  subst e9
  show Goes p e below _ T9 (mkF m 38 #[.val (.ref ar), .val (.int (0 : Int32)), .val (.ref out), .val (.int (0 : Int32)), .val (.int (0 : Int32)), .val (.int (0 : Int32)), .unset, .unset] [(.int (0 : Int32)), (.int (1 : Int32)), (.ref out)])
  have f10 := V5
  refine o_iastore X9 1 f10 go (Safe.arv X9.alike f10 (by decide)) (by decide) rfl (Nat.le_of_ble_eq_true rfl) (v := (.int (0 : Int32))) rfl d_method_9_38 (q := 39) rfl ?_
  intro T11 h11 l11 X11 W11 R11 V11
  have V11 : Arv Z h11 out ko .int (4 : Int32) [(.int (0 : Int32)), (.int (0 : Int32)), (.int (0 : Int32)), (.int (0 : Int32))] (.int (0 : Int32)) := V11
  refine o_iload X11 d_method_9_39 rfl (q := 41) rfl ?_
  refine o_iload X11 d_method_9_41 rfl (q := 43) rfl ?_
  refine o_iadd X11 d_method_9_43 (w := (0 : Int32)) (by decide) (q := 44) rfl ?_
  refine o_istore X11 d_method_9_44 rfl (L' := #[.val (.ref ar), .val (.int (0 : Int32)), .val (.ref out), .val (.int (0 : Int32)), .val (.int (0 : Int32)), .val (.int (0 : Int32)), .val (.int (0 : Int32)), .unset]) rfl (q := 46) rfl ?_
  refine o_aloadN X11 d_method_9_46 rfl rfl (q := 47) rfl ?_
  refine o_iloadN X11 d_method_9_47 rfl (q := 48) rfl ?_
  refine o_iload X11 d_method_9_48 rfl (q := 50) rfl ?_
  have f12 := (f8.other W11 hne)
  refine o_stat X11 [(.ref ar), (.int (0 : Int32)), (.int (0 : Int32))] (y' := (⟨"com/example/refinement/refinement/io/CodePointOrderComparePinLaw", "width", "([CII)I"⟩ : MethodName)) (c_w0_0 hw ar c0 c1 c2 _ f12) all0 (w35 hw) (w36 hw) (w3 hw) (w37 hw) (by decide) d_method_9_50 (rest := []) rfl rfl (lenOf pd10 rfl) rfl (by decide) (Nat.le_of_ble_eq_true rfl) (by decide) (by decide) (q := 53) rfl ?_
  intro v13 vm13 T13 h13 l13 X13 R13 q13
  obtain ⟨rfl, e13⟩ := q13
  have e13 := e13.symm
  subst e13
  show Goes p e below _ T13 (mkF m 53 #[.val (.ref ar), .val (.int (0 : Int32)), .val (.ref out), .val (.int (0 : Int32)), .val (.int (0 : Int32)), .val (.int (0 : Int32)), .val (.int (0 : Int32)), .unset] [(.int (0 : Int32))])
  refine o_istore X13 d_method_9_53 rfl (L' := #[.val (.ref ar), .val (.int (0 : Int32)), .val (.ref out), .val (.int (0 : Int32)), .val (.int (0 : Int32)), .val (.int (0 : Int32)), .val (.int (0 : Int32)), .val (.int (0 : Int32))]) rfl (q := 55) rfl ?_
  refine o_aloadN X13 d_method_9_55 rfl rfl (q := 56) rfl ?_
  refine o_iconst X13 d_method_9_56 (w := 2) rfl (q := 57) rfl ?_
  refine o_aloadN X13 d_method_9_57 rfl rfl (q := 58) rfl ?_
  refine o_iload X13 d_method_9_58 rfl (q := 60) rfl ?_
  refine o_iload X13 d_method_9_60 rfl (q := 62) rfl ?_
  have f14 := f12
  refine o_stat X13 [(.ref ar), (.int (0 : Int32)), (.int (0 : Int32))] (y' := (⟨"com/example/refinement/refinement/io/CodePointOrderComparePinLaw", "value", "([CII)I"⟩ : MethodName)) (c_v0_0 hw ar c0 c1 c2 _ f14) all0 (w38 hw) (w39 hw) (w3 hw) (w40 hw) (by decide) d_method_9_62 (rest := [(.int (2 : Int32)), (.ref out)]) rfl rfl (lenOf pd10 rfl) rfl (by decide) (Nat.le_of_ble_eq_true rfl) (by decide) (by decide) (q := 65) rfl ?_
  intro v15 vm15 T15 h15 l15 X15 R15 q15
  obtain ⟨rfl, e15⟩ := q15
  have e15 := e15.symm
  subst e15
  show Goes p e below _ T15 (mkF m 65 #[.val (.ref ar), .val (.int (0 : Int32)), .val (.ref out), .val (.int (0 : Int32)), .val (.int (0 : Int32)), .val (.int (0 : Int32)), .val (.int (0 : Int32)), .val (.int (0 : Int32))] [(.int (0 : Int32)), (.int (2 : Int32)), (.ref out)])
  have f16 := V11
  refine o_iastore X15 2 f16 go (Safe.arv X15.alike f16 (by decide)) (by decide) rfl (Nat.le_of_ble_eq_true rfl) (v := (.int (0 : Int32))) rfl d_method_9_65 (q := 66) rfl ?_
  intro T17 h17 l17 X17 W17 R17 V17
  have V17 : Arv Z h17 out ko .int (4 : Int32) [(.int (0 : Int32)), (.int (0 : Int32)), (.int (0 : Int32)), (.int (0 : Int32))] (.int (0 : Int32)) := V17
  refine o_aloadN X17 d_method_9_66 rfl rfl (q := 67) rfl ?_
  refine o_iconst X17 d_method_9_67 (w := 3) rfl (q := 68) rfl ?_
  refine o_iloadN X17 d_method_9_68 rfl (q := 69) rfl ?_
  refine o_ifY X17 d_method_9_69 (by decide) (by decide) (q := 76) (by decide) ?_
  refine o_iconst X17 d_method_9_76 (w := 0) rfl (q := 77) rfl ?_
  refine o_iload X17 d_method_9_77 rfl (q := 79) rfl ?_
  refine o_ifY X17 d_method_9_79 (by decide) (by decide) (q := 86) (by decide) ?_
  refine o_iconst X17 d_method_9_86 (w := 0) rfl (q := 87) rfl ?_
  refine o_iadd X17 d_method_9_87 (w := (0 : Int32)) (by decide) (q := 88) rfl ?_
  refine o_iload X17 d_method_9_88 rfl (q := 90) rfl ?_
  refine o_ifY X17 d_method_9_90 (by decide) (by decide) (q := 97) (by decide) ?_
  refine o_iconst X17 d_method_9_97 (w := 0) rfl (q := 98) rfl ?_
  refine o_iadd X17 d_method_9_98 (w := (0 : Int32)) (by decide) (q := 99) rfl ?_
  refine o_iastore X17 3 V17 go (Safe.arv X17.alike V17 (by decide)) (by decide) rfl (Nat.le_of_ble_eq_true rfl) (v := (.int (0 : Int32))) rfl d_method_9_99 (q := 100) rfl ?_
  intro T18 h18 l18 X18 W18 R18 V18
  have V18 : Arv Z h18 out ko .int (4 : Int32) [(.int (0 : Int32)), (.int (0 : Int32)), (.int (0 : Int32)), (.int (0 : Int32))] (.int (0 : Int32)) := V18
  have k19 := Keep.wr (Keep.refl h0 [out]) W5 (Or.inl (by simp))
  have k20 := Keep.wr k19 W11 (Or.inl (by simp))
  have k21 := Keep.wr k20 W17 (Or.inl (by simp))
  have k22 := Keep.wr k21 W18 (Or.inl (by simp))
  exact o_ret X18 d_method_9_100 (fun Sf hSf => ⟨rfl, k22, (by rw [show padV (cps []) = [(.int (0 : Int32)), (.int (0 : Int32)), (.int (0 : Int32)), (.int (0 : Int32))] from by simp [padV, cps]]; exact V18)⟩) (by decide) (by decide)
set_option maxRecDepth 65536 in
set_option maxHeartbeats 40000000 in
theorem c_dec1 {l : Launch} {Z : State} {a0 : Array Value} (hw : W a0 Z) (ar out : Addr) (c0 c1 c2 : Int32) (h0 : Heap) {ka : ClassId} (Va : Arv Z h0 ar ka .char (3 : Int32) [(.int c0), (.int c1), (.int c2)] (.int (0 : Int32))) {ko : ClassId} (Vo : Arv Z h0 out ko .int (4 : Int32) [(.int (0 : Int32)), (.int (0 : Int32)), (.int (0 : Int32)), (.int (0 : Int32))] (.int (0 : Int32))) (go : Z.heap.size ≤ out) (hne : ar ≠ out) :
    Con l Z EL0 (⟨"com/example/refinement/refinement/io/CodePointOrderComparePinLaw", "decode", "([CI[I)V"⟩ : MethodName) method_9_code 8 none ({ frames := 2, cells := 0, slots := 0, locals := 26 } : Room) #[(.ref ar), (.int (1 : Int32)), (.ref out)] h0 [] (fun v h' Sf => v = none ∧ Keep h0 h' [out] ∧ Arv Z h' out ko .int (4 : Int32) (padV (cps [c0])) (.int (0 : Int32))) := by
  have hpn : plainName "com/example/refinement/refinement/io/CodePointOrderComparePinLaw" = true := by first | (simp [plainName, overriddenIn]; done) | decide +kernel
  refine Con.intro (plainFor_of_name hpn) ?_
  intro p e s m below meth c T X hss
  refine Goes.cast (g' := mkF m 0 #[.val (.ref ar), .val (.int (1 : Int32)), .val (.ref out), .unset, .unset, .unset, .unset, .unset] []) (by first | (simp [entryFrame, mkF, argsToLocals, Value.category]; done) | rfl) ?_
  refine o_aloadN X d_method_9_0 rfl rfl (q := 1) rfl ?_
  refine o_iloadN X d_method_9_1 rfl (q := 2) rfl ?_
  refine o_iconst X d_method_9_2 (w := 0) rfl (q := 3) rfl ?_
  refine o_stat X [(.ref ar), (.int (1 : Int32)), (.int (0 : Int32))] (y' := (⟨"com/example/refinement/refinement/io/CodePointOrderComparePinLaw", "width", "([CII)I"⟩ : MethodName)) (c_w1_0 hw ar c0 c1 c2 _ Va) all0 (w35 hw) (w36 hw) (w3 hw) (w37 hw) (by decide) d_method_9_3 (rest := []) rfl rfl (lenOf pd10 rfl) rfl (by decide) (Nat.le_of_ble_eq_true rfl) (by decide) (by decide) (q := 6) rfl ?_
  intro v1 vm1 T1 h1 l1 X1 R1 q1
  obtain ⟨rfl, e1⟩ := q1
  have e1 := e1.symm
  subst e1
  show Goes p e below _ T1 (mkF m 6 #[.val (.ref ar), .val (.int (1 : Int32)), .val (.ref out), .unset, .unset, .unset, .unset, .unset] [(.int (1 : Int32))])
  refine o_istoreN X1 d_method_9_6 rfl (L' := #[.val (.ref ar), .val (.int (1 : Int32)), .val (.ref out), .val (.int (1 : Int32)), .unset, .unset, .unset, .unset]) rfl (q := 7) rfl ?_
  refine o_aloadN X1 d_method_9_7 rfl rfl (q := 8) rfl ?_
  refine o_iconst X1 d_method_9_8 (w := 0) rfl (q := 9) rfl ?_
  refine o_aloadN X1 d_method_9_9 rfl rfl (q := 10) rfl ?_
  refine o_iconst X1 d_method_9_10 (w := 0) rfl (q := 11) rfl ?_
  refine o_iloadN X1 d_method_9_11 rfl (q := 12) rfl ?_
  have f2 := Va
  refine o_stat X1 [(.ref ar), (.int (0 : Int32)), (.int (1 : Int32))] (y' := (⟨"com/example/refinement/refinement/io/CodePointOrderComparePinLaw", "value", "([CII)I"⟩ : MethodName)) (c_v0_1 hw ar c0 c1 c2 _ f2) all0 (w38 hw) (w39 hw) (w3 hw) (w40 hw) (by decide) d_method_9_12 (rest := [(.int (0 : Int32)), (.ref out)]) rfl rfl (lenOf pd10 rfl) rfl (by decide) (Nat.le_of_ble_eq_true rfl) (by decide) (by decide) (q := 15) rfl ?_
  intro v3 vm3 T3 h3 l3 X3 R3 q3
  obtain ⟨rfl, e3⟩ := q3
  have e3 := e3.symm
  subst e3
  show Goes p e below _ T3 (mkF m 15 #[.val (.ref ar), .val (.int (1 : Int32)), .val (.ref out), .val (.int (1 : Int32)), .unset, .unset, .unset, .unset] [(.int c0), (.int (0 : Int32)), (.ref out)])
  have f4 := Vo
  refine o_iastore X3 0 f4 go (Safe.arv X3.alike f4 (by decide)) (by decide) rfl (Nat.le_of_ble_eq_true rfl) (v := (.int c0)) rfl d_method_9_15 (q := 16) rfl ?_
  intro T5 h5 l5 X5 W5 R5 V5
  have V5 : Arv Z h5 out ko .int (4 : Int32) [(.int c0), (.int (0 : Int32)), (.int (0 : Int32)), (.int (0 : Int32))] (.int (0 : Int32)) := V5
  refine o_iloadN X5 d_method_9_16 rfl (q := 17) rfl ?_
  refine o_istore X5 d_method_9_17 rfl (L' := #[.val (.ref ar), .val (.int (1 : Int32)), .val (.ref out), .val (.int (1 : Int32)), .val (.int (1 : Int32)), .unset, .unset, .unset]) rfl (q := 19) rfl ?_
  refine o_aloadN X5 d_method_9_19 rfl rfl (q := 20) rfl ?_
  refine o_iloadN X5 d_method_9_20 rfl (q := 21) rfl ?_
  refine o_iload X5 d_method_9_21 rfl (q := 23) rfl ?_
  have f6 := (f2.other W5 hne)
  refine o_stat X5 [(.ref ar), (.int (1 : Int32)), (.int (1 : Int32))] (y' := (⟨"com/example/refinement/refinement/io/CodePointOrderComparePinLaw", "width", "([CII)I"⟩ : MethodName)) (c_w1_1 hw ar c0 c1 c2 _ f6) all0 (w35 hw) (w36 hw) (w3 hw) (w37 hw) (by decide) d_method_9_23 (rest := []) rfl rfl (lenOf pd10 rfl) rfl (by decide) (Nat.le_of_ble_eq_true rfl) (by decide) (by decide) (q := 26) rfl ?_
  intro v7 vm7 T7 h7 l7 X7 R7 q7
  obtain ⟨rfl, e7⟩ := q7
  have e7 := e7.symm
  subst e7
  show Goes p e below _ T7 (mkF m 26 #[.val (.ref ar), .val (.int (1 : Int32)), .val (.ref out), .val (.int (1 : Int32)), .val (.int (1 : Int32)), .unset, .unset, .unset] [(.int (0 : Int32))])
  refine o_istore X7 d_method_9_26 rfl (L' := #[.val (.ref ar), .val (.int (1 : Int32)), .val (.ref out), .val (.int (1 : Int32)), .val (.int (1 : Int32)), .val (.int (0 : Int32)), .unset, .unset]) rfl (q := 28) rfl ?_
  refine o_aloadN X7 d_method_9_28 rfl rfl (q := 29) rfl ?_
  refine o_iconst X7 d_method_9_29 (w := 1) rfl (q := 30) rfl ?_
  refine o_aloadN X7 d_method_9_30 rfl rfl (q := 31) rfl ?_
  refine o_iload X7 d_method_9_31 rfl (q := 33) rfl ?_
  refine o_iload X7 d_method_9_33 rfl (q := 35) rfl ?_
  have f8 := f6
  refine o_stat X7 [(.ref ar), (.int (1 : Int32)), (.int (0 : Int32))] (y' := (⟨"com/example/refinement/refinement/io/CodePointOrderComparePinLaw", "value", "([CII)I"⟩ : MethodName)) (c_v1_0 hw ar c0 c1 c2 _ f8) all0 (w38 hw) (w39 hw) (w3 hw) (w40 hw) (by decide) d_method_9_35 (rest := [(.int (1 : Int32)), (.ref out)]) rfl rfl (lenOf pd10 rfl) rfl (by decide) (Nat.le_of_ble_eq_true rfl) (by decide) (by decide) (q := 38) rfl ?_
  intro v9 vm9 T9 h9 l9 X9 R9 q9
  obtain ⟨rfl, e9⟩ := q9
  have e9 := e9.symm
  subst e9
  show Goes p e below _ T9 (mkF m 38 #[.val (.ref ar), .val (.int (1 : Int32)), .val (.ref out), .val (.int (1 : Int32)), .val (.int (1 : Int32)), .val (.int (0 : Int32)), .unset, .unset] [(.int (0 : Int32)), (.int (1 : Int32)), (.ref out)])
  have f10 := V5
  refine o_iastore X9 1 f10 go (Safe.arv X9.alike f10 (by decide)) (by decide) rfl (Nat.le_of_ble_eq_true rfl) (v := (.int (0 : Int32))) rfl d_method_9_38 (q := 39) rfl ?_
  intro T11 h11 l11 X11 W11 R11 V11
  have V11 : Arv Z h11 out ko .int (4 : Int32) [(.int c0), (.int (0 : Int32)), (.int (0 : Int32)), (.int (0 : Int32))] (.int (0 : Int32)) := V11
  refine o_iload X11 d_method_9_39 rfl (q := 41) rfl ?_
  refine o_iload X11 d_method_9_41 rfl (q := 43) rfl ?_
  refine o_iadd X11 d_method_9_43 (w := (1 : Int32)) (by decide) (q := 44) rfl ?_
  refine o_istore X11 d_method_9_44 rfl (L' := #[.val (.ref ar), .val (.int (1 : Int32)), .val (.ref out), .val (.int (1 : Int32)), .val (.int (1 : Int32)), .val (.int (0 : Int32)), .val (.int (1 : Int32)), .unset]) rfl (q := 46) rfl ?_
  refine o_aloadN X11 d_method_9_46 rfl rfl (q := 47) rfl ?_
  refine o_iloadN X11 d_method_9_47 rfl (q := 48) rfl ?_
  refine o_iload X11 d_method_9_48 rfl (q := 50) rfl ?_
  have f12 := (f8.other W11 hne)
  refine o_stat X11 [(.ref ar), (.int (1 : Int32)), (.int (1 : Int32))] (y' := (⟨"com/example/refinement/refinement/io/CodePointOrderComparePinLaw", "width", "([CII)I"⟩ : MethodName)) (c_w1_1 hw ar c0 c1 c2 _ f12) all0 (w35 hw) (w36 hw) (w3 hw) (w37 hw) (by decide) d_method_9_50 (rest := []) rfl rfl (lenOf pd10 rfl) rfl (by decide) (Nat.le_of_ble_eq_true rfl) (by decide) (by decide) (q := 53) rfl ?_
  intro v13 vm13 T13 h13 l13 X13 R13 q13
  obtain ⟨rfl, e13⟩ := q13
  have e13 := e13.symm
  subst e13
  show Goes p e below _ T13 (mkF m 53 #[.val (.ref ar), .val (.int (1 : Int32)), .val (.ref out), .val (.int (1 : Int32)), .val (.int (1 : Int32)), .val (.int (0 : Int32)), .val (.int (1 : Int32)), .unset] [(.int (0 : Int32))])
  refine o_istore X13 d_method_9_53 rfl (L' := #[.val (.ref ar), .val (.int (1 : Int32)), .val (.ref out), .val (.int (1 : Int32)), .val (.int (1 : Int32)), .val (.int (0 : Int32)), .val (.int (1 : Int32)), .val (.int (0 : Int32))]) rfl (q := 55) rfl ?_
  refine o_aloadN X13 d_method_9_55 rfl rfl (q := 56) rfl ?_
  refine o_iconst X13 d_method_9_56 (w := 2) rfl (q := 57) rfl ?_
  refine o_aloadN X13 d_method_9_57 rfl rfl (q := 58) rfl ?_
  refine o_iload X13 d_method_9_58 rfl (q := 60) rfl ?_
  refine o_iload X13 d_method_9_60 rfl (q := 62) rfl ?_
  have f14 := f12
  refine o_stat X13 [(.ref ar), (.int (1 : Int32)), (.int (0 : Int32))] (y' := (⟨"com/example/refinement/refinement/io/CodePointOrderComparePinLaw", "value", "([CII)I"⟩ : MethodName)) (c_v1_0 hw ar c0 c1 c2 _ f14) all0 (w38 hw) (w39 hw) (w3 hw) (w40 hw) (by decide) d_method_9_62 (rest := [(.int (2 : Int32)), (.ref out)]) rfl rfl (lenOf pd10 rfl) rfl (by decide) (Nat.le_of_ble_eq_true rfl) (by decide) (by decide) (q := 65) rfl ?_
  intro v15 vm15 T15 h15 l15 X15 R15 q15
  obtain ⟨rfl, e15⟩ := q15
  have e15 := e15.symm
  subst e15
  show Goes p e below _ T15 (mkF m 65 #[.val (.ref ar), .val (.int (1 : Int32)), .val (.ref out), .val (.int (1 : Int32)), .val (.int (1 : Int32)), .val (.int (0 : Int32)), .val (.int (1 : Int32)), .val (.int (0 : Int32))] [(.int (0 : Int32)), (.int (2 : Int32)), (.ref out)])
  have f16 := V11
  refine o_iastore X15 2 f16 go (Safe.arv X15.alike f16 (by decide)) (by decide) rfl (Nat.le_of_ble_eq_true rfl) (v := (.int (0 : Int32))) rfl d_method_9_65 (q := 66) rfl ?_
  intro T17 h17 l17 X17 W17 R17 V17
  have V17 : Arv Z h17 out ko .int (4 : Int32) [(.int c0), (.int (0 : Int32)), (.int (0 : Int32)), (.int (0 : Int32))] (.int (0 : Int32)) := V17
  refine o_aloadN X17 d_method_9_66 rfl rfl (q := 67) rfl ?_
  refine o_iconst X17 d_method_9_67 (w := 3) rfl (q := 68) rfl ?_
  refine o_iloadN X17 d_method_9_68 rfl (q := 69) rfl ?_
  refine o_ifN X17 d_method_9_69 (by decide) (q := 72) rfl ?_
  refine o_iconst X17 d_method_9_72 (w := 1) rfl (q := 73) rfl ?_
  refine o_goto X17 d_method_9_73 (by decide) (q := 77) (by decide) ?_
  refine o_iload X17 d_method_9_77 rfl (q := 79) rfl ?_
  refine o_ifY X17 d_method_9_79 (by decide) (by decide) (q := 86) (by decide) ?_
  refine o_iconst X17 d_method_9_86 (w := 0) rfl (q := 87) rfl ?_
  refine o_iadd X17 d_method_9_87 (w := (1 : Int32)) (by decide) (q := 88) rfl ?_
  refine o_iload X17 d_method_9_88 rfl (q := 90) rfl ?_
  refine o_ifY X17 d_method_9_90 (by decide) (by decide) (q := 97) (by decide) ?_
  refine o_iconst X17 d_method_9_97 (w := 0) rfl (q := 98) rfl ?_
  refine o_iadd X17 d_method_9_98 (w := (1 : Int32)) (by decide) (q := 99) rfl ?_
  refine o_iastore X17 3 V17 go (Safe.arv X17.alike V17 (by decide)) (by decide) rfl (Nat.le_of_ble_eq_true rfl) (v := (.int (1 : Int32))) rfl d_method_9_99 (q := 100) rfl ?_
  intro T18 h18 l18 X18 W18 R18 V18
  have V18 : Arv Z h18 out ko .int (4 : Int32) [(.int c0), (.int (0 : Int32)), (.int (0 : Int32)), (.int (1 : Int32))] (.int (0 : Int32)) := V18
  have k19 := Keep.wr (Keep.refl h0 [out]) W5 (Or.inl (by simp))
  have k20 := Keep.wr k19 W11 (Or.inl (by simp))
  have k21 := Keep.wr k20 W17 (Or.inl (by simp))
  have k22 := Keep.wr k21 W18 (Or.inl (by simp))
  exact o_ret X18 d_method_9_100 (fun Sf hSf => ⟨rfl, k22, (by rw [show padV (cps [c0]) = [(.int c0), (.int (0 : Int32)), (.int (0 : Int32)), (.int (1 : Int32))] from by simp [padV, cps]]; exact V18)⟩) (by decide) (by decide)
set_option maxRecDepth 65536 in
set_option maxHeartbeats 40000000 in
theorem c_dec2y {l : Launch} {Z : State} {a0 : Array Value} (hw : W a0 Z) (ar out : Addr) (c0 c1 c2 : Int32) (h0 : Heap) {ka : ClassId} (Va : Arv Z h0 ar ka .char (3 : Int32) [(.int c0), (.int c1), (.int c2)] (.int (0 : Int32))) {ko : ClassId} (Vo : Arv Z h0 out ko .int (4 : Int32) [(.int (0 : Int32)), (.int (0 : Int32)), (.int (0 : Int32)), (.int (0 : Int32))] (.int (0 : Int32))) (go : Z.heap.size ≤ out) (hne : ar ≠ out) (hp0 : (isHi c0 && isLo c1) = true) :
    Con l Z EL0 (⟨"com/example/refinement/refinement/io/CodePointOrderComparePinLaw", "decode", "([CI[I)V"⟩ : MethodName) method_9_code 8 none ({ frames := 2, cells := 0, slots := 0, locals := 26 } : Room) #[(.ref ar), (.int (2 : Int32)), (.ref out)] h0 [] (fun v h' Sf => v = none ∧ Keep h0 h' [out] ∧ Arv Z h' out ko .int (4 : Int32) (padV (cps [c0, c1])) (.int (0 : Int32))) := by
  have hpn : plainName "com/example/refinement/refinement/io/CodePointOrderComparePinLaw" = true := by first | (simp [plainName, overriddenIn]; done) | decide +kernel
  refine Con.intro (plainFor_of_name hpn) ?_
  intro p e s m below meth c T X hss
  refine Goes.cast (g' := mkF m 0 #[.val (.ref ar), .val (.int (2 : Int32)), .val (.ref out), .unset, .unset, .unset, .unset, .unset] []) (by first | (simp [entryFrame, mkF, argsToLocals, Value.category]; done) | rfl) ?_
  refine o_aloadN X d_method_9_0 rfl rfl (q := 1) rfl ?_
  refine o_iloadN X d_method_9_1 rfl (q := 2) rfl ?_
  refine o_iconst X d_method_9_2 (w := 0) rfl (q := 3) rfl ?_
  refine o_stat X [(.ref ar), (.int (2 : Int32)), (.int (0 : Int32))] (y' := (⟨"com/example/refinement/refinement/io/CodePointOrderComparePinLaw", "width", "([CII)I"⟩ : MethodName)) (c_w2_0y hw ar c0 c1 c2 _ Va hp0) all0 (w35 hw) (w36 hw) (w3 hw) (w37 hw) (by decide) d_method_9_3 (rest := []) rfl rfl (lenOf pd10 rfl) rfl (by decide) (Nat.le_of_ble_eq_true rfl) (by decide) (by decide) (q := 6) rfl ?_
  intro v1 vm1 T1 h1 l1 X1 R1 q1
  obtain ⟨rfl, e1⟩ := q1
  have e1 := e1.symm
  subst e1
  show Goes p e below _ T1 (mkF m 6 #[.val (.ref ar), .val (.int (2 : Int32)), .val (.ref out), .unset, .unset, .unset, .unset, .unset] [(.int (2 : Int32))])
  refine o_istoreN X1 d_method_9_6 rfl (L' := #[.val (.ref ar), .val (.int (2 : Int32)), .val (.ref out), .val (.int (2 : Int32)), .unset, .unset, .unset, .unset]) rfl (q := 7) rfl ?_
  refine o_aloadN X1 d_method_9_7 rfl rfl (q := 8) rfl ?_
  refine o_iconst X1 d_method_9_8 (w := 0) rfl (q := 9) rfl ?_
  refine o_aloadN X1 d_method_9_9 rfl rfl (q := 10) rfl ?_
  refine o_iconst X1 d_method_9_10 (w := 0) rfl (q := 11) rfl ?_
  refine o_iloadN X1 d_method_9_11 rfl (q := 12) rfl ?_
  have f2 := Va
  refine o_stat X1 [(.ref ar), (.int (0 : Int32)), (.int (2 : Int32))] (y' := (⟨"com/example/refinement/refinement/io/CodePointOrderComparePinLaw", "value", "([CII)I"⟩ : MethodName)) (c_v0_2 hw ar c0 c1 c2 _ f2) all0 (w38 hw) (w39 hw) (w3 hw) (w40 hw) (by decide) d_method_9_12 (rest := [(.int (0 : Int32)), (.ref out)]) rfl rfl (lenOf pd10 rfl) rfl (by decide) (Nat.le_of_ble_eq_true rfl) (by decide) (by decide) (q := 15) rfl ?_
  intro v3 vm3 T3 h3 l3 X3 R3 q3
  obtain ⟨rfl, e3⟩ := q3
  have e3 := e3.symm
  subst e3
  show Goes p e below _ T3 (mkF m 15 #[.val (.ref ar), .val (.int (2 : Int32)), .val (.ref out), .val (.int (2 : Int32)), .unset, .unset, .unset, .unset] [(.int (toCP c0 c1)), (.int (0 : Int32)), (.ref out)])
  have f4 := Vo
  refine o_iastore X3 0 f4 go (Safe.arv X3.alike f4 (by decide)) (by decide) rfl (Nat.le_of_ble_eq_true rfl) (v := (.int (toCP c0 c1))) rfl d_method_9_15 (q := 16) rfl ?_
  intro T5 h5 l5 X5 W5 R5 V5
  have V5 : Arv Z h5 out ko .int (4 : Int32) [(.int (toCP c0 c1)), (.int (0 : Int32)), (.int (0 : Int32)), (.int (0 : Int32))] (.int (0 : Int32)) := V5
  refine o_iloadN X5 d_method_9_16 rfl (q := 17) rfl ?_
  refine o_istore X5 d_method_9_17 rfl (L' := #[.val (.ref ar), .val (.int (2 : Int32)), .val (.ref out), .val (.int (2 : Int32)), .val (.int (2 : Int32)), .unset, .unset, .unset]) rfl (q := 19) rfl ?_
  refine o_aloadN X5 d_method_9_19 rfl rfl (q := 20) rfl ?_
  refine o_iloadN X5 d_method_9_20 rfl (q := 21) rfl ?_
  refine o_iload X5 d_method_9_21 rfl (q := 23) rfl ?_
  have f6 := (f2.other W5 hne)
  refine o_stat X5 [(.ref ar), (.int (2 : Int32)), (.int (2 : Int32))] (y' := (⟨"com/example/refinement/refinement/io/CodePointOrderComparePinLaw", "width", "([CII)I"⟩ : MethodName)) (c_w2_2 hw ar c0 c1 c2 _ f6) all0 (w35 hw) (w36 hw) (w3 hw) (w37 hw) (by decide) d_method_9_23 (rest := []) rfl rfl (lenOf pd10 rfl) rfl (by decide) (Nat.le_of_ble_eq_true rfl) (by decide) (by decide) (q := 26) rfl ?_
  intro v7 vm7 T7 h7 l7 X7 R7 q7
  obtain ⟨rfl, e7⟩ := q7
  have e7 := e7.symm
  subst e7
  show Goes p e below _ T7 (mkF m 26 #[.val (.ref ar), .val (.int (2 : Int32)), .val (.ref out), .val (.int (2 : Int32)), .val (.int (2 : Int32)), .unset, .unset, .unset] [(.int (0 : Int32))])
  refine o_istore X7 d_method_9_26 rfl (L' := #[.val (.ref ar), .val (.int (2 : Int32)), .val (.ref out), .val (.int (2 : Int32)), .val (.int (2 : Int32)), .val (.int (0 : Int32)), .unset, .unset]) rfl (q := 28) rfl ?_
  refine o_aloadN X7 d_method_9_28 rfl rfl (q := 29) rfl ?_
  refine o_iconst X7 d_method_9_29 (w := 1) rfl (q := 30) rfl ?_
  refine o_aloadN X7 d_method_9_30 rfl rfl (q := 31) rfl ?_
  refine o_iload X7 d_method_9_31 rfl (q := 33) rfl ?_
  refine o_iload X7 d_method_9_33 rfl (q := 35) rfl ?_
  have f8 := f6
  refine o_stat X7 [(.ref ar), (.int (2 : Int32)), (.int (0 : Int32))] (y' := (⟨"com/example/refinement/refinement/io/CodePointOrderComparePinLaw", "value", "([CII)I"⟩ : MethodName)) (c_v2_0 hw ar c0 c1 c2 _ f8) all0 (w38 hw) (w39 hw) (w3 hw) (w40 hw) (by decide) d_method_9_35 (rest := [(.int (1 : Int32)), (.ref out)]) rfl rfl (lenOf pd10 rfl) rfl (by decide) (Nat.le_of_ble_eq_true rfl) (by decide) (by decide) (q := 38) rfl ?_
  intro v9 vm9 T9 h9 l9 X9 R9 q9
  obtain ⟨rfl, e9⟩ := q9
  have e9 := e9.symm
  subst e9
  show Goes p e below _ T9 (mkF m 38 #[.val (.ref ar), .val (.int (2 : Int32)), .val (.ref out), .val (.int (2 : Int32)), .val (.int (2 : Int32)), .val (.int (0 : Int32)), .unset, .unset] [(.int (0 : Int32)), (.int (1 : Int32)), (.ref out)])
  have f10 := V5
  refine o_iastore X9 1 f10 go (Safe.arv X9.alike f10 (by decide)) (by decide) rfl (Nat.le_of_ble_eq_true rfl) (v := (.int (0 : Int32))) rfl d_method_9_38 (q := 39) rfl ?_
  intro T11 h11 l11 X11 W11 R11 V11
  have V11 : Arv Z h11 out ko .int (4 : Int32) [(.int (toCP c0 c1)), (.int (0 : Int32)), (.int (0 : Int32)), (.int (0 : Int32))] (.int (0 : Int32)) := V11
  refine o_iload X11 d_method_9_39 rfl (q := 41) rfl ?_
  refine o_iload X11 d_method_9_41 rfl (q := 43) rfl ?_
  refine o_iadd X11 d_method_9_43 (w := (2 : Int32)) (by decide) (q := 44) rfl ?_
  refine o_istore X11 d_method_9_44 rfl (L' := #[.val (.ref ar), .val (.int (2 : Int32)), .val (.ref out), .val (.int (2 : Int32)), .val (.int (2 : Int32)), .val (.int (0 : Int32)), .val (.int (2 : Int32)), .unset]) rfl (q := 46) rfl ?_
  refine o_aloadN X11 d_method_9_46 rfl rfl (q := 47) rfl ?_
  refine o_iloadN X11 d_method_9_47 rfl (q := 48) rfl ?_
  refine o_iload X11 d_method_9_48 rfl (q := 50) rfl ?_
  have f12 := (f8.other W11 hne)
  refine o_stat X11 [(.ref ar), (.int (2 : Int32)), (.int (2 : Int32))] (y' := (⟨"com/example/refinement/refinement/io/CodePointOrderComparePinLaw", "width", "([CII)I"⟩ : MethodName)) (c_w2_2 hw ar c0 c1 c2 _ f12) all0 (w35 hw) (w36 hw) (w3 hw) (w37 hw) (by decide) d_method_9_50 (rest := []) rfl rfl (lenOf pd10 rfl) rfl (by decide) (Nat.le_of_ble_eq_true rfl) (by decide) (by decide) (q := 53) rfl ?_
  intro v13 vm13 T13 h13 l13 X13 R13 q13
  obtain ⟨rfl, e13⟩ := q13
  have e13 := e13.symm
  subst e13
  show Goes p e below _ T13 (mkF m 53 #[.val (.ref ar), .val (.int (2 : Int32)), .val (.ref out), .val (.int (2 : Int32)), .val (.int (2 : Int32)), .val (.int (0 : Int32)), .val (.int (2 : Int32)), .unset] [(.int (0 : Int32))])
  refine o_istore X13 d_method_9_53 rfl (L' := #[.val (.ref ar), .val (.int (2 : Int32)), .val (.ref out), .val (.int (2 : Int32)), .val (.int (2 : Int32)), .val (.int (0 : Int32)), .val (.int (2 : Int32)), .val (.int (0 : Int32))]) rfl (q := 55) rfl ?_
  refine o_aloadN X13 d_method_9_55 rfl rfl (q := 56) rfl ?_
  refine o_iconst X13 d_method_9_56 (w := 2) rfl (q := 57) rfl ?_
  refine o_aloadN X13 d_method_9_57 rfl rfl (q := 58) rfl ?_
  refine o_iload X13 d_method_9_58 rfl (q := 60) rfl ?_
  refine o_iload X13 d_method_9_60 rfl (q := 62) rfl ?_
  have f14 := f12
  refine o_stat X13 [(.ref ar), (.int (2 : Int32)), (.int (0 : Int32))] (y' := (⟨"com/example/refinement/refinement/io/CodePointOrderComparePinLaw", "value", "([CII)I"⟩ : MethodName)) (c_v2_0 hw ar c0 c1 c2 _ f14) all0 (w38 hw) (w39 hw) (w3 hw) (w40 hw) (by decide) d_method_9_62 (rest := [(.int (2 : Int32)), (.ref out)]) rfl rfl (lenOf pd10 rfl) rfl (by decide) (Nat.le_of_ble_eq_true rfl) (by decide) (by decide) (q := 65) rfl ?_
  intro v15 vm15 T15 h15 l15 X15 R15 q15
  obtain ⟨rfl, e15⟩ := q15
  have e15 := e15.symm
  subst e15
  show Goes p e below _ T15 (mkF m 65 #[.val (.ref ar), .val (.int (2 : Int32)), .val (.ref out), .val (.int (2 : Int32)), .val (.int (2 : Int32)), .val (.int (0 : Int32)), .val (.int (2 : Int32)), .val (.int (0 : Int32))] [(.int (0 : Int32)), (.int (2 : Int32)), (.ref out)])
  have f16 := V11
  refine o_iastore X15 2 f16 go (Safe.arv X15.alike f16 (by decide)) (by decide) rfl (Nat.le_of_ble_eq_true rfl) (v := (.int (0 : Int32))) rfl d_method_9_65 (q := 66) rfl ?_
  intro T17 h17 l17 X17 W17 R17 V17
  have V17 : Arv Z h17 out ko .int (4 : Int32) [(.int (toCP c0 c1)), (.int (0 : Int32)), (.int (0 : Int32)), (.int (0 : Int32))] (.int (0 : Int32)) := V17
  refine o_aloadN X17 d_method_9_66 rfl rfl (q := 67) rfl ?_
  refine o_iconst X17 d_method_9_67 (w := 3) rfl (q := 68) rfl ?_
  refine o_iloadN X17 d_method_9_68 rfl (q := 69) rfl ?_
  refine o_ifN X17 d_method_9_69 (by decide) (q := 72) rfl ?_
  refine o_iconst X17 d_method_9_72 (w := 1) rfl (q := 73) rfl ?_
  refine o_goto X17 d_method_9_73 (by decide) (q := 77) (by decide) ?_
  refine o_iload X17 d_method_9_77 rfl (q := 79) rfl ?_
  refine o_ifY X17 d_method_9_79 (by decide) (by decide) (q := 86) (by decide) ?_
  refine o_iconst X17 d_method_9_86 (w := 0) rfl (q := 87) rfl ?_
  refine o_iadd X17 d_method_9_87 (w := (1 : Int32)) (by decide) (q := 88) rfl ?_
  refine o_iload X17 d_method_9_88 rfl (q := 90) rfl ?_
  refine o_ifY X17 d_method_9_90 (by decide) (by decide) (q := 97) (by decide) ?_
  refine o_iconst X17 d_method_9_97 (w := 0) rfl (q := 98) rfl ?_
  refine o_iadd X17 d_method_9_98 (w := (1 : Int32)) (by decide) (q := 99) rfl ?_
  refine o_iastore X17 3 V17 go (Safe.arv X17.alike V17 (by decide)) (by decide) rfl (Nat.le_of_ble_eq_true rfl) (v := (.int (1 : Int32))) rfl d_method_9_99 (q := 100) rfl ?_
  intro T18 h18 l18 X18 W18 R18 V18
  have V18 : Arv Z h18 out ko .int (4 : Int32) [(.int (toCP c0 c1)), (.int (0 : Int32)), (.int (0 : Int32)), (.int (1 : Int32))] (.int (0 : Int32)) := V18
  have k19 := Keep.wr (Keep.refl h0 [out]) W5 (Or.inl (by simp))
  have k20 := Keep.wr k19 W11 (Or.inl (by simp))
  have k21 := Keep.wr k20 W17 (Or.inl (by simp))
  have k22 := Keep.wr k21 W18 (Or.inl (by simp))
  exact o_ret X18 d_method_9_100 (fun Sf hSf => ⟨rfl, k22, (by rw [show padV (cps [c0, c1]) = [(.int (toCP c0 c1)), (.int (0 : Int32)), (.int (0 : Int32)), (.int (1 : Int32))] from by simp [padV, cps, hp0]]; exact V18)⟩) (by decide) (by decide)
set_option maxRecDepth 65536 in
set_option maxHeartbeats 40000000 in
theorem c_dec2n {l : Launch} {Z : State} {a0 : Array Value} (hw : W a0 Z) (ar out : Addr) (c0 c1 c2 : Int32) (h0 : Heap) {ka : ClassId} (Va : Arv Z h0 ar ka .char (3 : Int32) [(.int c0), (.int c1), (.int c2)] (.int (0 : Int32))) {ko : ClassId} (Vo : Arv Z h0 out ko .int (4 : Int32) [(.int (0 : Int32)), (.int (0 : Int32)), (.int (0 : Int32)), (.int (0 : Int32))] (.int (0 : Int32))) (go : Z.heap.size ≤ out) (hne : ar ≠ out) (hp0 : ¬ (isHi c0 && isLo c1) = true) :
    Con l Z EL0 (⟨"com/example/refinement/refinement/io/CodePointOrderComparePinLaw", "decode", "([CI[I)V"⟩ : MethodName) method_9_code 8 none ({ frames := 2, cells := 0, slots := 0, locals := 26 } : Room) #[(.ref ar), (.int (2 : Int32)), (.ref out)] h0 [] (fun v h' Sf => v = none ∧ Keep h0 h' [out] ∧ Arv Z h' out ko .int (4 : Int32) (padV (cps [c0, c1])) (.int (0 : Int32))) := by
  have hpn : plainName "com/example/refinement/refinement/io/CodePointOrderComparePinLaw" = true := by first | (simp [plainName, overriddenIn]; done) | decide +kernel
  refine Con.intro (plainFor_of_name hpn) ?_
  intro p e s m below meth c T X hss
  refine Goes.cast (g' := mkF m 0 #[.val (.ref ar), .val (.int (2 : Int32)), .val (.ref out), .unset, .unset, .unset, .unset, .unset] []) (by first | (simp [entryFrame, mkF, argsToLocals, Value.category]; done) | rfl) ?_
  refine o_aloadN X d_method_9_0 rfl rfl (q := 1) rfl ?_
  refine o_iloadN X d_method_9_1 rfl (q := 2) rfl ?_
  refine o_iconst X d_method_9_2 (w := 0) rfl (q := 3) rfl ?_
  refine o_stat X [(.ref ar), (.int (2 : Int32)), (.int (0 : Int32))] (y' := (⟨"com/example/refinement/refinement/io/CodePointOrderComparePinLaw", "width", "([CII)I"⟩ : MethodName)) (c_w2_0n hw ar c0 c1 c2 _ Va hp0) all0 (w35 hw) (w36 hw) (w3 hw) (w37 hw) (by decide) d_method_9_3 (rest := []) rfl rfl (lenOf pd10 rfl) rfl (by decide) (Nat.le_of_ble_eq_true rfl) (by decide) (by decide) (q := 6) rfl ?_
  intro v1 vm1 T1 h1 l1 X1 R1 q1
  obtain ⟨rfl, e1⟩ := q1
  have e1 := e1.symm
  subst e1
  show Goes p e below _ T1 (mkF m 6 #[.val (.ref ar), .val (.int (2 : Int32)), .val (.ref out), .unset, .unset, .unset, .unset, .unset] [(.int (1 : Int32))])
  refine o_istoreN X1 d_method_9_6 rfl (L' := #[.val (.ref ar), .val (.int (2 : Int32)), .val (.ref out), .val (.int (1 : Int32)), .unset, .unset, .unset, .unset]) rfl (q := 7) rfl ?_
  refine o_aloadN X1 d_method_9_7 rfl rfl (q := 8) rfl ?_
  refine o_iconst X1 d_method_9_8 (w := 0) rfl (q := 9) rfl ?_
  refine o_aloadN X1 d_method_9_9 rfl rfl (q := 10) rfl ?_
  refine o_iconst X1 d_method_9_10 (w := 0) rfl (q := 11) rfl ?_
  refine o_iloadN X1 d_method_9_11 rfl (q := 12) rfl ?_
  have f2 := Va
  refine o_stat X1 [(.ref ar), (.int (0 : Int32)), (.int (1 : Int32))] (y' := (⟨"com/example/refinement/refinement/io/CodePointOrderComparePinLaw", "value", "([CII)I"⟩ : MethodName)) (c_v0_1 hw ar c0 c1 c2 _ f2) all0 (w38 hw) (w39 hw) (w3 hw) (w40 hw) (by decide) d_method_9_12 (rest := [(.int (0 : Int32)), (.ref out)]) rfl rfl (lenOf pd10 rfl) rfl (by decide) (Nat.le_of_ble_eq_true rfl) (by decide) (by decide) (q := 15) rfl ?_
  intro v3 vm3 T3 h3 l3 X3 R3 q3
  obtain ⟨rfl, e3⟩ := q3
  have e3 := e3.symm
  subst e3
  show Goes p e below _ T3 (mkF m 15 #[.val (.ref ar), .val (.int (2 : Int32)), .val (.ref out), .val (.int (1 : Int32)), .unset, .unset, .unset, .unset] [(.int c0), (.int (0 : Int32)), (.ref out)])
  have f4 := Vo
  refine o_iastore X3 0 f4 go (Safe.arv X3.alike f4 (by decide)) (by decide) rfl (Nat.le_of_ble_eq_true rfl) (v := (.int c0)) rfl d_method_9_15 (q := 16) rfl ?_
  intro T5 h5 l5 X5 W5 R5 V5
  have V5 : Arv Z h5 out ko .int (4 : Int32) [(.int c0), (.int (0 : Int32)), (.int (0 : Int32)), (.int (0 : Int32))] (.int (0 : Int32)) := V5
  refine o_iloadN X5 d_method_9_16 rfl (q := 17) rfl ?_
  refine o_istore X5 d_method_9_17 rfl (L' := #[.val (.ref ar), .val (.int (2 : Int32)), .val (.ref out), .val (.int (1 : Int32)), .val (.int (1 : Int32)), .unset, .unset, .unset]) rfl (q := 19) rfl ?_
  refine o_aloadN X5 d_method_9_19 rfl rfl (q := 20) rfl ?_
  refine o_iloadN X5 d_method_9_20 rfl (q := 21) rfl ?_
  refine o_iload X5 d_method_9_21 rfl (q := 23) rfl ?_
  have f6 := (f2.other W5 hne)
  refine o_stat X5 [(.ref ar), (.int (2 : Int32)), (.int (1 : Int32))] (y' := (⟨"com/example/refinement/refinement/io/CodePointOrderComparePinLaw", "width", "([CII)I"⟩ : MethodName)) (c_w2_1 hw ar c0 c1 c2 _ f6) all0 (w35 hw) (w36 hw) (w3 hw) (w37 hw) (by decide) d_method_9_23 (rest := []) rfl rfl (lenOf pd10 rfl) rfl (by decide) (Nat.le_of_ble_eq_true rfl) (by decide) (by decide) (q := 26) rfl ?_
  intro v7 vm7 T7 h7 l7 X7 R7 q7
  obtain ⟨rfl, e7⟩ := q7
  have e7 := e7.symm
  subst e7
  show Goes p e below _ T7 (mkF m 26 #[.val (.ref ar), .val (.int (2 : Int32)), .val (.ref out), .val (.int (1 : Int32)), .val (.int (1 : Int32)), .unset, .unset, .unset] [(.int (1 : Int32))])
  refine o_istore X7 d_method_9_26 rfl (L' := #[.val (.ref ar), .val (.int (2 : Int32)), .val (.ref out), .val (.int (1 : Int32)), .val (.int (1 : Int32)), .val (.int (1 : Int32)), .unset, .unset]) rfl (q := 28) rfl ?_
  refine o_aloadN X7 d_method_9_28 rfl rfl (q := 29) rfl ?_
  refine o_iconst X7 d_method_9_29 (w := 1) rfl (q := 30) rfl ?_
  refine o_aloadN X7 d_method_9_30 rfl rfl (q := 31) rfl ?_
  refine o_iload X7 d_method_9_31 rfl (q := 33) rfl ?_
  refine o_iload X7 d_method_9_33 rfl (q := 35) rfl ?_
  have f8 := f6
  refine o_stat X7 [(.ref ar), (.int (1 : Int32)), (.int (1 : Int32))] (y' := (⟨"com/example/refinement/refinement/io/CodePointOrderComparePinLaw", "value", "([CII)I"⟩ : MethodName)) (c_v1_1 hw ar c0 c1 c2 _ f8) all0 (w38 hw) (w39 hw) (w3 hw) (w40 hw) (by decide) d_method_9_35 (rest := [(.int (1 : Int32)), (.ref out)]) rfl rfl (lenOf pd10 rfl) rfl (by decide) (Nat.le_of_ble_eq_true rfl) (by decide) (by decide) (q := 38) rfl ?_
  intro v9 vm9 T9 h9 l9 X9 R9 q9
  obtain ⟨rfl, e9⟩ := q9
  have e9 := e9.symm
  subst e9
  show Goes p e below _ T9 (mkF m 38 #[.val (.ref ar), .val (.int (2 : Int32)), .val (.ref out), .val (.int (1 : Int32)), .val (.int (1 : Int32)), .val (.int (1 : Int32)), .unset, .unset] [(.int c1), (.int (1 : Int32)), (.ref out)])
  have f10 := V5
  refine o_iastore X9 1 f10 go (Safe.arv X9.alike f10 (by decide)) (by decide) rfl (Nat.le_of_ble_eq_true rfl) (v := (.int c1)) rfl d_method_9_38 (q := 39) rfl ?_
  intro T11 h11 l11 X11 W11 R11 V11
  have V11 : Arv Z h11 out ko .int (4 : Int32) [(.int c0), (.int c1), (.int (0 : Int32)), (.int (0 : Int32))] (.int (0 : Int32)) := V11
  refine o_iload X11 d_method_9_39 rfl (q := 41) rfl ?_
  refine o_iload X11 d_method_9_41 rfl (q := 43) rfl ?_
  refine o_iadd X11 d_method_9_43 (w := (2 : Int32)) (by decide) (q := 44) rfl ?_
  refine o_istore X11 d_method_9_44 rfl (L' := #[.val (.ref ar), .val (.int (2 : Int32)), .val (.ref out), .val (.int (1 : Int32)), .val (.int (1 : Int32)), .val (.int (1 : Int32)), .val (.int (2 : Int32)), .unset]) rfl (q := 46) rfl ?_
  refine o_aloadN X11 d_method_9_46 rfl rfl (q := 47) rfl ?_
  refine o_iloadN X11 d_method_9_47 rfl (q := 48) rfl ?_
  refine o_iload X11 d_method_9_48 rfl (q := 50) rfl ?_
  have f12 := (f8.other W11 hne)
  refine o_stat X11 [(.ref ar), (.int (2 : Int32)), (.int (2 : Int32))] (y' := (⟨"com/example/refinement/refinement/io/CodePointOrderComparePinLaw", "width", "([CII)I"⟩ : MethodName)) (c_w2_2 hw ar c0 c1 c2 _ f12) all0 (w35 hw) (w36 hw) (w3 hw) (w37 hw) (by decide) d_method_9_50 (rest := []) rfl rfl (lenOf pd10 rfl) rfl (by decide) (Nat.le_of_ble_eq_true rfl) (by decide) (by decide) (q := 53) rfl ?_
  intro v13 vm13 T13 h13 l13 X13 R13 q13
  obtain ⟨rfl, e13⟩ := q13
  have e13 := e13.symm
  subst e13
  show Goes p e below _ T13 (mkF m 53 #[.val (.ref ar), .val (.int (2 : Int32)), .val (.ref out), .val (.int (1 : Int32)), .val (.int (1 : Int32)), .val (.int (1 : Int32)), .val (.int (2 : Int32)), .unset] [(.int (0 : Int32))])
  refine o_istore X13 d_method_9_53 rfl (L' := #[.val (.ref ar), .val (.int (2 : Int32)), .val (.ref out), .val (.int (1 : Int32)), .val (.int (1 : Int32)), .val (.int (1 : Int32)), .val (.int (2 : Int32)), .val (.int (0 : Int32))]) rfl (q := 55) rfl ?_
  refine o_aloadN X13 d_method_9_55 rfl rfl (q := 56) rfl ?_
  refine o_iconst X13 d_method_9_56 (w := 2) rfl (q := 57) rfl ?_
  refine o_aloadN X13 d_method_9_57 rfl rfl (q := 58) rfl ?_
  refine o_iload X13 d_method_9_58 rfl (q := 60) rfl ?_
  refine o_iload X13 d_method_9_60 rfl (q := 62) rfl ?_
  have f14 := f12
  refine o_stat X13 [(.ref ar), (.int (2 : Int32)), (.int (0 : Int32))] (y' := (⟨"com/example/refinement/refinement/io/CodePointOrderComparePinLaw", "value", "([CII)I"⟩ : MethodName)) (c_v2_0 hw ar c0 c1 c2 _ f14) all0 (w38 hw) (w39 hw) (w3 hw) (w40 hw) (by decide) d_method_9_62 (rest := [(.int (2 : Int32)), (.ref out)]) rfl rfl (lenOf pd10 rfl) rfl (by decide) (Nat.le_of_ble_eq_true rfl) (by decide) (by decide) (q := 65) rfl ?_
  intro v15 vm15 T15 h15 l15 X15 R15 q15
  obtain ⟨rfl, e15⟩ := q15
  have e15 := e15.symm
  subst e15
  show Goes p e below _ T15 (mkF m 65 #[.val (.ref ar), .val (.int (2 : Int32)), .val (.ref out), .val (.int (1 : Int32)), .val (.int (1 : Int32)), .val (.int (1 : Int32)), .val (.int (2 : Int32)), .val (.int (0 : Int32))] [(.int (0 : Int32)), (.int (2 : Int32)), (.ref out)])
  have f16 := V11
  refine o_iastore X15 2 f16 go (Safe.arv X15.alike f16 (by decide)) (by decide) rfl (Nat.le_of_ble_eq_true rfl) (v := (.int (0 : Int32))) rfl d_method_9_65 (q := 66) rfl ?_
  intro T17 h17 l17 X17 W17 R17 V17
  have V17 : Arv Z h17 out ko .int (4 : Int32) [(.int c0), (.int c1), (.int (0 : Int32)), (.int (0 : Int32))] (.int (0 : Int32)) := V17
  refine o_aloadN X17 d_method_9_66 rfl rfl (q := 67) rfl ?_
  refine o_iconst X17 d_method_9_67 (w := 3) rfl (q := 68) rfl ?_
  refine o_iloadN X17 d_method_9_68 rfl (q := 69) rfl ?_
  refine o_ifN X17 d_method_9_69 (by decide) (q := 72) rfl ?_
  refine o_iconst X17 d_method_9_72 (w := 1) rfl (q := 73) rfl ?_
  refine o_goto X17 d_method_9_73 (by decide) (q := 77) (by decide) ?_
  refine o_iload X17 d_method_9_77 rfl (q := 79) rfl ?_
  refine o_ifN X17 d_method_9_79 (by decide) (q := 82) rfl ?_
  refine o_iconst X17 d_method_9_82 (w := 1) rfl (q := 83) rfl ?_
  refine o_goto X17 d_method_9_83 (by decide) (q := 87) (by decide) ?_
  refine o_iadd X17 d_method_9_87 (w := (2 : Int32)) (by decide) (q := 88) rfl ?_
  refine o_iload X17 d_method_9_88 rfl (q := 90) rfl ?_
  refine o_ifY X17 d_method_9_90 (by decide) (by decide) (q := 97) (by decide) ?_
  refine o_iconst X17 d_method_9_97 (w := 0) rfl (q := 98) rfl ?_
  refine o_iadd X17 d_method_9_98 (w := (2 : Int32)) (by decide) (q := 99) rfl ?_
  refine o_iastore X17 3 V17 go (Safe.arv X17.alike V17 (by decide)) (by decide) rfl (Nat.le_of_ble_eq_true rfl) (v := (.int (2 : Int32))) rfl d_method_9_99 (q := 100) rfl ?_
  intro T18 h18 l18 X18 W18 R18 V18
  have V18 : Arv Z h18 out ko .int (4 : Int32) [(.int c0), (.int c1), (.int (0 : Int32)), (.int (2 : Int32))] (.int (0 : Int32)) := V18
  have k19 := Keep.wr (Keep.refl h0 [out]) W5 (Or.inl (by simp))
  have k20 := Keep.wr k19 W11 (Or.inl (by simp))
  have k21 := Keep.wr k20 W17 (Or.inl (by simp))
  have k22 := Keep.wr k21 W18 (Or.inl (by simp))
  exact o_ret X18 d_method_9_100 (fun Sf hSf => ⟨rfl, k22, (by rw [show padV (cps [c0, c1]) = [(.int c0), (.int c1), (.int (0 : Int32)), (.int (2 : Int32))] from by simp [padV, cps, hp0]]; exact V18)⟩) (by decide) (by decide)
set_option maxRecDepth 65536 in
set_option maxHeartbeats 40000000 in
theorem c_dec3y {l : Launch} {Z : State} {a0 : Array Value} (hw : W a0 Z) (ar out : Addr) (c0 c1 c2 : Int32) (h0 : Heap) {ka : ClassId} (Va : Arv Z h0 ar ka .char (3 : Int32) [(.int c0), (.int c1), (.int c2)] (.int (0 : Int32))) {ko : ClassId} (Vo : Arv Z h0 out ko .int (4 : Int32) [(.int (0 : Int32)), (.int (0 : Int32)), (.int (0 : Int32)), (.int (0 : Int32))] (.int (0 : Int32))) (go : Z.heap.size ≤ out) (hne : ar ≠ out) (hp0 : (isHi c0 && isLo c1) = true) :
    Con l Z EL0 (⟨"com/example/refinement/refinement/io/CodePointOrderComparePinLaw", "decode", "([CI[I)V"⟩ : MethodName) method_9_code 8 none ({ frames := 2, cells := 0, slots := 0, locals := 26 } : Room) #[(.ref ar), (.int (3 : Int32)), (.ref out)] h0 [] (fun v h' Sf => v = none ∧ Keep h0 h' [out] ∧ Arv Z h' out ko .int (4 : Int32) (padV (cps [c0, c1, c2])) (.int (0 : Int32))) := by
  have hpn : plainName "com/example/refinement/refinement/io/CodePointOrderComparePinLaw" = true := by first | (simp [plainName, overriddenIn]; done) | decide +kernel
  refine Con.intro (plainFor_of_name hpn) ?_
  intro p e s m below meth c T X hss
  refine Goes.cast (g' := mkF m 0 #[.val (.ref ar), .val (.int (3 : Int32)), .val (.ref out), .unset, .unset, .unset, .unset, .unset] []) (by first | (simp [entryFrame, mkF, argsToLocals, Value.category]; done) | rfl) ?_
  refine o_aloadN X d_method_9_0 rfl rfl (q := 1) rfl ?_
  refine o_iloadN X d_method_9_1 rfl (q := 2) rfl ?_
  refine o_iconst X d_method_9_2 (w := 0) rfl (q := 3) rfl ?_
  refine o_stat X [(.ref ar), (.int (3 : Int32)), (.int (0 : Int32))] (y' := (⟨"com/example/refinement/refinement/io/CodePointOrderComparePinLaw", "width", "([CII)I"⟩ : MethodName)) (c_w3_0y hw ar c0 c1 c2 _ Va hp0) all0 (w35 hw) (w36 hw) (w3 hw) (w37 hw) (by decide) d_method_9_3 (rest := []) rfl rfl (lenOf pd10 rfl) rfl (by decide) (Nat.le_of_ble_eq_true rfl) (by decide) (by decide) (q := 6) rfl ?_
  intro v1 vm1 T1 h1 l1 X1 R1 q1
  obtain ⟨rfl, e1⟩ := q1
  have e1 := e1.symm
  subst e1
  show Goes p e below _ T1 (mkF m 6 #[.val (.ref ar), .val (.int (3 : Int32)), .val (.ref out), .unset, .unset, .unset, .unset, .unset] [(.int (2 : Int32))])
  refine o_istoreN X1 d_method_9_6 rfl (L' := #[.val (.ref ar), .val (.int (3 : Int32)), .val (.ref out), .val (.int (2 : Int32)), .unset, .unset, .unset, .unset]) rfl (q := 7) rfl ?_
  refine o_aloadN X1 d_method_9_7 rfl rfl (q := 8) rfl ?_
  refine o_iconst X1 d_method_9_8 (w := 0) rfl (q := 9) rfl ?_
  refine o_aloadN X1 d_method_9_9 rfl rfl (q := 10) rfl ?_
  refine o_iconst X1 d_method_9_10 (w := 0) rfl (q := 11) rfl ?_
  refine o_iloadN X1 d_method_9_11 rfl (q := 12) rfl ?_
  have f2 := Va
  refine o_stat X1 [(.ref ar), (.int (0 : Int32)), (.int (2 : Int32))] (y' := (⟨"com/example/refinement/refinement/io/CodePointOrderComparePinLaw", "value", "([CII)I"⟩ : MethodName)) (c_v0_2 hw ar c0 c1 c2 _ f2) all0 (w38 hw) (w39 hw) (w3 hw) (w40 hw) (by decide) d_method_9_12 (rest := [(.int (0 : Int32)), (.ref out)]) rfl rfl (lenOf pd10 rfl) rfl (by decide) (Nat.le_of_ble_eq_true rfl) (by decide) (by decide) (q := 15) rfl ?_
  intro v3 vm3 T3 h3 l3 X3 R3 q3
  obtain ⟨rfl, e3⟩ := q3
  have e3 := e3.symm
  subst e3
  show Goes p e below _ T3 (mkF m 15 #[.val (.ref ar), .val (.int (3 : Int32)), .val (.ref out), .val (.int (2 : Int32)), .unset, .unset, .unset, .unset] [(.int (toCP c0 c1)), (.int (0 : Int32)), (.ref out)])
  have f4 := Vo
  refine o_iastore X3 0 f4 go (Safe.arv X3.alike f4 (by decide)) (by decide) rfl (Nat.le_of_ble_eq_true rfl) (v := (.int (toCP c0 c1))) rfl d_method_9_15 (q := 16) rfl ?_
  intro T5 h5 l5 X5 W5 R5 V5
  have V5 : Arv Z h5 out ko .int (4 : Int32) [(.int (toCP c0 c1)), (.int (0 : Int32)), (.int (0 : Int32)), (.int (0 : Int32))] (.int (0 : Int32)) := V5
  refine o_iloadN X5 d_method_9_16 rfl (q := 17) rfl ?_
  refine o_istore X5 d_method_9_17 rfl (L' := #[.val (.ref ar), .val (.int (3 : Int32)), .val (.ref out), .val (.int (2 : Int32)), .val (.int (2 : Int32)), .unset, .unset, .unset]) rfl (q := 19) rfl ?_
  refine o_aloadN X5 d_method_9_19 rfl rfl (q := 20) rfl ?_
  refine o_iloadN X5 d_method_9_20 rfl (q := 21) rfl ?_
  refine o_iload X5 d_method_9_21 rfl (q := 23) rfl ?_
  have f6 := (f2.other W5 hne)
  refine o_stat X5 [(.ref ar), (.int (3 : Int32)), (.int (2 : Int32))] (y' := (⟨"com/example/refinement/refinement/io/CodePointOrderComparePinLaw", "width", "([CII)I"⟩ : MethodName)) (c_w3_2 hw ar c0 c1 c2 _ f6) all0 (w35 hw) (w36 hw) (w3 hw) (w37 hw) (by decide) d_method_9_23 (rest := []) rfl rfl (lenOf pd10 rfl) rfl (by decide) (Nat.le_of_ble_eq_true rfl) (by decide) (by decide) (q := 26) rfl ?_
  intro v7 vm7 T7 h7 l7 X7 R7 q7
  obtain ⟨rfl, e7⟩ := q7
  have e7 := e7.symm
  subst e7
  show Goes p e below _ T7 (mkF m 26 #[.val (.ref ar), .val (.int (3 : Int32)), .val (.ref out), .val (.int (2 : Int32)), .val (.int (2 : Int32)), .unset, .unset, .unset] [(.int (1 : Int32))])
  refine o_istore X7 d_method_9_26 rfl (L' := #[.val (.ref ar), .val (.int (3 : Int32)), .val (.ref out), .val (.int (2 : Int32)), .val (.int (2 : Int32)), .val (.int (1 : Int32)), .unset, .unset]) rfl (q := 28) rfl ?_
  refine o_aloadN X7 d_method_9_28 rfl rfl (q := 29) rfl ?_
  refine o_iconst X7 d_method_9_29 (w := 1) rfl (q := 30) rfl ?_
  refine o_aloadN X7 d_method_9_30 rfl rfl (q := 31) rfl ?_
  refine o_iload X7 d_method_9_31 rfl (q := 33) rfl ?_
  refine o_iload X7 d_method_9_33 rfl (q := 35) rfl ?_
  have f8 := f6
  refine o_stat X7 [(.ref ar), (.int (2 : Int32)), (.int (1 : Int32))] (y' := (⟨"com/example/refinement/refinement/io/CodePointOrderComparePinLaw", "value", "([CII)I"⟩ : MethodName)) (c_v2_1 hw ar c0 c1 c2 _ f8) all0 (w38 hw) (w39 hw) (w3 hw) (w40 hw) (by decide) d_method_9_35 (rest := [(.int (1 : Int32)), (.ref out)]) rfl rfl (lenOf pd10 rfl) rfl (by decide) (Nat.le_of_ble_eq_true rfl) (by decide) (by decide) (q := 38) rfl ?_
  intro v9 vm9 T9 h9 l9 X9 R9 q9
  obtain ⟨rfl, e9⟩ := q9
  have e9 := e9.symm
  subst e9
  show Goes p e below _ T9 (mkF m 38 #[.val (.ref ar), .val (.int (3 : Int32)), .val (.ref out), .val (.int (2 : Int32)), .val (.int (2 : Int32)), .val (.int (1 : Int32)), .unset, .unset] [(.int c2), (.int (1 : Int32)), (.ref out)])
  have f10 := V5
  refine o_iastore X9 1 f10 go (Safe.arv X9.alike f10 (by decide)) (by decide) rfl (Nat.le_of_ble_eq_true rfl) (v := (.int c2)) rfl d_method_9_38 (q := 39) rfl ?_
  intro T11 h11 l11 X11 W11 R11 V11
  have V11 : Arv Z h11 out ko .int (4 : Int32) [(.int (toCP c0 c1)), (.int c2), (.int (0 : Int32)), (.int (0 : Int32))] (.int (0 : Int32)) := V11
  refine o_iload X11 d_method_9_39 rfl (q := 41) rfl ?_
  refine o_iload X11 d_method_9_41 rfl (q := 43) rfl ?_
  refine o_iadd X11 d_method_9_43 (w := (3 : Int32)) (by decide) (q := 44) rfl ?_
  refine o_istore X11 d_method_9_44 rfl (L' := #[.val (.ref ar), .val (.int (3 : Int32)), .val (.ref out), .val (.int (2 : Int32)), .val (.int (2 : Int32)), .val (.int (1 : Int32)), .val (.int (3 : Int32)), .unset]) rfl (q := 46) rfl ?_
  refine o_aloadN X11 d_method_9_46 rfl rfl (q := 47) rfl ?_
  refine o_iloadN X11 d_method_9_47 rfl (q := 48) rfl ?_
  refine o_iload X11 d_method_9_48 rfl (q := 50) rfl ?_
  have f12 := (f8.other W11 hne)
  refine o_stat X11 [(.ref ar), (.int (3 : Int32)), (.int (3 : Int32))] (y' := (⟨"com/example/refinement/refinement/io/CodePointOrderComparePinLaw", "width", "([CII)I"⟩ : MethodName)) (c_w3_3 hw ar c0 c1 c2 _ f12) all0 (w35 hw) (w36 hw) (w3 hw) (w37 hw) (by decide) d_method_9_50 (rest := []) rfl rfl (lenOf pd10 rfl) rfl (by decide) (Nat.le_of_ble_eq_true rfl) (by decide) (by decide) (q := 53) rfl ?_
  intro v13 vm13 T13 h13 l13 X13 R13 q13
  obtain ⟨rfl, e13⟩ := q13
  have e13 := e13.symm
  subst e13
  show Goes p e below _ T13 (mkF m 53 #[.val (.ref ar), .val (.int (3 : Int32)), .val (.ref out), .val (.int (2 : Int32)), .val (.int (2 : Int32)), .val (.int (1 : Int32)), .val (.int (3 : Int32)), .unset] [(.int (0 : Int32))])
  refine o_istore X13 d_method_9_53 rfl (L' := #[.val (.ref ar), .val (.int (3 : Int32)), .val (.ref out), .val (.int (2 : Int32)), .val (.int (2 : Int32)), .val (.int (1 : Int32)), .val (.int (3 : Int32)), .val (.int (0 : Int32))]) rfl (q := 55) rfl ?_
  refine o_aloadN X13 d_method_9_55 rfl rfl (q := 56) rfl ?_
  refine o_iconst X13 d_method_9_56 (w := 2) rfl (q := 57) rfl ?_
  refine o_aloadN X13 d_method_9_57 rfl rfl (q := 58) rfl ?_
  refine o_iload X13 d_method_9_58 rfl (q := 60) rfl ?_
  refine o_iload X13 d_method_9_60 rfl (q := 62) rfl ?_
  have f14 := f12
  refine o_stat X13 [(.ref ar), (.int (3 : Int32)), (.int (0 : Int32))] (y' := (⟨"com/example/refinement/refinement/io/CodePointOrderComparePinLaw", "value", "([CII)I"⟩ : MethodName)) (c_v3_0 hw ar c0 c1 c2 _ f14) all0 (w38 hw) (w39 hw) (w3 hw) (w40 hw) (by decide) d_method_9_62 (rest := [(.int (2 : Int32)), (.ref out)]) rfl rfl (lenOf pd10 rfl) rfl (by decide) (Nat.le_of_ble_eq_true rfl) (by decide) (by decide) (q := 65) rfl ?_
  intro v15 vm15 T15 h15 l15 X15 R15 q15
  obtain ⟨rfl, e15⟩ := q15
  have e15 := e15.symm
  subst e15
  show Goes p e below _ T15 (mkF m 65 #[.val (.ref ar), .val (.int (3 : Int32)), .val (.ref out), .val (.int (2 : Int32)), .val (.int (2 : Int32)), .val (.int (1 : Int32)), .val (.int (3 : Int32)), .val (.int (0 : Int32))] [(.int (0 : Int32)), (.int (2 : Int32)), (.ref out)])
  have f16 := V11
  refine o_iastore X15 2 f16 go (Safe.arv X15.alike f16 (by decide)) (by decide) rfl (Nat.le_of_ble_eq_true rfl) (v := (.int (0 : Int32))) rfl d_method_9_65 (q := 66) rfl ?_
  intro T17 h17 l17 X17 W17 R17 V17
  have V17 : Arv Z h17 out ko .int (4 : Int32) [(.int (toCP c0 c1)), (.int c2), (.int (0 : Int32)), (.int (0 : Int32))] (.int (0 : Int32)) := V17
  refine o_aloadN X17 d_method_9_66 rfl rfl (q := 67) rfl ?_
  refine o_iconst X17 d_method_9_67 (w := 3) rfl (q := 68) rfl ?_
  refine o_iloadN X17 d_method_9_68 rfl (q := 69) rfl ?_
  refine o_ifN X17 d_method_9_69 (by decide) (q := 72) rfl ?_
  refine o_iconst X17 d_method_9_72 (w := 1) rfl (q := 73) rfl ?_
  refine o_goto X17 d_method_9_73 (by decide) (q := 77) (by decide) ?_
  refine o_iload X17 d_method_9_77 rfl (q := 79) rfl ?_
  refine o_ifN X17 d_method_9_79 (by decide) (q := 82) rfl ?_
  refine o_iconst X17 d_method_9_82 (w := 1) rfl (q := 83) rfl ?_
  refine o_goto X17 d_method_9_83 (by decide) (q := 87) (by decide) ?_
  refine o_iadd X17 d_method_9_87 (w := (2 : Int32)) (by decide) (q := 88) rfl ?_
  refine o_iload X17 d_method_9_88 rfl (q := 90) rfl ?_
  refine o_ifY X17 d_method_9_90 (by decide) (by decide) (q := 97) (by decide) ?_
  refine o_iconst X17 d_method_9_97 (w := 0) rfl (q := 98) rfl ?_
  refine o_iadd X17 d_method_9_98 (w := (2 : Int32)) (by decide) (q := 99) rfl ?_
  refine o_iastore X17 3 V17 go (Safe.arv X17.alike V17 (by decide)) (by decide) rfl (Nat.le_of_ble_eq_true rfl) (v := (.int (2 : Int32))) rfl d_method_9_99 (q := 100) rfl ?_
  intro T18 h18 l18 X18 W18 R18 V18
  have V18 : Arv Z h18 out ko .int (4 : Int32) [(.int (toCP c0 c1)), (.int c2), (.int (0 : Int32)), (.int (2 : Int32))] (.int (0 : Int32)) := V18
  have k19 := Keep.wr (Keep.refl h0 [out]) W5 (Or.inl (by simp))
  have k20 := Keep.wr k19 W11 (Or.inl (by simp))
  have k21 := Keep.wr k20 W17 (Or.inl (by simp))
  have k22 := Keep.wr k21 W18 (Or.inl (by simp))
  exact o_ret X18 d_method_9_100 (fun Sf hSf => ⟨rfl, k22, (by rw [show padV (cps [c0, c1, c2]) = [(.int (toCP c0 c1)), (.int c2), (.int (0 : Int32)), (.int (2 : Int32))] from by simp [padV, cps, hp0]]; exact V18)⟩) (by decide) (by decide)
set_option maxRecDepth 65536 in
set_option maxHeartbeats 40000000 in
theorem c_dec3ny {l : Launch} {Z : State} {a0 : Array Value} (hw : W a0 Z) (ar out : Addr) (c0 c1 c2 : Int32) (h0 : Heap) {ka : ClassId} (Va : Arv Z h0 ar ka .char (3 : Int32) [(.int c0), (.int c1), (.int c2)] (.int (0 : Int32))) {ko : ClassId} (Vo : Arv Z h0 out ko .int (4 : Int32) [(.int (0 : Int32)), (.int (0 : Int32)), (.int (0 : Int32)), (.int (0 : Int32))] (.int (0 : Int32))) (go : Z.heap.size ≤ out) (hne : ar ≠ out) (hp0 : ¬ (isHi c0 && isLo c1) = true) (hp1 : (isHi c1 && isLo c2) = true) :
    Con l Z EL0 (⟨"com/example/refinement/refinement/io/CodePointOrderComparePinLaw", "decode", "([CI[I)V"⟩ : MethodName) method_9_code 8 none ({ frames := 2, cells := 0, slots := 0, locals := 26 } : Room) #[(.ref ar), (.int (3 : Int32)), (.ref out)] h0 [] (fun v h' Sf => v = none ∧ Keep h0 h' [out] ∧ Arv Z h' out ko .int (4 : Int32) (padV (cps [c0, c1, c2])) (.int (0 : Int32))) := by
  have hpn : plainName "com/example/refinement/refinement/io/CodePointOrderComparePinLaw" = true := by first | (simp [plainName, overriddenIn]; done) | decide +kernel
  refine Con.intro (plainFor_of_name hpn) ?_
  intro p e s m below meth c T X hss
  refine Goes.cast (g' := mkF m 0 #[.val (.ref ar), .val (.int (3 : Int32)), .val (.ref out), .unset, .unset, .unset, .unset, .unset] []) (by first | (simp [entryFrame, mkF, argsToLocals, Value.category]; done) | rfl) ?_
  refine o_aloadN X d_method_9_0 rfl rfl (q := 1) rfl ?_
  refine o_iloadN X d_method_9_1 rfl (q := 2) rfl ?_
  refine o_iconst X d_method_9_2 (w := 0) rfl (q := 3) rfl ?_
  refine o_stat X [(.ref ar), (.int (3 : Int32)), (.int (0 : Int32))] (y' := (⟨"com/example/refinement/refinement/io/CodePointOrderComparePinLaw", "width", "([CII)I"⟩ : MethodName)) (c_w3_0n hw ar c0 c1 c2 _ Va hp0) all0 (w35 hw) (w36 hw) (w3 hw) (w37 hw) (by decide) d_method_9_3 (rest := []) rfl rfl (lenOf pd10 rfl) rfl (by decide) (Nat.le_of_ble_eq_true rfl) (by decide) (by decide) (q := 6) rfl ?_
  intro v1 vm1 T1 h1 l1 X1 R1 q1
  obtain ⟨rfl, e1⟩ := q1
  have e1 := e1.symm
  subst e1
  show Goes p e below _ T1 (mkF m 6 #[.val (.ref ar), .val (.int (3 : Int32)), .val (.ref out), .unset, .unset, .unset, .unset, .unset] [(.int (1 : Int32))])
  refine o_istoreN X1 d_method_9_6 rfl (L' := #[.val (.ref ar), .val (.int (3 : Int32)), .val (.ref out), .val (.int (1 : Int32)), .unset, .unset, .unset, .unset]) rfl (q := 7) rfl ?_
  refine o_aloadN X1 d_method_9_7 rfl rfl (q := 8) rfl ?_
  refine o_iconst X1 d_method_9_8 (w := 0) rfl (q := 9) rfl ?_
  refine o_aloadN X1 d_method_9_9 rfl rfl (q := 10) rfl ?_
  refine o_iconst X1 d_method_9_10 (w := 0) rfl (q := 11) rfl ?_
  refine o_iloadN X1 d_method_9_11 rfl (q := 12) rfl ?_
  have f2 := Va
  refine o_stat X1 [(.ref ar), (.int (0 : Int32)), (.int (1 : Int32))] (y' := (⟨"com/example/refinement/refinement/io/CodePointOrderComparePinLaw", "value", "([CII)I"⟩ : MethodName)) (c_v0_1 hw ar c0 c1 c2 _ f2) all0 (w38 hw) (w39 hw) (w3 hw) (w40 hw) (by decide) d_method_9_12 (rest := [(.int (0 : Int32)), (.ref out)]) rfl rfl (lenOf pd10 rfl) rfl (by decide) (Nat.le_of_ble_eq_true rfl) (by decide) (by decide) (q := 15) rfl ?_
  intro v3 vm3 T3 h3 l3 X3 R3 q3
  obtain ⟨rfl, e3⟩ := q3
  have e3 := e3.symm
  subst e3
  show Goes p e below _ T3 (mkF m 15 #[.val (.ref ar), .val (.int (3 : Int32)), .val (.ref out), .val (.int (1 : Int32)), .unset, .unset, .unset, .unset] [(.int c0), (.int (0 : Int32)), (.ref out)])
  have f4 := Vo
  refine o_iastore X3 0 f4 go (Safe.arv X3.alike f4 (by decide)) (by decide) rfl (Nat.le_of_ble_eq_true rfl) (v := (.int c0)) rfl d_method_9_15 (q := 16) rfl ?_
  intro T5 h5 l5 X5 W5 R5 V5
  have V5 : Arv Z h5 out ko .int (4 : Int32) [(.int c0), (.int (0 : Int32)), (.int (0 : Int32)), (.int (0 : Int32))] (.int (0 : Int32)) := V5
  refine o_iloadN X5 d_method_9_16 rfl (q := 17) rfl ?_
  refine o_istore X5 d_method_9_17 rfl (L' := #[.val (.ref ar), .val (.int (3 : Int32)), .val (.ref out), .val (.int (1 : Int32)), .val (.int (1 : Int32)), .unset, .unset, .unset]) rfl (q := 19) rfl ?_
  refine o_aloadN X5 d_method_9_19 rfl rfl (q := 20) rfl ?_
  refine o_iloadN X5 d_method_9_20 rfl (q := 21) rfl ?_
  refine o_iload X5 d_method_9_21 rfl (q := 23) rfl ?_
  have f6 := (f2.other W5 hne)
  refine o_stat X5 [(.ref ar), (.int (3 : Int32)), (.int (1 : Int32))] (y' := (⟨"com/example/refinement/refinement/io/CodePointOrderComparePinLaw", "width", "([CII)I"⟩ : MethodName)) (c_w3_1y hw ar c0 c1 c2 _ f6 hp1) all0 (w35 hw) (w36 hw) (w3 hw) (w37 hw) (by decide) d_method_9_23 (rest := []) rfl rfl (lenOf pd10 rfl) rfl (by decide) (Nat.le_of_ble_eq_true rfl) (by decide) (by decide) (q := 26) rfl ?_
  intro v7 vm7 T7 h7 l7 X7 R7 q7
  obtain ⟨rfl, e7⟩ := q7
  have e7 := e7.symm
  subst e7
  show Goes p e below _ T7 (mkF m 26 #[.val (.ref ar), .val (.int (3 : Int32)), .val (.ref out), .val (.int (1 : Int32)), .val (.int (1 : Int32)), .unset, .unset, .unset] [(.int (2 : Int32))])
  refine o_istore X7 d_method_9_26 rfl (L' := #[.val (.ref ar), .val (.int (3 : Int32)), .val (.ref out), .val (.int (1 : Int32)), .val (.int (1 : Int32)), .val (.int (2 : Int32)), .unset, .unset]) rfl (q := 28) rfl ?_
  refine o_aloadN X7 d_method_9_28 rfl rfl (q := 29) rfl ?_
  refine o_iconst X7 d_method_9_29 (w := 1) rfl (q := 30) rfl ?_
  refine o_aloadN X7 d_method_9_30 rfl rfl (q := 31) rfl ?_
  refine o_iload X7 d_method_9_31 rfl (q := 33) rfl ?_
  refine o_iload X7 d_method_9_33 rfl (q := 35) rfl ?_
  have f8 := f6
  refine o_stat X7 [(.ref ar), (.int (1 : Int32)), (.int (2 : Int32))] (y' := (⟨"com/example/refinement/refinement/io/CodePointOrderComparePinLaw", "value", "([CII)I"⟩ : MethodName)) (c_v1_2 hw ar c0 c1 c2 _ f8) all0 (w38 hw) (w39 hw) (w3 hw) (w40 hw) (by decide) d_method_9_35 (rest := [(.int (1 : Int32)), (.ref out)]) rfl rfl (lenOf pd10 rfl) rfl (by decide) (Nat.le_of_ble_eq_true rfl) (by decide) (by decide) (q := 38) rfl ?_
  intro v9 vm9 T9 h9 l9 X9 R9 q9
  obtain ⟨rfl, e9⟩ := q9
  have e9 := e9.symm
  subst e9
  show Goes p e below _ T9 (mkF m 38 #[.val (.ref ar), .val (.int (3 : Int32)), .val (.ref out), .val (.int (1 : Int32)), .val (.int (1 : Int32)), .val (.int (2 : Int32)), .unset, .unset] [(.int (toCP c1 c2)), (.int (1 : Int32)), (.ref out)])
  have f10 := V5
  refine o_iastore X9 1 f10 go (Safe.arv X9.alike f10 (by decide)) (by decide) rfl (Nat.le_of_ble_eq_true rfl) (v := (.int (toCP c1 c2))) rfl d_method_9_38 (q := 39) rfl ?_
  intro T11 h11 l11 X11 W11 R11 V11
  have V11 : Arv Z h11 out ko .int (4 : Int32) [(.int c0), (.int (toCP c1 c2)), (.int (0 : Int32)), (.int (0 : Int32))] (.int (0 : Int32)) := V11
  refine o_iload X11 d_method_9_39 rfl (q := 41) rfl ?_
  refine o_iload X11 d_method_9_41 rfl (q := 43) rfl ?_
  refine o_iadd X11 d_method_9_43 (w := (3 : Int32)) (by decide) (q := 44) rfl ?_
  refine o_istore X11 d_method_9_44 rfl (L' := #[.val (.ref ar), .val (.int (3 : Int32)), .val (.ref out), .val (.int (1 : Int32)), .val (.int (1 : Int32)), .val (.int (2 : Int32)), .val (.int (3 : Int32)), .unset]) rfl (q := 46) rfl ?_
  refine o_aloadN X11 d_method_9_46 rfl rfl (q := 47) rfl ?_
  refine o_iloadN X11 d_method_9_47 rfl (q := 48) rfl ?_
  refine o_iload X11 d_method_9_48 rfl (q := 50) rfl ?_
  have f12 := (f8.other W11 hne)
  refine o_stat X11 [(.ref ar), (.int (3 : Int32)), (.int (3 : Int32))] (y' := (⟨"com/example/refinement/refinement/io/CodePointOrderComparePinLaw", "width", "([CII)I"⟩ : MethodName)) (c_w3_3 hw ar c0 c1 c2 _ f12) all0 (w35 hw) (w36 hw) (w3 hw) (w37 hw) (by decide) d_method_9_50 (rest := []) rfl rfl (lenOf pd10 rfl) rfl (by decide) (Nat.le_of_ble_eq_true rfl) (by decide) (by decide) (q := 53) rfl ?_
  intro v13 vm13 T13 h13 l13 X13 R13 q13
  obtain ⟨rfl, e13⟩ := q13
  have e13 := e13.symm
  subst e13
  show Goes p e below _ T13 (mkF m 53 #[.val (.ref ar), .val (.int (3 : Int32)), .val (.ref out), .val (.int (1 : Int32)), .val (.int (1 : Int32)), .val (.int (2 : Int32)), .val (.int (3 : Int32)), .unset] [(.int (0 : Int32))])
  refine o_istore X13 d_method_9_53 rfl (L' := #[.val (.ref ar), .val (.int (3 : Int32)), .val (.ref out), .val (.int (1 : Int32)), .val (.int (1 : Int32)), .val (.int (2 : Int32)), .val (.int (3 : Int32)), .val (.int (0 : Int32))]) rfl (q := 55) rfl ?_
  refine o_aloadN X13 d_method_9_55 rfl rfl (q := 56) rfl ?_
  refine o_iconst X13 d_method_9_56 (w := 2) rfl (q := 57) rfl ?_
  refine o_aloadN X13 d_method_9_57 rfl rfl (q := 58) rfl ?_
  refine o_iload X13 d_method_9_58 rfl (q := 60) rfl ?_
  refine o_iload X13 d_method_9_60 rfl (q := 62) rfl ?_
  have f14 := f12
  refine o_stat X13 [(.ref ar), (.int (3 : Int32)), (.int (0 : Int32))] (y' := (⟨"com/example/refinement/refinement/io/CodePointOrderComparePinLaw", "value", "([CII)I"⟩ : MethodName)) (c_v3_0 hw ar c0 c1 c2 _ f14) all0 (w38 hw) (w39 hw) (w3 hw) (w40 hw) (by decide) d_method_9_62 (rest := [(.int (2 : Int32)), (.ref out)]) rfl rfl (lenOf pd10 rfl) rfl (by decide) (Nat.le_of_ble_eq_true rfl) (by decide) (by decide) (q := 65) rfl ?_
  intro v15 vm15 T15 h15 l15 X15 R15 q15
  obtain ⟨rfl, e15⟩ := q15
  have e15 := e15.symm
  subst e15
  show Goes p e below _ T15 (mkF m 65 #[.val (.ref ar), .val (.int (3 : Int32)), .val (.ref out), .val (.int (1 : Int32)), .val (.int (1 : Int32)), .val (.int (2 : Int32)), .val (.int (3 : Int32)), .val (.int (0 : Int32))] [(.int (0 : Int32)), (.int (2 : Int32)), (.ref out)])
  have f16 := V11
  refine o_iastore X15 2 f16 go (Safe.arv X15.alike f16 (by decide)) (by decide) rfl (Nat.le_of_ble_eq_true rfl) (v := (.int (0 : Int32))) rfl d_method_9_65 (q := 66) rfl ?_
  intro T17 h17 l17 X17 W17 R17 V17
  have V17 : Arv Z h17 out ko .int (4 : Int32) [(.int c0), (.int (toCP c1 c2)), (.int (0 : Int32)), (.int (0 : Int32))] (.int (0 : Int32)) := V17
  refine o_aloadN X17 d_method_9_66 rfl rfl (q := 67) rfl ?_
  refine o_iconst X17 d_method_9_67 (w := 3) rfl (q := 68) rfl ?_
  refine o_iloadN X17 d_method_9_68 rfl (q := 69) rfl ?_
  refine o_ifN X17 d_method_9_69 (by decide) (q := 72) rfl ?_
  refine o_iconst X17 d_method_9_72 (w := 1) rfl (q := 73) rfl ?_
  refine o_goto X17 d_method_9_73 (by decide) (q := 77) (by decide) ?_
  refine o_iload X17 d_method_9_77 rfl (q := 79) rfl ?_
  refine o_ifN X17 d_method_9_79 (by decide) (q := 82) rfl ?_
  refine o_iconst X17 d_method_9_82 (w := 1) rfl (q := 83) rfl ?_
  refine o_goto X17 d_method_9_83 (by decide) (q := 87) (by decide) ?_
  refine o_iadd X17 d_method_9_87 (w := (2 : Int32)) (by decide) (q := 88) rfl ?_
  refine o_iload X17 d_method_9_88 rfl (q := 90) rfl ?_
  refine o_ifY X17 d_method_9_90 (by decide) (by decide) (q := 97) (by decide) ?_
  refine o_iconst X17 d_method_9_97 (w := 0) rfl (q := 98) rfl ?_
  refine o_iadd X17 d_method_9_98 (w := (2 : Int32)) (by decide) (q := 99) rfl ?_
  refine o_iastore X17 3 V17 go (Safe.arv X17.alike V17 (by decide)) (by decide) rfl (Nat.le_of_ble_eq_true rfl) (v := (.int (2 : Int32))) rfl d_method_9_99 (q := 100) rfl ?_
  intro T18 h18 l18 X18 W18 R18 V18
  have V18 : Arv Z h18 out ko .int (4 : Int32) [(.int c0), (.int (toCP c1 c2)), (.int (0 : Int32)), (.int (2 : Int32))] (.int (0 : Int32)) := V18
  have k19 := Keep.wr (Keep.refl h0 [out]) W5 (Or.inl (by simp))
  have k20 := Keep.wr k19 W11 (Or.inl (by simp))
  have k21 := Keep.wr k20 W17 (Or.inl (by simp))
  have k22 := Keep.wr k21 W18 (Or.inl (by simp))
  exact o_ret X18 d_method_9_100 (fun Sf hSf => ⟨rfl, k22, (by rw [show padV (cps [c0, c1, c2]) = [(.int c0), (.int (toCP c1 c2)), (.int (0 : Int32)), (.int (2 : Int32))] from by simp [padV, cps, hp0, hp1]]; exact V18)⟩) (by decide) (by decide)
set_option maxRecDepth 65536 in
set_option maxHeartbeats 40000000 in
theorem c_dec3nn {l : Launch} {Z : State} {a0 : Array Value} (hw : W a0 Z) (ar out : Addr) (c0 c1 c2 : Int32) (h0 : Heap) {ka : ClassId} (Va : Arv Z h0 ar ka .char (3 : Int32) [(.int c0), (.int c1), (.int c2)] (.int (0 : Int32))) {ko : ClassId} (Vo : Arv Z h0 out ko .int (4 : Int32) [(.int (0 : Int32)), (.int (0 : Int32)), (.int (0 : Int32)), (.int (0 : Int32))] (.int (0 : Int32))) (go : Z.heap.size ≤ out) (hne : ar ≠ out) (hp0 : ¬ (isHi c0 && isLo c1) = true) (hp1 : ¬ (isHi c1 && isLo c2) = true) :
    Con l Z EL0 (⟨"com/example/refinement/refinement/io/CodePointOrderComparePinLaw", "decode", "([CI[I)V"⟩ : MethodName) method_9_code 8 none ({ frames := 2, cells := 0, slots := 0, locals := 26 } : Room) #[(.ref ar), (.int (3 : Int32)), (.ref out)] h0 [] (fun v h' Sf => v = none ∧ Keep h0 h' [out] ∧ Arv Z h' out ko .int (4 : Int32) (padV (cps [c0, c1, c2])) (.int (0 : Int32))) := by
  have hpn : plainName "com/example/refinement/refinement/io/CodePointOrderComparePinLaw" = true := by first | (simp [plainName, overriddenIn]; done) | decide +kernel
  refine Con.intro (plainFor_of_name hpn) ?_
  intro p e s m below meth c T X hss
  refine Goes.cast (g' := mkF m 0 #[.val (.ref ar), .val (.int (3 : Int32)), .val (.ref out), .unset, .unset, .unset, .unset, .unset] []) (by first | (simp [entryFrame, mkF, argsToLocals, Value.category]; done) | rfl) ?_
  refine o_aloadN X d_method_9_0 rfl rfl (q := 1) rfl ?_
  refine o_iloadN X d_method_9_1 rfl (q := 2) rfl ?_
  refine o_iconst X d_method_9_2 (w := 0) rfl (q := 3) rfl ?_
  refine o_stat X [(.ref ar), (.int (3 : Int32)), (.int (0 : Int32))] (y' := (⟨"com/example/refinement/refinement/io/CodePointOrderComparePinLaw", "width", "([CII)I"⟩ : MethodName)) (c_w3_0n hw ar c0 c1 c2 _ Va hp0) all0 (w35 hw) (w36 hw) (w3 hw) (w37 hw) (by decide) d_method_9_3 (rest := []) rfl rfl (lenOf pd10 rfl) rfl (by decide) (Nat.le_of_ble_eq_true rfl) (by decide) (by decide) (q := 6) rfl ?_
  intro v1 vm1 T1 h1 l1 X1 R1 q1
  obtain ⟨rfl, e1⟩ := q1
  have e1 := e1.symm
  subst e1
  show Goes p e below _ T1 (mkF m 6 #[.val (.ref ar), .val (.int (3 : Int32)), .val (.ref out), .unset, .unset, .unset, .unset, .unset] [(.int (1 : Int32))])
  refine o_istoreN X1 d_method_9_6 rfl (L' := #[.val (.ref ar), .val (.int (3 : Int32)), .val (.ref out), .val (.int (1 : Int32)), .unset, .unset, .unset, .unset]) rfl (q := 7) rfl ?_
  refine o_aloadN X1 d_method_9_7 rfl rfl (q := 8) rfl ?_
  refine o_iconst X1 d_method_9_8 (w := 0) rfl (q := 9) rfl ?_
  refine o_aloadN X1 d_method_9_9 rfl rfl (q := 10) rfl ?_
  refine o_iconst X1 d_method_9_10 (w := 0) rfl (q := 11) rfl ?_
  refine o_iloadN X1 d_method_9_11 rfl (q := 12) rfl ?_
  have f2 := Va
  refine o_stat X1 [(.ref ar), (.int (0 : Int32)), (.int (1 : Int32))] (y' := (⟨"com/example/refinement/refinement/io/CodePointOrderComparePinLaw", "value", "([CII)I"⟩ : MethodName)) (c_v0_1 hw ar c0 c1 c2 _ f2) all0 (w38 hw) (w39 hw) (w3 hw) (w40 hw) (by decide) d_method_9_12 (rest := [(.int (0 : Int32)), (.ref out)]) rfl rfl (lenOf pd10 rfl) rfl (by decide) (Nat.le_of_ble_eq_true rfl) (by decide) (by decide) (q := 15) rfl ?_
  intro v3 vm3 T3 h3 l3 X3 R3 q3
  obtain ⟨rfl, e3⟩ := q3
  have e3 := e3.symm
  subst e3
  show Goes p e below _ T3 (mkF m 15 #[.val (.ref ar), .val (.int (3 : Int32)), .val (.ref out), .val (.int (1 : Int32)), .unset, .unset, .unset, .unset] [(.int c0), (.int (0 : Int32)), (.ref out)])
  have f4 := Vo
  refine o_iastore X3 0 f4 go (Safe.arv X3.alike f4 (by decide)) (by decide) rfl (Nat.le_of_ble_eq_true rfl) (v := (.int c0)) rfl d_method_9_15 (q := 16) rfl ?_
  intro T5 h5 l5 X5 W5 R5 V5
  have V5 : Arv Z h5 out ko .int (4 : Int32) [(.int c0), (.int (0 : Int32)), (.int (0 : Int32)), (.int (0 : Int32))] (.int (0 : Int32)) := V5
  refine o_iloadN X5 d_method_9_16 rfl (q := 17) rfl ?_
  refine o_istore X5 d_method_9_17 rfl (L' := #[.val (.ref ar), .val (.int (3 : Int32)), .val (.ref out), .val (.int (1 : Int32)), .val (.int (1 : Int32)), .unset, .unset, .unset]) rfl (q := 19) rfl ?_
  refine o_aloadN X5 d_method_9_19 rfl rfl (q := 20) rfl ?_
  refine o_iloadN X5 d_method_9_20 rfl (q := 21) rfl ?_
  refine o_iload X5 d_method_9_21 rfl (q := 23) rfl ?_
  have f6 := (f2.other W5 hne)
  refine o_stat X5 [(.ref ar), (.int (3 : Int32)), (.int (1 : Int32))] (y' := (⟨"com/example/refinement/refinement/io/CodePointOrderComparePinLaw", "width", "([CII)I"⟩ : MethodName)) (c_w3_1n hw ar c0 c1 c2 _ f6 hp1) all0 (w35 hw) (w36 hw) (w3 hw) (w37 hw) (by decide) d_method_9_23 (rest := []) rfl rfl (lenOf pd10 rfl) rfl (by decide) (Nat.le_of_ble_eq_true rfl) (by decide) (by decide) (q := 26) rfl ?_
  intro v7 vm7 T7 h7 l7 X7 R7 q7
  obtain ⟨rfl, e7⟩ := q7
  have e7 := e7.symm
  subst e7
  show Goes p e below _ T7 (mkF m 26 #[.val (.ref ar), .val (.int (3 : Int32)), .val (.ref out), .val (.int (1 : Int32)), .val (.int (1 : Int32)), .unset, .unset, .unset] [(.int (1 : Int32))])
  refine o_istore X7 d_method_9_26 rfl (L' := #[.val (.ref ar), .val (.int (3 : Int32)), .val (.ref out), .val (.int (1 : Int32)), .val (.int (1 : Int32)), .val (.int (1 : Int32)), .unset, .unset]) rfl (q := 28) rfl ?_
  refine o_aloadN X7 d_method_9_28 rfl rfl (q := 29) rfl ?_
  refine o_iconst X7 d_method_9_29 (w := 1) rfl (q := 30) rfl ?_
  refine o_aloadN X7 d_method_9_30 rfl rfl (q := 31) rfl ?_
  refine o_iload X7 d_method_9_31 rfl (q := 33) rfl ?_
  refine o_iload X7 d_method_9_33 rfl (q := 35) rfl ?_
  have f8 := f6
  refine o_stat X7 [(.ref ar), (.int (1 : Int32)), (.int (1 : Int32))] (y' := (⟨"com/example/refinement/refinement/io/CodePointOrderComparePinLaw", "value", "([CII)I"⟩ : MethodName)) (c_v1_1 hw ar c0 c1 c2 _ f8) all0 (w38 hw) (w39 hw) (w3 hw) (w40 hw) (by decide) d_method_9_35 (rest := [(.int (1 : Int32)), (.ref out)]) rfl rfl (lenOf pd10 rfl) rfl (by decide) (Nat.le_of_ble_eq_true rfl) (by decide) (by decide) (q := 38) rfl ?_
  intro v9 vm9 T9 h9 l9 X9 R9 q9
  obtain ⟨rfl, e9⟩ := q9
  have e9 := e9.symm
  subst e9
  show Goes p e below _ T9 (mkF m 38 #[.val (.ref ar), .val (.int (3 : Int32)), .val (.ref out), .val (.int (1 : Int32)), .val (.int (1 : Int32)), .val (.int (1 : Int32)), .unset, .unset] [(.int c1), (.int (1 : Int32)), (.ref out)])
  have f10 := V5
  refine o_iastore X9 1 f10 go (Safe.arv X9.alike f10 (by decide)) (by decide) rfl (Nat.le_of_ble_eq_true rfl) (v := (.int c1)) rfl d_method_9_38 (q := 39) rfl ?_
  intro T11 h11 l11 X11 W11 R11 V11
  have V11 : Arv Z h11 out ko .int (4 : Int32) [(.int c0), (.int c1), (.int (0 : Int32)), (.int (0 : Int32))] (.int (0 : Int32)) := V11
  refine o_iload X11 d_method_9_39 rfl (q := 41) rfl ?_
  refine o_iload X11 d_method_9_41 rfl (q := 43) rfl ?_
  refine o_iadd X11 d_method_9_43 (w := (2 : Int32)) (by decide) (q := 44) rfl ?_
  refine o_istore X11 d_method_9_44 rfl (L' := #[.val (.ref ar), .val (.int (3 : Int32)), .val (.ref out), .val (.int (1 : Int32)), .val (.int (1 : Int32)), .val (.int (1 : Int32)), .val (.int (2 : Int32)), .unset]) rfl (q := 46) rfl ?_
  refine o_aloadN X11 d_method_9_46 rfl rfl (q := 47) rfl ?_
  refine o_iloadN X11 d_method_9_47 rfl (q := 48) rfl ?_
  refine o_iload X11 d_method_9_48 rfl (q := 50) rfl ?_
  have f12 := (f8.other W11 hne)
  refine o_stat X11 [(.ref ar), (.int (3 : Int32)), (.int (2 : Int32))] (y' := (⟨"com/example/refinement/refinement/io/CodePointOrderComparePinLaw", "width", "([CII)I"⟩ : MethodName)) (c_w3_2 hw ar c0 c1 c2 _ f12) all0 (w35 hw) (w36 hw) (w3 hw) (w37 hw) (by decide) d_method_9_50 (rest := []) rfl rfl (lenOf pd10 rfl) rfl (by decide) (Nat.le_of_ble_eq_true rfl) (by decide) (by decide) (q := 53) rfl ?_
  intro v13 vm13 T13 h13 l13 X13 R13 q13
  obtain ⟨rfl, e13⟩ := q13
  have e13 := e13.symm
  subst e13
  show Goes p e below _ T13 (mkF m 53 #[.val (.ref ar), .val (.int (3 : Int32)), .val (.ref out), .val (.int (1 : Int32)), .val (.int (1 : Int32)), .val (.int (1 : Int32)), .val (.int (2 : Int32)), .unset] [(.int (1 : Int32))])
  refine o_istore X13 d_method_9_53 rfl (L' := #[.val (.ref ar), .val (.int (3 : Int32)), .val (.ref out), .val (.int (1 : Int32)), .val (.int (1 : Int32)), .val (.int (1 : Int32)), .val (.int (2 : Int32)), .val (.int (1 : Int32))]) rfl (q := 55) rfl ?_
  refine o_aloadN X13 d_method_9_55 rfl rfl (q := 56) rfl ?_
  refine o_iconst X13 d_method_9_56 (w := 2) rfl (q := 57) rfl ?_
  refine o_aloadN X13 d_method_9_57 rfl rfl (q := 58) rfl ?_
  refine o_iload X13 d_method_9_58 rfl (q := 60) rfl ?_
  refine o_iload X13 d_method_9_60 rfl (q := 62) rfl ?_
  have f14 := f12
  refine o_stat X13 [(.ref ar), (.int (2 : Int32)), (.int (1 : Int32))] (y' := (⟨"com/example/refinement/refinement/io/CodePointOrderComparePinLaw", "value", "([CII)I"⟩ : MethodName)) (c_v2_1 hw ar c0 c1 c2 _ f14) all0 (w38 hw) (w39 hw) (w3 hw) (w40 hw) (by decide) d_method_9_62 (rest := [(.int (2 : Int32)), (.ref out)]) rfl rfl (lenOf pd10 rfl) rfl (by decide) (Nat.le_of_ble_eq_true rfl) (by decide) (by decide) (q := 65) rfl ?_
  intro v15 vm15 T15 h15 l15 X15 R15 q15
  obtain ⟨rfl, e15⟩ := q15
  have e15 := e15.symm
  subst e15
  show Goes p e below _ T15 (mkF m 65 #[.val (.ref ar), .val (.int (3 : Int32)), .val (.ref out), .val (.int (1 : Int32)), .val (.int (1 : Int32)), .val (.int (1 : Int32)), .val (.int (2 : Int32)), .val (.int (1 : Int32))] [(.int c2), (.int (2 : Int32)), (.ref out)])
  have f16 := V11
  refine o_iastore X15 2 f16 go (Safe.arv X15.alike f16 (by decide)) (by decide) rfl (Nat.le_of_ble_eq_true rfl) (v := (.int c2)) rfl d_method_9_65 (q := 66) rfl ?_
  intro T17 h17 l17 X17 W17 R17 V17
  have V17 : Arv Z h17 out ko .int (4 : Int32) [(.int c0), (.int c1), (.int c2), (.int (0 : Int32))] (.int (0 : Int32)) := V17
  refine o_aloadN X17 d_method_9_66 rfl rfl (q := 67) rfl ?_
  refine o_iconst X17 d_method_9_67 (w := 3) rfl (q := 68) rfl ?_
  refine o_iloadN X17 d_method_9_68 rfl (q := 69) rfl ?_
  refine o_ifN X17 d_method_9_69 (by decide) (q := 72) rfl ?_
  refine o_iconst X17 d_method_9_72 (w := 1) rfl (q := 73) rfl ?_
  refine o_goto X17 d_method_9_73 (by decide) (q := 77) (by decide) ?_
  refine o_iload X17 d_method_9_77 rfl (q := 79) rfl ?_
  refine o_ifN X17 d_method_9_79 (by decide) (q := 82) rfl ?_
  refine o_iconst X17 d_method_9_82 (w := 1) rfl (q := 83) rfl ?_
  refine o_goto X17 d_method_9_83 (by decide) (q := 87) (by decide) ?_
  refine o_iadd X17 d_method_9_87 (w := (2 : Int32)) (by decide) (q := 88) rfl ?_
  refine o_iload X17 d_method_9_88 rfl (q := 90) rfl ?_
  refine o_ifN X17 d_method_9_90 (by decide) (q := 93) rfl ?_
  refine o_iconst X17 d_method_9_93 (w := 1) rfl (q := 94) rfl ?_
  refine o_goto X17 d_method_9_94 (by decide) (q := 98) (by decide) ?_
  refine o_iadd X17 d_method_9_98 (w := (3 : Int32)) (by decide) (q := 99) rfl ?_
  refine o_iastore X17 3 V17 go (Safe.arv X17.alike V17 (by decide)) (by decide) rfl (Nat.le_of_ble_eq_true rfl) (v := (.int (3 : Int32))) rfl d_method_9_99 (q := 100) rfl ?_
  intro T18 h18 l18 X18 W18 R18 V18
  have V18 : Arv Z h18 out ko .int (4 : Int32) [(.int c0), (.int c1), (.int c2), (.int (3 : Int32))] (.int (0 : Int32)) := V18
  have k19 := Keep.wr (Keep.refl h0 [out]) W5 (Or.inl (by simp))
  have k20 := Keep.wr k19 W11 (Or.inl (by simp))
  have k21 := Keep.wr k20 W17 (Or.inl (by simp))
  have k22 := Keep.wr k21 W18 (Or.inl (by simp))
  exact o_ret X18 d_method_9_100 (fun Sf hSf => ⟨rfl, k22, (by rw [show padV (cps [c0, c1, c2]) = [(.int c0), (.int c1), (.int c2), (.int (3 : Int32))] from by simp [padV, cps, hp0, hp1]]; exact V18)⟩) (by decide) (by decide)
theorem c_dec {l : Launch} {Z : State} {a0 : Array Value} (hw : W a0 Z) (ar out : Addr) (c0 c1 c2 n : Int32) (h0 : Heap) {ka : ClassId} (Va : Arv Z h0 ar ka .char (3 : Int32) [(.int c0), (.int c1), (.int c2)] (.int (0 : Int32))) {ko : ClassId} (Vo : Arv Z h0 out ko .int (4 : Int32) [(.int (0 : Int32)), (.int (0 : Int32)), (.int (0 : Int32)), (.int (0 : Int32))] (.int (0 : Int32))) (go : Z.heap.size ≤ out) (hne : ar ≠ out) (hn : n = 0 ∨ n = 1 ∨ n = 2 ∨ n = 3) :
    Con l Z EL0 (⟨"com/example/refinement/refinement/io/CodePointOrderComparePinLaw", "decode", "([CI[I)V"⟩ : MethodName) method_9_code 8 none ({ frames := 2, cells := 0, slots := 0, locals := 26 } : Room) #[(.ref ar), (.int n), (.ref out)] h0 [] (fun v h' Sf => v = none ∧ Keep h0 h' [out] ∧ Arv Z h' out ko .int (4 : Int32) (padV (cps (takeC n c0 c1 c2))) (.int (0 : Int32))) := by
  rcases hn with rfl | rfl | rfl | rfl
  · exact c_dec0 hw ar out c0 c1 c2 h0 Va Vo go hne
  · exact c_dec1 hw ar out c0 c1 c2 h0 Va Vo go hne
  · by_cases hp0 : (isHi c0 && isLo c1) = true
    · exact c_dec2y hw ar out c0 c1 c2 h0 Va Vo go hne hp0
    · exact c_dec2n hw ar out c0 c1 c2 h0 Va Vo go hne hp0
  · by_cases hp0 : (isHi c0 && isLo c1) = true
    · exact c_dec3y hw ar out c0 c1 c2 h0 Va Vo go hne hp0
    · by_cases hp1 : (isHi c1 && isLo c2) = true
      · exact c_dec3ny hw ar out c0 c1 c2 h0 Va Vo go hne hp0 hp1
      · exact c_dec3nn hw ar out c0 c1 c2 h0 Va Vo go hne hp0 hp1
set_option maxRecDepth 65536 in
set_option maxHeartbeats 40000000 in
theorem c_lex {l : Launch} {Z : State} {a0 : Array Value} (hw : W a0 Z) (ax ay : Addr) (x0 x1 x2 nx y0 y1 y2 ny : Int32) (h0 : Heap) {kx ky : ClassId} (Vx : Arv Z h0 ax kx .int (4 : Int32) [(.int x0), (.int x1), (.int x2), (.int nx)] (.int (0 : Int32))) (Vy : Arv Z h0 ay ky .int (4 : Int32) [(.int y0), (.int y1), (.int y2), (.int ny)] (.int (0 : Int32))) :
    Con l Z EL0 (⟨"com/example/refinement/refinement/io/CodePointOrderComparePinLaw", "lex", "([I[I)I"⟩ : MethodName) method_10_code 4 (some .int) ({ frames := 0, cells := 0, slots := 0, locals := 0 } : Room) #[(.ref ax), (.ref ay)] h0 [] (fun v h' Sf => ∃ z : Int32, v = some (.int z) ∧ h' = h0 ∧ z = lexA x0 x1 x2 nx y0 y1 y2 ny) := by
  have hpn : plainName "com/example/refinement/refinement/io/CodePointOrderComparePinLaw" = true := by first | (simp [plainName, overriddenIn]; done) | decide +kernel
  refine Con.intro (plainFor_of_name hpn) ?_
  intro p e s m below meth c T X hss
  refine Goes.cast (g' := mkF m 0 #[.val (.ref ax), .val (.ref ay), .unset, .unset] []) (by first | (simp [entryFrame, mkF, argsToLocals, Value.category]; done) | rfl) ?_
  refine o_aloadN X d_method_10_0 rfl rfl (q := 1) rfl ?_
  refine o_iconst X d_method_10_1 (w := 3) rfl (q := 2) rfl ?_
  refine o_iaload X Vx (by decide) (v := (.int nx)) rfl d_method_10_2 (q := 3) rfl ?_
  refine o_istoreN X d_method_10_3 rfl (L' := #[.val (.ref ax), .val (.ref ay), .val (.int nx), .unset]) rfl (q := 4) rfl ?_
  refine o_aloadN X d_method_10_4 rfl rfl (q := 5) rfl ?_
  refine o_iconst X d_method_10_5 (w := 3) rfl (q := 6) rfl ?_
  refine o_iaload X Vy (by decide) (v := (.int ny)) rfl d_method_10_6 (q := 7) rfl ?_
  refine o_istoreN X d_method_10_7 rfl (L' := #[.val (.ref ax), .val (.ref ay), .val (.int nx), .val (.int ny)]) rfl (q := 8) rfl ?_
  refine o_iloadN X d_method_10_8 rfl (q := 9) rfl ?_
  by_cases hc9 : (0 : Int32) < nx
  · refine o_ifN X d_method_10_9 (tlt hc9).2.2.2 (q := 12) rfl ?_
    refine o_iloadN X d_method_10_12 rfl (q := 13) rfl ?_
    by_cases hc13 : (0 : Int32) < ny
    · refine o_ifN X d_method_10_13 (tlt hc13).2.2.2 (q := 16) rfl ?_
      refine o_aloadN X d_method_10_16 rfl rfl (q := 17) rfl ?_
      refine o_iconst X d_method_10_17 (w := 0) rfl (q := 18) rfl ?_
      refine o_iaload X Vx (by decide) (v := (.int x0)) rfl d_method_10_18 (q := 19) rfl ?_
      refine o_aloadN X d_method_10_19 rfl rfl (q := 20) rfl ?_
      refine o_iconst X d_method_10_20 (w := 0) rfl (q := 21) rfl ?_
      refine o_iaload X Vy (by decide) (v := (.int y0)) rfl d_method_10_21 (q := 22) rfl ?_
      by_cases hc22 : x0 = y0
      · refine o_icmpY X d_method_10_22 (teq hc22).1 (by decide) (q := 40) (by decide) ?_
        refine o_iloadN X d_method_10_40 rfl (q := 41) rfl ?_
        refine o_iconst X d_method_10_41 (w := 1) rfl (q := 42) rfl ?_
        by_cases hc42 : (1 : Int32) < nx
        · refine o_icmpN X d_method_10_42 (tlt hc42).2.2.2 (q := 45) rfl ?_
          refine o_iloadN X d_method_10_45 rfl (q := 46) rfl ?_
          refine o_iconst X d_method_10_46 (w := 1) rfl (q := 47) rfl ?_
          by_cases hc47 : (1 : Int32) < ny
          · refine o_icmpN X d_method_10_47 (tlt hc47).2.2.2 (q := 50) rfl ?_
            refine o_aloadN X d_method_10_50 rfl rfl (q := 51) rfl ?_
            refine o_iconst X d_method_10_51 (w := 1) rfl (q := 52) rfl ?_
            refine o_iaload X Vx (by decide) (v := (.int x1)) rfl d_method_10_52 (q := 53) rfl ?_
            refine o_aloadN X d_method_10_53 rfl rfl (q := 54) rfl ?_
            refine o_iconst X d_method_10_54 (w := 1) rfl (q := 55) rfl ?_
            refine o_iaload X Vy (by decide) (v := (.int y1)) rfl d_method_10_55 (q := 56) rfl ?_
            by_cases hc56 : x1 = y1
            · refine o_icmpY X d_method_10_56 (teq hc56).1 (by decide) (q := 74) (by decide) ?_
              refine o_iloadN X d_method_10_74 rfl (q := 75) rfl ?_
              refine o_iconst X d_method_10_75 (w := 2) rfl (q := 76) rfl ?_
              by_cases hc76 : (2 : Int32) < nx
              · refine o_icmpN X d_method_10_76 (tlt hc76).2.2.2 (q := 79) rfl ?_
                refine o_iloadN X d_method_10_79 rfl (q := 80) rfl ?_
                refine o_iconst X d_method_10_80 (w := 2) rfl (q := 81) rfl ?_
                by_cases hc81 : (2 : Int32) < ny
                · refine o_icmpN X d_method_10_81 (tlt hc81).2.2.2 (q := 84) rfl ?_
                  refine o_aloadN X d_method_10_84 rfl rfl (q := 85) rfl ?_
                  refine o_iconst X d_method_10_85 (w := 2) rfl (q := 86) rfl ?_
                  refine o_iaload X Vx (by decide) (v := (.int x2)) rfl d_method_10_86 (q := 87) rfl ?_
                  refine o_aloadN X d_method_10_87 rfl rfl (q := 88) rfl ?_
                  refine o_iconst X d_method_10_88 (w := 2) rfl (q := 89) rfl ?_
                  refine o_iaload X Vy (by decide) (v := (.int y2)) rfl d_method_10_89 (q := 90) rfl ?_
                  by_cases hc90 : x2 = y2
                  · refine o_icmpY X d_method_10_90 (teq hc90).1 (by decide) (q := 108) (by decide) ?_
                    refine o_iloadN X d_method_10_108 rfl (q := 109) rfl ?_
                    refine o_iloadN X d_method_10_109 rfl (q := 110) rfl ?_
                    by_cases hc110 : nx < ny
                    · refine o_icmpN X d_method_10_110 (tlt hc110).2.1 (q := 113) rfl ?_
                      refine o_iconst X d_method_10_113 (w := -1) rfl (q := 114) rfl ?_
                      refine o_goto X d_method_10_114 (by decide) (q := 127) (by decide) ?_
                      exact o_retI X d_method_10_127 (fun Sf hSf => ⟨_, rfl, rfl, by simp [lexA, hc110, hc13, hc22, hc42, hc47, hc56, hc76, hc81, hc9, hc90]⟩) (by decide) (by decide)
                    · refine o_icmpY X d_method_10_110 (flt hc110).2.1 (by decide) (q := 117) (by decide) ?_
                      refine o_iloadN X d_method_10_117 rfl (q := 118) rfl ?_
                      refine o_iloadN X d_method_10_118 rfl (q := 119) rfl ?_
                      by_cases hc119 : ny < nx
                      · refine o_icmpN X d_method_10_119 (tlt hc119).2.2.2 (q := 122) rfl ?_
                        refine o_iconst X d_method_10_122 (w := 1) rfl (q := 123) rfl ?_
                        refine o_goto X d_method_10_123 (by decide) (q := 127) (by decide) ?_
                        exact o_retI X d_method_10_127 (fun Sf hSf => ⟨_, rfl, rfl, by simp [lexA, hc110, hc119, hc13, hc22, hc42, hc47, hc56, hc76, hc81, hc9, hc90]⟩) (by decide) (by decide)
                      · refine o_icmpY X d_method_10_119 (flt hc119).2.2.2 (by decide) (q := 126) (by decide) ?_
                        refine o_iconst X d_method_10_126 (w := 0) rfl (q := 127) rfl ?_
                        exact o_retI X d_method_10_127 (fun Sf hSf => ⟨_, rfl, rfl, by simp [lexA, hc110, hc119, hc13, hc22, hc42, hc47, hc56, hc76, hc81, hc9, hc90]⟩) (by decide) (by decide)
                  · refine o_icmpN X d_method_10_90 (feq hc90).1 (q := 93) rfl ?_
                    refine o_aloadN X d_method_10_93 rfl rfl (q := 94) rfl ?_
                    refine o_iconst X d_method_10_94 (w := 2) rfl (q := 95) rfl ?_
                    refine o_iaload X Vx (by decide) (v := (.int x2)) rfl d_method_10_95 (q := 96) rfl ?_
                    refine o_aloadN X d_method_10_96 rfl rfl (q := 97) rfl ?_
                    refine o_iconst X d_method_10_97 (w := 2) rfl (q := 98) rfl ?_
                    refine o_iaload X Vy (by decide) (v := (.int y2)) rfl d_method_10_98 (q := 99) rfl ?_
                    by_cases hc99 : x2 < y2
                    · refine o_icmpN X d_method_10_99 (tlt hc99).2.1 (q := 102) rfl ?_
                      refine o_iconst X d_method_10_102 (w := -1) rfl (q := 103) rfl ?_
                      refine o_goto X d_method_10_103 (by decide) (q := 107) (by decide) ?_
                      exact o_retI X d_method_10_107 (fun Sf hSf => ⟨_, rfl, rfl, by simp [lexA, hc13, hc22, hc42, hc47, hc56, hc76, hc81, hc9, hc90, hc99]⟩) (by decide) (by decide)
                    · refine o_icmpY X d_method_10_99 (flt hc99).2.1 (by decide) (q := 106) (by decide) ?_
                      refine o_iconst X d_method_10_106 (w := 1) rfl (q := 107) rfl ?_
                      exact o_retI X d_method_10_107 (fun Sf hSf => ⟨_, rfl, rfl, by simp [lexA, hc13, hc22, hc42, hc47, hc56, hc76, hc81, hc9, hc90, hc99]⟩) (by decide) (by decide)
                · refine o_icmpY X d_method_10_81 (flt hc81).2.2.2 (by decide) (q := 108) (by decide) ?_
                  refine o_iloadN X d_method_10_108 rfl (q := 109) rfl ?_
                  refine o_iloadN X d_method_10_109 rfl (q := 110) rfl ?_
                  by_cases hc110 : nx < ny
                  · refine o_icmpN X d_method_10_110 (tlt hc110).2.1 (q := 113) rfl ?_
                    refine o_iconst X d_method_10_113 (w := -1) rfl (q := 114) rfl ?_
                    refine o_goto X d_method_10_114 (by decide) (q := 127) (by decide) ?_
                    exact o_retI X d_method_10_127 (fun Sf hSf => ⟨_, rfl, rfl, by simp [lexA, hc110, hc13, hc22, hc42, hc47, hc56, hc76, hc81, hc9]⟩) (by decide) (by decide)
                  · refine o_icmpY X d_method_10_110 (flt hc110).2.1 (by decide) (q := 117) (by decide) ?_
                    refine o_iloadN X d_method_10_117 rfl (q := 118) rfl ?_
                    refine o_iloadN X d_method_10_118 rfl (q := 119) rfl ?_
                    by_cases hc119 : ny < nx
                    · refine o_icmpN X d_method_10_119 (tlt hc119).2.2.2 (q := 122) rfl ?_
                      refine o_iconst X d_method_10_122 (w := 1) rfl (q := 123) rfl ?_
                      refine o_goto X d_method_10_123 (by decide) (q := 127) (by decide) ?_
                      exact o_retI X d_method_10_127 (fun Sf hSf => ⟨_, rfl, rfl, by simp [lexA, hc110, hc119, hc13, hc22, hc42, hc47, hc56, hc76, hc81, hc9]⟩) (by decide) (by decide)
                    · refine o_icmpY X d_method_10_119 (flt hc119).2.2.2 (by decide) (q := 126) (by decide) ?_
                      refine o_iconst X d_method_10_126 (w := 0) rfl (q := 127) rfl ?_
                      exact o_retI X d_method_10_127 (fun Sf hSf => ⟨_, rfl, rfl, by simp [lexA, hc110, hc119, hc13, hc22, hc42, hc47, hc56, hc76, hc81, hc9]⟩) (by decide) (by decide)
              · refine o_icmpY X d_method_10_76 (flt hc76).2.2.2 (by decide) (q := 108) (by decide) ?_
                refine o_iloadN X d_method_10_108 rfl (q := 109) rfl ?_
                refine o_iloadN X d_method_10_109 rfl (q := 110) rfl ?_
                by_cases hc110 : nx < ny
                · refine o_icmpN X d_method_10_110 (tlt hc110).2.1 (q := 113) rfl ?_
                  refine o_iconst X d_method_10_113 (w := -1) rfl (q := 114) rfl ?_
                  refine o_goto X d_method_10_114 (by decide) (q := 127) (by decide) ?_
                  exact o_retI X d_method_10_127 (fun Sf hSf => ⟨_, rfl, rfl, by simp [lexA, hc110, hc13, hc22, hc42, hc47, hc56, hc76, hc9]⟩) (by decide) (by decide)
                · refine o_icmpY X d_method_10_110 (flt hc110).2.1 (by decide) (q := 117) (by decide) ?_
                  refine o_iloadN X d_method_10_117 rfl (q := 118) rfl ?_
                  refine o_iloadN X d_method_10_118 rfl (q := 119) rfl ?_
                  by_cases hc119 : ny < nx
                  · refine o_icmpN X d_method_10_119 (tlt hc119).2.2.2 (q := 122) rfl ?_
                    refine o_iconst X d_method_10_122 (w := 1) rfl (q := 123) rfl ?_
                    refine o_goto X d_method_10_123 (by decide) (q := 127) (by decide) ?_
                    exact o_retI X d_method_10_127 (fun Sf hSf => ⟨_, rfl, rfl, by simp [lexA, hc110, hc119, hc13, hc22, hc42, hc47, hc56, hc76, hc9]⟩) (by decide) (by decide)
                  · refine o_icmpY X d_method_10_119 (flt hc119).2.2.2 (by decide) (q := 126) (by decide) ?_
                    refine o_iconst X d_method_10_126 (w := 0) rfl (q := 127) rfl ?_
                    exact o_retI X d_method_10_127 (fun Sf hSf => ⟨_, rfl, rfl, by simp [lexA, hc110, hc119, hc13, hc22, hc42, hc47, hc56, hc76, hc9]⟩) (by decide) (by decide)
            · refine o_icmpN X d_method_10_56 (feq hc56).1 (q := 59) rfl ?_
              refine o_aloadN X d_method_10_59 rfl rfl (q := 60) rfl ?_
              refine o_iconst X d_method_10_60 (w := 1) rfl (q := 61) rfl ?_
              refine o_iaload X Vx (by decide) (v := (.int x1)) rfl d_method_10_61 (q := 62) rfl ?_
              refine o_aloadN X d_method_10_62 rfl rfl (q := 63) rfl ?_
              refine o_iconst X d_method_10_63 (w := 1) rfl (q := 64) rfl ?_
              refine o_iaload X Vy (by decide) (v := (.int y1)) rfl d_method_10_64 (q := 65) rfl ?_
              by_cases hc65 : x1 < y1
              · refine o_icmpN X d_method_10_65 (tlt hc65).2.1 (q := 68) rfl ?_
                refine o_iconst X d_method_10_68 (w := -1) rfl (q := 69) rfl ?_
                refine o_goto X d_method_10_69 (by decide) (q := 73) (by decide) ?_
                exact o_retI X d_method_10_73 (fun Sf hSf => ⟨_, rfl, rfl, by simp [lexA, hc13, hc22, hc42, hc47, hc56, hc65, hc9]⟩) (by decide) (by decide)
              · refine o_icmpY X d_method_10_65 (flt hc65).2.1 (by decide) (q := 72) (by decide) ?_
                refine o_iconst X d_method_10_72 (w := 1) rfl (q := 73) rfl ?_
                exact o_retI X d_method_10_73 (fun Sf hSf => ⟨_, rfl, rfl, by simp [lexA, hc13, hc22, hc42, hc47, hc56, hc65, hc9]⟩) (by decide) (by decide)
          · refine o_icmpY X d_method_10_47 (flt hc47).2.2.2 (by decide) (q := 74) (by decide) ?_
            refine o_iloadN X d_method_10_74 rfl (q := 75) rfl ?_
            refine o_iconst X d_method_10_75 (w := 2) rfl (q := 76) rfl ?_
            by_cases hc76 : (2 : Int32) < nx
            · refine o_icmpN X d_method_10_76 (tlt hc76).2.2.2 (q := 79) rfl ?_
              refine o_iloadN X d_method_10_79 rfl (q := 80) rfl ?_
              refine o_iconst X d_method_10_80 (w := 2) rfl (q := 81) rfl ?_
              refine o_icmpY X d_method_10_81 (flt (own_le21 hc47)).2.2.2 (by decide) (q := 108) (by decide) ?_
              refine o_iloadN X d_method_10_108 rfl (q := 109) rfl ?_
              refine o_iloadN X d_method_10_109 rfl (q := 110) rfl ?_
              by_cases hc110 : nx < ny
              · refine o_icmpN X d_method_10_110 (tlt hc110).2.1 (q := 113) rfl ?_
                refine o_iconst X d_method_10_113 (w := -1) rfl (q := 114) rfl ?_
                refine o_goto X d_method_10_114 (by decide) (q := 127) (by decide) ?_
                exact o_retI X d_method_10_127 (fun Sf hSf => ⟨_, rfl, rfl, by simp [lexA, hc110, hc13, hc22, hc42, hc47, hc76, hc9, own_le21 hc47]⟩) (by decide) (by decide)
              · refine o_icmpY X d_method_10_110 (flt hc110).2.1 (by decide) (q := 117) (by decide) ?_
                refine o_iloadN X d_method_10_117 rfl (q := 118) rfl ?_
                refine o_iloadN X d_method_10_118 rfl (q := 119) rfl ?_
                by_cases hc119 : ny < nx
                · refine o_icmpN X d_method_10_119 (tlt hc119).2.2.2 (q := 122) rfl ?_
                  refine o_iconst X d_method_10_122 (w := 1) rfl (q := 123) rfl ?_
                  refine o_goto X d_method_10_123 (by decide) (q := 127) (by decide) ?_
                  exact o_retI X d_method_10_127 (fun Sf hSf => ⟨_, rfl, rfl, by simp [lexA, hc110, hc119, hc13, hc22, hc42, hc47, hc76, hc9, own_le21 hc47]⟩) (by decide) (by decide)
                · refine o_icmpY X d_method_10_119 (flt hc119).2.2.2 (by decide) (q := 126) (by decide) ?_
                  refine o_iconst X d_method_10_126 (w := 0) rfl (q := 127) rfl ?_
                  exact o_retI X d_method_10_127 (fun Sf hSf => ⟨_, rfl, rfl, by simp [lexA, hc110, hc119, hc13, hc22, hc42, hc47, hc76, hc9, own_le21 hc47]⟩) (by decide) (by decide)
            · refine o_icmpY X d_method_10_76 (flt hc76).2.2.2 (by decide) (q := 108) (by decide) ?_
              refine o_iloadN X d_method_10_108 rfl (q := 109) rfl ?_
              refine o_iloadN X d_method_10_109 rfl (q := 110) rfl ?_
              by_cases hc110 : nx < ny
              · refine o_icmpN X d_method_10_110 (tlt hc110).2.1 (q := 113) rfl ?_
                refine o_iconst X d_method_10_113 (w := -1) rfl (q := 114) rfl ?_
                refine o_goto X d_method_10_114 (by decide) (q := 127) (by decide) ?_
                exact o_retI X d_method_10_127 (fun Sf hSf => ⟨_, rfl, rfl, by simp [lexA, hc110, hc13, hc22, hc42, hc47, hc76, hc9, own_le21 hc47]⟩) (by decide) (by decide)
              · refine o_icmpY X d_method_10_110 (flt hc110).2.1 (by decide) (q := 117) (by decide) ?_
                refine o_iloadN X d_method_10_117 rfl (q := 118) rfl ?_
                refine o_iloadN X d_method_10_118 rfl (q := 119) rfl ?_
                by_cases hc119 : ny < nx
                · refine o_icmpN X d_method_10_119 (tlt hc119).2.2.2 (q := 122) rfl ?_
                  refine o_iconst X d_method_10_122 (w := 1) rfl (q := 123) rfl ?_
                  refine o_goto X d_method_10_123 (by decide) (q := 127) (by decide) ?_
                  exact o_retI X d_method_10_127 (fun Sf hSf => ⟨_, rfl, rfl, by simp [lexA, hc110, hc119, hc13, hc22, hc42, hc47, hc76, hc9, own_le21 hc47]⟩) (by decide) (by decide)
                · refine o_icmpY X d_method_10_119 (flt hc119).2.2.2 (by decide) (q := 126) (by decide) ?_
                  refine o_iconst X d_method_10_126 (w := 0) rfl (q := 127) rfl ?_
                  exact o_retI X d_method_10_127 (fun Sf hSf => ⟨_, rfl, rfl, by simp [lexA, hc110, hc119, hc13, hc22, hc42, hc47, hc76, hc9, own_le21 hc47]⟩) (by decide) (by decide)
        · refine o_icmpY X d_method_10_42 (flt hc42).2.2.2 (by decide) (q := 74) (by decide) ?_
          refine o_iloadN X d_method_10_74 rfl (q := 75) rfl ?_
          refine o_iconst X d_method_10_75 (w := 2) rfl (q := 76) rfl ?_
          refine o_icmpY X d_method_10_76 (flt (own_le21 hc42)).2.2.2 (by decide) (q := 108) (by decide) ?_
          refine o_iloadN X d_method_10_108 rfl (q := 109) rfl ?_
          refine o_iloadN X d_method_10_109 rfl (q := 110) rfl ?_
          by_cases hc110 : nx < ny
          · refine o_icmpN X d_method_10_110 (tlt hc110).2.1 (q := 113) rfl ?_
            refine o_iconst X d_method_10_113 (w := -1) rfl (q := 114) rfl ?_
            refine o_goto X d_method_10_114 (by decide) (q := 127) (by decide) ?_
            exact o_retI X d_method_10_127 (fun Sf hSf => ⟨_, rfl, rfl, by simp [lexA, hc110, hc13, hc22, hc42, hc9, own_le21 hc42]⟩) (by decide) (by decide)
          · refine o_icmpY X d_method_10_110 (flt hc110).2.1 (by decide) (q := 117) (by decide) ?_
            refine o_iloadN X d_method_10_117 rfl (q := 118) rfl ?_
            refine o_iloadN X d_method_10_118 rfl (q := 119) rfl ?_
            by_cases hc119 : ny < nx
            · refine o_icmpN X d_method_10_119 (tlt hc119).2.2.2 (q := 122) rfl ?_
              refine o_iconst X d_method_10_122 (w := 1) rfl (q := 123) rfl ?_
              refine o_goto X d_method_10_123 (by decide) (q := 127) (by decide) ?_
              exact o_retI X d_method_10_127 (fun Sf hSf => ⟨_, rfl, rfl, by simp [lexA, hc110, hc119, hc13, hc22, hc42, hc9, own_le21 hc42]⟩) (by decide) (by decide)
            · refine o_icmpY X d_method_10_119 (flt hc119).2.2.2 (by decide) (q := 126) (by decide) ?_
              refine o_iconst X d_method_10_126 (w := 0) rfl (q := 127) rfl ?_
              exact o_retI X d_method_10_127 (fun Sf hSf => ⟨_, rfl, rfl, by simp [lexA, hc110, hc119, hc13, hc22, hc42, hc9, own_le21 hc42]⟩) (by decide) (by decide)
      · refine o_icmpN X d_method_10_22 (feq hc22).1 (q := 25) rfl ?_
        refine o_aloadN X d_method_10_25 rfl rfl (q := 26) rfl ?_
        refine o_iconst X d_method_10_26 (w := 0) rfl (q := 27) rfl ?_
        refine o_iaload X Vx (by decide) (v := (.int x0)) rfl d_method_10_27 (q := 28) rfl ?_
        refine o_aloadN X d_method_10_28 rfl rfl (q := 29) rfl ?_
        refine o_iconst X d_method_10_29 (w := 0) rfl (q := 30) rfl ?_
        refine o_iaload X Vy (by decide) (v := (.int y0)) rfl d_method_10_30 (q := 31) rfl ?_
        by_cases hc31 : x0 < y0
        · refine o_icmpN X d_method_10_31 (tlt hc31).2.1 (q := 34) rfl ?_
          refine o_iconst X d_method_10_34 (w := -1) rfl (q := 35) rfl ?_
          refine o_goto X d_method_10_35 (by decide) (q := 39) (by decide) ?_
          exact o_retI X d_method_10_39 (fun Sf hSf => ⟨_, rfl, rfl, by simp [lexA, hc13, hc22, hc31, hc9]⟩) (by decide) (by decide)
        · refine o_icmpY X d_method_10_31 (flt hc31).2.1 (by decide) (q := 38) (by decide) ?_
          refine o_iconst X d_method_10_38 (w := 1) rfl (q := 39) rfl ?_
          exact o_retI X d_method_10_39 (fun Sf hSf => ⟨_, rfl, rfl, by simp [lexA, hc13, hc22, hc31, hc9]⟩) (by decide) (by decide)
    · refine o_ifY X d_method_10_13 (flt hc13).2.2.2 (by decide) (q := 40) (by decide) ?_
      refine o_iloadN X d_method_10_40 rfl (q := 41) rfl ?_
      refine o_iconst X d_method_10_41 (w := 1) rfl (q := 42) rfl ?_
      by_cases hc42 : (1 : Int32) < nx
      · refine o_icmpN X d_method_10_42 (tlt hc42).2.2.2 (q := 45) rfl ?_
        refine o_iloadN X d_method_10_45 rfl (q := 46) rfl ?_
        refine o_iconst X d_method_10_46 (w := 1) rfl (q := 47) rfl ?_
        refine o_icmpY X d_method_10_47 (flt (own_le10 hc13)).2.2.2 (by decide) (q := 74) (by decide) ?_
        refine o_iloadN X d_method_10_74 rfl (q := 75) rfl ?_
        refine o_iconst X d_method_10_75 (w := 2) rfl (q := 76) rfl ?_
        by_cases hc76 : (2 : Int32) < nx
        · refine o_icmpN X d_method_10_76 (tlt hc76).2.2.2 (q := 79) rfl ?_
          refine o_iloadN X d_method_10_79 rfl (q := 80) rfl ?_
          refine o_iconst X d_method_10_80 (w := 2) rfl (q := 81) rfl ?_
          refine o_icmpY X d_method_10_81 (flt (own_le21 (own_le10 hc13))).2.2.2 (by decide) (q := 108) (by decide) ?_
          refine o_iloadN X d_method_10_108 rfl (q := 109) rfl ?_
          refine o_iloadN X d_method_10_109 rfl (q := 110) rfl ?_
          by_cases hc110 : nx < ny
          · refine o_icmpN X d_method_10_110 (tlt hc110).2.1 (q := 113) rfl ?_
            refine o_iconst X d_method_10_113 (w := -1) rfl (q := 114) rfl ?_
            refine o_goto X d_method_10_114 (by decide) (q := 127) (by decide) ?_
            exact o_retI X d_method_10_127 (fun Sf hSf => ⟨_, rfl, rfl, by simp [lexA, hc110, hc13, hc42, hc76, hc9, own_le10 hc13, own_le21 (own_le10 hc13)]⟩) (by decide) (by decide)
          · refine o_icmpY X d_method_10_110 (flt hc110).2.1 (by decide) (q := 117) (by decide) ?_
            refine o_iloadN X d_method_10_117 rfl (q := 118) rfl ?_
            refine o_iloadN X d_method_10_118 rfl (q := 119) rfl ?_
            by_cases hc119 : ny < nx
            · refine o_icmpN X d_method_10_119 (tlt hc119).2.2.2 (q := 122) rfl ?_
              refine o_iconst X d_method_10_122 (w := 1) rfl (q := 123) rfl ?_
              refine o_goto X d_method_10_123 (by decide) (q := 127) (by decide) ?_
              exact o_retI X d_method_10_127 (fun Sf hSf => ⟨_, rfl, rfl, by simp [lexA, hc110, hc119, hc13, hc42, hc76, hc9, own_le10 hc13, own_le21 (own_le10 hc13)]⟩) (by decide) (by decide)
            · refine o_icmpY X d_method_10_119 (flt hc119).2.2.2 (by decide) (q := 126) (by decide) ?_
              refine o_iconst X d_method_10_126 (w := 0) rfl (q := 127) rfl ?_
              exact o_retI X d_method_10_127 (fun Sf hSf => ⟨_, rfl, rfl, by simp [lexA, hc110, hc119, hc13, hc42, hc76, hc9, own_le10 hc13, own_le21 (own_le10 hc13)]⟩) (by decide) (by decide)
        · refine o_icmpY X d_method_10_76 (flt hc76).2.2.2 (by decide) (q := 108) (by decide) ?_
          refine o_iloadN X d_method_10_108 rfl (q := 109) rfl ?_
          refine o_iloadN X d_method_10_109 rfl (q := 110) rfl ?_
          by_cases hc110 : nx < ny
          · refine o_icmpN X d_method_10_110 (tlt hc110).2.1 (q := 113) rfl ?_
            refine o_iconst X d_method_10_113 (w := -1) rfl (q := 114) rfl ?_
            refine o_goto X d_method_10_114 (by decide) (q := 127) (by decide) ?_
            exact o_retI X d_method_10_127 (fun Sf hSf => ⟨_, rfl, rfl, by simp [lexA, hc110, hc13, hc42, hc76, hc9, own_le10 hc13, own_le21 (own_le10 hc13)]⟩) (by decide) (by decide)
          · refine o_icmpY X d_method_10_110 (flt hc110).2.1 (by decide) (q := 117) (by decide) ?_
            refine o_iloadN X d_method_10_117 rfl (q := 118) rfl ?_
            refine o_iloadN X d_method_10_118 rfl (q := 119) rfl ?_
            by_cases hc119 : ny < nx
            · refine o_icmpN X d_method_10_119 (tlt hc119).2.2.2 (q := 122) rfl ?_
              refine o_iconst X d_method_10_122 (w := 1) rfl (q := 123) rfl ?_
              refine o_goto X d_method_10_123 (by decide) (q := 127) (by decide) ?_
              exact o_retI X d_method_10_127 (fun Sf hSf => ⟨_, rfl, rfl, by simp [lexA, hc110, hc119, hc13, hc42, hc76, hc9, own_le10 hc13, own_le21 (own_le10 hc13)]⟩) (by decide) (by decide)
            · refine o_icmpY X d_method_10_119 (flt hc119).2.2.2 (by decide) (q := 126) (by decide) ?_
              refine o_iconst X d_method_10_126 (w := 0) rfl (q := 127) rfl ?_
              exact o_retI X d_method_10_127 (fun Sf hSf => ⟨_, rfl, rfl, by simp [lexA, hc110, hc119, hc13, hc42, hc76, hc9, own_le10 hc13, own_le21 (own_le10 hc13)]⟩) (by decide) (by decide)
      · refine o_icmpY X d_method_10_42 (flt hc42).2.2.2 (by decide) (q := 74) (by decide) ?_
        refine o_iloadN X d_method_10_74 rfl (q := 75) rfl ?_
        refine o_iconst X d_method_10_75 (w := 2) rfl (q := 76) rfl ?_
        refine o_icmpY X d_method_10_76 (flt (own_le21 hc42)).2.2.2 (by decide) (q := 108) (by decide) ?_
        refine o_iloadN X d_method_10_108 rfl (q := 109) rfl ?_
        refine o_iloadN X d_method_10_109 rfl (q := 110) rfl ?_
        by_cases hc110 : nx < ny
        · refine o_icmpN X d_method_10_110 (tlt hc110).2.1 (q := 113) rfl ?_
          refine o_iconst X d_method_10_113 (w := -1) rfl (q := 114) rfl ?_
          refine o_goto X d_method_10_114 (by decide) (q := 127) (by decide) ?_
          exact o_retI X d_method_10_127 (fun Sf hSf => ⟨_, rfl, rfl, by simp [lexA, hc110, hc13, hc42, hc9, own_le21 hc42, own_le10 hc13, own_le21 (own_le10 hc13)]⟩) (by decide) (by decide)
        · refine o_icmpY X d_method_10_110 (flt hc110).2.1 (by decide) (q := 117) (by decide) ?_
          refine o_iloadN X d_method_10_117 rfl (q := 118) rfl ?_
          refine o_iloadN X d_method_10_118 rfl (q := 119) rfl ?_
          by_cases hc119 : ny < nx
          · refine o_icmpN X d_method_10_119 (tlt hc119).2.2.2 (q := 122) rfl ?_
            refine o_iconst X d_method_10_122 (w := 1) rfl (q := 123) rfl ?_
            refine o_goto X d_method_10_123 (by decide) (q := 127) (by decide) ?_
            exact o_retI X d_method_10_127 (fun Sf hSf => ⟨_, rfl, rfl, by simp [lexA, hc110, hc119, hc13, hc42, hc9, own_le21 hc42, own_le10 hc13, own_le21 (own_le10 hc13)]⟩) (by decide) (by decide)
          · refine o_icmpY X d_method_10_119 (flt hc119).2.2.2 (by decide) (q := 126) (by decide) ?_
            refine o_iconst X d_method_10_126 (w := 0) rfl (q := 127) rfl ?_
            exact o_retI X d_method_10_127 (fun Sf hSf => ⟨_, rfl, rfl, by simp [lexA, hc110, hc119, hc13, hc42, hc9, own_le21 hc42, own_le10 hc13, own_le21 (own_le10 hc13)]⟩) (by decide) (by decide)
  · refine o_ifY X d_method_10_9 (flt hc9).2.2.2 (by decide) (q := 40) (by decide) ?_
    refine o_iloadN X d_method_10_40 rfl (q := 41) rfl ?_
    refine o_iconst X d_method_10_41 (w := 1) rfl (q := 42) rfl ?_
    refine o_icmpY X d_method_10_42 (flt (own_le10 hc9)).2.2.2 (by decide) (q := 74) (by decide) ?_
    refine o_iloadN X d_method_10_74 rfl (q := 75) rfl ?_
    refine o_iconst X d_method_10_75 (w := 2) rfl (q := 76) rfl ?_
    refine o_icmpY X d_method_10_76 (flt (own_le21 (own_le10 hc9))).2.2.2 (by decide) (q := 108) (by decide) ?_
    refine o_iloadN X d_method_10_108 rfl (q := 109) rfl ?_
    refine o_iloadN X d_method_10_109 rfl (q := 110) rfl ?_
    by_cases hc110 : nx < ny
    · refine o_icmpN X d_method_10_110 (tlt hc110).2.1 (q := 113) rfl ?_
      refine o_iconst X d_method_10_113 (w := -1) rfl (q := 114) rfl ?_
      refine o_goto X d_method_10_114 (by decide) (q := 127) (by decide) ?_
      exact o_retI X d_method_10_127 (fun Sf hSf => ⟨_, rfl, rfl, by simp [lexA, hc110, hc9, own_le10 hc9, own_le21 (own_le10 hc9)]⟩) (by decide) (by decide)
    · refine o_icmpY X d_method_10_110 (flt hc110).2.1 (by decide) (q := 117) (by decide) ?_
      refine o_iloadN X d_method_10_117 rfl (q := 118) rfl ?_
      refine o_iloadN X d_method_10_118 rfl (q := 119) rfl ?_
      by_cases hc119 : ny < nx
      · refine o_icmpN X d_method_10_119 (tlt hc119).2.2.2 (q := 122) rfl ?_
        refine o_iconst X d_method_10_122 (w := 1) rfl (q := 123) rfl ?_
        refine o_goto X d_method_10_123 (by decide) (q := 127) (by decide) ?_
        exact o_retI X d_method_10_127 (fun Sf hSf => ⟨_, rfl, rfl, by simp [lexA, hc110, hc119, hc9, own_le10 hc9, own_le21 (own_le10 hc9)]⟩) (by decide) (by decide)
      · refine o_icmpY X d_method_10_119 (flt hc119).2.2.2 (by decide) (q := 126) (by decide) ?_
        refine o_iconst X d_method_10_126 (w := 0) rfl (q := 127) rfl ?_
        exact o_retI X d_method_10_127 (fun Sf hSf => ⟨_, rfl, rfl, by simp [lexA, hc110, hc119, hc9, own_le10 hc9, own_le21 (own_le10 hc9)]⟩) (by decide) (by decide)
set_option maxRecDepth 65536 in
set_option maxHeartbeats 40000000 in
theorem c_draw {l : Launch} {Z : State} {a0 : Array Value} (hw : W a0 Z) (x : Int64) (i : Int32) (h0 : Heap)  :
    Con l Z EL0 (⟨"com/example/refinement/refinement/io/CodePointOrderComparePinLaw", "draw", "(JI)C"⟩ : MethodName) method_3_code 4 (some .char) ({ frames := 0, cells := 0, slots := 0, locals := 0 } : Room) #[(.long x), (.int i)] h0 [] (fun v h' Sf => ∃ z : Int32, v = some (.int z) ∧ h' = h0 ∧ Rg z) := by
  have hpn : plainName "com/example/refinement/refinement/io/CodePointOrderComparePinLaw" = true := by first | (simp [plainName, overriddenIn]; done) | decide +kernel
  refine Con.intro (plainFor_of_name hpn) ?_
  intro p e s m below meth c T X hss
  refine Goes.cast (g' := mkF m 0 #[.val (.long x), .second, .val (.int i), .unset] []) (by first | (simp [entryFrame, mkF, argsToLocals, Value.category]; done) | rfl) ?_
  refine o_lloadN X d_method_3_0 rfl (q := 1) rfl ?_
  refine o_bipush X d_method_3_1 (w := 16) rfl (q := 3) rfl ?_
  refine o_iloadN X d_method_3_3 rfl (q := 4) rfl ?_
  refine o_imul X d_method_3_4 (w := ((16 : Int32) * i)) rfl (q := 5) rfl ?_
  refine o_lushr X d_method_3_5 (w := ((x.toUInt64 >>> (((16 : Int32) * i) &&& 0x3f).toInt64.toUInt64).toInt64)) rfl (q := 6) rfl ?_
  refine o_ldcJ X (w5 hw) d_method_3_6 (q := 9) rfl ?_
  refine o_land X d_method_3_9 (w := (((x.toUInt64 >>> (((16 : Int32) * i) &&& 0x3f).toInt64.toUInt64).toInt64) &&& (65535 : Int64))) rfl (q := 10) rfl ?_
  refine o_l2i X d_method_3_10 (w := ((((x.toUInt64 >>> (((16 : Int32) * i) &&& 0x3f).toInt64.toUInt64).toInt64) &&& (65535 : Int64)).toInt32)) rfl (q := 11) rfl ?_
  refine o_istoreN X d_method_3_11 rfl (L' := #[.val (.long x), .second, .val (.int i), .val (.int ((((x.toUInt64 >>> (((16 : Int32) * i) &&& 0x3f).toInt64.toUInt64).toInt64) &&& (65535 : Int64)).toInt32))]) rfl (q := 12) rfl ?_
  refine o_lloadN X d_method_3_12 rfl (q := 13) rfl ?_
  refine o_bipush X d_method_3_13 (w := 50) rfl (q := 15) rfl ?_
  refine o_iloadN X d_method_3_15 rfl (q := 16) rfl ?_
  refine o_iadd X d_method_3_16 (w := ((50 : Int32) + i)) rfl (q := 17) rfl ?_
  refine o_lushr X d_method_3_17 (w := ((x.toUInt64 >>> (((50 : Int32) + i) &&& 0x3f).toInt64.toUInt64).toInt64)) rfl (q := 18) rfl ?_
  refine o_lconst X d_method_3_18 (w := 1) rfl (q := 19) rfl ?_
  refine o_land X d_method_3_19 (w := (((x.toUInt64 >>> (((50 : Int32) + i) &&& 0x3f).toInt64.toUInt64).toInt64) &&& (1 : Int64))) rfl (q := 20) rfl ?_
  refine o_lconst X d_method_3_20 (w := 0) rfl (q := 21) rfl ?_
  refine o_lcmp X d_method_3_21 (w := (lcmpW (((x.toUInt64 >>> (((50 : Int32) + i) &&& 0x3f).toInt64.toUInt64).toInt64) &&& (1 : Int64)) (0 : Int64))) rfl (q := 22) rfl ?_
  by_cases hc22 : (lcmpW (((x.toUInt64 >>> (((50 : Int32) + i) &&& 0x3f).toInt64.toUInt64).toInt64) &&& (1 : Int64)) (0 : Int64)) = (0 : Int32)
  · refine o_ifY X d_method_3_22 (teq hc22).1 (by decide) (q := 35) (by decide) ?_
    refine o_iloadN X d_method_3_35 rfl (q := 36) rfl ?_
    refine o_i2c X d_method_3_36 (w := (((((x.toUInt64 >>> (((16 : Int32) * i) &&& 0x3f).toInt64.toUInt64).toInt64) &&& (65535 : Int64)).toInt32).toUInt32.toUInt16.toUInt32.toInt32)) rfl (q := 37) rfl ?_
    exact o_retN X d_method_3_37 (by simp) (fun Sf hSf => ⟨_, rfl, rfl, own_i2cr _⟩) (by decide) (by decide)
  · refine o_ifN X d_method_3_22 (feq hc22).1 (q := 25) rfl ?_
    refine o_ldcI X (w63 hw) d_method_3_25 (q := 27) rfl ?_
    refine o_iloadN X d_method_3_27 rfl (q := 28) rfl ?_
    refine o_sipush X d_method_3_28 (w := 2047) rfl (q := 31) rfl ?_
    refine o_iand X d_method_3_31 (w := (((((x.toUInt64 >>> (((16 : Int32) * i) &&& 0x3f).toInt64.toUInt64).toInt64) &&& (65535 : Int64)).toInt32) &&& (2047 : Int32))) rfl (q := 32) rfl ?_
    refine o_ior X d_method_3_32 (w := ((55296 : Int32) ||| (((((x.toUInt64 >>> (((16 : Int32) * i) &&& 0x3f).toInt64.toUInt64).toInt64) &&& (65535 : Int64)).toInt32) &&& (2047 : Int32)))) rfl (q := 33) rfl ?_
    refine o_i2c X d_method_3_33 (w := (((55296 : Int32) ||| (((((x.toUInt64 >>> (((16 : Int32) * i) &&& 0x3f).toInt64.toUInt64).toInt64) &&& (65535 : Int64)).toInt32) &&& (2047 : Int32))).toUInt32.toUInt16.toUInt32.toInt32)) rfl (q := 34) rfl ?_
    exact o_retN X d_method_3_34 (by simp) (fun Sf hSf => ⟨_, rfl, rfl, own_i2cr _⟩) (by decide) (by decide)
set_option maxRecDepth 65536 in
set_option maxHeartbeats 40000000 in
theorem c_pchkR {l : Launch} {Z : State} {a0 : Array Value} (hw : W a0 Z) (f : Addr) (i n : Nat) (h0 : Heap) (hi : i < n) (hN : n ≤ 4000) :
    Con l Z EL0 (⟨"jdk/internal/util/Preconditions", "checkIndex", "(IILjava/util/function/BiFunction;)I"⟩ : MethodName) jdk_41_method_11_code 3 (some .int) ({ frames := 0, cells := 0, slots := 0, locals := 0 } : Room) #[(.int (Int32.ofNat i)), (.int (Int32.ofNat n)), (.ref f)] h0 [] (fun v h' Sf => v = some (.int (Int32.ofNat i)) ∧ h' = h0) := by
  have hpn : plainName "jdk/internal/util/Preconditions" = true := by first | (simp [plainName, overriddenIn]; done) | decide +kernel
  refine Con.intro (plainFor_of_name hpn) ?_
  intro p e s m below meth c T X hss
  refine Goes.cast (g' := mkF m 0 #[.val (.int (Int32.ofNat i)), .val (.int (Int32.ofNat n)), .val (.ref f)] []) (by first | (simp [entryFrame, mkF, argsToLocals, Value.category]; done) | rfl) ?_
  refine o_iloadN X d_jdk_41_method_11_0 rfl (q := 1) rfl ?_
  refine o_ifN X d_jdk_41_method_11_1 (flt (n_neg (by omega))).1 (q := 4) rfl ?_
  refine o_iloadN X d_jdk_41_method_11_4 rfl (q := 5) rfl ?_
  refine o_iloadN X d_jdk_41_method_11_5 rfl (q := 6) rfl ?_
  refine o_icmpY X d_jdk_41_method_11_6 (tlt ((n_lt (by omega) (by omega)).mpr hi)).1 (by decide) (q := 16) (by decide) ?_
  refine o_iloadN X d_jdk_41_method_11_16 rfl (q := 17) rfl ?_
  exact o_retI X d_jdk_41_method_11_17 (fun Sf hSf => ⟨rfl, rfl⟩) (by decide) (by decide)
set_option maxRecDepth 65536 in
set_option maxHeartbeats 40000000 in
theorem c_pchkN {l : Launch} {Z : State} {a0 : Array Value} (hw : W a0 Z) (i n : Nat) (h0 : Heap) (hi : i < n) (hN : n ≤ 4000) :
    Con l Z EL0 (⟨"jdk/internal/util/Preconditions", "checkIndex", "(IILjava/util/function/BiFunction;)I"⟩ : MethodName) jdk_41_method_11_code 3 (some .int) ({ frames := 0, cells := 0, slots := 0, locals := 0 } : Room) #[(.int (Int32.ofNat i)), (.int (Int32.ofNat n)), .null] h0 [] (fun v h' Sf => v = some (.int (Int32.ofNat i)) ∧ h' = h0) := by
  have hpn : plainName "jdk/internal/util/Preconditions" = true := by first | (simp [plainName, overriddenIn]; done) | decide +kernel
  refine Con.intro (plainFor_of_name hpn) ?_
  intro p e s m below meth c T X hss
  refine Goes.cast (g' := mkF m 0 #[.val (.int (Int32.ofNat i)), .val (.int (Int32.ofNat n)), .val .null] []) (by first | (simp [entryFrame, mkF, argsToLocals, Value.category]; done) | rfl) ?_
  refine o_iloadN X d_jdk_41_method_11_0 rfl (q := 1) rfl ?_
  refine o_ifN X d_jdk_41_method_11_1 (flt (n_neg (by omega))).1 (q := 4) rfl ?_
  refine o_iloadN X d_jdk_41_method_11_4 rfl (q := 5) rfl ?_
  refine o_iloadN X d_jdk_41_method_11_5 rfl (q := 6) rfl ?_
  refine o_icmpY X d_jdk_41_method_11_6 (tlt ((n_lt (by omega) (by omega)).mpr hi)).1 (by decide) (q := 16) (by decide) ?_
  refine o_iloadN X d_jdk_41_method_11_16 rfl (q := 17) rfl ?_
  exact o_retI X d_jdk_41_method_11_17 (fun Sf hSf => ⟨rfl, rfl⟩) (by decide) (by decide)
theorem c_pchk {l : Launch} {Z : State} {a0 : Array Value} (hw : W a0 Z) (fm : Value) (i n : Nat) (h0 : Heap) (rfm : fm.isRef = true) (hi : i < n) (hN : n ≤ 4000) :
    Con l Z EL0 (⟨"jdk/internal/util/Preconditions", "checkIndex", "(IILjava/util/function/BiFunction;)I"⟩ : MethodName) jdk_41_method_11_code 3 (some .int) ({ frames := 0, cells := 0, slots := 0, locals := 0 } : Room) #[(.int (Int32.ofNat i)), (.int (Int32.ofNat n)), fm] h0 [] (fun v h' Sf => v = some (.int (Int32.ofNat i)) ∧ h' = h0) := by
  cases fm with
  | null => exact c_pchkN hw i n h0 hi hN
  | ref f => exact c_pchkR hw f i n h0 hi hN
  | _ => exact absurd rfm (by simp [Value.isRef])
set_option maxRecDepth 65536 in
set_option maxHeartbeats 40000000 in
theorem c_chk {l : Launch} {Z : State} {a0 : Array Value} (hw : W a0 Z) (i n : Nat) (h0 : Heap) {fm : Value} (O4 : Sta Z Z.heap "jdk/internal/util/Preconditions" "SIOOBE_FORMATTER" "Ljava/util/function/BiFunction;" fm) (rfm : fm.isRef = true) (hi : i < n) (hN : n ≤ 4000) :
    Con l Z EL0 (⟨"java/lang/String", "checkIndex", "(II)V"⟩ : MethodName) jdk_42_method_155_code 2 none ({ frames := 1, cells := 0, slots := 0, locals := 14 } : Room) #[(.int (Int32.ofNat i)), (.int (Int32.ofNat n))] h0 [] (fun v h' Sf => v = none ∧ h' = h0) := by
  have hpn : plainName "java/lang/String" = true := by first | (simp [plainName, overriddenIn]; done) | decide +kernel
  refine Con.intro (plainFor_of_name hpn) ?_
  intro p e s m below meth c T X hss
  refine Goes.cast (g' := mkF m 0 #[.val (.int (Int32.ofNat i)), .val (.int (Int32.ofNat n))] []) (by first | (simp [entryFrame, mkF, argsToLocals, Value.category]; done) | rfl) ?_
  refine o_iloadN X d_jdk_42_method_155_0 rfl (q := 1) rfl ?_
  refine o_iloadN X d_jdk_42_method_155_1 rfl (q := 2) rfl ?_
  refine o_getS X O4 (host := "") (Or.inl (w116 hw)) Via.refl d_jdk_42_method_155_2 (q := 5) rfl ?_
  intro T1 X1
  refine o_stat X1 [(.int (Int32.ofNat i)), (.int (Int32.ofNat n)), fm] (y' := (⟨"jdk/internal/util/Preconditions", "checkIndex", "(IILjava/util/function/BiFunction;)I"⟩ : MethodName)) (c_pchk hw fm i n _ rfm hi hN) all0 (w118 hw) (w119 hw) (w117 hw) (w120 hw) (by decide) d_jdk_42_method_155_5 (rest := []) rfl rfl (lenOf pd11 rfl) rfl (by decide) (Nat.le_of_ble_eq_true rfl) (by decide) (by decide) (q := 8) rfl ?_
  intro v2 vm2 T2 h2 l2 X2 R2 q2
  obtain ⟨rfl, e2⟩ := q2
  have e2 := e2.symm
  subst e2
  show Goes p e below _ T2 (mkF m 8 #[.val (.int (Int32.ofNat i)), .val (.int (Int32.ofNat n))] [(.int (Int32.ofNat i))])
  refine o_pop X2 d_jdk_42_method_155_8 rfl (q := 9) rfl ?_
  exact o_ret X2 d_jdk_42_method_155_9 (fun Sf hSf => ⟨rfl, rfl⟩) (by decide) (by decide)
set_option maxRecDepth 65536 in
set_option maxHeartbeats 40000000 in
theorem c_tcp {l : Launch} {Z : State} {a0 : Array Value} (hw : W a0 Z) (x z : Int32) (h0 : Heap)  :
    Con l Z EL0 (⟨"java/lang/Character", "toCodePoint", "(CC)I"⟩ : MethodName) jdk_89_method_19_code 2 (some .int) ({ frames := 0, cells := 0, slots := 0, locals := 0 } : Room) #[(.int x), (.int z)] h0 [] (fun v h' Sf => v = some (.int (toCP x z)) ∧ h' = h0) := by
  have hpn : plainName "java/lang/Character" = true := by first | (simp [plainName, overriddenIn]; done) | decide +kernel
  refine Con.intro (plainFor_of_name hpn) ?_
  intro p e s m below meth c T X hss
  refine Goes.cast (g' := mkF m 0 #[.val (.int x), .val (.int z)] []) (by first | (simp [entryFrame, mkF, argsToLocals, Value.category]; done) | rfl) ?_
  refine o_iloadN X d_jdk_89_method_19_0 rfl (q := 1) rfl ?_
  refine o_bipush X d_jdk_89_method_19_1 (w := 10) rfl (q := 3) rfl ?_
  refine o_ishl X d_jdk_89_method_19_3 (w := (x <<< ((10 : Int32) &&& 31))) rfl (q := 4) rfl ?_
  refine o_iloadN X d_jdk_89_method_19_4 rfl (q := 5) rfl ?_
  refine o_iadd X d_jdk_89_method_19_5 (w := ((x <<< ((10 : Int32) &&& 31)) + z)) rfl (q := 6) rfl ?_
  refine o_ldcI X (w144 hw) d_jdk_89_method_19_6 (q := 8) rfl ?_
  refine o_iadd X d_jdk_89_method_19_8 (w := (((x <<< ((10 : Int32) &&& 31)) + z) + (-56613888 : Int32))) rfl (q := 9) rfl ?_
  exact o_retI X d_jdk_89_method_19_9 (fun Sf hSf => ⟨rfl, rfl⟩) (by decide) (by decide)
set_option maxRecDepth 65536 in
set_option maxHeartbeats 40000000 in
theorem c_cc {l : Launch} {Z : State} {a0 : Array Value} (hw : W a0 Z) (x : Int32) (h0 : Heap)  :
    Con l Z EL0 (⟨"java/lang/Character", "charCount", "(I)I"⟩ : MethodName) jdk_89_method_18_code 1 (some .int) ({ frames := 0, cells := 0, slots := 0, locals := 0 } : Room) #[(.int x)] h0 [] (fun v h' Sf => v = some (.int (if x < (65536 : Int32) then (1 : Int32) else 2)) ∧ h' = h0) := by
  have hpn : plainName "java/lang/Character" = true := by first | (simp [plainName, overriddenIn]; done) | decide +kernel
  refine Con.intro (plainFor_of_name hpn) ?_
  intro p e s m below meth c T X hss
  refine Goes.cast (g' := mkF m 0 #[.val (.int x)] []) (by first | (simp [entryFrame, mkF, argsToLocals, Value.category]; done) | rfl) ?_
  refine o_iloadN X d_jdk_89_method_18_0 rfl (q := 1) rfl ?_
  refine o_ldcI X (w139 hw) d_jdk_89_method_18_1 (q := 3) rfl ?_
  by_cases hc3 : x < (65536 : Int32)
  · refine o_icmpY X d_jdk_89_method_18_3 (tlt hc3).1 (by decide) (q := 10) (by decide) ?_
    refine o_iconst X d_jdk_89_method_18_10 (w := 1) rfl (q := 11) rfl ?_
    exact o_retI X d_jdk_89_method_18_11 (fun Sf hSf => ⟨by rw [if_pos hc3], rfl⟩) (by decide) (by decide)
  · refine o_icmpN X d_jdk_89_method_18_3 (flt hc3).1 (q := 6) rfl ?_
    refine o_iconst X d_jdk_89_method_18_6 (w := 2) rfl (q := 7) rfl ?_
    refine o_goto X d_jdk_89_method_18_7 (by decide) (q := 11) (by decide) ?_
    exact o_retI X d_jdk_89_method_18_11 (fun Sf hSf => ⟨by rw [if_neg hc3], rfl⟩) (by decide) (by decide)
set_option maxRecDepth 65536 in
set_option maxHeartbeats 40000000 in
theorem c_cmpI {l : Launch} {Z : State} {a0 : Array Value} (hw : W a0 Z) (x z : Int32) (h0 : Heap)  :
    Con l Z EL0 (⟨"java/lang/Integer", "compare", "(II)I"⟩ : MethodName) jdk_33_method_40_code 2 (some .int) ({ frames := 0, cells := 0, slots := 0, locals := 0 } : Room) #[(.int x), (.int z)] h0 [] (fun v h' Sf => v = some (.int (if x < z then (-1 : Int32) else if x = z then 0 else 1)) ∧ h' = h0) := by
  have hpn : plainName "java/lang/Integer" = true := by first | (simp [plainName, overriddenIn]; done) | decide +kernel
  refine Con.intro (plainFor_of_name hpn) ?_
  intro p e s m below meth c T X hss
  refine Goes.cast (g' := mkF m 0 #[.val (.int x), .val (.int z)] []) (by first | (simp [entryFrame, mkF, argsToLocals, Value.category]; done) | rfl) ?_
  refine o_iloadN X d_jdk_33_method_40_0 rfl (q := 1) rfl ?_
  refine o_iloadN X d_jdk_33_method_40_1 rfl (q := 2) rfl ?_
  by_cases hc2 : x < z
  · refine o_icmpN X d_jdk_33_method_40_2 (tlt hc2).2.1 (q := 5) rfl ?_
    refine o_iconst X d_jdk_33_method_40_5 (w := -1) rfl (q := 6) rfl ?_
    refine o_goto X d_jdk_33_method_40_6 (by decide) (q := 19) (by decide) ?_
    exact o_retI X d_jdk_33_method_40_19 (fun Sf hSf => ⟨by rw [if_pos hc2], rfl⟩) (by decide) (by decide)
  · refine o_icmpY X d_jdk_33_method_40_2 (flt hc2).2.1 (by decide) (q := 9) (by decide) ?_
    refine o_iloadN X d_jdk_33_method_40_9 rfl (q := 10) rfl ?_
    refine o_iloadN X d_jdk_33_method_40_10 rfl (q := 11) rfl ?_
    by_cases hc11 : x = z
    · refine o_icmpN X d_jdk_33_method_40_11 (teq hc11).2 (q := 14) rfl ?_
      refine o_iconst X d_jdk_33_method_40_14 (w := 0) rfl (q := 15) rfl ?_
      refine o_goto X d_jdk_33_method_40_15 (by decide) (q := 19) (by decide) ?_
      exact o_retI X d_jdk_33_method_40_19 (fun Sf hSf => ⟨by rw [if_neg hc2, if_pos hc11], rfl⟩) (by decide) (by decide)
    · refine o_icmpY X d_jdk_33_method_40_11 (feq hc11).2 (by decide) (q := 18) (by decide) ?_
      refine o_iconst X d_jdk_33_method_40_18 (w := 1) rfl (q := 19) rfl ?_
      exact o_retI X d_jdk_33_method_40_19 (fun Sf hSf => ⟨by rw [if_neg hc2, if_neg hc11], rfl⟩) (by decide) (by decide)
set_option maxRecDepth 65536 in
set_option maxHeartbeats 40000000 in
theorem c_cpa4 {l : Launch} {Z : State} {a0 : Array Value} (hw : W a0 Z) (b : Addr) (kb : ClassId) (cs : List Int32) (i : Nat) (h0 : Heap) (SA : Sta Z Z.heap "java/lang/StringUTF16" "$assertionsDisabled" "Z" (.int (1 : Int32))) (SH : Sta Z Z.heap "java/lang/StringUTF16" "HI_BYTE_SHIFT" "I" (.int (0 : Int32))) (SL : Sta Z Z.heap "java/lang/StringUTF16" "LO_BYTE_SHIFT" "I" (.int (8 : Int32))) (Vb : Arv Z h0 b kb .byte (Int32.ofNat (2 * cs.length)) (StrChars.Road.wideBytes cs) (.int 0)) (hN : cs.length ≤ 4000) (hr : ∀ c ∈ cs, Rg c) (hi : i < cs.length) :
    Con l Z EL0 (⟨"java/lang/StringUTF16", "codePointAt", "([BIIZ)I"⟩ : MethodName) jdk_52_method_7_code 6 (some .int) ({ frames := 1, cells := 0, slots := 0, locals := 13 } : Room) #[(.ref b), (.int (Int32.ofNat i)), (.int (Int32.ofNat cs.length)), (.int (0 : Int32))] h0 [] (fun v h' Sf => v = some (.int (cpH (cs.drop i))) ∧ h' = h0) := by
  have hpn : plainName "java/lang/StringUTF16" = true := by first | (simp [plainName, overriddenIn]; done) | decide +kernel
  refine Con.intro (plainFor_of_name hpn) ?_
  intro p e s m below meth c T X hss
  refine Goes.cast (g' := mkF m 0 #[.val (.ref b), .val (.int (Int32.ofNat i)), .val (.int (Int32.ofNat cs.length)), .val (.int (0 : Int32)), .unset, .unset] []) (by first | (simp [entryFrame, mkF, argsToLocals, Value.category]; done) | rfl) ?_
  refine o_getS X SA (host := "") (Or.inl (w84 hw)) Via.refl d_jdk_52_method_7_0 (q := 3) rfl ?_
  intro T1 X1
  refine o_ifY X1 d_jdk_52_method_7_3 (by decide) (by decide) (q := 19) (by decide) ?_
  refine o_iloadN X1 d_jdk_52_method_7_19 rfl (q := 20) rfl ?_
  refine o_ifY X1 d_jdk_52_method_7_20 (by decide) (by decide) (q := 28) (by decide) ?_
  refine o_aloadN X1 d_jdk_52_method_7_28 rfl rfl (q := 29) rfl ?_
  refine o_iloadN X1 d_jdk_52_method_7_29 rfl (q := 30) rfl ?_
  refine o_stat X1 [(.ref b), (.int (Int32.ofNat i))] (y' := (⟨"java/lang/StringUTF16", "getChar", "([BI)C"⟩ : MethodName)) (c_getCh hw b kb cs i _ SA SH SL Vb hN hr hi) all0 (w87 hw) (w88 hw) (w66 hw) (w89 hw) (by decide) d_jdk_52_method_7_30 (rest := []) rfl rfl (lenOf pd6 rfl) rfl (by decide) (Nat.le_of_ble_eq_true rfl) (by decide) (by decide) (q := 33) rfl ?_
  intro v2 vm2 T2 h2 l2 X2 R2 q2
  obtain ⟨rfl, e2⟩ := q2
  have e2 := e2.symm
  subst e2
  show Goes p e below _ T2 (mkF m 33 #[.val (.ref b), .val (.int (Int32.ofNat i)), .val (.int (Int32.ofNat cs.length)), .val (.int (0 : Int32)), .unset, .unset] [(.int (cs.getD i 0))])
  refine o_istore X2 d_jdk_52_method_7_33 rfl (L' := #[.val (.ref b), .val (.int (Int32.ofNat i)), .val (.int (Int32.ofNat cs.length)), .val (.int (0 : Int32)), .val (.int (cs.getD i 0)), .unset]) rfl (q := 35) rfl ?_
  refine o_iload X2 d_jdk_52_method_7_35 rfl (q := 37) rfl ?_
  refine o_stat X2 [(.int (cs.getD i 0))] (y' := (⟨"java/lang/Character", "isHighSurrogate", "(C)Z"⟩ : MethodName)) (c_isHS hw (cs.getD i 0) _) all0 (w127 hw) (w128 hw) (w129 hw) (w130 hw) (by decide) d_jdk_52_method_7_37 (rest := []) rfl rfl (lenOf pd9 rfl) rfl (by decide) (Nat.le_of_ble_eq_true rfl) (by decide) (by decide) (q := 40) rfl ?_
  intro v3 vm3 T3 h3 l3 X3 R3 q3
  obtain ⟨z3, rfl, e3, hz3⟩ := q3
  have e3 := e3.symm
  subst e3
  show Goes p e below _ T3 (mkF m 40 #[.val (.ref b), .val (.int (Int32.ofNat i)), .val (.int (Int32.ofNat cs.length)), .val (.int (0 : Int32)), .val (.int (cs.getD i 0)), .unset] [(.int z3)])
  by_cases hc40 : z3 = (0 : Int32)
  · refine o_ifY X3 d_jdk_52_method_7_40 (teq hc40).1 (by decide) (q := 83) (by decide) ?_
    refine o_iload X3 d_jdk_52_method_7_83 rfl (q := 85) rfl ?_
    exact o_retI X3 d_jdk_52_method_7_85 (fun Sf hSf => ⟨by rw [own_cpN hi (fun _ => by rw [hz3.mp hc40, Bool.false_and])], rfl⟩) (by decide) (by decide)
  · refine o_ifN X3 d_jdk_52_method_7_40 (feq hc40).1 (q := 43) rfl ?_
    refine o_iinc X3 d_jdk_52_method_7_43 rfl (z := (Int32.ofNat (i + 1))) (n_add _ _) (L' := #[.val (.ref b), .val (.int (Int32.ofNat (i + 1))), .val (.int (Int32.ofNat cs.length)), .val (.int (0 : Int32)), .val (.int (cs.getD i 0)), .unset]) rfl (q := 46) rfl ?_
    refine o_iloadN X3 d_jdk_52_method_7_46 rfl (q := 47) rfl ?_
    refine o_iloadN X3 d_jdk_52_method_7_47 rfl (q := 48) rfl ?_
    by_cases hc48 : (Int32.ofNat (i + 1)) < (Int32.ofNat cs.length)
    · refine o_icmpN X3 d_jdk_52_method_7_48 (tlt hc48).2.1 (q := 51) rfl ?_
      refine o_iloadN X3 d_jdk_52_method_7_51 rfl (q := 52) rfl ?_
      refine o_ifY X3 d_jdk_52_method_7_52 (by decide) (by decide) (q := 60) (by decide) ?_
      refine o_aloadN X3 d_jdk_52_method_7_60 rfl rfl (q := 61) rfl ?_
      refine o_iloadN X3 d_jdk_52_method_7_61 rfl (q := 62) rfl ?_
      have f4 := Vb
      refine o_stat X3 [(.ref b), (.int (Int32.ofNat (i + 1)))] (y' := (⟨"java/lang/StringUTF16", "getChar", "([BI)C"⟩ : MethodName)) (c_getCh hw b kb cs (i + 1) _ SA SH SL f4 hN hr ((n_lt (by omega) (by omega)).mp hc48)) all0 (w87 hw) (w88 hw) (w66 hw) (w89 hw) (by decide) d_jdk_52_method_7_62 (rest := []) rfl rfl (lenOf pd6 rfl) rfl (by decide) (Nat.le_of_ble_eq_true rfl) (by decide) (by decide) (q := 65) rfl ?_
      intro v5 vm5 T5 h5 l5 X5 R5 q5
      obtain ⟨rfl, e5⟩ := q5
      have e5 := e5.symm
      subst e5
      show Goes p e below _ T5 (mkF m 65 #[.val (.ref b), .val (.int (Int32.ofNat (i + 1))), .val (.int (Int32.ofNat cs.length)), .val (.int (0 : Int32)), .val (.int (cs.getD i 0)), .unset] [(.int (cs.getD (i + 1) 0))])
      refine o_istore X5 d_jdk_52_method_7_65 rfl (L' := #[.val (.ref b), .val (.int (Int32.ofNat (i + 1))), .val (.int (Int32.ofNat cs.length)), .val (.int (0 : Int32)), .val (.int (cs.getD i 0)), .val (.int (cs.getD (i + 1) 0))]) rfl (q := 67) rfl ?_
      refine o_iload X5 d_jdk_52_method_7_67 rfl (q := 69) rfl ?_
      refine o_stat X5 [(.int (cs.getD (i + 1) 0))] (y' := (⟨"java/lang/Character", "isLowSurrogate", "(C)Z"⟩ : MethodName)) (c_isLS hw (cs.getD (i + 1) 0) _) all0 (w133 hw) (w134 hw) (w129 hw) (w135 hw) (by decide) d_jdk_52_method_7_69 (rest := []) rfl rfl (lenOf pd9 rfl) rfl (by decide) (Nat.le_of_ble_eq_true rfl) (by decide) (by decide) (q := 72) rfl ?_
      intro v6 vm6 T6 h6 l6 X6 R6 q6
      obtain ⟨z6, rfl, e6, hz6⟩ := q6
      have e6 := e6.symm
      subst e6
      show Goes p e below _ T6 (mkF m 72 #[.val (.ref b), .val (.int (Int32.ofNat (i + 1))), .val (.int (Int32.ofNat cs.length)), .val (.int (0 : Int32)), .val (.int (cs.getD i 0)), .val (.int (cs.getD (i + 1) 0))] [(.int z6)])
      by_cases hc72 : z6 = (0 : Int32)
      · refine o_ifY X6 d_jdk_52_method_7_72 (teq hc72).1 (by decide) (q := 83) (by decide) ?_
        refine o_iload X6 d_jdk_52_method_7_83 rfl (q := 85) rfl ?_
        exact o_retI X6 d_jdk_52_method_7_85 (fun Sf hSf => ⟨by rw [own_cpN hi (fun _ => by rw [hz6.mp hc72, Bool.and_false])], rfl⟩) (by decide) (by decide)
      · refine o_ifN X6 d_jdk_52_method_7_72 (feq hc72).1 (q := 75) rfl ?_
        refine o_iload X6 d_jdk_52_method_7_75 rfl (q := 77) rfl ?_
        refine o_iload X6 d_jdk_52_method_7_77 rfl (q := 79) rfl ?_
        refine o_stat X6 [(.int (cs.getD i 0)), (.int (cs.getD (i + 1) 0))] (y' := (⟨"java/lang/Character", "toCodePoint", "(CC)I"⟩ : MethodName)) (c_tcp hw (cs.getD i 0) (cs.getD (i + 1) 0) _) all0 (w141 hw) (w142 hw) (w129 hw) (w143 hw) (by decide) d_jdk_52_method_7_79 (rest := []) rfl rfl (lenOf pd12 rfl) rfl (by decide) (Nat.le_of_ble_eq_true rfl) (by decide) (by decide) (q := 82) rfl ?_
        intro v7 vm7 T7 h7 l7 X7 R7 q7
        obtain ⟨rfl, e7⟩ := q7
        have e7 := e7.symm
        subst e7
        show Goes p e below _ T7 (mkF m 82 #[.val (.ref b), .val (.int (Int32.ofNat (i + 1))), .val (.int (Int32.ofNat cs.length)), .val (.int (0 : Int32)), .val (.int (cs.getD i 0)), .val (.int (cs.getD (i + 1) 0))] [(.int (toCP (cs.getD i 0) (cs.getD (i + 1) 0)))])
        exact o_retI X7 d_jdk_52_method_7_82 (fun Sf hSf => ⟨by rw [own_cpP hi ((n_lt (by omega) (by omega)).mp hc48) (own_tr hz3 hc40) (own_tr hz6 hc72)], rfl⟩) (by decide) (by decide)
    · refine o_icmpY X3 d_jdk_52_method_7_48 (flt hc48).2.1 (by decide) (q := 83) (by decide) ?_
      refine o_iload X3 d_jdk_52_method_7_83 rfl (q := 85) rfl ?_
      exact o_retI X3 d_jdk_52_method_7_85 (fun Sf hSf => ⟨by rw [own_cpN hi (fun q => absurd ((n_lt (by omega) (by omega)).mpr q) hc48)], rfl⟩) (by decide) (by decide)
set_option maxRecDepth 65536 in
set_option maxHeartbeats 40000000 in
theorem c_cpa3 {l : Launch} {Z : State} {a0 : Array Value} (hw : W a0 Z) (b : Addr) (kb : ClassId) (cs : List Int32) (i : Nat) (h0 : Heap) (SA : Sta Z Z.heap "java/lang/StringUTF16" "$assertionsDisabled" "Z" (.int (1 : Int32))) (SH : Sta Z Z.heap "java/lang/StringUTF16" "HI_BYTE_SHIFT" "I" (.int (0 : Int32))) (SL : Sta Z Z.heap "java/lang/StringUTF16" "LO_BYTE_SHIFT" "I" (.int (8 : Int32))) (Vb : Arv Z h0 b kb .byte (Int32.ofNat (2 * cs.length)) (StrChars.Road.wideBytes cs) (.int 0)) (hN : cs.length ≤ 4000) (hr : ∀ c ∈ cs, Rg c) (hi : i < cs.length) :
    Con l Z EL0 (⟨"java/lang/StringUTF16", "codePointAt", "([BII)I"⟩ : MethodName) jdk_52_method_8_code 3 (some .int) ({ frames := 2, cells := 0, slots := 0, locals := 30 } : Room) #[(.ref b), (.int (Int32.ofNat i)), (.int (Int32.ofNat cs.length))] h0 [] (fun v h' Sf => v = some (.int (cpH (cs.drop i))) ∧ h' = h0) := by
  have hpn : plainName "java/lang/StringUTF16" = true := by first | (simp [plainName, overriddenIn]; done) | decide +kernel
  refine Con.intro (plainFor_of_name hpn) ?_
  intro p e s m below meth c T X hss
  refine Goes.cast (g' := mkF m 0 #[.val (.ref b), .val (.int (Int32.ofNat i)), .val (.int (Int32.ofNat cs.length))] []) (by first | (simp [entryFrame, mkF, argsToLocals, Value.category]; done) | rfl) ?_
  refine o_aloadN X d_jdk_52_method_8_0 rfl rfl (q := 1) rfl ?_
  refine o_iloadN X d_jdk_52_method_8_1 rfl (q := 2) rfl ?_
  refine o_iloadN X d_jdk_52_method_8_2 rfl (q := 3) rfl ?_
  refine o_iconst X d_jdk_52_method_8_3 (w := 0) rfl (q := 4) rfl ?_
  refine o_stat X [(.ref b), (.int (Int32.ofNat i)), (.int (Int32.ofNat cs.length)), (.int (0 : Int32))] (y' := (⟨"java/lang/StringUTF16", "codePointAt", "([BIIZ)I"⟩ : MethodName)) (c_cpa4 hw b kb cs i _ SA SH SL Vb hN hr hi) all0 (w124 hw) (w125 hw) (w66 hw) (w126 hw) (by decide) d_jdk_52_method_8_4 (rest := []) rfl rfl (lenOf pd13 rfl) rfl (by decide) (Nat.le_of_ble_eq_true rfl) (by decide) (by decide) (q := 7) rfl ?_
  intro v1 vm1 T1 h1 l1 X1 R1 q1
  obtain ⟨rfl, e1⟩ := q1
  have e1 := e1.symm
  subst e1
  show Goes p e below _ T1 (mkF m 7 #[.val (.ref b), .val (.int (Int32.ofNat i)), .val (.int (Int32.ofNat cs.length))] [(.int (cpH (cs.drop i)))])
  exact o_retI X1 d_jdk_52_method_8_7 (fun Sf hSf => ⟨rfl, rfl⟩) (by decide) (by decide)
set_option maxRecDepth 65536 in
set_option maxHeartbeats 40000000 in
theorem c_isL0 {l : Launch} {Z : State} {a0 : Array Value} (hw : W a0 Z) (a : Addr) (h0 : Heap) {zc : Int32} (O2 : Sta Z Z.heap "java/lang/String" "COMPACT_STRINGS" "Z" (.int zc)) (P5 : ¬ zc = 0) (Fc : Fld Z h0 a "java/lang/String" "coder" "B" (.int (0 : Int32))) :
    Con l Z EL0 (⟨"java/lang/String", "isLatin1", "()Z"⟩ : MethodName) jdk_42_method_154_code 1 (some .boolean) ({ frames := 0, cells := 0, slots := 0, locals := 0 } : Room) #[(.ref a)] h0 [] (fun v h' Sf => v = some (.int (1 : Int32)) ∧ h' = h0) := by
  have hpn : plainName "java/lang/String" = true := by first | (simp [plainName, overriddenIn]; done) | decide +kernel
  refine Con.intro (plainFor_of_name hpn) ?_
  intro p e s m below meth c T X hss
  refine Goes.cast (g' := mkF m 0 #[.val (.ref a)] []) (by first | (simp [entryFrame, mkF, argsToLocals, Value.category]; done) | rfl) ?_
  refine o_getS X O2 (host := "") (Or.inl (w58 hw)) Via.refl d_jdk_42_method_154_0 (q := 3) rfl ?_
  intro T1 X1
  refine o_ifN X1 d_jdk_42_method_154_3 (feq P5).1 (q := 6) rfl ?_
  refine o_aloadN X1 d_jdk_42_method_154_6 rfl rfl (q := 7) rfl ?_
  refine o_getF X1 Fc (host := "") (Or.inl (w30 hw)) Via.refl d_jdk_42_method_154_7 (q := 10) rfl ?_
  intro T2 X2
  refine o_ifN X2 d_jdk_42_method_154_10 (by decide) (q := 13) rfl ?_
  refine o_iconst X2 d_jdk_42_method_154_13 (w := 1) rfl (q := 14) rfl ?_
  refine o_goto X2 d_jdk_42_method_154_14 (by decide) (q := 18) (by decide) ?_
  exact o_retN X2 d_jdk_42_method_154_18 (by simp) (fun Sf hSf => ⟨rfl, rfl⟩) (by decide) (by decide)
set_option maxRecDepth 65536 in
set_option maxHeartbeats 40000000 in
theorem c_isL1 {l : Launch} {Z : State} {a0 : Array Value} (hw : W a0 Z) (a : Addr) (h0 : Heap) {zc : Int32} (O2 : Sta Z Z.heap "java/lang/String" "COMPACT_STRINGS" "Z" (.int zc)) (P5 : ¬ zc = 0) (Fc : Fld Z h0 a "java/lang/String" "coder" "B" (.int (1 : Int32))) :
    Con l Z EL0 (⟨"java/lang/String", "isLatin1", "()Z"⟩ : MethodName) jdk_42_method_154_code 1 (some .boolean) ({ frames := 0, cells := 0, slots := 0, locals := 0 } : Room) #[(.ref a)] h0 [] (fun v h' Sf => v = some (.int (0 : Int32)) ∧ h' = h0) := by
  have hpn : plainName "java/lang/String" = true := by first | (simp [plainName, overriddenIn]; done) | decide +kernel
  refine Con.intro (plainFor_of_name hpn) ?_
  intro p e s m below meth c T X hss
  refine Goes.cast (g' := mkF m 0 #[.val (.ref a)] []) (by first | (simp [entryFrame, mkF, argsToLocals, Value.category]; done) | rfl) ?_
  refine o_getS X O2 (host := "") (Or.inl (w58 hw)) Via.refl d_jdk_42_method_154_0 (q := 3) rfl ?_
  intro T1 X1
  refine o_ifN X1 d_jdk_42_method_154_3 (feq P5).1 (q := 6) rfl ?_
  refine o_aloadN X1 d_jdk_42_method_154_6 rfl rfl (q := 7) rfl ?_
  refine o_getF X1 Fc (host := "") (Or.inl (w30 hw)) Via.refl d_jdk_42_method_154_7 (q := 10) rfl ?_
  intro T2 X2
  refine o_ifY X2 d_jdk_42_method_154_10 (by decide) (by decide) (q := 17) (by decide) ?_
  refine o_iconst X2 d_jdk_42_method_154_17 (w := 0) rfl (q := 18) rfl ?_
  exact o_retN X2 d_jdk_42_method_154_18 (by simp) (fun Sf hSf => ⟨rfl, rfl⟩) (by decide) (by decide)
set_option maxRecDepth 65536 in
set_option maxHeartbeats 40000000 in
theorem c_cpaL {l : Launch} {Z : State} {a0 : Array Value} (hw : W a0 Z) (a b : Addr) (kb : ClassId) (cs : List Int32) (i : Nat) (h0 : Heap) {zc : Int32} (O2 : Sta Z Z.heap "java/lang/String" "COMPACT_STRINGS" "Z" (.int zc)) (P5 : ¬ zc = 0) {fm : Value} (O4 : Sta Z Z.heap "jdk/internal/util/Preconditions" "SIOOBE_FORMATTER" "Ljava/util/function/BiFunction;" fm) (rfm : fm.isRef = true) (SA : Sta Z Z.heap "java/lang/StringUTF16" "$assertionsDisabled" "Z" (.int (1 : Int32))) (SH : Sta Z Z.heap "java/lang/StringUTF16" "HI_BYTE_SHIFT" "I" (.int (0 : Int32))) (SL : Sta Z Z.heap "java/lang/StringUTF16" "LO_BYTE_SHIFT" "I" (.int (8 : Int32))) (L : LS Z h0 a b kb cs) (hi : i < cs.length) (hN : cs.length ≤ 4000) :
    Con l Z EL0 (⟨"java/lang/String", "codePointAt", "(I)I"⟩ : MethodName) jdk_42_method_57_code 3 (some .int) ({ frames := 3, cells := 0, slots := 0, locals := 44 } : Room) #[(.ref a), (.int (Int32.ofNat i))] h0 [] (fun v h' Sf => v = some (.int (cpH (cs.drop i))) ∧ h' = h0) := by
  have hpn : plainName "java/lang/String" = true := by first | (simp [plainName, overriddenIn]; done) | decide +kernel
  refine Con.intro (plainFor_of_name hpn) ?_
  intro p e s m below meth c T X hss
  refine Goes.cast (g' := mkF m 0 #[.val (.ref a), .val (.int (Int32.ofNat i)), .unset] []) (by first | (simp [entryFrame, mkF, argsToLocals, Value.category]; done) | rfl) ?_
  refine o_aloadN X d_jdk_42_method_57_0 rfl rfl (q := 1) rfl ?_
  refine o_virt X [] (y' := (⟨"java/lang/String", "isLatin1", "()Z"⟩ : MethodName)) L.1 (c_isL0 hw a _ O2 P5 L.2.1) all0 (w108 hw) (w109 hw) (w111 hw) (w110 hw) (w112 hw) (w12 hw) (by decide) d_jdk_42_method_57_1 (rest := []) rfl rfl (lenOf pd14 rfl) rfl (by decide) (Nat.le_of_ble_eq_true rfl) (by decide) (by decide) (q := 4) rfl ?_
  intro v1 vm1 T1 h1 l1 X1 R1 q1
  obtain ⟨rfl, e1⟩ := q1
  have e1 := e1.symm
  subst e1
  show Goes p e below _ T1 (mkF m 4 #[.val (.ref a), .val (.int (Int32.ofNat i)), .unset] [(.int (1 : Int32))])
  refine o_ifN X1 d_jdk_42_method_57_4 (by decide) (q := 7) rfl ?_
  refine o_iloadN X1 d_jdk_42_method_57_7 rfl (q := 8) rfl ?_
  refine o_aloadN X1 d_jdk_42_method_57_8 rfl rfl (q := 9) rfl ?_
  have f2 := L
  refine o_getF X1 f2.2.2.1 (host := "") (Or.inl (w29 hw)) Via.refl d_jdk_42_method_57_9 (q := 12) rfl ?_
  intro T3 X3
  refine o_len X3 f2.2.2.2.1 d_jdk_42_method_57_12 (q := 13) rfl ?_
  refine o_stat X3 [(.int (Int32.ofNat i)), (.int (Int32.ofNat cs.length))] (y' := (⟨"java/lang/String", "checkIndex", "(II)V"⟩ : MethodName)) (c_chk hw i cs.length _ O4 rfm hi hN) all0 (w113 hw) (w114 hw) (w12 hw) (w115 hw) (by decide) d_jdk_42_method_57_13 (rest := []) rfl rfl (lenOf pd15 rfl) rfl (by decide) (Nat.le_of_ble_eq_true rfl) (by decide) (by decide) (q := 16) rfl ?_
  intro v4 vm4 T4 h4 l4 X4 R4 q4
  obtain ⟨rfl, e4⟩ := q4
  have e4 := e4.symm
  subst e4
  show Goes p e below _ T4 (mkF m 16 #[.val (.ref a), .val (.int (Int32.ofNat i)), .unset] [])
  refine o_aloadN X4 d_jdk_42_method_57_16 rfl rfl (q := 17) rfl ?_
  have f5 := f2
  refine o_getF X4 f5.2.2.1 (host := "") (Or.inl (w29 hw)) Via.refl d_jdk_42_method_57_17 (q := 20) rfl ?_
  intro T6 X6
  refine o_iloadN X6 d_jdk_42_method_57_20 rfl (q := 21) rfl ?_
  refine o_baload X6 f5.2.2.2.1 (n_in (by omega) (by omega)) (v := .int (cs.getD i 0).toInt8.toInt32) (n_get (by omega) (by omega)) d_jdk_42_method_57_21 (q := 22) rfl ?_
  refine o_sipush X6 d_jdk_42_method_57_22 (w := 255) rfl (q := 25) rfl ?_
  refine o_iand X6 d_jdk_42_method_57_25 (w := ((cs.getD i 0).toInt8.toInt32 &&& (255 : Int32))) rfl (q := 26) rfl ?_
  exact o_retI X6 d_jdk_42_method_57_26 (fun Sf hSf => ⟨by rw [own_cpL hi L.2.2.2.2.1], rfl⟩) (by decide) (by decide)
set_option maxRecDepth 65536 in
set_option maxHeartbeats 40000000 in
theorem c_cpaH {l : Launch} {Z : State} {a0 : Array Value} (hw : W a0 Z) (a b : Addr) (kb : ClassId) (cs : List Int32) (i : Nat) (h0 : Heap) {zc : Int32} (O2 : Sta Z Z.heap "java/lang/String" "COMPACT_STRINGS" "Z" (.int zc)) (P5 : ¬ zc = 0) {fm : Value} (O4 : Sta Z Z.heap "jdk/internal/util/Preconditions" "SIOOBE_FORMATTER" "Ljava/util/function/BiFunction;" fm) (rfm : fm.isRef = true) (SA : Sta Z Z.heap "java/lang/StringUTF16" "$assertionsDisabled" "Z" (.int (1 : Int32))) (SH : Sta Z Z.heap "java/lang/StringUTF16" "HI_BYTE_SHIFT" "I" (.int (0 : Int32))) (SL : Sta Z Z.heap "java/lang/StringUTF16" "LO_BYTE_SHIFT" "I" (.int (8 : Int32))) (H : HS Z h0 a b kb cs) (hi : i < cs.length) (hN : cs.length ≤ 4000) :
    Con l Z EL0 (⟨"java/lang/String", "codePointAt", "(I)I"⟩ : MethodName) jdk_42_method_57_code 3 (some .int) ({ frames := 3, cells := 0, slots := 0, locals := 44 } : Room) #[(.ref a), (.int (Int32.ofNat i))] h0 [] (fun v h' Sf => v = some (.int (cpH (cs.drop i))) ∧ h' = h0) := by
  have hpn : plainName "java/lang/String" = true := by first | (simp [plainName, overriddenIn]; done) | decide +kernel
  refine Con.intro (plainFor_of_name hpn) ?_
  intro p e s m below meth c T X hss
  refine Goes.cast (g' := mkF m 0 #[.val (.ref a), .val (.int (Int32.ofNat i)), .unset] []) (by first | (simp [entryFrame, mkF, argsToLocals, Value.category]; done) | rfl) ?_
  refine o_aloadN X d_jdk_42_method_57_0 rfl rfl (q := 1) rfl ?_
  refine o_virt X [] (y' := (⟨"java/lang/String", "isLatin1", "()Z"⟩ : MethodName)) H.1 (c_isL1 hw a _ O2 P5 H.2.1) all0 (w108 hw) (w109 hw) (w111 hw) (w110 hw) (w112 hw) (w12 hw) (by decide) d_jdk_42_method_57_1 (rest := []) rfl rfl (lenOf pd14 rfl) rfl (by decide) (Nat.le_of_ble_eq_true rfl) (by decide) (by decide) (q := 4) rfl ?_
  intro v1 vm1 T1 h1 l1 X1 R1 q1
  obtain ⟨rfl, e1⟩ := q1
  have e1 := e1.symm
  subst e1
  show Goes p e below _ T1 (mkF m 4 #[.val (.ref a), .val (.int (Int32.ofNat i)), .unset] [(.int (0 : Int32))])
  refine o_ifY X1 d_jdk_42_method_57_4 (by decide) (by decide) (q := 27) (by decide) ?_
  refine o_aloadN X1 d_jdk_42_method_57_27 rfl rfl (q := 28) rfl ?_
  have f2 := H.2.2.1
  refine o_getF X1 f2 (host := "") (Or.inl (w29 hw)) Via.refl d_jdk_42_method_57_28 (q := 31) rfl ?_
  intro T3 X3
  have f4 := H.2.2.2.1
  refine o_len X3 f4 d_jdk_42_method_57_31 (q := 32) rfl ?_
  refine o_iconst X3 d_jdk_42_method_57_32 (w := 1) rfl (q := 33) rfl ?_
  refine o_ishr X3 d_jdk_42_method_57_33 (w := (Int32.ofNat cs.length)) (own_shr1 hN) (q := 34) rfl ?_
  refine o_istoreN X3 d_jdk_42_method_57_34 rfl (L' := #[.val (.ref a), .val (.int (Int32.ofNat i)), .val (.int (Int32.ofNat cs.length))]) rfl (q := 35) rfl ?_
  refine o_iloadN X3 d_jdk_42_method_57_35 rfl (q := 36) rfl ?_
  refine o_iloadN X3 d_jdk_42_method_57_36 rfl (q := 37) rfl ?_
  refine o_stat X3 [(.int (Int32.ofNat i)), (.int (Int32.ofNat cs.length))] (y' := (⟨"java/lang/String", "checkIndex", "(II)V"⟩ : MethodName)) (c_chk hw i cs.length _ O4 rfm hi hN) all0 (w113 hw) (w114 hw) (w12 hw) (w115 hw) (by decide) d_jdk_42_method_57_37 (rest := []) rfl rfl (lenOf pd15 rfl) rfl (by decide) (Nat.le_of_ble_eq_true rfl) (by decide) (by decide) (q := 40) rfl ?_
  intro v5 vm5 T5 h5 l5 X5 R5 q5
  obtain ⟨rfl, e5⟩ := q5
  have e5 := e5.symm
  subst e5
  show Goes p e below _ T5 (mkF m 40 #[.val (.ref a), .val (.int (Int32.ofNat i)), .val (.int (Int32.ofNat cs.length))] [])
  refine o_aloadN X5 d_jdk_42_method_57_40 rfl rfl (q := 41) rfl ?_
  have f6 := f2
  refine o_getF X5 f6 (host := "") (Or.inl (w29 hw)) Via.refl d_jdk_42_method_57_41 (q := 44) rfl ?_
  intro T7 X7
  refine o_iloadN X7 d_jdk_42_method_57_44 rfl (q := 45) rfl ?_
  refine o_iloadN X7 d_jdk_42_method_57_45 rfl (q := 46) rfl ?_
  have f8 := f4
  refine o_stat X7 [(.ref b), (.int (Int32.ofNat i)), (.int (Int32.ofNat cs.length))] (y' := (⟨"java/lang/StringUTF16", "codePointAt", "([BII)I"⟩ : MethodName)) (c_cpa3 hw b kb cs i _ SA SH SL f8 hN H.2.2.2.2.2.1 hi) all0 (w121 hw) (w122 hw) (w66 hw) (w123 hw) (by decide) d_jdk_42_method_57_46 (rest := []) rfl rfl (lenOf pd16 rfl) rfl (by decide) (Nat.le_of_ble_eq_true rfl) (by decide) (by decide) (q := 49) rfl ?_
  intro v9 vm9 T9 h9 l9 X9 R9 q9
  obtain ⟨rfl, e9⟩ := q9
  have e9 := e9.symm
  subst e9
  show Goes p e below _ T9 (mkF m 49 #[.val (.ref a), .val (.int (Int32.ofNat i)), .val (.int (Int32.ofNat cs.length))] [(.int (cpH (cs.drop i)))])
  exact o_retI X9 d_jdk_42_method_57_49 (fun Sf hSf => ⟨rfl, rfl⟩) (by decide) (by decide)
theorem c_cpa {l : Launch} {Z : State} {a0 : Array Value} (hw : W a0 Z) (a b : Addr) (kb : ClassId) (cs : List Int32) (i : Nat) (h0 : Heap) {zc : Int32} (O2 : Sta Z Z.heap "java/lang/String" "COMPACT_STRINGS" "Z" (.int zc)) (P5 : ¬ zc = 0) {fm : Value} (O4 : Sta Z Z.heap "jdk/internal/util/Preconditions" "SIOOBE_FORMATTER" "Ljava/util/function/BiFunction;" fm) (rfm : fm.isRef = true) (SA : Sta Z Z.heap "java/lang/StringUTF16" "$assertionsDisabled" "Z" (.int (1 : Int32))) (SH : Sta Z Z.heap "java/lang/StringUTF16" "HI_BYTE_SHIFT" "I" (.int (0 : Int32))) (SL : Sta Z Z.heap "java/lang/StringUTF16" "LO_BYTE_SHIFT" "I" (.int (8 : Int32))) (U : US Z h0 a b kb cs) (hi : i < cs.length) :
    Con l Z EL0 (⟨"java/lang/String", "codePointAt", "(I)I"⟩ : MethodName) jdk_42_method_57_code 3 (some .int) ({ frames := 3, cells := 0, slots := 0, locals := 44 } : Room) #[(.ref a), (.int (Int32.ofNat i))] h0 [] (fun v h' Sf => v = some (.int (cpH (cs.drop i))) ∧ h' = h0) := by
  rcases U with L | H
  · exact c_cpaL hw a b kb cs i h0 O2 P5 O4 rfm SA SH SL L hi L.2.2.2.2.2
  · exact c_cpaH hw a b kb cs i h0 O2 P5 O4 rfm SA SH SL H hi H.2.2.2.2.2.2
set_option maxRecDepth 65536 in
set_option maxHeartbeats 40000000 in
theorem c_cmp {l : Launch} {Z : State} {a0 : Array Value} (hw : W a0 Z) (a b : Addr) (kb : ClassId) (cs : List Int32) (a2 b2 : Addr) (kb2 : ClassId) (ds : List Int32) (h0 : Heap) {zc : Int32} (O2 : Sta Z Z.heap "java/lang/String" "COMPACT_STRINGS" "Z" (.int zc)) (P5 : ¬ zc = 0) {fm : Value} (O4 : Sta Z Z.heap "jdk/internal/util/Preconditions" "SIOOBE_FORMATTER" "Ljava/util/function/BiFunction;" fm) (rfm : fm.isRef = true) (SA : Sta Z Z.heap "java/lang/StringUTF16" "$assertionsDisabled" "Z" (.int (1 : Int32))) (SH : Sta Z Z.heap "java/lang/StringUTF16" "HI_BYTE_SHIFT" "I" (.int (0 : Int32))) (SL : Sta Z Z.heap "java/lang/StringUTF16" "LO_BYTE_SHIFT" "I" (.int (8 : Int32))) (U1 : US Z h0 a b kb cs) (U2 : US Z h0 a2 b2 kb2 ds) :
    Con l Z EL0 (⟨"com/example/refinement/refinement/io/CodePointOrder", "compare", "(Ljava/lang/String;Ljava/lang/String;)I"⟩ : MethodName) prog_1_method_2_code 5 (some .int) ({ frames := 4, cells := 0, slots := 0, locals := 58 } : Room) #[(.ref a), (.ref a2)] h0 [] (fun v h' Sf => ∃ z : Int32, v = some (.int z) ∧ h' = h0 ∧ z = lexL (cps cs) (cps ds)) := by
  have hpn : plainName "com/example/refinement/refinement/io/CodePointOrder" = true := by first | (simp [plainName, overriddenIn]; done) | decide +kernel
  refine Con.intro (plainFor_of_name hpn) ?_
  intro p e s m below meth c T X hss
  refine Goes.cast (g' := mkF m 0 #[.val (.ref a), .val (.ref a2), .unset, .unset, .unset] []) (by first | (simp [entryFrame, mkF, argsToLocals, Value.category]; done) | rfl) ?_
  have hN1 := U1.le
  have hN2 := U2.le
  refine o_iconst X d_prog_1_method_2_0 (w := 0) rfl (q := 1) rfl ?_
  refine o_istoreN X d_prog_1_method_2_1 rfl (L' := #[.val (.ref a), .val (.ref a2), .val (.int (0 : Int32)), .unset, .unset]) rfl (q := 2) rfl ?_
  have loop : ∀ (k i : Nat) {vm : Vm} {T : State} {locs : List Loc} (s3 s4 : Slot), One s3 → One s4 → cs.length - i ≤ k → i ≤ cs.length → i ≤ ds.length → lexL (cps (cs.drop i)) (cps (ds.drop i)) = lexL (cps cs) (cps ds) → On l Z EL0 p e ({ frames := 4, cells := 0, slots := 0, locals := 58 } : Room) s m #[(.ref a), (.ref a2)] below meth c (⟨"com/example/refinement/refinement/io/CodePointOrder", "compare", "(Ljava/lang/String;Ljava/lang/String;)I"⟩ : MethodName) prog_1_method_2_code 5 (some .int) vm T h0 locs 0 0 → Goes p e below (FinQ Z EL0 s (fun v h' Sf => ∃ z : Int32, v = some (.int z) ∧ h' = h0 ∧ z = lexL (cps cs) (cps ds)) (({ frames := 4, cells := 0, slots := 0, locals := 58 } : Room)).cells (({ frames := 4, cells := 0, slots := 0, locals := 58 } : Room)).slots) T (mkF m 2 #[.val (.ref a), .val (.ref a2), .val (.int (Int32.ofNat i)), s3, s4] []) := by
    intro k
    induction k with
    | zero =>
      intro i vm T locs s3 s4 o3 o4 hk h1 h2 hq X
      refine o_iloadN X d_prog_1_method_2_2 rfl (q := 3) rfl ?_
      refine o_aloadN X d_prog_1_method_2_3 rfl rfl (q := 4) rfl ?_
      refine o_strlenU X U1 O2 P5 (hwln hw) (w11 hw) (w48 hw) (w49 hw) (w51 hw) (w50 hw) d_prog_1_method_2_4 rfl (by decide) (Nat.le_of_ble_eq_true rfl) (by decide) (by decide) (q := 7) rfl ?_
      intro T1 l1 X1
      refine o_icmpY X1 d_prog_1_method_2_7 (flt (fun q => absurd ((n_lt (by omega) (by omega)).mp q) (by omega))).2.1 (by decide) (q := 54) (by decide) ?_
      refine o_aloadN X1 d_prog_1_method_2_54 rfl rfl (q := 55) rfl ?_
      refine o_strlenU X1 U1 O2 P5 (hwln hw) (w11 hw) (w48 hw) (w49 hw) (w51 hw) (w50 hw) d_prog_1_method_2_55 rfl (by decide) (Nat.le_of_ble_eq_true rfl) (by decide) (by decide) (q := 58) rfl ?_
      intro T2 l2 X2
      refine o_aloadN X2 d_prog_1_method_2_58 rfl rfl (q := 59) rfl ?_
      refine o_strlenU X2 U2 O2 P5 (hwln hw) (w11 hw) (w48 hw) (w49 hw) (w51 hw) (w50 hw) d_prog_1_method_2_59 rfl (by decide) (Nat.le_of_ble_eq_true rfl) (by decide) (by decide) (q := 62) rfl ?_
      intro T3 l3 X3
      refine o_stat X3 [(.int (Int32.ofNat cs.length)), (.int (Int32.ofNat ds.length))] (y' := (⟨"java/lang/Integer", "compare", "(II)I"⟩ : MethodName)) (c_cmpI hw (Int32.ofNat cs.length) (Int32.ofNat ds.length) _) all0 (w59 hw) (w60 hw) (w61 hw) (w62 hw) (by decide) d_prog_1_method_2_62 (rest := []) rfl rfl (lenOf pd17 rfl) rfl (by decide) (Nat.le_of_ble_eq_true rfl) (by decide) (by decide) (q := 65) rfl ?_
      intro v4 vm4 T4 h4 l4 X4 R4 q4
      obtain ⟨rfl, e4⟩ := q4
      have e4 := e4.symm
      subst e4
      show Goes p e below _ T4 (mkF m 65 #[.val (.ref a), .val (.ref a2), .val (.int (Int32.ofNat i)), s3, s4] [(.int (if (Int32.ofNat cs.length) < (Int32.ofNat ds.length) then (-1 : Int32) else if (Int32.ofNat cs.length) = (Int32.ofNat ds.length) then 0 else 1))])
      exact o_retI X4 d_prog_1_method_2_65 (fun Sf hSf => ⟨_, rfl, rfl, (own_exit h1 h2 hN1 hN2 (by omega)).trans hq⟩) (by decide) (by decide)
    | succ k ih =>
      intro i vm T locs s3 s4 o3 o4 hk h1 h2 hq X
      refine o_iloadN X d_prog_1_method_2_2 rfl (q := 3) rfl ?_
      refine o_aloadN X d_prog_1_method_2_3 rfl rfl (q := 4) rfl ?_
      refine o_strlenU X U1 O2 P5 (hwln hw) (w11 hw) (w48 hw) (w49 hw) (w51 hw) (w50 hw) d_prog_1_method_2_4 rfl (by decide) (Nat.le_of_ble_eq_true rfl) (by decide) (by decide) (q := 7) rfl ?_
      intro T5 l5 X5
      by_cases hc7 : (Int32.ofNat i) < (Int32.ofNat cs.length)
      · refine o_icmpN X5 d_prog_1_method_2_7 (tlt hc7).2.1 (q := 10) rfl ?_
        refine o_iloadN X5 d_prog_1_method_2_10 rfl (q := 11) rfl ?_
        refine o_aloadN X5 d_prog_1_method_2_11 rfl rfl (q := 12) rfl ?_
        refine o_strlenU X5 U2 O2 P5 (hwln hw) (w11 hw) (w48 hw) (w49 hw) (w51 hw) (w50 hw) d_prog_1_method_2_12 rfl (by decide) (Nat.le_of_ble_eq_true rfl) (by decide) (by decide) (q := 15) rfl ?_
        intro T6 l6 X6
        by_cases hc15 : (Int32.ofNat i) < (Int32.ofNat ds.length)
        · refine o_icmpN X6 d_prog_1_method_2_15 (tlt hc15).2.1 (q := 18) rfl ?_
          refine o_aloadN X6 d_prog_1_method_2_18 rfl rfl (q := 19) rfl ?_
          refine o_iloadN X6 d_prog_1_method_2_19 rfl (q := 20) rfl ?_
          refine o_virt X6 [(.int (Int32.ofNat i))] (y' := (⟨"java/lang/String", "codePointAt", "(I)I"⟩ : MethodName)) U1.exa (c_cpa hw a b kb cs i _ O2 P5 O4 rfm SA SH SL U1 ((n_lt (by omega) (by omega)).mp hc7)) all0 (w103 hw) (w104 hw) (w106 hw) (w105 hw) (w107 hw) (w12 hw) (by decide) d_prog_1_method_2_20 (rest := []) rfl rfl (lenOf pd1 rfl) rfl (by decide) (Nat.le_of_ble_eq_true rfl) (by decide) (by decide) (q := 23) rfl ?_
          intro v7 vm7 T7 h7 l7 X7 R7 q7
          obtain ⟨rfl, e7⟩ := q7
          have e7 := e7.symm
          subst e7
          show Goes p e below _ T7 (mkF m 23 #[.val (.ref a), .val (.ref a2), .val (.int (Int32.ofNat i)), s3, s4] [(.int (cpH (cs.drop i)))])
          refine o_istoreN X7 d_prog_1_method_2_23 rfl (L' := #[.val (.ref a), .val (.ref a2), .val (.int (Int32.ofNat i)), .val (.int (cpH (cs.drop i))), s4]) (Jvm.Free.XS.store1 rfl o3 rfl) (q := 24) rfl ?_
          refine o_aloadN X7 d_prog_1_method_2_24 rfl rfl (q := 25) rfl ?_
          refine o_iloadN X7 d_prog_1_method_2_25 rfl (q := 26) rfl ?_
          have f8 := U2
          refine o_virt X7 [(.int (Int32.ofNat i))] (y' := (⟨"java/lang/String", "codePointAt", "(I)I"⟩ : MethodName)) f8.exa (c_cpa hw a2 b2 kb2 ds i _ O2 P5 O4 rfm SA SH SL f8 ((n_lt (by omega) (by omega)).mp hc15)) all0 (w103 hw) (w104 hw) (w106 hw) (w105 hw) (w107 hw) (w12 hw) (by decide) d_prog_1_method_2_26 (rest := []) rfl rfl (lenOf pd1 rfl) rfl (by decide) (Nat.le_of_ble_eq_true rfl) (by decide) (by decide) (q := 29) rfl ?_
          intro v9 vm9 T9 h9 l9 X9 R9 q9
          obtain ⟨rfl, e9⟩ := q9
          have e9 := e9.symm
          subst e9
          show Goes p e below _ T9 (mkF m 29 #[.val (.ref a), .val (.ref a2), .val (.int (Int32.ofNat i)), .val (.int (cpH (cs.drop i))), s4] [(.int (cpH (ds.drop i)))])
          refine o_istore X9 d_prog_1_method_2_29 rfl (L' := #[.val (.ref a), .val (.ref a2), .val (.int (Int32.ofNat i)), .val (.int (cpH (cs.drop i))), .val (.int (cpH (ds.drop i)))]) (Jvm.Free.XS.store1 rfl o4 rfl) (q := 31) rfl ?_
          refine o_iloadN X9 d_prog_1_method_2_31 rfl (q := 32) rfl ?_
          refine o_iload X9 d_prog_1_method_2_32 rfl (q := 34) rfl ?_
          by_cases hc34 : (cpH (cs.drop i)) = (cpH (ds.drop i))
          · refine o_icmpY X9 d_prog_1_method_2_34 (teq hc34).1 (by decide) (q := 44) (by decide) ?_
            refine o_iloadN X9 d_prog_1_method_2_44 rfl (q := 45) rfl ?_
            refine o_iloadN X9 d_prog_1_method_2_45 rfl (q := 46) rfl ?_
            refine o_stat X9 [(.int (cpH (cs.drop i)))] (y' := (⟨"java/lang/Character", "charCount", "(I)I"⟩ : MethodName)) (c_cc hw (cpH (cs.drop i)) _) all0 (w136 hw) (w137 hw) (w129 hw) (w138 hw) (by decide) d_prog_1_method_2_46 (rest := [(.int (Int32.ofNat i))]) rfl rfl (lenOf pd1 rfl) rfl (by decide) (Nat.le_of_ble_eq_true rfl) (by decide) (by decide) (q := 49) rfl ?_
            intro v10 vm10 T10 h10 l10 X10 R10 q10
            obtain ⟨rfl, e10⟩ := q10
            have e10 := e10.symm
            subst e10
            show Goes p e below _ T10 (mkF m 49 #[.val (.ref a), .val (.ref a2), .val (.int (Int32.ofNat i)), .val (.int (cpH (cs.drop i))), .val (.int (cpH (ds.drop i)))] [(.int (if (cpH (cs.drop i)) < (65536 : Int32) then (1 : Int32) else 2)), (.int (Int32.ofNat i))])
            obtain ⟨wd, q1, q2, q3, q4, q5⟩ := own_step ((n_lt (by omega) (by omega)).mp hc7) ((n_lt (by omega) (by omega)).mp hc15) U1.rg U2.rg hc34
            refine o_iadd X10 d_prog_1_method_2_49 (w := (Int32.ofNat (i + wd))) (by rw [q4]; exact n_add _ _) (q := 50) rfl ?_
            refine o_istoreN X10 d_prog_1_method_2_50 rfl (L' := #[.val (.ref a), .val (.ref a2), .val (.int (Int32.ofNat (i + wd))), .val (.int (cpH (cs.drop i))), .val (.int (cpH (ds.drop i)))]) rfl (q := 51) rfl ?_
            refine o_goto X10 d_prog_1_method_2_51 (by decide) (q := 2) (by decide) ?_
            exact ih (i + wd) _ _ (One.val rfl) (One.val rfl) (by omega) q2 q3 (q5.symm.trans hq) X10
          · refine o_icmpN X9 d_prog_1_method_2_34 (feq hc34).1 (q := 37) rfl ?_
            refine o_iloadN X9 d_prog_1_method_2_37 rfl (q := 38) rfl ?_
            refine o_iload X9 d_prog_1_method_2_38 rfl (q := 40) rfl ?_
            refine o_stat X9 [(.int (cpH (cs.drop i))), (.int (cpH (ds.drop i)))] (y' := (⟨"java/lang/Integer", "compare", "(II)I"⟩ : MethodName)) (c_cmpI hw (cpH (cs.drop i)) (cpH (ds.drop i)) _) all0 (w59 hw) (w60 hw) (w61 hw) (w62 hw) (by decide) d_prog_1_method_2_40 (rest := []) rfl rfl (lenOf pd17 rfl) rfl (by decide) (Nat.le_of_ble_eq_true rfl) (by decide) (by decide) (q := 43) rfl ?_
            intro v11 vm11 T11 h11 l11 X11 R11 q11
            obtain ⟨rfl, e11⟩ := q11
            have e11 := e11.symm
            subst e11
            show Goes p e below _ T11 (mkF m 43 #[.val (.ref a), .val (.ref a2), .val (.int (Int32.ofNat i)), .val (.int (cpH (cs.drop i))), .val (.int (cpH (ds.drop i)))] [(.int (if (cpH (cs.drop i)) < (cpH (ds.drop i)) then (-1 : Int32) else if (cpH (cs.drop i)) = (cpH (ds.drop i)) then 0 else 1))])
            exact o_retI X11 d_prog_1_method_2_43 (fun Sf hSf => ⟨_, rfl, rfl, (own_diff ((n_lt (by omega) (by omega)).mp hc7) ((n_lt (by omega) (by omega)).mp hc15) hc34).trans hq⟩) (by decide) (by decide)
        · refine o_icmpY X6 d_prog_1_method_2_15 (flt hc15).2.1 (by decide) (q := 54) (by decide) ?_
          refine o_aloadN X6 d_prog_1_method_2_54 rfl rfl (q := 55) rfl ?_
          refine o_strlenU X6 U1 O2 P5 (hwln hw) (w11 hw) (w48 hw) (w49 hw) (w51 hw) (w50 hw) d_prog_1_method_2_55 rfl (by decide) (Nat.le_of_ble_eq_true rfl) (by decide) (by decide) (q := 58) rfl ?_
          intro T12 l12 X12
          refine o_aloadN X12 d_prog_1_method_2_58 rfl rfl (q := 59) rfl ?_
          refine o_strlenU X12 U2 O2 P5 (hwln hw) (w11 hw) (w48 hw) (w49 hw) (w51 hw) (w50 hw) d_prog_1_method_2_59 rfl (by decide) (Nat.le_of_ble_eq_true rfl) (by decide) (by decide) (q := 62) rfl ?_
          intro T13 l13 X13
          refine o_stat X13 [(.int (Int32.ofNat cs.length)), (.int (Int32.ofNat ds.length))] (y' := (⟨"java/lang/Integer", "compare", "(II)I"⟩ : MethodName)) (c_cmpI hw (Int32.ofNat cs.length) (Int32.ofNat ds.length) _) all0 (w59 hw) (w60 hw) (w61 hw) (w62 hw) (by decide) d_prog_1_method_2_62 (rest := []) rfl rfl (lenOf pd17 rfl) rfl (by decide) (Nat.le_of_ble_eq_true rfl) (by decide) (by decide) (q := 65) rfl ?_
          intro v14 vm14 T14 h14 l14 X14 R14 q14
          obtain ⟨rfl, e14⟩ := q14
          have e14 := e14.symm
          subst e14
          show Goes p e below _ T14 (mkF m 65 #[.val (.ref a), .val (.ref a2), .val (.int (Int32.ofNat i)), s3, s4] [(.int (if (Int32.ofNat cs.length) < (Int32.ofNat ds.length) then (-1 : Int32) else if (Int32.ofNat cs.length) = (Int32.ofNat ds.length) then 0 else 1))])
          exact o_retI X14 d_prog_1_method_2_65 (fun Sf hSf => ⟨_, rfl, rfl, (own_exit h1 h2 hN1 hN2 (fun q => hc15 ((n_lt (by omega) (by omega)).mpr q.2))).trans hq⟩) (by decide) (by decide)
      · refine o_icmpY X5 d_prog_1_method_2_7 (flt hc7).2.1 (by decide) (q := 54) (by decide) ?_
        refine o_aloadN X5 d_prog_1_method_2_54 rfl rfl (q := 55) rfl ?_
        refine o_strlenU X5 U1 O2 P5 (hwln hw) (w11 hw) (w48 hw) (w49 hw) (w51 hw) (w50 hw) d_prog_1_method_2_55 rfl (by decide) (Nat.le_of_ble_eq_true rfl) (by decide) (by decide) (q := 58) rfl ?_
        intro T15 l15 X15
        refine o_aloadN X15 d_prog_1_method_2_58 rfl rfl (q := 59) rfl ?_
        refine o_strlenU X15 U2 O2 P5 (hwln hw) (w11 hw) (w48 hw) (w49 hw) (w51 hw) (w50 hw) d_prog_1_method_2_59 rfl (by decide) (Nat.le_of_ble_eq_true rfl) (by decide) (by decide) (q := 62) rfl ?_
        intro T16 l16 X16
        refine o_stat X16 [(.int (Int32.ofNat cs.length)), (.int (Int32.ofNat ds.length))] (y' := (⟨"java/lang/Integer", "compare", "(II)I"⟩ : MethodName)) (c_cmpI hw (Int32.ofNat cs.length) (Int32.ofNat ds.length) _) all0 (w59 hw) (w60 hw) (w61 hw) (w62 hw) (by decide) d_prog_1_method_2_62 (rest := []) rfl rfl (lenOf pd17 rfl) rfl (by decide) (Nat.le_of_ble_eq_true rfl) (by decide) (by decide) (q := 65) rfl ?_
        intro v17 vm17 T17 h17 l17 X17 R17 q17
        obtain ⟨rfl, e17⟩ := q17
        have e17 := e17.symm
        subst e17
        show Goes p e below _ T17 (mkF m 65 #[.val (.ref a), .val (.ref a2), .val (.int (Int32.ofNat i)), s3, s4] [(.int (if (Int32.ofNat cs.length) < (Int32.ofNat ds.length) then (-1 : Int32) else if (Int32.ofNat cs.length) = (Int32.ofNat ds.length) then 0 else 1))])
        exact o_retI X17 d_prog_1_method_2_65 (fun Sf hSf => ⟨_, rfl, rfl, (own_exit h1 h2 hN1 hN2 (fun q => hc7 ((n_lt (by omega) (by omega)).mpr q.1))).trans hq⟩) (by decide) (by decide)
  exact loop cs.length 0 _ _ One.u One.u (by omega) (by omega) (by omega) rfl X
set_option maxRecDepth 65536 in
set_option maxHeartbeats 40000000 in
theorem c_law {l : Launch} {Z : State} {a0 : Array Value} (hw : W a0 Z) (p0 p1 : Int64) (p2 : Int32) {zc : Int32} (O2 : Sta Z Z.heap "java/lang/String" "COMPACT_STRINGS" "Z" (.int zc)) (P5 : ¬ zc = 0) {fm : Value} (O4 : Sta Z Z.heap "jdk/internal/util/Preconditions" "SIOOBE_FORMATTER" "Ljava/util/function/BiFunction;" fm) (rfm : fm.isRef = true) (SA : Sta Z Z.heap "java/lang/StringUTF16" "$assertionsDisabled" "Z" (.int (1 : Int32))) (SH : Sta Z Z.heap "java/lang/StringUTF16" "HI_BYTE_SHIFT" "I" (.int (0 : Int32))) (SL : Sta Z Z.heap "java/lang/StringUTF16" "LO_BYTE_SHIFT" "I" (.int (8 : Int32))) :
    Con l Z EL0 x code maxLocals ret room_1 #[(.long p0), (.long p1), (.int p2)] Z.heap [] (fun v h' Sf => v = some (.int 1)) := by
  have hpn : plainName "com/example/refinement/refinement/io/CodePointOrderComparePinLaw" = true := by first | (simp [plainName, overriddenIn]; done) | decide +kernel
  refine Con.intro (plainFor_of_name hpn) ?_
  intro p e s m below meth c T X hss
  refine Goes.cast (g' := mkF m 0 #[.val (.long p0), .second, .val (.long p1), .second, .val (.int p2), .unset, .unset, .unset, .unset, .unset, .unset, .unset, .unset, .unset] []) (by first | (simp [entryFrame, mkF, argsToLocals, Value.category, maxLocals]; done) | rfl) ?_
  refine o_iconst X at_0 (w := 3) rfl (q := 1) rfl ?_
  refine o_newarr X (aty := .char) (cap := 3) 3 (w0 hw) at_1 (by decide) (by decide) (by decide) (by decide) (by decide) (q := 3) rfl ?_
  intro T1 h1 b1 k1 gb1 X1 E1 R1 S1 V1 g0_b1
  have V1 : Arv Z h1 b1 k1 .char (3 : Int32) [(.int (0 : Int32)), (.int (0 : Int32)), (.int (0 : Int32))] (.int (0 : Int32)) := V1
  refine o_astore X1 at_3 rfl (L' := #[.val (.long p0), .second, .val (.long p1), .second, .val (.int p2), .val (.ref b1), .unset, .unset, .unset, .unset, .unset, .unset, .unset, .unset]) rfl (q := 5) rfl ?_
  refine o_iconst X1 at_5 (w := 3) rfl (q := 6) rfl ?_
  refine o_newarr X1 (aty := .char) (cap := 3) 3 (w0 hw) at_6 (by decide) (by decide) (by decide) (by decide) (by decide) (q := 8) rfl ?_
  intro T2 h2 b2 k2 gb2 X2 E2 R2 S2 V2 g0_b2
  have V2 : Arv Z h2 b2 k2 .char (3 : Int32) [(.int (0 : Int32)), (.int (0 : Int32)), (.int (0 : Int32))] (.int (0 : Int32)) := V2
  refine o_astore X2 at_8 rfl (L' := #[.val (.long p0), .second, .val (.long p1), .second, .val (.int p2), .val (.ref b1), .val (.ref b2), .unset, .unset, .unset, .unset, .unset, .unset, .unset]) rfl (q := 10) rfl ?_
  refine o_aload X2 at_10 rfl rfl (q := 12) rfl ?_
  refine o_iconst X2 at_12 (w := 0) rfl (q := 13) rfl ?_
  refine o_lloadN X2 at_13 rfl (q := 14) rfl ?_
  refine o_iconst X2 at_14 (w := 0) rfl (q := 15) rfl ?_
  refine o_stat X2 [(.long p0), (.int (0 : Int32))] (y' := (⟨"com/example/refinement/refinement/io/CodePointOrderComparePinLaw", "draw", "(JI)C"⟩ : MethodName)) (c_draw hw p0 (0 : Int32) _) all0 (w1 hw) (w2 hw) (w3 hw) (w4 hw) (by decide) at_15 (rest := [(.int (0 : Int32)), (.ref b1)]) rfl rfl (lenOf pd18 rfl) rfl (by decide) (Nat.le_of_ble_eq_true rfl) (by decide) (by decide) (q := 18) rfl ?_
  intro v3 vm3 T3 h3 l3 X3 R3 q3
  obtain ⟨x3, rfl, e3, rg3⟩ := q3
  have e3 := e3.symm
  subst e3
  show Goes p e below _ T3 (mkF m 18 #[.val (.long p0), .second, .val (.long p1), .second, .val (.int p2), .val (.ref b1), .val (.ref b2), .unset, .unset, .unset, .unset, .unset, .unset, .unset] [(.int x3), (.int (0 : Int32)), (.ref b1)])
  have f4 := (V1.ext E2)
  refine o_castore X3 0 f4 g0_b1 (Safe.arv X3.alike f4 (by decide)) (by decide) rfl (Nat.le_of_ble_eq_true rfl) (v := (.int x3)) (by rw [own_narc rg3]) at_18 (q := 19) rfl ?_
  intro T5 h5 l5 X5 W5 R5 V5
  have V5 : Arv Z h5 b1 k1 .char (3 : Int32) [(.int x3), (.int (0 : Int32)), (.int (0 : Int32))] (.int (0 : Int32)) := V5
  refine o_aload X5 at_19 rfl rfl (q := 21) rfl ?_
  refine o_iconst X5 at_21 (w := 1) rfl (q := 22) rfl ?_
  refine o_lloadN X5 at_22 rfl (q := 23) rfl ?_
  refine o_iconst X5 at_23 (w := 1) rfl (q := 24) rfl ?_
  refine o_stat X5 [(.long p0), (.int (1 : Int32))] (y' := (⟨"com/example/refinement/refinement/io/CodePointOrderComparePinLaw", "draw", "(JI)C"⟩ : MethodName)) (c_draw hw p0 (1 : Int32) _) all0 (w1 hw) (w2 hw) (w3 hw) (w4 hw) (by decide) at_24 (rest := [(.int (1 : Int32)), (.ref b1)]) rfl rfl (lenOf pd18 rfl) rfl (by decide) (Nat.le_of_ble_eq_true rfl) (by decide) (by decide) (q := 27) rfl ?_
  intro v6 vm6 T6 h6 l6 X6 R6 q6
  obtain ⟨x6, rfl, e6, rg6⟩ := q6
  have e6 := e6.symm
  subst e6
  show Goes p e below _ T6 (mkF m 27 #[.val (.long p0), .second, .val (.long p1), .second, .val (.int p2), .val (.ref b1), .val (.ref b2), .unset, .unset, .unset, .unset, .unset, .unset, .unset] [(.int x6), (.int (1 : Int32)), (.ref b1)])
  have f7 := V5
  refine o_castore X6 1 f7 g0_b1 (Safe.arv X6.alike f7 (by decide)) (by decide) rfl (Nat.le_of_ble_eq_true rfl) (v := (.int x6)) (by rw [own_narc rg6]) at_27 (q := 28) rfl ?_
  intro T8 h8 l8 X8 W8 R8 V8
  have V8 : Arv Z h8 b1 k1 .char (3 : Int32) [(.int x3), (.int x6), (.int (0 : Int32))] (.int (0 : Int32)) := V8
  refine o_aload X8 at_28 rfl rfl (q := 30) rfl ?_
  refine o_iconst X8 at_30 (w := 2) rfl (q := 31) rfl ?_
  refine o_lloadN X8 at_31 rfl (q := 32) rfl ?_
  refine o_iconst X8 at_32 (w := 2) rfl (q := 33) rfl ?_
  refine o_stat X8 [(.long p0), (.int (2 : Int32))] (y' := (⟨"com/example/refinement/refinement/io/CodePointOrderComparePinLaw", "draw", "(JI)C"⟩ : MethodName)) (c_draw hw p0 (2 : Int32) _) all0 (w1 hw) (w2 hw) (w3 hw) (w4 hw) (by decide) at_33 (rest := [(.int (2 : Int32)), (.ref b1)]) rfl rfl (lenOf pd18 rfl) rfl (by decide) (Nat.le_of_ble_eq_true rfl) (by decide) (by decide) (q := 36) rfl ?_
  intro v9 vm9 T9 h9 l9 X9 R9 q9
  obtain ⟨x9, rfl, e9, rg9⟩ := q9
  have e9 := e9.symm
  subst e9
  show Goes p e below _ T9 (mkF m 36 #[.val (.long p0), .second, .val (.long p1), .second, .val (.int p2), .val (.ref b1), .val (.ref b2), .unset, .unset, .unset, .unset, .unset, .unset, .unset] [(.int x9), (.int (2 : Int32)), (.ref b1)])
  have f10 := V8
  refine o_castore X9 2 f10 g0_b1 (Safe.arv X9.alike f10 (by decide)) (by decide) rfl (Nat.le_of_ble_eq_true rfl) (v := (.int x9)) (by rw [own_narc rg9]) at_36 (q := 37) rfl ?_
  intro T11 h11 l11 X11 W11 R11 V11
  have V11 : Arv Z h11 b1 k1 .char (3 : Int32) [(.int x3), (.int x6), (.int x9)] (.int (0 : Int32)) := V11
  refine o_aload X11 at_37 rfl rfl (q := 39) rfl ?_
  refine o_iconst X11 at_39 (w := 0) rfl (q := 40) rfl ?_
  refine o_iload X11 at_40 rfl (q := 42) rfl ?_
  refine o_iconst X11 at_42 (w := 1) rfl (q := 43) rfl ?_
  refine o_iand X11 at_43 (w := (p2 &&& (1 : Int32))) rfl (q := 44) rfl ?_
  by_cases hc44 : (p2 &&& (1 : Int32)) = (0 : Int32)
  · refine o_ifY X11 at_44 (teq hc44).1 (by decide) (q := 54) (by decide) ?_
    refine o_lloadN X11 at_54 rfl (q := 55) rfl ?_
    refine o_iconst X11 at_55 (w := 0) rfl (q := 56) rfl ?_
    refine o_stat X11 [(.long p1), (.int (0 : Int32))] (y' := (⟨"com/example/refinement/refinement/io/CodePointOrderComparePinLaw", "draw", "(JI)C"⟩ : MethodName)) (c_draw hw p1 (0 : Int32) _) all0 (w1 hw) (w2 hw) (w3 hw) (w4 hw) (by decide) at_56 (rest := [(.int (0 : Int32)), (.ref b2)]) rfl rfl (lenOf pd18 rfl) rfl (by decide) (Nat.le_of_ble_eq_true rfl) (by decide) (by decide) (q := 59) rfl ?_
    intro v12 vm12 T12 h12 l12 X12 R12 q12
    obtain ⟨x12, rfl, e12, rg12⟩ := q12
    have e12 := e12.symm
    subst e12
    show Goes p e below _ T12 (mkF m 59 #[.val (.long p0), .second, .val (.long p1), .second, .val (.int p2), .val (.ref b1), .val (.ref b2), .unset, .unset, .unset, .unset, .unset, .unset, .unset] [(.int x12), (.int (0 : Int32)), (.ref b2)])
    have f13 := (((V2.other W5 (Ne.symm (Nat.ne_of_lt (Nat.lt_of_lt_of_le V1.lt (Nat.le_of_eq gb2.symm))))).other W8 (Ne.symm (Nat.ne_of_lt (Nat.lt_of_lt_of_le V1.lt (Nat.le_of_eq gb2.symm))))).other W11 (Ne.symm (Nat.ne_of_lt (Nat.lt_of_lt_of_le V1.lt (Nat.le_of_eq gb2.symm)))))
    refine o_castore X12 0 f13 g0_b2 (Safe.arv X12.alike f13 (by decide)) (by decide) rfl (Nat.le_of_ble_eq_true rfl) (v := (.int x12)) (by rw [own_narc rg12]) at_59 (q := 60) rfl ?_
    intro T14 h14 l14 X14 W14 R14 V14
    have V14 : Arv Z h14 b2 k2 .char (3 : Int32) [(.int x12), (.int (0 : Int32)), (.int (0 : Int32))] (.int (0 : Int32)) := V14
    refine o_aload X14 at_60 rfl rfl (q := 62) rfl ?_
    refine o_iconst X14 at_62 (w := 1) rfl (q := 63) rfl ?_
    refine o_iload X14 at_63 rfl (q := 65) rfl ?_
    refine o_iconst X14 at_65 (w := 2) rfl (q := 66) rfl ?_
    refine o_iand X14 at_66 (w := (p2 &&& (2 : Int32))) rfl (q := 67) rfl ?_
    by_cases hc67 : (p2 &&& (2 : Int32)) = (0 : Int32)
    · refine o_ifY X14 at_67 (teq hc67).1 (by decide) (q := 77) (by decide) ?_
      refine o_lloadN X14 at_77 rfl (q := 78) rfl ?_
      refine o_iconst X14 at_78 (w := 1) rfl (q := 79) rfl ?_
      refine o_stat X14 [(.long p1), (.int (1 : Int32))] (y' := (⟨"com/example/refinement/refinement/io/CodePointOrderComparePinLaw", "draw", "(JI)C"⟩ : MethodName)) (c_draw hw p1 (1 : Int32) _) all0 (w1 hw) (w2 hw) (w3 hw) (w4 hw) (by decide) at_79 (rest := [(.int (1 : Int32)), (.ref b2)]) rfl rfl (lenOf pd18 rfl) rfl (by decide) (Nat.le_of_ble_eq_true rfl) (by decide) (by decide) (q := 82) rfl ?_
      intro v15 vm15 T15 h15 l15 X15 R15 q15
      obtain ⟨x15, rfl, e15, rg15⟩ := q15
      have e15 := e15.symm
      subst e15
      show Goes p e below _ T15 (mkF m 82 #[.val (.long p0), .second, .val (.long p1), .second, .val (.int p2), .val (.ref b1), .val (.ref b2), .unset, .unset, .unset, .unset, .unset, .unset, .unset] [(.int x15), (.int (1 : Int32)), (.ref b2)])
      have f16 := V14
      refine o_castore X15 1 f16 g0_b2 (Safe.arv X15.alike f16 (by decide)) (by decide) rfl (Nat.le_of_ble_eq_true rfl) (v := (.int x15)) (by rw [own_narc rg15]) at_82 (q := 83) rfl ?_
      intro T17 h17 l17 X17 W17 R17 V17
      have V17 : Arv Z h17 b2 k2 .char (3 : Int32) [(.int x12), (.int x15), (.int (0 : Int32))] (.int (0 : Int32)) := V17
      refine o_aload X17 at_83 rfl rfl (q := 85) rfl ?_
      refine o_iconst X17 at_85 (w := 2) rfl (q := 86) rfl ?_
      refine o_iload X17 at_86 rfl (q := 88) rfl ?_
      refine o_iconst X17 at_88 (w := 4) rfl (q := 89) rfl ?_
      refine o_iand X17 at_89 (w := (p2 &&& (4 : Int32))) rfl (q := 90) rfl ?_
      by_cases hc90 : (p2 &&& (4 : Int32)) = (0 : Int32)
      · refine o_ifY X17 at_90 (teq hc90).1 (by decide) (q := 100) (by decide) ?_
        refine o_lloadN X17 at_100 rfl (q := 101) rfl ?_
        refine o_iconst X17 at_101 (w := 2) rfl (q := 102) rfl ?_
        refine o_stat X17 [(.long p1), (.int (2 : Int32))] (y' := (⟨"com/example/refinement/refinement/io/CodePointOrderComparePinLaw", "draw", "(JI)C"⟩ : MethodName)) (c_draw hw p1 (2 : Int32) _) all0 (w1 hw) (w2 hw) (w3 hw) (w4 hw) (by decide) at_102 (rest := [(.int (2 : Int32)), (.ref b2)]) rfl rfl (lenOf pd18 rfl) rfl (by decide) (Nat.le_of_ble_eq_true rfl) (by decide) (by decide) (q := 105) rfl ?_
        intro v18 vm18 T18 h18 l18 X18 R18 q18
        obtain ⟨x18, rfl, e18, rg18⟩ := q18
        have e18 := e18.symm
        subst e18
        show Goes p e below _ T18 (mkF m 105 #[.val (.long p0), .second, .val (.long p1), .second, .val (.int p2), .val (.ref b1), .val (.ref b2), .unset, .unset, .unset, .unset, .unset, .unset, .unset] [(.int x18), (.int (2 : Int32)), (.ref b2)])
        have f19 := V17
        refine o_castore X18 2 f19 g0_b2 (Safe.arv X18.alike f19 (by decide)) (by decide) rfl (Nat.le_of_ble_eq_true rfl) (v := (.int x18)) (by rw [own_narc rg18]) at_105 (q := 106) rfl ?_
        intro T20 h20 l20 X20 W20 R20 V20
        have V20 : Arv Z h20 b2 k2 .char (3 : Int32) [(.int x12), (.int x15), (.int x18)] (.int (0 : Int32)) := V20
        refine o_lloadN X20 at_106 rfl (q := 107) rfl ?_
        refine o_bipush X20 at_107 (w := 48) rfl (q := 109) rfl ?_
        refine o_lushr X20 at_109 (w := ((p0.toUInt64 >>> ((48 : Int32) &&& 0x3f).toInt64.toUInt64).toInt64)) rfl (q := 110) rfl ?_
        refine o_ldcJ X20 (w6 hw) at_110 (q := 113) rfl ?_
        refine o_land X20 at_113 (w := (((p0.toUInt64 >>> ((48 : Int32) &&& 0x3f).toInt64.toUInt64).toInt64) &&& (3 : Int64))) rfl (q := 114) rfl ?_
        refine o_l2i X20 at_114 (w := ((((p0.toUInt64 >>> ((48 : Int32) &&& 0x3f).toInt64.toUInt64).toInt64) &&& (3 : Int64)).toInt32)) rfl (q := 115) rfl ?_
        obtain ⟨ln, h_ln⟩ : ∃ z : Int32, ((((p0.toUInt64 >>> ((48 : Int32) &&& 0x3f).toInt64.toUInt64).toInt64) &&& (3 : Int64)).toInt32) = z := ⟨_, rfl⟩
        refine o_istore X20 at_115 h_ln (L' := #[.val (.long p0), .second, .val (.long p1), .second, .val (.int p2), .val (.ref b1), .val (.ref b2), .val (.int ln), .unset, .unset, .unset, .unset, .unset, .unset]) rfl (q := 117) rfl ?_
        refine o_lloadN X20 at_117 rfl (q := 118) rfl ?_
        refine o_bipush X20 at_118 (w := 48) rfl (q := 120) rfl ?_
        refine o_lushr X20 at_120 (w := ((p1.toUInt64 >>> ((48 : Int32) &&& 0x3f).toInt64.toUInt64).toInt64)) rfl (q := 121) rfl ?_
        refine o_ldcJ X20 (w6 hw) at_121 (q := 124) rfl ?_
        refine o_land X20 at_124 (w := (((p1.toUInt64 >>> ((48 : Int32) &&& 0x3f).toInt64.toUInt64).toInt64) &&& (3 : Int64))) rfl (q := 125) rfl ?_
        refine o_l2i X20 at_125 (w := ((((p1.toUInt64 >>> ((48 : Int32) &&& 0x3f).toInt64.toUInt64).toInt64) &&& (3 : Int64)).toInt32)) rfl (q := 126) rfl ?_
        obtain ⟨rn, h_rn⟩ : ∃ z : Int32, ((((p1.toUInt64 >>> ((48 : Int32) &&& 0x3f).toInt64.toUInt64).toInt64) &&& (3 : Int64)).toInt32) = z := ⟨_, rfl⟩
        refine o_istore X20 at_126 h_rn (L' := #[.val (.long p0), .second, .val (.long p1), .second, .val (.int p2), .val (.ref b1), .val (.ref b2), .val (.int ln), .val (.int rn), .unset, .unset, .unset, .unset, .unset]) rfl (q := 128) rfl ?_
        refine o_aload X20 at_128 rfl rfl (q := 130) rfl ?_
        refine o_iload X20 at_130 rfl (q := 132) rfl ?_
        have f21 := (((V11.other W14 (Nat.ne_of_lt (Nat.lt_of_lt_of_le V1.lt (Nat.le_of_eq gb2.symm)))).other W17 (Nat.ne_of_lt (Nat.lt_of_lt_of_le V1.lt (Nat.le_of_eq gb2.symm)))).other W20 (Nat.ne_of_lt (Nat.lt_of_lt_of_le V1.lt (Nat.le_of_eq gb2.symm))))
        refine o_stat X20 [(.ref b1), (.int ln)] (y' := (⟨"com/example/refinement/refinement/io/CodePointOrderComparePinLaw", "make", "([CI)Ljava/lang/String;"⟩ : MethodName)) (c_mk hw b1 x3 x6 x9 ln _ O2 P5 SA SH SL f21 rg3 rg6 rg9 (own_ln h_ln)) all0 (w7 hw) (w8 hw) (w3 hw) (w9 hw) (by decide) at_132 (rest := []) rfl rfl (lenOf pd19 rfl) rfl (by decide) (Nat.le_of_ble_eq_true rfl) (by decide) (by decide) (q := 135) rfl ?_
        intro v22 vm22 T22 h22 l22 X22 R22 q22
        obtain ⟨t22, b22, kb22, rfl, K22, U22⟩ := q22
        show Goes p e below _ T22 (mkF m 135 #[.val (.long p0), .second, .val (.long p1), .second, .val (.int p2), .val (.ref b1), .val (.ref b2), .val (.int ln), .val (.int rn), .unset, .unset, .unset, .unset, .unset] [(.ref t22)])
        refine o_astore X22 at_135 rfl (L' := #[.val (.long p0), .second, .val (.long p1), .second, .val (.int p2), .val (.ref b1), .val (.ref b2), .val (.int ln), .val (.int rn), .val (.ref t22), .unset, .unset, .unset, .unset]) rfl (q := 137) rfl ?_
        refine o_aload X22 at_137 rfl rfl (q := 139) rfl ?_
        refine o_iload X22 at_139 rfl (q := 141) rfl ?_
        have f23 := (V20.keep K22 nin0)
        refine o_stat X22 [(.ref b2), (.int rn)] (y' := (⟨"com/example/refinement/refinement/io/CodePointOrderComparePinLaw", "make", "([CI)Ljava/lang/String;"⟩ : MethodName)) (c_mk hw b2 x12 x15 x18 rn _ O2 P5 SA SH SL f23 rg12 rg15 rg18 (own_ln h_rn)) all0 (w7 hw) (w8 hw) (w3 hw) (w9 hw) (by decide) at_141 (rest := []) rfl rfl (lenOf pd19 rfl) rfl (by decide) (Nat.le_of_ble_eq_true rfl) (by decide) (by decide) (q := 144) rfl ?_
        intro v24 vm24 T24 h24 l24 X24 R24 q24
        obtain ⟨t24, b24, kb24, rfl, K24, U24⟩ := q24
        show Goes p e below _ T24 (mkF m 144 #[.val (.long p0), .second, .val (.long p1), .second, .val (.int p2), .val (.ref b1), .val (.ref b2), .val (.int ln), .val (.int rn), .val (.ref t22), .unset, .unset, .unset, .unset] [(.ref t24)])
        refine o_astore X24 at_144 rfl (L' := #[.val (.long p0), .second, .val (.long p1), .second, .val (.int p2), .val (.ref b1), .val (.ref b2), .val (.int ln), .val (.int rn), .val (.ref t22), .val (.ref t24), .unset, .unset, .unset]) rfl (q := 146) rfl ?_
        refine o_iconst X24 at_146 (w := 4) rfl (q := 147) rfl ?_
        refine o_newarr X24 (aty := .int) (cap := 4) 4 (w31 hw) at_147 (by decide) (by decide) (by decide) (by decide) (by decide) (q := 149) rfl ?_
        intro T25 h25 b25 k25 gb25 X25 E25 R25 S25 V25 g0_b25
        have V25 : Arv Z h25 b25 k25 .int (4 : Int32) [(.int (0 : Int32)), (.int (0 : Int32)), (.int (0 : Int32)), (.int (0 : Int32))] (.int (0 : Int32)) := V25
        refine o_astore X25 at_149 rfl (L' := #[.val (.long p0), .second, .val (.long p1), .second, .val (.int p2), .val (.ref b1), .val (.ref b2), .val (.int ln), .val (.int rn), .val (.ref t22), .val (.ref t24), .val (.ref b25), .unset, .unset]) rfl (q := 151) rfl ?_
        refine o_iconst X25 at_151 (w := 4) rfl (q := 152) rfl ?_
        refine o_newarr X25 (aty := .int) (cap := 4) 4 (w31 hw) at_152 (by decide) (by decide) (by decide) (by decide) (by decide) (q := 154) rfl ?_
        intro T26 h26 b26 k26 gb26 X26 E26 R26 S26 V26 g0_b26
        have V26 : Arv Z h26 b26 k26 .int (4 : Int32) [(.int (0 : Int32)), (.int (0 : Int32)), (.int (0 : Int32)), (.int (0 : Int32))] (.int (0 : Int32)) := V26
        refine o_astore X26 at_154 rfl (L' := #[.val (.long p0), .second, .val (.long p1), .second, .val (.int p2), .val (.ref b1), .val (.ref b2), .val (.int ln), .val (.int rn), .val (.ref t22), .val (.ref t24), .val (.ref b25), .val (.ref b26), .unset]) rfl (q := 156) rfl ?_
        refine o_aload X26 at_156 rfl rfl (q := 158) rfl ?_
        refine o_iload X26 at_158 rfl (q := 160) rfl ?_
        refine o_aload X26 at_160 rfl rfl (q := 162) rfl ?_
        have f27 := ((((f21.keep K22 nin0).keep K24 nin0).ext E25).ext E26)
        have f28 := (V25.ext E26)
        refine o_stat X26 [(.ref b1), (.int ln), (.ref b25)] (y' := (⟨"com/example/refinement/refinement/io/CodePointOrderComparePinLaw", "decode", "([CI[I)V"⟩ : MethodName)) (c_dec hw b1 b25 x3 x6 x9 ln _ f27 f28 g0_b25 (Nat.ne_of_lt (Nat.lt_of_lt_of_le (Nat.lt_of_lt_of_le (Nat.lt_of_lt_of_le f21.lt K22.1) K24.1) (Nat.le_of_eq gb25.symm))) (own_ln h_ln)) all0 (w32 hw) (w33 hw) (w3 hw) (w34 hw) (by decide) at_162 (rest := []) rfl rfl (lenOf pd20 rfl) rfl (by decide) (Nat.le_of_ble_eq_true rfl) (by decide) (by decide) (q := 165) rfl ?_
        intro v29 vm29 T29 h29 l29 X29 R29 q29
        obtain ⟨rfl, K29, V29⟩ := q29
        show Goes p e below _ T29 (mkF m 165 #[.val (.long p0), .second, .val (.long p1), .second, .val (.int p2), .val (.ref b1), .val (.ref b2), .val (.int ln), .val (.int rn), .val (.ref t22), .val (.ref t24), .val (.ref b25), .val (.ref b26), .unset] [])
        refine o_aload X29 at_165 rfl rfl (q := 167) rfl ?_
        refine o_iload X29 at_167 rfl (q := 169) rfl ?_
        refine o_aload X29 at_169 rfl rfl (q := 171) rfl ?_
        have f30 := ((((f23.keep K24 nin0).ext E25).ext E26).keep K29 (ninS (Nat.ne_of_lt (Nat.lt_of_lt_of_le (Nat.lt_of_lt_of_le f23.lt K24.1) (Nat.le_of_eq gb25.symm))) nin0))
        have f31 := (V26.keep K29 (ninS (Ne.symm (Nat.ne_of_lt (Nat.lt_of_lt_of_le V25.lt (Nat.le_of_eq gb26.symm)))) nin0))
        refine o_stat X29 [(.ref b2), (.int rn), (.ref b26)] (y' := (⟨"com/example/refinement/refinement/io/CodePointOrderComparePinLaw", "decode", "([CI[I)V"⟩ : MethodName)) (c_dec hw b2 b26 x12 x15 x18 rn _ f30 f31 g0_b26 (Nat.ne_of_lt (Nat.lt_of_lt_of_le (Nat.lt_of_lt_of_le (Nat.lt_of_lt_of_le f23.lt K24.1) E25.1) (Nat.le_of_eq gb26.symm))) (own_ln h_rn)) all0 (w32 hw) (w33 hw) (w3 hw) (w34 hw) (by decide) at_171 (rest := []) rfl rfl (lenOf pd20 rfl) rfl (by decide) (Nat.le_of_ble_eq_true rfl) (by decide) (by decide) (q := 174) rfl ?_
        intro v32 vm32 T32 h32 l32 X32 R32 q32
        obtain ⟨rfl, K32, V32⟩ := q32
        show Goes p e below _ T32 (mkF m 174 #[.val (.long p0), .second, .val (.long p1), .second, .val (.int p2), .val (.ref b1), .val (.ref b2), .val (.int ln), .val (.int rn), .val (.ref t22), .val (.ref t24), .val (.ref b25), .val (.ref b26), .unset] [])
        refine o_aload X32 at_174 rfl rfl (q := 176) rfl ?_
        refine o_aload X32 at_176 rfl rfl (q := 178) rfl ?_
        have f33 := (V29.keep K32 (ninS (Nat.ne_of_lt (Nat.lt_of_lt_of_le V25.lt (Nat.le_of_eq gb26.symm))) nin0))
        refine o_stat X32 [(.ref b25), (.ref b26)] (y' := (⟨"com/example/refinement/refinement/io/CodePointOrderComparePinLaw", "lex", "([I[I)I"⟩ : MethodName)) (c_lex hw b25 b26 ((cps (takeC ln x3 x6 x9)).getD 0 0) ((cps (takeC ln x3 x6 x9)).getD 1 0) ((cps (takeC ln x3 x6 x9)).getD 2 0) (Int32.ofNat (cps (takeC ln x3 x6 x9)).length) ((cps (takeC rn x12 x15 x18)).getD 0 0) ((cps (takeC rn x12 x15 x18)).getD 1 0) ((cps (takeC rn x12 x15 x18)).getD 2 0) (Int32.ofNat (cps (takeC rn x12 x15 x18)).length) _ f33 V32) all0 (w41 hw) (w42 hw) (w3 hw) (w43 hw) (by decide) at_178 (rest := []) rfl rfl (lenOf pd21 rfl) rfl (by decide) (Nat.le_of_ble_eq_true rfl) (by decide) (by decide) (q := 181) rfl ?_
        intro v34 vm34 T34 h34 l34 X34 R34 q34
        obtain ⟨z34, rfl, e34, hz34⟩ := q34
        have e34 := e34.symm
        subst e34
        show Goes p e below _ T34 (mkF m 181 #[.val (.long p0), .second, .val (.long p1), .second, .val (.int p2), .val (.ref b1), .val (.ref b2), .val (.int ln), .val (.int rn), .val (.ref t22), .val (.ref t24), .val (.ref b25), .val (.ref b26), .unset] [(.int z34)])
        refine o_istore X34 at_181 rfl (L' := #[.val (.long p0), .second, .val (.long p1), .second, .val (.int p2), .val (.ref b1), .val (.ref b2), .val (.int ln), .val (.int rn), .val (.ref t22), .val (.ref t24), .val (.ref b25), .val (.ref b26), .val (.int z34)]) rfl (q := 183) rfl ?_
        refine o_aload X34 at_183 rfl rfl (q := 185) rfl ?_
        refine o_aload X34 at_185 rfl rfl (q := 187) rfl ?_
        have f35 := (((((U22.keep K24 nin0 nin0).ext E25).ext E26).keep K29 (ninS (Nat.ne_of_lt (Nat.lt_of_lt_of_le (Nat.lt_of_lt_of_le U22.lt K24.1) (Nat.le_of_eq gb25.symm))) nin0) (ninS (Nat.ne_of_lt (Nat.lt_of_lt_of_le (Nat.lt_of_lt_of_le U22.blt K24.1) (Nat.le_of_eq gb25.symm))) nin0)).keep K32 (ninS (Nat.ne_of_lt (Nat.lt_of_lt_of_le (Nat.lt_of_lt_of_le (Nat.lt_of_lt_of_le U22.lt K24.1) E25.1) (Nat.le_of_eq gb26.symm))) nin0) (ninS (Nat.ne_of_lt (Nat.lt_of_lt_of_le (Nat.lt_of_lt_of_le (Nat.lt_of_lt_of_le U22.blt K24.1) E25.1) (Nat.le_of_eq gb26.symm))) nin0))
        have f36 := ((((U24.ext E25).ext E26).keep K29 (ninS (Nat.ne_of_lt (Nat.lt_of_lt_of_le U24.lt (Nat.le_of_eq gb25.symm))) nin0) (ninS (Nat.ne_of_lt (Nat.lt_of_lt_of_le U24.blt (Nat.le_of_eq gb25.symm))) nin0)).keep K32 (ninS (Nat.ne_of_lt (Nat.lt_of_lt_of_le (U24.ext E25).lt (Nat.le_of_eq gb26.symm))) nin0) (ninS (Nat.ne_of_lt (Nat.lt_of_lt_of_le (Nat.lt_of_lt_of_le U24.blt E25.1) (Nat.le_of_eq gb26.symm))) nin0))
        refine o_stat X34 [(.ref t22), (.ref t24)] (y' := (⟨"com/example/refinement/refinement/io/CodePointOrder", "compare", "(Ljava/lang/String;Ljava/lang/String;)I"⟩ : MethodName)) (c_cmp hw t22 b22 kb22 (takeC ln x3 x6 x9) t24 b24 kb24 (takeC rn x12 x15 x18) _ O2 P5 O4 rfm SA SH SL f35 f36) all0 (w44 hw) (w45 hw) (w46 hw) (w47 hw) (by decide) at_187 (rest := []) rfl rfl (lenOf pd22 rfl) rfl (by decide) (Nat.le_of_ble_eq_true rfl) (by decide) (by decide) (q := 190) rfl ?_
        intro v37 vm37 T37 h37 l37 X37 R37 q37
        obtain ⟨z37, rfl, e37, hz37⟩ := q37
        have e37 := e37.symm
        subst e37
        show Goes p e below _ T37 (mkF m 190 #[.val (.long p0), .second, .val (.long p1), .second, .val (.int p2), .val (.ref b1), .val (.ref b2), .val (.int ln), .val (.int rn), .val (.ref t22), .val (.ref t24), .val (.ref b25), .val (.ref b26), .val (.int z34)] [(.int z37)])
        refine o_iload X37 at_190 rfl (q := 192) rfl ?_
        refine o_icmpN X37 at_192 (teq (hz37.trans ((own_lex (own_takel _ _ _ _) (own_takel _ _ _ _)).symm.trans hz34.symm))).2 (q := 195) rfl ?_
        refine o_iconst X37 at_195 (w := 1) rfl (q := 196) rfl ?_
        refine o_goto X37 at_196 (by decide) (q := 200) (by decide) ?_
        exact o_retN X37 at_200 (by simp) (fun Sf hSf => rfl) (by decide) (by decide)
      · refine o_ifN X17 at_90 (feq hc90).1 (q := 93) rfl ?_
        refine o_aload X17 at_93 rfl rfl (q := 95) rfl ?_
        refine o_iconst X17 at_95 (w := 2) rfl (q := 96) rfl ?_
        have f38 := ((V11.other W14 (Nat.ne_of_lt (Nat.lt_of_lt_of_le V1.lt (Nat.le_of_eq gb2.symm)))).other W17 (Nat.ne_of_lt (Nat.lt_of_lt_of_le V1.lt (Nat.le_of_eq gb2.symm))))
        refine o_caload X17 f38 (by decide) (v := (.int x9)) rfl at_96 (q := 97) rfl ?_
        refine o_goto X17 at_97 (by decide) (q := 105) (by decide) ?_
        refine o_castore X17 2 V17 g0_b2 (Safe.arv X17.alike V17 (by decide)) (by decide) rfl (Nat.le_of_ble_eq_true rfl) (v := (.int x9)) (by rw [own_narc rg9]) at_105 (q := 106) rfl ?_
        intro T39 h39 l39 X39 W39 R39 V39
        have V39 : Arv Z h39 b2 k2 .char (3 : Int32) [(.int x12), (.int x15), (.int x9)] (.int (0 : Int32)) := V39
        refine o_lloadN X39 at_106 rfl (q := 107) rfl ?_
        refine o_bipush X39 at_107 (w := 48) rfl (q := 109) rfl ?_
        refine o_lushr X39 at_109 (w := ((p0.toUInt64 >>> ((48 : Int32) &&& 0x3f).toInt64.toUInt64).toInt64)) rfl (q := 110) rfl ?_
        refine o_ldcJ X39 (w6 hw) at_110 (q := 113) rfl ?_
        refine o_land X39 at_113 (w := (((p0.toUInt64 >>> ((48 : Int32) &&& 0x3f).toInt64.toUInt64).toInt64) &&& (3 : Int64))) rfl (q := 114) rfl ?_
        refine o_l2i X39 at_114 (w := ((((p0.toUInt64 >>> ((48 : Int32) &&& 0x3f).toInt64.toUInt64).toInt64) &&& (3 : Int64)).toInt32)) rfl (q := 115) rfl ?_
        obtain ⟨ln, h_ln⟩ : ∃ z : Int32, ((((p0.toUInt64 >>> ((48 : Int32) &&& 0x3f).toInt64.toUInt64).toInt64) &&& (3 : Int64)).toInt32) = z := ⟨_, rfl⟩
        refine o_istore X39 at_115 h_ln (L' := #[.val (.long p0), .second, .val (.long p1), .second, .val (.int p2), .val (.ref b1), .val (.ref b2), .val (.int ln), .unset, .unset, .unset, .unset, .unset, .unset]) rfl (q := 117) rfl ?_
        refine o_lloadN X39 at_117 rfl (q := 118) rfl ?_
        refine o_bipush X39 at_118 (w := 48) rfl (q := 120) rfl ?_
        refine o_lushr X39 at_120 (w := ((p1.toUInt64 >>> ((48 : Int32) &&& 0x3f).toInt64.toUInt64).toInt64)) rfl (q := 121) rfl ?_
        refine o_ldcJ X39 (w6 hw) at_121 (q := 124) rfl ?_
        refine o_land X39 at_124 (w := (((p1.toUInt64 >>> ((48 : Int32) &&& 0x3f).toInt64.toUInt64).toInt64) &&& (3 : Int64))) rfl (q := 125) rfl ?_
        refine o_l2i X39 at_125 (w := ((((p1.toUInt64 >>> ((48 : Int32) &&& 0x3f).toInt64.toUInt64).toInt64) &&& (3 : Int64)).toInt32)) rfl (q := 126) rfl ?_
        obtain ⟨rn, h_rn⟩ : ∃ z : Int32, ((((p1.toUInt64 >>> ((48 : Int32) &&& 0x3f).toInt64.toUInt64).toInt64) &&& (3 : Int64)).toInt32) = z := ⟨_, rfl⟩
        refine o_istore X39 at_126 h_rn (L' := #[.val (.long p0), .second, .val (.long p1), .second, .val (.int p2), .val (.ref b1), .val (.ref b2), .val (.int ln), .val (.int rn), .unset, .unset, .unset, .unset, .unset]) rfl (q := 128) rfl ?_
        refine o_aload X39 at_128 rfl rfl (q := 130) rfl ?_
        refine o_iload X39 at_130 rfl (q := 132) rfl ?_
        have f40 := (f38.other W39 (Nat.ne_of_lt (Nat.lt_of_lt_of_le V1.lt (Nat.le_of_eq gb2.symm))))
        refine o_stat X39 [(.ref b1), (.int ln)] (y' := (⟨"com/example/refinement/refinement/io/CodePointOrderComparePinLaw", "make", "([CI)Ljava/lang/String;"⟩ : MethodName)) (c_mk hw b1 x3 x6 x9 ln _ O2 P5 SA SH SL f40 rg3 rg6 rg9 (own_ln h_ln)) all0 (w7 hw) (w8 hw) (w3 hw) (w9 hw) (by decide) at_132 (rest := []) rfl rfl (lenOf pd19 rfl) rfl (by decide) (Nat.le_of_ble_eq_true rfl) (by decide) (by decide) (q := 135) rfl ?_
        intro v41 vm41 T41 h41 l41 X41 R41 q41
        obtain ⟨t41, b41, kb41, rfl, K41, U41⟩ := q41
        show Goes p e below _ T41 (mkF m 135 #[.val (.long p0), .second, .val (.long p1), .second, .val (.int p2), .val (.ref b1), .val (.ref b2), .val (.int ln), .val (.int rn), .unset, .unset, .unset, .unset, .unset] [(.ref t41)])
        refine o_astore X41 at_135 rfl (L' := #[.val (.long p0), .second, .val (.long p1), .second, .val (.int p2), .val (.ref b1), .val (.ref b2), .val (.int ln), .val (.int rn), .val (.ref t41), .unset, .unset, .unset, .unset]) rfl (q := 137) rfl ?_
        refine o_aload X41 at_137 rfl rfl (q := 139) rfl ?_
        refine o_iload X41 at_139 rfl (q := 141) rfl ?_
        have f42 := (V39.keep K41 nin0)
        refine o_stat X41 [(.ref b2), (.int rn)] (y' := (⟨"com/example/refinement/refinement/io/CodePointOrderComparePinLaw", "make", "([CI)Ljava/lang/String;"⟩ : MethodName)) (c_mk hw b2 x12 x15 x9 rn _ O2 P5 SA SH SL f42 rg12 rg15 rg9 (own_ln h_rn)) all0 (w7 hw) (w8 hw) (w3 hw) (w9 hw) (by decide) at_141 (rest := []) rfl rfl (lenOf pd19 rfl) rfl (by decide) (Nat.le_of_ble_eq_true rfl) (by decide) (by decide) (q := 144) rfl ?_
        intro v43 vm43 T43 h43 l43 X43 R43 q43
        obtain ⟨t43, b43, kb43, rfl, K43, U43⟩ := q43
        show Goes p e below _ T43 (mkF m 144 #[.val (.long p0), .second, .val (.long p1), .second, .val (.int p2), .val (.ref b1), .val (.ref b2), .val (.int ln), .val (.int rn), .val (.ref t41), .unset, .unset, .unset, .unset] [(.ref t43)])
        refine o_astore X43 at_144 rfl (L' := #[.val (.long p0), .second, .val (.long p1), .second, .val (.int p2), .val (.ref b1), .val (.ref b2), .val (.int ln), .val (.int rn), .val (.ref t41), .val (.ref t43), .unset, .unset, .unset]) rfl (q := 146) rfl ?_
        refine o_iconst X43 at_146 (w := 4) rfl (q := 147) rfl ?_
        refine o_newarr X43 (aty := .int) (cap := 4) 4 (w31 hw) at_147 (by decide) (by decide) (by decide) (by decide) (by decide) (q := 149) rfl ?_
        intro T44 h44 b44 k44 gb44 X44 E44 R44 S44 V44 g0_b44
        have V44 : Arv Z h44 b44 k44 .int (4 : Int32) [(.int (0 : Int32)), (.int (0 : Int32)), (.int (0 : Int32)), (.int (0 : Int32))] (.int (0 : Int32)) := V44
        refine o_astore X44 at_149 rfl (L' := #[.val (.long p0), .second, .val (.long p1), .second, .val (.int p2), .val (.ref b1), .val (.ref b2), .val (.int ln), .val (.int rn), .val (.ref t41), .val (.ref t43), .val (.ref b44), .unset, .unset]) rfl (q := 151) rfl ?_
        refine o_iconst X44 at_151 (w := 4) rfl (q := 152) rfl ?_
        refine o_newarr X44 (aty := .int) (cap := 4) 4 (w31 hw) at_152 (by decide) (by decide) (by decide) (by decide) (by decide) (q := 154) rfl ?_
        intro T45 h45 b45 k45 gb45 X45 E45 R45 S45 V45 g0_b45
        have V45 : Arv Z h45 b45 k45 .int (4 : Int32) [(.int (0 : Int32)), (.int (0 : Int32)), (.int (0 : Int32)), (.int (0 : Int32))] (.int (0 : Int32)) := V45
        refine o_astore X45 at_154 rfl (L' := #[.val (.long p0), .second, .val (.long p1), .second, .val (.int p2), .val (.ref b1), .val (.ref b2), .val (.int ln), .val (.int rn), .val (.ref t41), .val (.ref t43), .val (.ref b44), .val (.ref b45), .unset]) rfl (q := 156) rfl ?_
        refine o_aload X45 at_156 rfl rfl (q := 158) rfl ?_
        refine o_iload X45 at_158 rfl (q := 160) rfl ?_
        refine o_aload X45 at_160 rfl rfl (q := 162) rfl ?_
        have f46 := ((((f40.keep K41 nin0).keep K43 nin0).ext E44).ext E45)
        have f47 := (V44.ext E45)
        refine o_stat X45 [(.ref b1), (.int ln), (.ref b44)] (y' := (⟨"com/example/refinement/refinement/io/CodePointOrderComparePinLaw", "decode", "([CI[I)V"⟩ : MethodName)) (c_dec hw b1 b44 x3 x6 x9 ln _ f46 f47 g0_b44 (Nat.ne_of_lt (Nat.lt_of_lt_of_le (Nat.lt_of_lt_of_le (Nat.lt_of_lt_of_le f40.lt K41.1) K43.1) (Nat.le_of_eq gb44.symm))) (own_ln h_ln)) all0 (w32 hw) (w33 hw) (w3 hw) (w34 hw) (by decide) at_162 (rest := []) rfl rfl (lenOf pd20 rfl) rfl (by decide) (Nat.le_of_ble_eq_true rfl) (by decide) (by decide) (q := 165) rfl ?_
        intro v48 vm48 T48 h48 l48 X48 R48 q48
        obtain ⟨rfl, K48, V48⟩ := q48
        show Goes p e below _ T48 (mkF m 165 #[.val (.long p0), .second, .val (.long p1), .second, .val (.int p2), .val (.ref b1), .val (.ref b2), .val (.int ln), .val (.int rn), .val (.ref t41), .val (.ref t43), .val (.ref b44), .val (.ref b45), .unset] [])
        refine o_aload X48 at_165 rfl rfl (q := 167) rfl ?_
        refine o_iload X48 at_167 rfl (q := 169) rfl ?_
        refine o_aload X48 at_169 rfl rfl (q := 171) rfl ?_
        have f49 := ((((f42.keep K43 nin0).ext E44).ext E45).keep K48 (ninS (Nat.ne_of_lt (Nat.lt_of_lt_of_le (Nat.lt_of_lt_of_le f42.lt K43.1) (Nat.le_of_eq gb44.symm))) nin0))
        have f50 := (V45.keep K48 (ninS (Ne.symm (Nat.ne_of_lt (Nat.lt_of_lt_of_le V44.lt (Nat.le_of_eq gb45.symm)))) nin0))
        refine o_stat X48 [(.ref b2), (.int rn), (.ref b45)] (y' := (⟨"com/example/refinement/refinement/io/CodePointOrderComparePinLaw", "decode", "([CI[I)V"⟩ : MethodName)) (c_dec hw b2 b45 x12 x15 x9 rn _ f49 f50 g0_b45 (Nat.ne_of_lt (Nat.lt_of_lt_of_le (Nat.lt_of_lt_of_le (Nat.lt_of_lt_of_le f42.lt K43.1) E44.1) (Nat.le_of_eq gb45.symm))) (own_ln h_rn)) all0 (w32 hw) (w33 hw) (w3 hw) (w34 hw) (by decide) at_171 (rest := []) rfl rfl (lenOf pd20 rfl) rfl (by decide) (Nat.le_of_ble_eq_true rfl) (by decide) (by decide) (q := 174) rfl ?_
        intro v51 vm51 T51 h51 l51 X51 R51 q51
        obtain ⟨rfl, K51, V51⟩ := q51
        show Goes p e below _ T51 (mkF m 174 #[.val (.long p0), .second, .val (.long p1), .second, .val (.int p2), .val (.ref b1), .val (.ref b2), .val (.int ln), .val (.int rn), .val (.ref t41), .val (.ref t43), .val (.ref b44), .val (.ref b45), .unset] [])
        refine o_aload X51 at_174 rfl rfl (q := 176) rfl ?_
        refine o_aload X51 at_176 rfl rfl (q := 178) rfl ?_
        have f52 := (V48.keep K51 (ninS (Nat.ne_of_lt (Nat.lt_of_lt_of_le V44.lt (Nat.le_of_eq gb45.symm))) nin0))
        refine o_stat X51 [(.ref b44), (.ref b45)] (y' := (⟨"com/example/refinement/refinement/io/CodePointOrderComparePinLaw", "lex", "([I[I)I"⟩ : MethodName)) (c_lex hw b44 b45 ((cps (takeC ln x3 x6 x9)).getD 0 0) ((cps (takeC ln x3 x6 x9)).getD 1 0) ((cps (takeC ln x3 x6 x9)).getD 2 0) (Int32.ofNat (cps (takeC ln x3 x6 x9)).length) ((cps (takeC rn x12 x15 x9)).getD 0 0) ((cps (takeC rn x12 x15 x9)).getD 1 0) ((cps (takeC rn x12 x15 x9)).getD 2 0) (Int32.ofNat (cps (takeC rn x12 x15 x9)).length) _ f52 V51) all0 (w41 hw) (w42 hw) (w3 hw) (w43 hw) (by decide) at_178 (rest := []) rfl rfl (lenOf pd21 rfl) rfl (by decide) (Nat.le_of_ble_eq_true rfl) (by decide) (by decide) (q := 181) rfl ?_
        intro v53 vm53 T53 h53 l53 X53 R53 q53
        obtain ⟨z53, rfl, e53, hz53⟩ := q53
        have e53 := e53.symm
        subst e53
        show Goes p e below _ T53 (mkF m 181 #[.val (.long p0), .second, .val (.long p1), .second, .val (.int p2), .val (.ref b1), .val (.ref b2), .val (.int ln), .val (.int rn), .val (.ref t41), .val (.ref t43), .val (.ref b44), .val (.ref b45), .unset] [(.int z53)])
        refine o_istore X53 at_181 rfl (L' := #[.val (.long p0), .second, .val (.long p1), .second, .val (.int p2), .val (.ref b1), .val (.ref b2), .val (.int ln), .val (.int rn), .val (.ref t41), .val (.ref t43), .val (.ref b44), .val (.ref b45), .val (.int z53)]) rfl (q := 183) rfl ?_
        refine o_aload X53 at_183 rfl rfl (q := 185) rfl ?_
        refine o_aload X53 at_185 rfl rfl (q := 187) rfl ?_
        have f54 := (((((U41.keep K43 nin0 nin0).ext E44).ext E45).keep K48 (ninS (Nat.ne_of_lt (Nat.lt_of_lt_of_le (Nat.lt_of_lt_of_le U41.lt K43.1) (Nat.le_of_eq gb44.symm))) nin0) (ninS (Nat.ne_of_lt (Nat.lt_of_lt_of_le (Nat.lt_of_lt_of_le U41.blt K43.1) (Nat.le_of_eq gb44.symm))) nin0)).keep K51 (ninS (Nat.ne_of_lt (Nat.lt_of_lt_of_le (Nat.lt_of_lt_of_le (Nat.lt_of_lt_of_le U41.lt K43.1) E44.1) (Nat.le_of_eq gb45.symm))) nin0) (ninS (Nat.ne_of_lt (Nat.lt_of_lt_of_le (Nat.lt_of_lt_of_le (Nat.lt_of_lt_of_le U41.blt K43.1) E44.1) (Nat.le_of_eq gb45.symm))) nin0))
        have f55 := ((((U43.ext E44).ext E45).keep K48 (ninS (Nat.ne_of_lt (Nat.lt_of_lt_of_le U43.lt (Nat.le_of_eq gb44.symm))) nin0) (ninS (Nat.ne_of_lt (Nat.lt_of_lt_of_le U43.blt (Nat.le_of_eq gb44.symm))) nin0)).keep K51 (ninS (Nat.ne_of_lt (Nat.lt_of_lt_of_le (U43.ext E44).lt (Nat.le_of_eq gb45.symm))) nin0) (ninS (Nat.ne_of_lt (Nat.lt_of_lt_of_le (Nat.lt_of_lt_of_le U43.blt E44.1) (Nat.le_of_eq gb45.symm))) nin0))
        refine o_stat X53 [(.ref t41), (.ref t43)] (y' := (⟨"com/example/refinement/refinement/io/CodePointOrder", "compare", "(Ljava/lang/String;Ljava/lang/String;)I"⟩ : MethodName)) (c_cmp hw t41 b41 kb41 (takeC ln x3 x6 x9) t43 b43 kb43 (takeC rn x12 x15 x9) _ O2 P5 O4 rfm SA SH SL f54 f55) all0 (w44 hw) (w45 hw) (w46 hw) (w47 hw) (by decide) at_187 (rest := []) rfl rfl (lenOf pd22 rfl) rfl (by decide) (Nat.le_of_ble_eq_true rfl) (by decide) (by decide) (q := 190) rfl ?_
        intro v56 vm56 T56 h56 l56 X56 R56 q56
        obtain ⟨z56, rfl, e56, hz56⟩ := q56
        have e56 := e56.symm
        subst e56
        show Goes p e below _ T56 (mkF m 190 #[.val (.long p0), .second, .val (.long p1), .second, .val (.int p2), .val (.ref b1), .val (.ref b2), .val (.int ln), .val (.int rn), .val (.ref t41), .val (.ref t43), .val (.ref b44), .val (.ref b45), .val (.int z53)] [(.int z56)])
        refine o_iload X56 at_190 rfl (q := 192) rfl ?_
        refine o_icmpN X56 at_192 (teq (hz56.trans ((own_lex (own_takel _ _ _ _) (own_takel _ _ _ _)).symm.trans hz53.symm))).2 (q := 195) rfl ?_
        refine o_iconst X56 at_195 (w := 1) rfl (q := 196) rfl ?_
        refine o_goto X56 at_196 (by decide) (q := 200) (by decide) ?_
        exact o_retN X56 at_200 (by simp) (fun Sf hSf => rfl) (by decide) (by decide)
    · refine o_ifN X14 at_67 (feq hc67).1 (q := 70) rfl ?_
      refine o_aload X14 at_70 rfl rfl (q := 72) rfl ?_
      refine o_iconst X14 at_72 (w := 1) rfl (q := 73) rfl ?_
      have f57 := (V11.other W14 (Nat.ne_of_lt (Nat.lt_of_lt_of_le V1.lt (Nat.le_of_eq gb2.symm))))
      refine o_caload X14 f57 (by decide) (v := (.int x6)) rfl at_73 (q := 74) rfl ?_
      refine o_goto X14 at_74 (by decide) (q := 82) (by decide) ?_
      refine o_castore X14 1 V14 g0_b2 (Safe.arv X14.alike V14 (by decide)) (by decide) rfl (Nat.le_of_ble_eq_true rfl) (v := (.int x6)) (by rw [own_narc rg6]) at_82 (q := 83) rfl ?_
      intro T58 h58 l58 X58 W58 R58 V58
      have V58 : Arv Z h58 b2 k2 .char (3 : Int32) [(.int x12), (.int x6), (.int (0 : Int32))] (.int (0 : Int32)) := V58
      refine o_aload X58 at_83 rfl rfl (q := 85) rfl ?_
      refine o_iconst X58 at_85 (w := 2) rfl (q := 86) rfl ?_
      refine o_iload X58 at_86 rfl (q := 88) rfl ?_
      refine o_iconst X58 at_88 (w := 4) rfl (q := 89) rfl ?_
      refine o_iand X58 at_89 (w := (p2 &&& (4 : Int32))) rfl (q := 90) rfl ?_
      by_cases hc90 : (p2 &&& (4 : Int32)) = (0 : Int32)
      · refine o_ifY X58 at_90 (teq hc90).1 (by decide) (q := 100) (by decide) ?_
        refine o_lloadN X58 at_100 rfl (q := 101) rfl ?_
        refine o_iconst X58 at_101 (w := 2) rfl (q := 102) rfl ?_
        refine o_stat X58 [(.long p1), (.int (2 : Int32))] (y' := (⟨"com/example/refinement/refinement/io/CodePointOrderComparePinLaw", "draw", "(JI)C"⟩ : MethodName)) (c_draw hw p1 (2 : Int32) _) all0 (w1 hw) (w2 hw) (w3 hw) (w4 hw) (by decide) at_102 (rest := [(.int (2 : Int32)), (.ref b2)]) rfl rfl (lenOf pd18 rfl) rfl (by decide) (Nat.le_of_ble_eq_true rfl) (by decide) (by decide) (q := 105) rfl ?_
        intro v59 vm59 T59 h59 l59 X59 R59 q59
        obtain ⟨x59, rfl, e59, rg59⟩ := q59
        have e59 := e59.symm
        subst e59
        show Goes p e below _ T59 (mkF m 105 #[.val (.long p0), .second, .val (.long p1), .second, .val (.int p2), .val (.ref b1), .val (.ref b2), .unset, .unset, .unset, .unset, .unset, .unset, .unset] [(.int x59), (.int (2 : Int32)), (.ref b2)])
        have f60 := V58
        refine o_castore X59 2 f60 g0_b2 (Safe.arv X59.alike f60 (by decide)) (by decide) rfl (Nat.le_of_ble_eq_true rfl) (v := (.int x59)) (by rw [own_narc rg59]) at_105 (q := 106) rfl ?_
        intro T61 h61 l61 X61 W61 R61 V61
        have V61 : Arv Z h61 b2 k2 .char (3 : Int32) [(.int x12), (.int x6), (.int x59)] (.int (0 : Int32)) := V61
        refine o_lloadN X61 at_106 rfl (q := 107) rfl ?_
        refine o_bipush X61 at_107 (w := 48) rfl (q := 109) rfl ?_
        refine o_lushr X61 at_109 (w := ((p0.toUInt64 >>> ((48 : Int32) &&& 0x3f).toInt64.toUInt64).toInt64)) rfl (q := 110) rfl ?_
        refine o_ldcJ X61 (w6 hw) at_110 (q := 113) rfl ?_
        refine o_land X61 at_113 (w := (((p0.toUInt64 >>> ((48 : Int32) &&& 0x3f).toInt64.toUInt64).toInt64) &&& (3 : Int64))) rfl (q := 114) rfl ?_
        refine o_l2i X61 at_114 (w := ((((p0.toUInt64 >>> ((48 : Int32) &&& 0x3f).toInt64.toUInt64).toInt64) &&& (3 : Int64)).toInt32)) rfl (q := 115) rfl ?_
        obtain ⟨ln, h_ln⟩ : ∃ z : Int32, ((((p0.toUInt64 >>> ((48 : Int32) &&& 0x3f).toInt64.toUInt64).toInt64) &&& (3 : Int64)).toInt32) = z := ⟨_, rfl⟩
        refine o_istore X61 at_115 h_ln (L' := #[.val (.long p0), .second, .val (.long p1), .second, .val (.int p2), .val (.ref b1), .val (.ref b2), .val (.int ln), .unset, .unset, .unset, .unset, .unset, .unset]) rfl (q := 117) rfl ?_
        refine o_lloadN X61 at_117 rfl (q := 118) rfl ?_
        refine o_bipush X61 at_118 (w := 48) rfl (q := 120) rfl ?_
        refine o_lushr X61 at_120 (w := ((p1.toUInt64 >>> ((48 : Int32) &&& 0x3f).toInt64.toUInt64).toInt64)) rfl (q := 121) rfl ?_
        refine o_ldcJ X61 (w6 hw) at_121 (q := 124) rfl ?_
        refine o_land X61 at_124 (w := (((p1.toUInt64 >>> ((48 : Int32) &&& 0x3f).toInt64.toUInt64).toInt64) &&& (3 : Int64))) rfl (q := 125) rfl ?_
        refine o_l2i X61 at_125 (w := ((((p1.toUInt64 >>> ((48 : Int32) &&& 0x3f).toInt64.toUInt64).toInt64) &&& (3 : Int64)).toInt32)) rfl (q := 126) rfl ?_
        obtain ⟨rn, h_rn⟩ : ∃ z : Int32, ((((p1.toUInt64 >>> ((48 : Int32) &&& 0x3f).toInt64.toUInt64).toInt64) &&& (3 : Int64)).toInt32) = z := ⟨_, rfl⟩
        refine o_istore X61 at_126 h_rn (L' := #[.val (.long p0), .second, .val (.long p1), .second, .val (.int p2), .val (.ref b1), .val (.ref b2), .val (.int ln), .val (.int rn), .unset, .unset, .unset, .unset, .unset]) rfl (q := 128) rfl ?_
        refine o_aload X61 at_128 rfl rfl (q := 130) rfl ?_
        refine o_iload X61 at_130 rfl (q := 132) rfl ?_
        have f62 := ((f57.other W58 (Nat.ne_of_lt (Nat.lt_of_lt_of_le V1.lt (Nat.le_of_eq gb2.symm)))).other W61 (Nat.ne_of_lt (Nat.lt_of_lt_of_le V1.lt (Nat.le_of_eq gb2.symm))))
        refine o_stat X61 [(.ref b1), (.int ln)] (y' := (⟨"com/example/refinement/refinement/io/CodePointOrderComparePinLaw", "make", "([CI)Ljava/lang/String;"⟩ : MethodName)) (c_mk hw b1 x3 x6 x9 ln _ O2 P5 SA SH SL f62 rg3 rg6 rg9 (own_ln h_ln)) all0 (w7 hw) (w8 hw) (w3 hw) (w9 hw) (by decide) at_132 (rest := []) rfl rfl (lenOf pd19 rfl) rfl (by decide) (Nat.le_of_ble_eq_true rfl) (by decide) (by decide) (q := 135) rfl ?_
        intro v63 vm63 T63 h63 l63 X63 R63 q63
        obtain ⟨t63, b63, kb63, rfl, K63, U63⟩ := q63
        show Goes p e below _ T63 (mkF m 135 #[.val (.long p0), .second, .val (.long p1), .second, .val (.int p2), .val (.ref b1), .val (.ref b2), .val (.int ln), .val (.int rn), .unset, .unset, .unset, .unset, .unset] [(.ref t63)])
        refine o_astore X63 at_135 rfl (L' := #[.val (.long p0), .second, .val (.long p1), .second, .val (.int p2), .val (.ref b1), .val (.ref b2), .val (.int ln), .val (.int rn), .val (.ref t63), .unset, .unset, .unset, .unset]) rfl (q := 137) rfl ?_
        refine o_aload X63 at_137 rfl rfl (q := 139) rfl ?_
        refine o_iload X63 at_139 rfl (q := 141) rfl ?_
        have f64 := (V61.keep K63 nin0)
        refine o_stat X63 [(.ref b2), (.int rn)] (y' := (⟨"com/example/refinement/refinement/io/CodePointOrderComparePinLaw", "make", "([CI)Ljava/lang/String;"⟩ : MethodName)) (c_mk hw b2 x12 x6 x59 rn _ O2 P5 SA SH SL f64 rg12 rg6 rg59 (own_ln h_rn)) all0 (w7 hw) (w8 hw) (w3 hw) (w9 hw) (by decide) at_141 (rest := []) rfl rfl (lenOf pd19 rfl) rfl (by decide) (Nat.le_of_ble_eq_true rfl) (by decide) (by decide) (q := 144) rfl ?_
        intro v65 vm65 T65 h65 l65 X65 R65 q65
        obtain ⟨t65, b65, kb65, rfl, K65, U65⟩ := q65
        show Goes p e below _ T65 (mkF m 144 #[.val (.long p0), .second, .val (.long p1), .second, .val (.int p2), .val (.ref b1), .val (.ref b2), .val (.int ln), .val (.int rn), .val (.ref t63), .unset, .unset, .unset, .unset] [(.ref t65)])
        refine o_astore X65 at_144 rfl (L' := #[.val (.long p0), .second, .val (.long p1), .second, .val (.int p2), .val (.ref b1), .val (.ref b2), .val (.int ln), .val (.int rn), .val (.ref t63), .val (.ref t65), .unset, .unset, .unset]) rfl (q := 146) rfl ?_
        refine o_iconst X65 at_146 (w := 4) rfl (q := 147) rfl ?_
        refine o_newarr X65 (aty := .int) (cap := 4) 4 (w31 hw) at_147 (by decide) (by decide) (by decide) (by decide) (by decide) (q := 149) rfl ?_
        intro T66 h66 b66 k66 gb66 X66 E66 R66 S66 V66 g0_b66
        have V66 : Arv Z h66 b66 k66 .int (4 : Int32) [(.int (0 : Int32)), (.int (0 : Int32)), (.int (0 : Int32)), (.int (0 : Int32))] (.int (0 : Int32)) := V66
        refine o_astore X66 at_149 rfl (L' := #[.val (.long p0), .second, .val (.long p1), .second, .val (.int p2), .val (.ref b1), .val (.ref b2), .val (.int ln), .val (.int rn), .val (.ref t63), .val (.ref t65), .val (.ref b66), .unset, .unset]) rfl (q := 151) rfl ?_
        refine o_iconst X66 at_151 (w := 4) rfl (q := 152) rfl ?_
        refine o_newarr X66 (aty := .int) (cap := 4) 4 (w31 hw) at_152 (by decide) (by decide) (by decide) (by decide) (by decide) (q := 154) rfl ?_
        intro T67 h67 b67 k67 gb67 X67 E67 R67 S67 V67 g0_b67
        have V67 : Arv Z h67 b67 k67 .int (4 : Int32) [(.int (0 : Int32)), (.int (0 : Int32)), (.int (0 : Int32)), (.int (0 : Int32))] (.int (0 : Int32)) := V67
        refine o_astore X67 at_154 rfl (L' := #[.val (.long p0), .second, .val (.long p1), .second, .val (.int p2), .val (.ref b1), .val (.ref b2), .val (.int ln), .val (.int rn), .val (.ref t63), .val (.ref t65), .val (.ref b66), .val (.ref b67), .unset]) rfl (q := 156) rfl ?_
        refine o_aload X67 at_156 rfl rfl (q := 158) rfl ?_
        refine o_iload X67 at_158 rfl (q := 160) rfl ?_
        refine o_aload X67 at_160 rfl rfl (q := 162) rfl ?_
        have f68 := ((((f62.keep K63 nin0).keep K65 nin0).ext E66).ext E67)
        have f69 := (V66.ext E67)
        refine o_stat X67 [(.ref b1), (.int ln), (.ref b66)] (y' := (⟨"com/example/refinement/refinement/io/CodePointOrderComparePinLaw", "decode", "([CI[I)V"⟩ : MethodName)) (c_dec hw b1 b66 x3 x6 x9 ln _ f68 f69 g0_b66 (Nat.ne_of_lt (Nat.lt_of_lt_of_le (Nat.lt_of_lt_of_le (Nat.lt_of_lt_of_le f62.lt K63.1) K65.1) (Nat.le_of_eq gb66.symm))) (own_ln h_ln)) all0 (w32 hw) (w33 hw) (w3 hw) (w34 hw) (by decide) at_162 (rest := []) rfl rfl (lenOf pd20 rfl) rfl (by decide) (Nat.le_of_ble_eq_true rfl) (by decide) (by decide) (q := 165) rfl ?_
        intro v70 vm70 T70 h70 l70 X70 R70 q70
        obtain ⟨rfl, K70, V70⟩ := q70
        show Goes p e below _ T70 (mkF m 165 #[.val (.long p0), .second, .val (.long p1), .second, .val (.int p2), .val (.ref b1), .val (.ref b2), .val (.int ln), .val (.int rn), .val (.ref t63), .val (.ref t65), .val (.ref b66), .val (.ref b67), .unset] [])
        refine o_aload X70 at_165 rfl rfl (q := 167) rfl ?_
        refine o_iload X70 at_167 rfl (q := 169) rfl ?_
        refine o_aload X70 at_169 rfl rfl (q := 171) rfl ?_
        have f71 := ((((f64.keep K65 nin0).ext E66).ext E67).keep K70 (ninS (Nat.ne_of_lt (Nat.lt_of_lt_of_le (Nat.lt_of_lt_of_le f64.lt K65.1) (Nat.le_of_eq gb66.symm))) nin0))
        have f72 := (V67.keep K70 (ninS (Ne.symm (Nat.ne_of_lt (Nat.lt_of_lt_of_le V66.lt (Nat.le_of_eq gb67.symm)))) nin0))
        refine o_stat X70 [(.ref b2), (.int rn), (.ref b67)] (y' := (⟨"com/example/refinement/refinement/io/CodePointOrderComparePinLaw", "decode", "([CI[I)V"⟩ : MethodName)) (c_dec hw b2 b67 x12 x6 x59 rn _ f71 f72 g0_b67 (Nat.ne_of_lt (Nat.lt_of_lt_of_le (Nat.lt_of_lt_of_le (Nat.lt_of_lt_of_le f64.lt K65.1) E66.1) (Nat.le_of_eq gb67.symm))) (own_ln h_rn)) all0 (w32 hw) (w33 hw) (w3 hw) (w34 hw) (by decide) at_171 (rest := []) rfl rfl (lenOf pd20 rfl) rfl (by decide) (Nat.le_of_ble_eq_true rfl) (by decide) (by decide) (q := 174) rfl ?_
        intro v73 vm73 T73 h73 l73 X73 R73 q73
        obtain ⟨rfl, K73, V73⟩ := q73
        show Goes p e below _ T73 (mkF m 174 #[.val (.long p0), .second, .val (.long p1), .second, .val (.int p2), .val (.ref b1), .val (.ref b2), .val (.int ln), .val (.int rn), .val (.ref t63), .val (.ref t65), .val (.ref b66), .val (.ref b67), .unset] [])
        refine o_aload X73 at_174 rfl rfl (q := 176) rfl ?_
        refine o_aload X73 at_176 rfl rfl (q := 178) rfl ?_
        have f74 := (V70.keep K73 (ninS (Nat.ne_of_lt (Nat.lt_of_lt_of_le V66.lt (Nat.le_of_eq gb67.symm))) nin0))
        refine o_stat X73 [(.ref b66), (.ref b67)] (y' := (⟨"com/example/refinement/refinement/io/CodePointOrderComparePinLaw", "lex", "([I[I)I"⟩ : MethodName)) (c_lex hw b66 b67 ((cps (takeC ln x3 x6 x9)).getD 0 0) ((cps (takeC ln x3 x6 x9)).getD 1 0) ((cps (takeC ln x3 x6 x9)).getD 2 0) (Int32.ofNat (cps (takeC ln x3 x6 x9)).length) ((cps (takeC rn x12 x6 x59)).getD 0 0) ((cps (takeC rn x12 x6 x59)).getD 1 0) ((cps (takeC rn x12 x6 x59)).getD 2 0) (Int32.ofNat (cps (takeC rn x12 x6 x59)).length) _ f74 V73) all0 (w41 hw) (w42 hw) (w3 hw) (w43 hw) (by decide) at_178 (rest := []) rfl rfl (lenOf pd21 rfl) rfl (by decide) (Nat.le_of_ble_eq_true rfl) (by decide) (by decide) (q := 181) rfl ?_
        intro v75 vm75 T75 h75 l75 X75 R75 q75
        obtain ⟨z75, rfl, e75, hz75⟩ := q75
        have e75 := e75.symm
        subst e75
        show Goes p e below _ T75 (mkF m 181 #[.val (.long p0), .second, .val (.long p1), .second, .val (.int p2), .val (.ref b1), .val (.ref b2), .val (.int ln), .val (.int rn), .val (.ref t63), .val (.ref t65), .val (.ref b66), .val (.ref b67), .unset] [(.int z75)])
        refine o_istore X75 at_181 rfl (L' := #[.val (.long p0), .second, .val (.long p1), .second, .val (.int p2), .val (.ref b1), .val (.ref b2), .val (.int ln), .val (.int rn), .val (.ref t63), .val (.ref t65), .val (.ref b66), .val (.ref b67), .val (.int z75)]) rfl (q := 183) rfl ?_
        refine o_aload X75 at_183 rfl rfl (q := 185) rfl ?_
        refine o_aload X75 at_185 rfl rfl (q := 187) rfl ?_
        have f76 := (((((U63.keep K65 nin0 nin0).ext E66).ext E67).keep K70 (ninS (Nat.ne_of_lt (Nat.lt_of_lt_of_le (Nat.lt_of_lt_of_le U63.lt K65.1) (Nat.le_of_eq gb66.symm))) nin0) (ninS (Nat.ne_of_lt (Nat.lt_of_lt_of_le (Nat.lt_of_lt_of_le U63.blt K65.1) (Nat.le_of_eq gb66.symm))) nin0)).keep K73 (ninS (Nat.ne_of_lt (Nat.lt_of_lt_of_le (Nat.lt_of_lt_of_le (Nat.lt_of_lt_of_le U63.lt K65.1) E66.1) (Nat.le_of_eq gb67.symm))) nin0) (ninS (Nat.ne_of_lt (Nat.lt_of_lt_of_le (Nat.lt_of_lt_of_le (Nat.lt_of_lt_of_le U63.blt K65.1) E66.1) (Nat.le_of_eq gb67.symm))) nin0))
        have f77 := ((((U65.ext E66).ext E67).keep K70 (ninS (Nat.ne_of_lt (Nat.lt_of_lt_of_le U65.lt (Nat.le_of_eq gb66.symm))) nin0) (ninS (Nat.ne_of_lt (Nat.lt_of_lt_of_le U65.blt (Nat.le_of_eq gb66.symm))) nin0)).keep K73 (ninS (Nat.ne_of_lt (Nat.lt_of_lt_of_le (U65.ext E66).lt (Nat.le_of_eq gb67.symm))) nin0) (ninS (Nat.ne_of_lt (Nat.lt_of_lt_of_le (Nat.lt_of_lt_of_le U65.blt E66.1) (Nat.le_of_eq gb67.symm))) nin0))
        refine o_stat X75 [(.ref t63), (.ref t65)] (y' := (⟨"com/example/refinement/refinement/io/CodePointOrder", "compare", "(Ljava/lang/String;Ljava/lang/String;)I"⟩ : MethodName)) (c_cmp hw t63 b63 kb63 (takeC ln x3 x6 x9) t65 b65 kb65 (takeC rn x12 x6 x59) _ O2 P5 O4 rfm SA SH SL f76 f77) all0 (w44 hw) (w45 hw) (w46 hw) (w47 hw) (by decide) at_187 (rest := []) rfl rfl (lenOf pd22 rfl) rfl (by decide) (Nat.le_of_ble_eq_true rfl) (by decide) (by decide) (q := 190) rfl ?_
        intro v78 vm78 T78 h78 l78 X78 R78 q78
        obtain ⟨z78, rfl, e78, hz78⟩ := q78
        have e78 := e78.symm
        subst e78
        show Goes p e below _ T78 (mkF m 190 #[.val (.long p0), .second, .val (.long p1), .second, .val (.int p2), .val (.ref b1), .val (.ref b2), .val (.int ln), .val (.int rn), .val (.ref t63), .val (.ref t65), .val (.ref b66), .val (.ref b67), .val (.int z75)] [(.int z78)])
        refine o_iload X78 at_190 rfl (q := 192) rfl ?_
        refine o_icmpN X78 at_192 (teq (hz78.trans ((own_lex (own_takel _ _ _ _) (own_takel _ _ _ _)).symm.trans hz75.symm))).2 (q := 195) rfl ?_
        refine o_iconst X78 at_195 (w := 1) rfl (q := 196) rfl ?_
        refine o_goto X78 at_196 (by decide) (q := 200) (by decide) ?_
        exact o_retN X78 at_200 (by simp) (fun Sf hSf => rfl) (by decide) (by decide)
      · refine o_ifN X58 at_90 (feq hc90).1 (q := 93) rfl ?_
        refine o_aload X58 at_93 rfl rfl (q := 95) rfl ?_
        refine o_iconst X58 at_95 (w := 2) rfl (q := 96) rfl ?_
        have f79 := (f57.other W58 (Nat.ne_of_lt (Nat.lt_of_lt_of_le V1.lt (Nat.le_of_eq gb2.symm))))
        refine o_caload X58 f79 (by decide) (v := (.int x9)) rfl at_96 (q := 97) rfl ?_
        refine o_goto X58 at_97 (by decide) (q := 105) (by decide) ?_
        refine o_castore X58 2 V58 g0_b2 (Safe.arv X58.alike V58 (by decide)) (by decide) rfl (Nat.le_of_ble_eq_true rfl) (v := (.int x9)) (by rw [own_narc rg9]) at_105 (q := 106) rfl ?_
        intro T80 h80 l80 X80 W80 R80 V80
        have V80 : Arv Z h80 b2 k2 .char (3 : Int32) [(.int x12), (.int x6), (.int x9)] (.int (0 : Int32)) := V80
        refine o_lloadN X80 at_106 rfl (q := 107) rfl ?_
        refine o_bipush X80 at_107 (w := 48) rfl (q := 109) rfl ?_
        refine o_lushr X80 at_109 (w := ((p0.toUInt64 >>> ((48 : Int32) &&& 0x3f).toInt64.toUInt64).toInt64)) rfl (q := 110) rfl ?_
        refine o_ldcJ X80 (w6 hw) at_110 (q := 113) rfl ?_
        refine o_land X80 at_113 (w := (((p0.toUInt64 >>> ((48 : Int32) &&& 0x3f).toInt64.toUInt64).toInt64) &&& (3 : Int64))) rfl (q := 114) rfl ?_
        refine o_l2i X80 at_114 (w := ((((p0.toUInt64 >>> ((48 : Int32) &&& 0x3f).toInt64.toUInt64).toInt64) &&& (3 : Int64)).toInt32)) rfl (q := 115) rfl ?_
        obtain ⟨ln, h_ln⟩ : ∃ z : Int32, ((((p0.toUInt64 >>> ((48 : Int32) &&& 0x3f).toInt64.toUInt64).toInt64) &&& (3 : Int64)).toInt32) = z := ⟨_, rfl⟩
        refine o_istore X80 at_115 h_ln (L' := #[.val (.long p0), .second, .val (.long p1), .second, .val (.int p2), .val (.ref b1), .val (.ref b2), .val (.int ln), .unset, .unset, .unset, .unset, .unset, .unset]) rfl (q := 117) rfl ?_
        refine o_lloadN X80 at_117 rfl (q := 118) rfl ?_
        refine o_bipush X80 at_118 (w := 48) rfl (q := 120) rfl ?_
        refine o_lushr X80 at_120 (w := ((p1.toUInt64 >>> ((48 : Int32) &&& 0x3f).toInt64.toUInt64).toInt64)) rfl (q := 121) rfl ?_
        refine o_ldcJ X80 (w6 hw) at_121 (q := 124) rfl ?_
        refine o_land X80 at_124 (w := (((p1.toUInt64 >>> ((48 : Int32) &&& 0x3f).toInt64.toUInt64).toInt64) &&& (3 : Int64))) rfl (q := 125) rfl ?_
        refine o_l2i X80 at_125 (w := ((((p1.toUInt64 >>> ((48 : Int32) &&& 0x3f).toInt64.toUInt64).toInt64) &&& (3 : Int64)).toInt32)) rfl (q := 126) rfl ?_
        obtain ⟨rn, h_rn⟩ : ∃ z : Int32, ((((p1.toUInt64 >>> ((48 : Int32) &&& 0x3f).toInt64.toUInt64).toInt64) &&& (3 : Int64)).toInt32) = z := ⟨_, rfl⟩
        refine o_istore X80 at_126 h_rn (L' := #[.val (.long p0), .second, .val (.long p1), .second, .val (.int p2), .val (.ref b1), .val (.ref b2), .val (.int ln), .val (.int rn), .unset, .unset, .unset, .unset, .unset]) rfl (q := 128) rfl ?_
        refine o_aload X80 at_128 rfl rfl (q := 130) rfl ?_
        refine o_iload X80 at_130 rfl (q := 132) rfl ?_
        have f81 := (f79.other W80 (Nat.ne_of_lt (Nat.lt_of_lt_of_le V1.lt (Nat.le_of_eq gb2.symm))))
        refine o_stat X80 [(.ref b1), (.int ln)] (y' := (⟨"com/example/refinement/refinement/io/CodePointOrderComparePinLaw", "make", "([CI)Ljava/lang/String;"⟩ : MethodName)) (c_mk hw b1 x3 x6 x9 ln _ O2 P5 SA SH SL f81 rg3 rg6 rg9 (own_ln h_ln)) all0 (w7 hw) (w8 hw) (w3 hw) (w9 hw) (by decide) at_132 (rest := []) rfl rfl (lenOf pd19 rfl) rfl (by decide) (Nat.le_of_ble_eq_true rfl) (by decide) (by decide) (q := 135) rfl ?_
        intro v82 vm82 T82 h82 l82 X82 R82 q82
        obtain ⟨t82, b82, kb82, rfl, K82, U82⟩ := q82
        show Goes p e below _ T82 (mkF m 135 #[.val (.long p0), .second, .val (.long p1), .second, .val (.int p2), .val (.ref b1), .val (.ref b2), .val (.int ln), .val (.int rn), .unset, .unset, .unset, .unset, .unset] [(.ref t82)])
        refine o_astore X82 at_135 rfl (L' := #[.val (.long p0), .second, .val (.long p1), .second, .val (.int p2), .val (.ref b1), .val (.ref b2), .val (.int ln), .val (.int rn), .val (.ref t82), .unset, .unset, .unset, .unset]) rfl (q := 137) rfl ?_
        refine o_aload X82 at_137 rfl rfl (q := 139) rfl ?_
        refine o_iload X82 at_139 rfl (q := 141) rfl ?_
        have f83 := (V80.keep K82 nin0)
        refine o_stat X82 [(.ref b2), (.int rn)] (y' := (⟨"com/example/refinement/refinement/io/CodePointOrderComparePinLaw", "make", "([CI)Ljava/lang/String;"⟩ : MethodName)) (c_mk hw b2 x12 x6 x9 rn _ O2 P5 SA SH SL f83 rg12 rg6 rg9 (own_ln h_rn)) all0 (w7 hw) (w8 hw) (w3 hw) (w9 hw) (by decide) at_141 (rest := []) rfl rfl (lenOf pd19 rfl) rfl (by decide) (Nat.le_of_ble_eq_true rfl) (by decide) (by decide) (q := 144) rfl ?_
        intro v84 vm84 T84 h84 l84 X84 R84 q84
        obtain ⟨t84, b84, kb84, rfl, K84, U84⟩ := q84
        show Goes p e below _ T84 (mkF m 144 #[.val (.long p0), .second, .val (.long p1), .second, .val (.int p2), .val (.ref b1), .val (.ref b2), .val (.int ln), .val (.int rn), .val (.ref t82), .unset, .unset, .unset, .unset] [(.ref t84)])
        refine o_astore X84 at_144 rfl (L' := #[.val (.long p0), .second, .val (.long p1), .second, .val (.int p2), .val (.ref b1), .val (.ref b2), .val (.int ln), .val (.int rn), .val (.ref t82), .val (.ref t84), .unset, .unset, .unset]) rfl (q := 146) rfl ?_
        refine o_iconst X84 at_146 (w := 4) rfl (q := 147) rfl ?_
        refine o_newarr X84 (aty := .int) (cap := 4) 4 (w31 hw) at_147 (by decide) (by decide) (by decide) (by decide) (by decide) (q := 149) rfl ?_
        intro T85 h85 b85 k85 gb85 X85 E85 R85 S85 V85 g0_b85
        have V85 : Arv Z h85 b85 k85 .int (4 : Int32) [(.int (0 : Int32)), (.int (0 : Int32)), (.int (0 : Int32)), (.int (0 : Int32))] (.int (0 : Int32)) := V85
        refine o_astore X85 at_149 rfl (L' := #[.val (.long p0), .second, .val (.long p1), .second, .val (.int p2), .val (.ref b1), .val (.ref b2), .val (.int ln), .val (.int rn), .val (.ref t82), .val (.ref t84), .val (.ref b85), .unset, .unset]) rfl (q := 151) rfl ?_
        refine o_iconst X85 at_151 (w := 4) rfl (q := 152) rfl ?_
        refine o_newarr X85 (aty := .int) (cap := 4) 4 (w31 hw) at_152 (by decide) (by decide) (by decide) (by decide) (by decide) (q := 154) rfl ?_
        intro T86 h86 b86 k86 gb86 X86 E86 R86 S86 V86 g0_b86
        have V86 : Arv Z h86 b86 k86 .int (4 : Int32) [(.int (0 : Int32)), (.int (0 : Int32)), (.int (0 : Int32)), (.int (0 : Int32))] (.int (0 : Int32)) := V86
        refine o_astore X86 at_154 rfl (L' := #[.val (.long p0), .second, .val (.long p1), .second, .val (.int p2), .val (.ref b1), .val (.ref b2), .val (.int ln), .val (.int rn), .val (.ref t82), .val (.ref t84), .val (.ref b85), .val (.ref b86), .unset]) rfl (q := 156) rfl ?_
        refine o_aload X86 at_156 rfl rfl (q := 158) rfl ?_
        refine o_iload X86 at_158 rfl (q := 160) rfl ?_
        refine o_aload X86 at_160 rfl rfl (q := 162) rfl ?_
        have f87 := ((((f81.keep K82 nin0).keep K84 nin0).ext E85).ext E86)
        have f88 := (V85.ext E86)
        refine o_stat X86 [(.ref b1), (.int ln), (.ref b85)] (y' := (⟨"com/example/refinement/refinement/io/CodePointOrderComparePinLaw", "decode", "([CI[I)V"⟩ : MethodName)) (c_dec hw b1 b85 x3 x6 x9 ln _ f87 f88 g0_b85 (Nat.ne_of_lt (Nat.lt_of_lt_of_le (Nat.lt_of_lt_of_le (Nat.lt_of_lt_of_le f81.lt K82.1) K84.1) (Nat.le_of_eq gb85.symm))) (own_ln h_ln)) all0 (w32 hw) (w33 hw) (w3 hw) (w34 hw) (by decide) at_162 (rest := []) rfl rfl (lenOf pd20 rfl) rfl (by decide) (Nat.le_of_ble_eq_true rfl) (by decide) (by decide) (q := 165) rfl ?_
        intro v89 vm89 T89 h89 l89 X89 R89 q89
        obtain ⟨rfl, K89, V89⟩ := q89
        show Goes p e below _ T89 (mkF m 165 #[.val (.long p0), .second, .val (.long p1), .second, .val (.int p2), .val (.ref b1), .val (.ref b2), .val (.int ln), .val (.int rn), .val (.ref t82), .val (.ref t84), .val (.ref b85), .val (.ref b86), .unset] [])
        refine o_aload X89 at_165 rfl rfl (q := 167) rfl ?_
        refine o_iload X89 at_167 rfl (q := 169) rfl ?_
        refine o_aload X89 at_169 rfl rfl (q := 171) rfl ?_
        have f90 := ((((f83.keep K84 nin0).ext E85).ext E86).keep K89 (ninS (Nat.ne_of_lt (Nat.lt_of_lt_of_le (Nat.lt_of_lt_of_le f83.lt K84.1) (Nat.le_of_eq gb85.symm))) nin0))
        have f91 := (V86.keep K89 (ninS (Ne.symm (Nat.ne_of_lt (Nat.lt_of_lt_of_le V85.lt (Nat.le_of_eq gb86.symm)))) nin0))
        refine o_stat X89 [(.ref b2), (.int rn), (.ref b86)] (y' := (⟨"com/example/refinement/refinement/io/CodePointOrderComparePinLaw", "decode", "([CI[I)V"⟩ : MethodName)) (c_dec hw b2 b86 x12 x6 x9 rn _ f90 f91 g0_b86 (Nat.ne_of_lt (Nat.lt_of_lt_of_le (Nat.lt_of_lt_of_le (Nat.lt_of_lt_of_le f83.lt K84.1) E85.1) (Nat.le_of_eq gb86.symm))) (own_ln h_rn)) all0 (w32 hw) (w33 hw) (w3 hw) (w34 hw) (by decide) at_171 (rest := []) rfl rfl (lenOf pd20 rfl) rfl (by decide) (Nat.le_of_ble_eq_true rfl) (by decide) (by decide) (q := 174) rfl ?_
        intro v92 vm92 T92 h92 l92 X92 R92 q92
        obtain ⟨rfl, K92, V92⟩ := q92
        show Goes p e below _ T92 (mkF m 174 #[.val (.long p0), .second, .val (.long p1), .second, .val (.int p2), .val (.ref b1), .val (.ref b2), .val (.int ln), .val (.int rn), .val (.ref t82), .val (.ref t84), .val (.ref b85), .val (.ref b86), .unset] [])
        refine o_aload X92 at_174 rfl rfl (q := 176) rfl ?_
        refine o_aload X92 at_176 rfl rfl (q := 178) rfl ?_
        have f93 := (V89.keep K92 (ninS (Nat.ne_of_lt (Nat.lt_of_lt_of_le V85.lt (Nat.le_of_eq gb86.symm))) nin0))
        refine o_stat X92 [(.ref b85), (.ref b86)] (y' := (⟨"com/example/refinement/refinement/io/CodePointOrderComparePinLaw", "lex", "([I[I)I"⟩ : MethodName)) (c_lex hw b85 b86 ((cps (takeC ln x3 x6 x9)).getD 0 0) ((cps (takeC ln x3 x6 x9)).getD 1 0) ((cps (takeC ln x3 x6 x9)).getD 2 0) (Int32.ofNat (cps (takeC ln x3 x6 x9)).length) ((cps (takeC rn x12 x6 x9)).getD 0 0) ((cps (takeC rn x12 x6 x9)).getD 1 0) ((cps (takeC rn x12 x6 x9)).getD 2 0) (Int32.ofNat (cps (takeC rn x12 x6 x9)).length) _ f93 V92) all0 (w41 hw) (w42 hw) (w3 hw) (w43 hw) (by decide) at_178 (rest := []) rfl rfl (lenOf pd21 rfl) rfl (by decide) (Nat.le_of_ble_eq_true rfl) (by decide) (by decide) (q := 181) rfl ?_
        intro v94 vm94 T94 h94 l94 X94 R94 q94
        obtain ⟨z94, rfl, e94, hz94⟩ := q94
        have e94 := e94.symm
        subst e94
        show Goes p e below _ T94 (mkF m 181 #[.val (.long p0), .second, .val (.long p1), .second, .val (.int p2), .val (.ref b1), .val (.ref b2), .val (.int ln), .val (.int rn), .val (.ref t82), .val (.ref t84), .val (.ref b85), .val (.ref b86), .unset] [(.int z94)])
        refine o_istore X94 at_181 rfl (L' := #[.val (.long p0), .second, .val (.long p1), .second, .val (.int p2), .val (.ref b1), .val (.ref b2), .val (.int ln), .val (.int rn), .val (.ref t82), .val (.ref t84), .val (.ref b85), .val (.ref b86), .val (.int z94)]) rfl (q := 183) rfl ?_
        refine o_aload X94 at_183 rfl rfl (q := 185) rfl ?_
        refine o_aload X94 at_185 rfl rfl (q := 187) rfl ?_
        have f95 := (((((U82.keep K84 nin0 nin0).ext E85).ext E86).keep K89 (ninS (Nat.ne_of_lt (Nat.lt_of_lt_of_le (Nat.lt_of_lt_of_le U82.lt K84.1) (Nat.le_of_eq gb85.symm))) nin0) (ninS (Nat.ne_of_lt (Nat.lt_of_lt_of_le (Nat.lt_of_lt_of_le U82.blt K84.1) (Nat.le_of_eq gb85.symm))) nin0)).keep K92 (ninS (Nat.ne_of_lt (Nat.lt_of_lt_of_le (Nat.lt_of_lt_of_le (Nat.lt_of_lt_of_le U82.lt K84.1) E85.1) (Nat.le_of_eq gb86.symm))) nin0) (ninS (Nat.ne_of_lt (Nat.lt_of_lt_of_le (Nat.lt_of_lt_of_le (Nat.lt_of_lt_of_le U82.blt K84.1) E85.1) (Nat.le_of_eq gb86.symm))) nin0))
        have f96 := ((((U84.ext E85).ext E86).keep K89 (ninS (Nat.ne_of_lt (Nat.lt_of_lt_of_le U84.lt (Nat.le_of_eq gb85.symm))) nin0) (ninS (Nat.ne_of_lt (Nat.lt_of_lt_of_le U84.blt (Nat.le_of_eq gb85.symm))) nin0)).keep K92 (ninS (Nat.ne_of_lt (Nat.lt_of_lt_of_le (U84.ext E85).lt (Nat.le_of_eq gb86.symm))) nin0) (ninS (Nat.ne_of_lt (Nat.lt_of_lt_of_le (Nat.lt_of_lt_of_le U84.blt E85.1) (Nat.le_of_eq gb86.symm))) nin0))
        refine o_stat X94 [(.ref t82), (.ref t84)] (y' := (⟨"com/example/refinement/refinement/io/CodePointOrder", "compare", "(Ljava/lang/String;Ljava/lang/String;)I"⟩ : MethodName)) (c_cmp hw t82 b82 kb82 (takeC ln x3 x6 x9) t84 b84 kb84 (takeC rn x12 x6 x9) _ O2 P5 O4 rfm SA SH SL f95 f96) all0 (w44 hw) (w45 hw) (w46 hw) (w47 hw) (by decide) at_187 (rest := []) rfl rfl (lenOf pd22 rfl) rfl (by decide) (Nat.le_of_ble_eq_true rfl) (by decide) (by decide) (q := 190) rfl ?_
        intro v97 vm97 T97 h97 l97 X97 R97 q97
        obtain ⟨z97, rfl, e97, hz97⟩ := q97
        have e97 := e97.symm
        subst e97
        show Goes p e below _ T97 (mkF m 190 #[.val (.long p0), .second, .val (.long p1), .second, .val (.int p2), .val (.ref b1), .val (.ref b2), .val (.int ln), .val (.int rn), .val (.ref t82), .val (.ref t84), .val (.ref b85), .val (.ref b86), .val (.int z94)] [(.int z97)])
        refine o_iload X97 at_190 rfl (q := 192) rfl ?_
        refine o_icmpN X97 at_192 (teq (hz97.trans ((own_lex (own_takel _ _ _ _) (own_takel _ _ _ _)).symm.trans hz94.symm))).2 (q := 195) rfl ?_
        refine o_iconst X97 at_195 (w := 1) rfl (q := 196) rfl ?_
        refine o_goto X97 at_196 (by decide) (q := 200) (by decide) ?_
        exact o_retN X97 at_200 (by simp) (fun Sf hSf => rfl) (by decide) (by decide)
  · refine o_ifN X11 at_44 (feq hc44).1 (q := 47) rfl ?_
    refine o_aload X11 at_47 rfl rfl (q := 49) rfl ?_
    refine o_iconst X11 at_49 (w := 0) rfl (q := 50) rfl ?_
    refine o_caload X11 V11 (by decide) (v := (.int x3)) rfl at_50 (q := 51) rfl ?_
    refine o_goto X11 at_51 (by decide) (q := 59) (by decide) ?_
    have f98 := (((V2.other W5 (Ne.symm (Nat.ne_of_lt (Nat.lt_of_lt_of_le V1.lt (Nat.le_of_eq gb2.symm))))).other W8 (Ne.symm (Nat.ne_of_lt (Nat.lt_of_lt_of_le V1.lt (Nat.le_of_eq gb2.symm))))).other W11 (Ne.symm (Nat.ne_of_lt (Nat.lt_of_lt_of_le V1.lt (Nat.le_of_eq gb2.symm)))))
    refine o_castore X11 0 f98 g0_b2 (Safe.arv X11.alike f98 (by decide)) (by decide) rfl (Nat.le_of_ble_eq_true rfl) (v := (.int x3)) (by rw [own_narc rg3]) at_59 (q := 60) rfl ?_
    intro T99 h99 l99 X99 W99 R99 V99
    have V99 : Arv Z h99 b2 k2 .char (3 : Int32) [(.int x3), (.int (0 : Int32)), (.int (0 : Int32))] (.int (0 : Int32)) := V99
    refine o_aload X99 at_60 rfl rfl (q := 62) rfl ?_
    refine o_iconst X99 at_62 (w := 1) rfl (q := 63) rfl ?_
    refine o_iload X99 at_63 rfl (q := 65) rfl ?_
    refine o_iconst X99 at_65 (w := 2) rfl (q := 66) rfl ?_
    refine o_iand X99 at_66 (w := (p2 &&& (2 : Int32))) rfl (q := 67) rfl ?_
    by_cases hc67 : (p2 &&& (2 : Int32)) = (0 : Int32)
    · refine o_ifY X99 at_67 (teq hc67).1 (by decide) (q := 77) (by decide) ?_
      refine o_lloadN X99 at_77 rfl (q := 78) rfl ?_
      refine o_iconst X99 at_78 (w := 1) rfl (q := 79) rfl ?_
      refine o_stat X99 [(.long p1), (.int (1 : Int32))] (y' := (⟨"com/example/refinement/refinement/io/CodePointOrderComparePinLaw", "draw", "(JI)C"⟩ : MethodName)) (c_draw hw p1 (1 : Int32) _) all0 (w1 hw) (w2 hw) (w3 hw) (w4 hw) (by decide) at_79 (rest := [(.int (1 : Int32)), (.ref b2)]) rfl rfl (lenOf pd18 rfl) rfl (by decide) (Nat.le_of_ble_eq_true rfl) (by decide) (by decide) (q := 82) rfl ?_
      intro v100 vm100 T100 h100 l100 X100 R100 q100
      obtain ⟨x100, rfl, e100, rg100⟩ := q100
      have e100 := e100.symm
      subst e100
      show Goes p e below _ T100 (mkF m 82 #[.val (.long p0), .second, .val (.long p1), .second, .val (.int p2), .val (.ref b1), .val (.ref b2), .unset, .unset, .unset, .unset, .unset, .unset, .unset] [(.int x100), (.int (1 : Int32)), (.ref b2)])
      have f101 := V99
      refine o_castore X100 1 f101 g0_b2 (Safe.arv X100.alike f101 (by decide)) (by decide) rfl (Nat.le_of_ble_eq_true rfl) (v := (.int x100)) (by rw [own_narc rg100]) at_82 (q := 83) rfl ?_
      intro T102 h102 l102 X102 W102 R102 V102
      have V102 : Arv Z h102 b2 k2 .char (3 : Int32) [(.int x3), (.int x100), (.int (0 : Int32))] (.int (0 : Int32)) := V102
      refine o_aload X102 at_83 rfl rfl (q := 85) rfl ?_
      refine o_iconst X102 at_85 (w := 2) rfl (q := 86) rfl ?_
      refine o_iload X102 at_86 rfl (q := 88) rfl ?_
      refine o_iconst X102 at_88 (w := 4) rfl (q := 89) rfl ?_
      refine o_iand X102 at_89 (w := (p2 &&& (4 : Int32))) rfl (q := 90) rfl ?_
      by_cases hc90 : (p2 &&& (4 : Int32)) = (0 : Int32)
      · refine o_ifY X102 at_90 (teq hc90).1 (by decide) (q := 100) (by decide) ?_
        refine o_lloadN X102 at_100 rfl (q := 101) rfl ?_
        refine o_iconst X102 at_101 (w := 2) rfl (q := 102) rfl ?_
        refine o_stat X102 [(.long p1), (.int (2 : Int32))] (y' := (⟨"com/example/refinement/refinement/io/CodePointOrderComparePinLaw", "draw", "(JI)C"⟩ : MethodName)) (c_draw hw p1 (2 : Int32) _) all0 (w1 hw) (w2 hw) (w3 hw) (w4 hw) (by decide) at_102 (rest := [(.int (2 : Int32)), (.ref b2)]) rfl rfl (lenOf pd18 rfl) rfl (by decide) (Nat.le_of_ble_eq_true rfl) (by decide) (by decide) (q := 105) rfl ?_
        intro v103 vm103 T103 h103 l103 X103 R103 q103
        obtain ⟨x103, rfl, e103, rg103⟩ := q103
        have e103 := e103.symm
        subst e103
        show Goes p e below _ T103 (mkF m 105 #[.val (.long p0), .second, .val (.long p1), .second, .val (.int p2), .val (.ref b1), .val (.ref b2), .unset, .unset, .unset, .unset, .unset, .unset, .unset] [(.int x103), (.int (2 : Int32)), (.ref b2)])
        have f104 := V102
        refine o_castore X103 2 f104 g0_b2 (Safe.arv X103.alike f104 (by decide)) (by decide) rfl (Nat.le_of_ble_eq_true rfl) (v := (.int x103)) (by rw [own_narc rg103]) at_105 (q := 106) rfl ?_
        intro T105 h105 l105 X105 W105 R105 V105
        have V105 : Arv Z h105 b2 k2 .char (3 : Int32) [(.int x3), (.int x100), (.int x103)] (.int (0 : Int32)) := V105
        refine o_lloadN X105 at_106 rfl (q := 107) rfl ?_
        refine o_bipush X105 at_107 (w := 48) rfl (q := 109) rfl ?_
        refine o_lushr X105 at_109 (w := ((p0.toUInt64 >>> ((48 : Int32) &&& 0x3f).toInt64.toUInt64).toInt64)) rfl (q := 110) rfl ?_
        refine o_ldcJ X105 (w6 hw) at_110 (q := 113) rfl ?_
        refine o_land X105 at_113 (w := (((p0.toUInt64 >>> ((48 : Int32) &&& 0x3f).toInt64.toUInt64).toInt64) &&& (3 : Int64))) rfl (q := 114) rfl ?_
        refine o_l2i X105 at_114 (w := ((((p0.toUInt64 >>> ((48 : Int32) &&& 0x3f).toInt64.toUInt64).toInt64) &&& (3 : Int64)).toInt32)) rfl (q := 115) rfl ?_
        obtain ⟨ln, h_ln⟩ : ∃ z : Int32, ((((p0.toUInt64 >>> ((48 : Int32) &&& 0x3f).toInt64.toUInt64).toInt64) &&& (3 : Int64)).toInt32) = z := ⟨_, rfl⟩
        refine o_istore X105 at_115 h_ln (L' := #[.val (.long p0), .second, .val (.long p1), .second, .val (.int p2), .val (.ref b1), .val (.ref b2), .val (.int ln), .unset, .unset, .unset, .unset, .unset, .unset]) rfl (q := 117) rfl ?_
        refine o_lloadN X105 at_117 rfl (q := 118) rfl ?_
        refine o_bipush X105 at_118 (w := 48) rfl (q := 120) rfl ?_
        refine o_lushr X105 at_120 (w := ((p1.toUInt64 >>> ((48 : Int32) &&& 0x3f).toInt64.toUInt64).toInt64)) rfl (q := 121) rfl ?_
        refine o_ldcJ X105 (w6 hw) at_121 (q := 124) rfl ?_
        refine o_land X105 at_124 (w := (((p1.toUInt64 >>> ((48 : Int32) &&& 0x3f).toInt64.toUInt64).toInt64) &&& (3 : Int64))) rfl (q := 125) rfl ?_
        refine o_l2i X105 at_125 (w := ((((p1.toUInt64 >>> ((48 : Int32) &&& 0x3f).toInt64.toUInt64).toInt64) &&& (3 : Int64)).toInt32)) rfl (q := 126) rfl ?_
        obtain ⟨rn, h_rn⟩ : ∃ z : Int32, ((((p1.toUInt64 >>> ((48 : Int32) &&& 0x3f).toInt64.toUInt64).toInt64) &&& (3 : Int64)).toInt32) = z := ⟨_, rfl⟩
        refine o_istore X105 at_126 h_rn (L' := #[.val (.long p0), .second, .val (.long p1), .second, .val (.int p2), .val (.ref b1), .val (.ref b2), .val (.int ln), .val (.int rn), .unset, .unset, .unset, .unset, .unset]) rfl (q := 128) rfl ?_
        refine o_aload X105 at_128 rfl rfl (q := 130) rfl ?_
        refine o_iload X105 at_130 rfl (q := 132) rfl ?_
        have f106 := (((V11.other W99 (Nat.ne_of_lt (Nat.lt_of_lt_of_le V1.lt (Nat.le_of_eq gb2.symm)))).other W102 (Nat.ne_of_lt (Nat.lt_of_lt_of_le V1.lt (Nat.le_of_eq gb2.symm)))).other W105 (Nat.ne_of_lt (Nat.lt_of_lt_of_le V1.lt (Nat.le_of_eq gb2.symm))))
        refine o_stat X105 [(.ref b1), (.int ln)] (y' := (⟨"com/example/refinement/refinement/io/CodePointOrderComparePinLaw", "make", "([CI)Ljava/lang/String;"⟩ : MethodName)) (c_mk hw b1 x3 x6 x9 ln _ O2 P5 SA SH SL f106 rg3 rg6 rg9 (own_ln h_ln)) all0 (w7 hw) (w8 hw) (w3 hw) (w9 hw) (by decide) at_132 (rest := []) rfl rfl (lenOf pd19 rfl) rfl (by decide) (Nat.le_of_ble_eq_true rfl) (by decide) (by decide) (q := 135) rfl ?_
        intro v107 vm107 T107 h107 l107 X107 R107 q107
        obtain ⟨t107, b107, kb107, rfl, K107, U107⟩ := q107
        show Goes p e below _ T107 (mkF m 135 #[.val (.long p0), .second, .val (.long p1), .second, .val (.int p2), .val (.ref b1), .val (.ref b2), .val (.int ln), .val (.int rn), .unset, .unset, .unset, .unset, .unset] [(.ref t107)])
        refine o_astore X107 at_135 rfl (L' := #[.val (.long p0), .second, .val (.long p1), .second, .val (.int p2), .val (.ref b1), .val (.ref b2), .val (.int ln), .val (.int rn), .val (.ref t107), .unset, .unset, .unset, .unset]) rfl (q := 137) rfl ?_
        refine o_aload X107 at_137 rfl rfl (q := 139) rfl ?_
        refine o_iload X107 at_139 rfl (q := 141) rfl ?_
        have f108 := (V105.keep K107 nin0)
        refine o_stat X107 [(.ref b2), (.int rn)] (y' := (⟨"com/example/refinement/refinement/io/CodePointOrderComparePinLaw", "make", "([CI)Ljava/lang/String;"⟩ : MethodName)) (c_mk hw b2 x3 x100 x103 rn _ O2 P5 SA SH SL f108 rg3 rg100 rg103 (own_ln h_rn)) all0 (w7 hw) (w8 hw) (w3 hw) (w9 hw) (by decide) at_141 (rest := []) rfl rfl (lenOf pd19 rfl) rfl (by decide) (Nat.le_of_ble_eq_true rfl) (by decide) (by decide) (q := 144) rfl ?_
        intro v109 vm109 T109 h109 l109 X109 R109 q109
        obtain ⟨t109, b109, kb109, rfl, K109, U109⟩ := q109
        show Goes p e below _ T109 (mkF m 144 #[.val (.long p0), .second, .val (.long p1), .second, .val (.int p2), .val (.ref b1), .val (.ref b2), .val (.int ln), .val (.int rn), .val (.ref t107), .unset, .unset, .unset, .unset] [(.ref t109)])
        refine o_astore X109 at_144 rfl (L' := #[.val (.long p0), .second, .val (.long p1), .second, .val (.int p2), .val (.ref b1), .val (.ref b2), .val (.int ln), .val (.int rn), .val (.ref t107), .val (.ref t109), .unset, .unset, .unset]) rfl (q := 146) rfl ?_
        refine o_iconst X109 at_146 (w := 4) rfl (q := 147) rfl ?_
        refine o_newarr X109 (aty := .int) (cap := 4) 4 (w31 hw) at_147 (by decide) (by decide) (by decide) (by decide) (by decide) (q := 149) rfl ?_
        intro T110 h110 b110 k110 gb110 X110 E110 R110 S110 V110 g0_b110
        have V110 : Arv Z h110 b110 k110 .int (4 : Int32) [(.int (0 : Int32)), (.int (0 : Int32)), (.int (0 : Int32)), (.int (0 : Int32))] (.int (0 : Int32)) := V110
        refine o_astore X110 at_149 rfl (L' := #[.val (.long p0), .second, .val (.long p1), .second, .val (.int p2), .val (.ref b1), .val (.ref b2), .val (.int ln), .val (.int rn), .val (.ref t107), .val (.ref t109), .val (.ref b110), .unset, .unset]) rfl (q := 151) rfl ?_
        refine o_iconst X110 at_151 (w := 4) rfl (q := 152) rfl ?_
        refine o_newarr X110 (aty := .int) (cap := 4) 4 (w31 hw) at_152 (by decide) (by decide) (by decide) (by decide) (by decide) (q := 154) rfl ?_
        intro T111 h111 b111 k111 gb111 X111 E111 R111 S111 V111 g0_b111
        have V111 : Arv Z h111 b111 k111 .int (4 : Int32) [(.int (0 : Int32)), (.int (0 : Int32)), (.int (0 : Int32)), (.int (0 : Int32))] (.int (0 : Int32)) := V111
        refine o_astore X111 at_154 rfl (L' := #[.val (.long p0), .second, .val (.long p1), .second, .val (.int p2), .val (.ref b1), .val (.ref b2), .val (.int ln), .val (.int rn), .val (.ref t107), .val (.ref t109), .val (.ref b110), .val (.ref b111), .unset]) rfl (q := 156) rfl ?_
        refine o_aload X111 at_156 rfl rfl (q := 158) rfl ?_
        refine o_iload X111 at_158 rfl (q := 160) rfl ?_
        refine o_aload X111 at_160 rfl rfl (q := 162) rfl ?_
        have f112 := ((((f106.keep K107 nin0).keep K109 nin0).ext E110).ext E111)
        have f113 := (V110.ext E111)
        refine o_stat X111 [(.ref b1), (.int ln), (.ref b110)] (y' := (⟨"com/example/refinement/refinement/io/CodePointOrderComparePinLaw", "decode", "([CI[I)V"⟩ : MethodName)) (c_dec hw b1 b110 x3 x6 x9 ln _ f112 f113 g0_b110 (Nat.ne_of_lt (Nat.lt_of_lt_of_le (Nat.lt_of_lt_of_le (Nat.lt_of_lt_of_le f106.lt K107.1) K109.1) (Nat.le_of_eq gb110.symm))) (own_ln h_ln)) all0 (w32 hw) (w33 hw) (w3 hw) (w34 hw) (by decide) at_162 (rest := []) rfl rfl (lenOf pd20 rfl) rfl (by decide) (Nat.le_of_ble_eq_true rfl) (by decide) (by decide) (q := 165) rfl ?_
        intro v114 vm114 T114 h114 l114 X114 R114 q114
        obtain ⟨rfl, K114, V114⟩ := q114
        show Goes p e below _ T114 (mkF m 165 #[.val (.long p0), .second, .val (.long p1), .second, .val (.int p2), .val (.ref b1), .val (.ref b2), .val (.int ln), .val (.int rn), .val (.ref t107), .val (.ref t109), .val (.ref b110), .val (.ref b111), .unset] [])
        refine o_aload X114 at_165 rfl rfl (q := 167) rfl ?_
        refine o_iload X114 at_167 rfl (q := 169) rfl ?_
        refine o_aload X114 at_169 rfl rfl (q := 171) rfl ?_
        have f115 := ((((f108.keep K109 nin0).ext E110).ext E111).keep K114 (ninS (Nat.ne_of_lt (Nat.lt_of_lt_of_le (Nat.lt_of_lt_of_le f108.lt K109.1) (Nat.le_of_eq gb110.symm))) nin0))
        have f116 := (V111.keep K114 (ninS (Ne.symm (Nat.ne_of_lt (Nat.lt_of_lt_of_le V110.lt (Nat.le_of_eq gb111.symm)))) nin0))
        refine o_stat X114 [(.ref b2), (.int rn), (.ref b111)] (y' := (⟨"com/example/refinement/refinement/io/CodePointOrderComparePinLaw", "decode", "([CI[I)V"⟩ : MethodName)) (c_dec hw b2 b111 x3 x100 x103 rn _ f115 f116 g0_b111 (Nat.ne_of_lt (Nat.lt_of_lt_of_le (Nat.lt_of_lt_of_le (Nat.lt_of_lt_of_le f108.lt K109.1) E110.1) (Nat.le_of_eq gb111.symm))) (own_ln h_rn)) all0 (w32 hw) (w33 hw) (w3 hw) (w34 hw) (by decide) at_171 (rest := []) rfl rfl (lenOf pd20 rfl) rfl (by decide) (Nat.le_of_ble_eq_true rfl) (by decide) (by decide) (q := 174) rfl ?_
        intro v117 vm117 T117 h117 l117 X117 R117 q117
        obtain ⟨rfl, K117, V117⟩ := q117
        show Goes p e below _ T117 (mkF m 174 #[.val (.long p0), .second, .val (.long p1), .second, .val (.int p2), .val (.ref b1), .val (.ref b2), .val (.int ln), .val (.int rn), .val (.ref t107), .val (.ref t109), .val (.ref b110), .val (.ref b111), .unset] [])
        refine o_aload X117 at_174 rfl rfl (q := 176) rfl ?_
        refine o_aload X117 at_176 rfl rfl (q := 178) rfl ?_
        have f118 := (V114.keep K117 (ninS (Nat.ne_of_lt (Nat.lt_of_lt_of_le V110.lt (Nat.le_of_eq gb111.symm))) nin0))
        refine o_stat X117 [(.ref b110), (.ref b111)] (y' := (⟨"com/example/refinement/refinement/io/CodePointOrderComparePinLaw", "lex", "([I[I)I"⟩ : MethodName)) (c_lex hw b110 b111 ((cps (takeC ln x3 x6 x9)).getD 0 0) ((cps (takeC ln x3 x6 x9)).getD 1 0) ((cps (takeC ln x3 x6 x9)).getD 2 0) (Int32.ofNat (cps (takeC ln x3 x6 x9)).length) ((cps (takeC rn x3 x100 x103)).getD 0 0) ((cps (takeC rn x3 x100 x103)).getD 1 0) ((cps (takeC rn x3 x100 x103)).getD 2 0) (Int32.ofNat (cps (takeC rn x3 x100 x103)).length) _ f118 V117) all0 (w41 hw) (w42 hw) (w3 hw) (w43 hw) (by decide) at_178 (rest := []) rfl rfl (lenOf pd21 rfl) rfl (by decide) (Nat.le_of_ble_eq_true rfl) (by decide) (by decide) (q := 181) rfl ?_
        intro v119 vm119 T119 h119 l119 X119 R119 q119
        obtain ⟨z119, rfl, e119, hz119⟩ := q119
        have e119 := e119.symm
        subst e119
        show Goes p e below _ T119 (mkF m 181 #[.val (.long p0), .second, .val (.long p1), .second, .val (.int p2), .val (.ref b1), .val (.ref b2), .val (.int ln), .val (.int rn), .val (.ref t107), .val (.ref t109), .val (.ref b110), .val (.ref b111), .unset] [(.int z119)])
        refine o_istore X119 at_181 rfl (L' := #[.val (.long p0), .second, .val (.long p1), .second, .val (.int p2), .val (.ref b1), .val (.ref b2), .val (.int ln), .val (.int rn), .val (.ref t107), .val (.ref t109), .val (.ref b110), .val (.ref b111), .val (.int z119)]) rfl (q := 183) rfl ?_
        refine o_aload X119 at_183 rfl rfl (q := 185) rfl ?_
        refine o_aload X119 at_185 rfl rfl (q := 187) rfl ?_
        have f120 := (((((U107.keep K109 nin0 nin0).ext E110).ext E111).keep K114 (ninS (Nat.ne_of_lt (Nat.lt_of_lt_of_le (Nat.lt_of_lt_of_le U107.lt K109.1) (Nat.le_of_eq gb110.symm))) nin0) (ninS (Nat.ne_of_lt (Nat.lt_of_lt_of_le (Nat.lt_of_lt_of_le U107.blt K109.1) (Nat.le_of_eq gb110.symm))) nin0)).keep K117 (ninS (Nat.ne_of_lt (Nat.lt_of_lt_of_le (Nat.lt_of_lt_of_le (Nat.lt_of_lt_of_le U107.lt K109.1) E110.1) (Nat.le_of_eq gb111.symm))) nin0) (ninS (Nat.ne_of_lt (Nat.lt_of_lt_of_le (Nat.lt_of_lt_of_le (Nat.lt_of_lt_of_le U107.blt K109.1) E110.1) (Nat.le_of_eq gb111.symm))) nin0))
        have f121 := ((((U109.ext E110).ext E111).keep K114 (ninS (Nat.ne_of_lt (Nat.lt_of_lt_of_le U109.lt (Nat.le_of_eq gb110.symm))) nin0) (ninS (Nat.ne_of_lt (Nat.lt_of_lt_of_le U109.blt (Nat.le_of_eq gb110.symm))) nin0)).keep K117 (ninS (Nat.ne_of_lt (Nat.lt_of_lt_of_le (U109.ext E110).lt (Nat.le_of_eq gb111.symm))) nin0) (ninS (Nat.ne_of_lt (Nat.lt_of_lt_of_le (Nat.lt_of_lt_of_le U109.blt E110.1) (Nat.le_of_eq gb111.symm))) nin0))
        refine o_stat X119 [(.ref t107), (.ref t109)] (y' := (⟨"com/example/refinement/refinement/io/CodePointOrder", "compare", "(Ljava/lang/String;Ljava/lang/String;)I"⟩ : MethodName)) (c_cmp hw t107 b107 kb107 (takeC ln x3 x6 x9) t109 b109 kb109 (takeC rn x3 x100 x103) _ O2 P5 O4 rfm SA SH SL f120 f121) all0 (w44 hw) (w45 hw) (w46 hw) (w47 hw) (by decide) at_187 (rest := []) rfl rfl (lenOf pd22 rfl) rfl (by decide) (Nat.le_of_ble_eq_true rfl) (by decide) (by decide) (q := 190) rfl ?_
        intro v122 vm122 T122 h122 l122 X122 R122 q122
        obtain ⟨z122, rfl, e122, hz122⟩ := q122
        have e122 := e122.symm
        subst e122
        show Goes p e below _ T122 (mkF m 190 #[.val (.long p0), .second, .val (.long p1), .second, .val (.int p2), .val (.ref b1), .val (.ref b2), .val (.int ln), .val (.int rn), .val (.ref t107), .val (.ref t109), .val (.ref b110), .val (.ref b111), .val (.int z119)] [(.int z122)])
        refine o_iload X122 at_190 rfl (q := 192) rfl ?_
        refine o_icmpN X122 at_192 (teq (hz122.trans ((own_lex (own_takel _ _ _ _) (own_takel _ _ _ _)).symm.trans hz119.symm))).2 (q := 195) rfl ?_
        refine o_iconst X122 at_195 (w := 1) rfl (q := 196) rfl ?_
        refine o_goto X122 at_196 (by decide) (q := 200) (by decide) ?_
        exact o_retN X122 at_200 (by simp) (fun Sf hSf => rfl) (by decide) (by decide)
      · refine o_ifN X102 at_90 (feq hc90).1 (q := 93) rfl ?_
        refine o_aload X102 at_93 rfl rfl (q := 95) rfl ?_
        refine o_iconst X102 at_95 (w := 2) rfl (q := 96) rfl ?_
        have f123 := ((V11.other W99 (Nat.ne_of_lt (Nat.lt_of_lt_of_le V1.lt (Nat.le_of_eq gb2.symm)))).other W102 (Nat.ne_of_lt (Nat.lt_of_lt_of_le V1.lt (Nat.le_of_eq gb2.symm))))
        refine o_caload X102 f123 (by decide) (v := (.int x9)) rfl at_96 (q := 97) rfl ?_
        refine o_goto X102 at_97 (by decide) (q := 105) (by decide) ?_
        refine o_castore X102 2 V102 g0_b2 (Safe.arv X102.alike V102 (by decide)) (by decide) rfl (Nat.le_of_ble_eq_true rfl) (v := (.int x9)) (by rw [own_narc rg9]) at_105 (q := 106) rfl ?_
        intro T124 h124 l124 X124 W124 R124 V124
        have V124 : Arv Z h124 b2 k2 .char (3 : Int32) [(.int x3), (.int x100), (.int x9)] (.int (0 : Int32)) := V124
        refine o_lloadN X124 at_106 rfl (q := 107) rfl ?_
        refine o_bipush X124 at_107 (w := 48) rfl (q := 109) rfl ?_
        refine o_lushr X124 at_109 (w := ((p0.toUInt64 >>> ((48 : Int32) &&& 0x3f).toInt64.toUInt64).toInt64)) rfl (q := 110) rfl ?_
        refine o_ldcJ X124 (w6 hw) at_110 (q := 113) rfl ?_
        refine o_land X124 at_113 (w := (((p0.toUInt64 >>> ((48 : Int32) &&& 0x3f).toInt64.toUInt64).toInt64) &&& (3 : Int64))) rfl (q := 114) rfl ?_
        refine o_l2i X124 at_114 (w := ((((p0.toUInt64 >>> ((48 : Int32) &&& 0x3f).toInt64.toUInt64).toInt64) &&& (3 : Int64)).toInt32)) rfl (q := 115) rfl ?_
        obtain ⟨ln, h_ln⟩ : ∃ z : Int32, ((((p0.toUInt64 >>> ((48 : Int32) &&& 0x3f).toInt64.toUInt64).toInt64) &&& (3 : Int64)).toInt32) = z := ⟨_, rfl⟩
        refine o_istore X124 at_115 h_ln (L' := #[.val (.long p0), .second, .val (.long p1), .second, .val (.int p2), .val (.ref b1), .val (.ref b2), .val (.int ln), .unset, .unset, .unset, .unset, .unset, .unset]) rfl (q := 117) rfl ?_
        refine o_lloadN X124 at_117 rfl (q := 118) rfl ?_
        refine o_bipush X124 at_118 (w := 48) rfl (q := 120) rfl ?_
        refine o_lushr X124 at_120 (w := ((p1.toUInt64 >>> ((48 : Int32) &&& 0x3f).toInt64.toUInt64).toInt64)) rfl (q := 121) rfl ?_
        refine o_ldcJ X124 (w6 hw) at_121 (q := 124) rfl ?_
        refine o_land X124 at_124 (w := (((p1.toUInt64 >>> ((48 : Int32) &&& 0x3f).toInt64.toUInt64).toInt64) &&& (3 : Int64))) rfl (q := 125) rfl ?_
        refine o_l2i X124 at_125 (w := ((((p1.toUInt64 >>> ((48 : Int32) &&& 0x3f).toInt64.toUInt64).toInt64) &&& (3 : Int64)).toInt32)) rfl (q := 126) rfl ?_
        obtain ⟨rn, h_rn⟩ : ∃ z : Int32, ((((p1.toUInt64 >>> ((48 : Int32) &&& 0x3f).toInt64.toUInt64).toInt64) &&& (3 : Int64)).toInt32) = z := ⟨_, rfl⟩
        refine o_istore X124 at_126 h_rn (L' := #[.val (.long p0), .second, .val (.long p1), .second, .val (.int p2), .val (.ref b1), .val (.ref b2), .val (.int ln), .val (.int rn), .unset, .unset, .unset, .unset, .unset]) rfl (q := 128) rfl ?_
        refine o_aload X124 at_128 rfl rfl (q := 130) rfl ?_
        refine o_iload X124 at_130 rfl (q := 132) rfl ?_
        have f125 := (f123.other W124 (Nat.ne_of_lt (Nat.lt_of_lt_of_le V1.lt (Nat.le_of_eq gb2.symm))))
        refine o_stat X124 [(.ref b1), (.int ln)] (y' := (⟨"com/example/refinement/refinement/io/CodePointOrderComparePinLaw", "make", "([CI)Ljava/lang/String;"⟩ : MethodName)) (c_mk hw b1 x3 x6 x9 ln _ O2 P5 SA SH SL f125 rg3 rg6 rg9 (own_ln h_ln)) all0 (w7 hw) (w8 hw) (w3 hw) (w9 hw) (by decide) at_132 (rest := []) rfl rfl (lenOf pd19 rfl) rfl (by decide) (Nat.le_of_ble_eq_true rfl) (by decide) (by decide) (q := 135) rfl ?_
        intro v126 vm126 T126 h126 l126 X126 R126 q126
        obtain ⟨t126, b126, kb126, rfl, K126, U126⟩ := q126
        show Goes p e below _ T126 (mkF m 135 #[.val (.long p0), .second, .val (.long p1), .second, .val (.int p2), .val (.ref b1), .val (.ref b2), .val (.int ln), .val (.int rn), .unset, .unset, .unset, .unset, .unset] [(.ref t126)])
        refine o_astore X126 at_135 rfl (L' := #[.val (.long p0), .second, .val (.long p1), .second, .val (.int p2), .val (.ref b1), .val (.ref b2), .val (.int ln), .val (.int rn), .val (.ref t126), .unset, .unset, .unset, .unset]) rfl (q := 137) rfl ?_
        refine o_aload X126 at_137 rfl rfl (q := 139) rfl ?_
        refine o_iload X126 at_139 rfl (q := 141) rfl ?_
        have f127 := (V124.keep K126 nin0)
        refine o_stat X126 [(.ref b2), (.int rn)] (y' := (⟨"com/example/refinement/refinement/io/CodePointOrderComparePinLaw", "make", "([CI)Ljava/lang/String;"⟩ : MethodName)) (c_mk hw b2 x3 x100 x9 rn _ O2 P5 SA SH SL f127 rg3 rg100 rg9 (own_ln h_rn)) all0 (w7 hw) (w8 hw) (w3 hw) (w9 hw) (by decide) at_141 (rest := []) rfl rfl (lenOf pd19 rfl) rfl (by decide) (Nat.le_of_ble_eq_true rfl) (by decide) (by decide) (q := 144) rfl ?_
        intro v128 vm128 T128 h128 l128 X128 R128 q128
        obtain ⟨t128, b128, kb128, rfl, K128, U128⟩ := q128
        show Goes p e below _ T128 (mkF m 144 #[.val (.long p0), .second, .val (.long p1), .second, .val (.int p2), .val (.ref b1), .val (.ref b2), .val (.int ln), .val (.int rn), .val (.ref t126), .unset, .unset, .unset, .unset] [(.ref t128)])
        refine o_astore X128 at_144 rfl (L' := #[.val (.long p0), .second, .val (.long p1), .second, .val (.int p2), .val (.ref b1), .val (.ref b2), .val (.int ln), .val (.int rn), .val (.ref t126), .val (.ref t128), .unset, .unset, .unset]) rfl (q := 146) rfl ?_
        refine o_iconst X128 at_146 (w := 4) rfl (q := 147) rfl ?_
        refine o_newarr X128 (aty := .int) (cap := 4) 4 (w31 hw) at_147 (by decide) (by decide) (by decide) (by decide) (by decide) (q := 149) rfl ?_
        intro T129 h129 b129 k129 gb129 X129 E129 R129 S129 V129 g0_b129
        have V129 : Arv Z h129 b129 k129 .int (4 : Int32) [(.int (0 : Int32)), (.int (0 : Int32)), (.int (0 : Int32)), (.int (0 : Int32))] (.int (0 : Int32)) := V129
        refine o_astore X129 at_149 rfl (L' := #[.val (.long p0), .second, .val (.long p1), .second, .val (.int p2), .val (.ref b1), .val (.ref b2), .val (.int ln), .val (.int rn), .val (.ref t126), .val (.ref t128), .val (.ref b129), .unset, .unset]) rfl (q := 151) rfl ?_
        refine o_iconst X129 at_151 (w := 4) rfl (q := 152) rfl ?_
        refine o_newarr X129 (aty := .int) (cap := 4) 4 (w31 hw) at_152 (by decide) (by decide) (by decide) (by decide) (by decide) (q := 154) rfl ?_
        intro T130 h130 b130 k130 gb130 X130 E130 R130 S130 V130 g0_b130
        have V130 : Arv Z h130 b130 k130 .int (4 : Int32) [(.int (0 : Int32)), (.int (0 : Int32)), (.int (0 : Int32)), (.int (0 : Int32))] (.int (0 : Int32)) := V130
        refine o_astore X130 at_154 rfl (L' := #[.val (.long p0), .second, .val (.long p1), .second, .val (.int p2), .val (.ref b1), .val (.ref b2), .val (.int ln), .val (.int rn), .val (.ref t126), .val (.ref t128), .val (.ref b129), .val (.ref b130), .unset]) rfl (q := 156) rfl ?_
        refine o_aload X130 at_156 rfl rfl (q := 158) rfl ?_
        refine o_iload X130 at_158 rfl (q := 160) rfl ?_
        refine o_aload X130 at_160 rfl rfl (q := 162) rfl ?_
        have f131 := ((((f125.keep K126 nin0).keep K128 nin0).ext E129).ext E130)
        have f132 := (V129.ext E130)
        refine o_stat X130 [(.ref b1), (.int ln), (.ref b129)] (y' := (⟨"com/example/refinement/refinement/io/CodePointOrderComparePinLaw", "decode", "([CI[I)V"⟩ : MethodName)) (c_dec hw b1 b129 x3 x6 x9 ln _ f131 f132 g0_b129 (Nat.ne_of_lt (Nat.lt_of_lt_of_le (Nat.lt_of_lt_of_le (Nat.lt_of_lt_of_le f125.lt K126.1) K128.1) (Nat.le_of_eq gb129.symm))) (own_ln h_ln)) all0 (w32 hw) (w33 hw) (w3 hw) (w34 hw) (by decide) at_162 (rest := []) rfl rfl (lenOf pd20 rfl) rfl (by decide) (Nat.le_of_ble_eq_true rfl) (by decide) (by decide) (q := 165) rfl ?_
        intro v133 vm133 T133 h133 l133 X133 R133 q133
        obtain ⟨rfl, K133, V133⟩ := q133
        show Goes p e below _ T133 (mkF m 165 #[.val (.long p0), .second, .val (.long p1), .second, .val (.int p2), .val (.ref b1), .val (.ref b2), .val (.int ln), .val (.int rn), .val (.ref t126), .val (.ref t128), .val (.ref b129), .val (.ref b130), .unset] [])
        refine o_aload X133 at_165 rfl rfl (q := 167) rfl ?_
        refine o_iload X133 at_167 rfl (q := 169) rfl ?_
        refine o_aload X133 at_169 rfl rfl (q := 171) rfl ?_
        have f134 := ((((f127.keep K128 nin0).ext E129).ext E130).keep K133 (ninS (Nat.ne_of_lt (Nat.lt_of_lt_of_le (Nat.lt_of_lt_of_le f127.lt K128.1) (Nat.le_of_eq gb129.symm))) nin0))
        have f135 := (V130.keep K133 (ninS (Ne.symm (Nat.ne_of_lt (Nat.lt_of_lt_of_le V129.lt (Nat.le_of_eq gb130.symm)))) nin0))
        refine o_stat X133 [(.ref b2), (.int rn), (.ref b130)] (y' := (⟨"com/example/refinement/refinement/io/CodePointOrderComparePinLaw", "decode", "([CI[I)V"⟩ : MethodName)) (c_dec hw b2 b130 x3 x100 x9 rn _ f134 f135 g0_b130 (Nat.ne_of_lt (Nat.lt_of_lt_of_le (Nat.lt_of_lt_of_le (Nat.lt_of_lt_of_le f127.lt K128.1) E129.1) (Nat.le_of_eq gb130.symm))) (own_ln h_rn)) all0 (w32 hw) (w33 hw) (w3 hw) (w34 hw) (by decide) at_171 (rest := []) rfl rfl (lenOf pd20 rfl) rfl (by decide) (Nat.le_of_ble_eq_true rfl) (by decide) (by decide) (q := 174) rfl ?_
        intro v136 vm136 T136 h136 l136 X136 R136 q136
        obtain ⟨rfl, K136, V136⟩ := q136
        show Goes p e below _ T136 (mkF m 174 #[.val (.long p0), .second, .val (.long p1), .second, .val (.int p2), .val (.ref b1), .val (.ref b2), .val (.int ln), .val (.int rn), .val (.ref t126), .val (.ref t128), .val (.ref b129), .val (.ref b130), .unset] [])
        refine o_aload X136 at_174 rfl rfl (q := 176) rfl ?_
        refine o_aload X136 at_176 rfl rfl (q := 178) rfl ?_
        have f137 := (V133.keep K136 (ninS (Nat.ne_of_lt (Nat.lt_of_lt_of_le V129.lt (Nat.le_of_eq gb130.symm))) nin0))
        refine o_stat X136 [(.ref b129), (.ref b130)] (y' := (⟨"com/example/refinement/refinement/io/CodePointOrderComparePinLaw", "lex", "([I[I)I"⟩ : MethodName)) (c_lex hw b129 b130 ((cps (takeC ln x3 x6 x9)).getD 0 0) ((cps (takeC ln x3 x6 x9)).getD 1 0) ((cps (takeC ln x3 x6 x9)).getD 2 0) (Int32.ofNat (cps (takeC ln x3 x6 x9)).length) ((cps (takeC rn x3 x100 x9)).getD 0 0) ((cps (takeC rn x3 x100 x9)).getD 1 0) ((cps (takeC rn x3 x100 x9)).getD 2 0) (Int32.ofNat (cps (takeC rn x3 x100 x9)).length) _ f137 V136) all0 (w41 hw) (w42 hw) (w3 hw) (w43 hw) (by decide) at_178 (rest := []) rfl rfl (lenOf pd21 rfl) rfl (by decide) (Nat.le_of_ble_eq_true rfl) (by decide) (by decide) (q := 181) rfl ?_
        intro v138 vm138 T138 h138 l138 X138 R138 q138
        obtain ⟨z138, rfl, e138, hz138⟩ := q138
        have e138 := e138.symm
        subst e138
        show Goes p e below _ T138 (mkF m 181 #[.val (.long p0), .second, .val (.long p1), .second, .val (.int p2), .val (.ref b1), .val (.ref b2), .val (.int ln), .val (.int rn), .val (.ref t126), .val (.ref t128), .val (.ref b129), .val (.ref b130), .unset] [(.int z138)])
        refine o_istore X138 at_181 rfl (L' := #[.val (.long p0), .second, .val (.long p1), .second, .val (.int p2), .val (.ref b1), .val (.ref b2), .val (.int ln), .val (.int rn), .val (.ref t126), .val (.ref t128), .val (.ref b129), .val (.ref b130), .val (.int z138)]) rfl (q := 183) rfl ?_
        refine o_aload X138 at_183 rfl rfl (q := 185) rfl ?_
        refine o_aload X138 at_185 rfl rfl (q := 187) rfl ?_
        have f139 := (((((U126.keep K128 nin0 nin0).ext E129).ext E130).keep K133 (ninS (Nat.ne_of_lt (Nat.lt_of_lt_of_le (Nat.lt_of_lt_of_le U126.lt K128.1) (Nat.le_of_eq gb129.symm))) nin0) (ninS (Nat.ne_of_lt (Nat.lt_of_lt_of_le (Nat.lt_of_lt_of_le U126.blt K128.1) (Nat.le_of_eq gb129.symm))) nin0)).keep K136 (ninS (Nat.ne_of_lt (Nat.lt_of_lt_of_le (Nat.lt_of_lt_of_le (Nat.lt_of_lt_of_le U126.lt K128.1) E129.1) (Nat.le_of_eq gb130.symm))) nin0) (ninS (Nat.ne_of_lt (Nat.lt_of_lt_of_le (Nat.lt_of_lt_of_le (Nat.lt_of_lt_of_le U126.blt K128.1) E129.1) (Nat.le_of_eq gb130.symm))) nin0))
        have f140 := ((((U128.ext E129).ext E130).keep K133 (ninS (Nat.ne_of_lt (Nat.lt_of_lt_of_le U128.lt (Nat.le_of_eq gb129.symm))) nin0) (ninS (Nat.ne_of_lt (Nat.lt_of_lt_of_le U128.blt (Nat.le_of_eq gb129.symm))) nin0)).keep K136 (ninS (Nat.ne_of_lt (Nat.lt_of_lt_of_le (U128.ext E129).lt (Nat.le_of_eq gb130.symm))) nin0) (ninS (Nat.ne_of_lt (Nat.lt_of_lt_of_le (Nat.lt_of_lt_of_le U128.blt E129.1) (Nat.le_of_eq gb130.symm))) nin0))
        refine o_stat X138 [(.ref t126), (.ref t128)] (y' := (⟨"com/example/refinement/refinement/io/CodePointOrder", "compare", "(Ljava/lang/String;Ljava/lang/String;)I"⟩ : MethodName)) (c_cmp hw t126 b126 kb126 (takeC ln x3 x6 x9) t128 b128 kb128 (takeC rn x3 x100 x9) _ O2 P5 O4 rfm SA SH SL f139 f140) all0 (w44 hw) (w45 hw) (w46 hw) (w47 hw) (by decide) at_187 (rest := []) rfl rfl (lenOf pd22 rfl) rfl (by decide) (Nat.le_of_ble_eq_true rfl) (by decide) (by decide) (q := 190) rfl ?_
        intro v141 vm141 T141 h141 l141 X141 R141 q141
        obtain ⟨z141, rfl, e141, hz141⟩ := q141
        have e141 := e141.symm
        subst e141
        show Goes p e below _ T141 (mkF m 190 #[.val (.long p0), .second, .val (.long p1), .second, .val (.int p2), .val (.ref b1), .val (.ref b2), .val (.int ln), .val (.int rn), .val (.ref t126), .val (.ref t128), .val (.ref b129), .val (.ref b130), .val (.int z138)] [(.int z141)])
        refine o_iload X141 at_190 rfl (q := 192) rfl ?_
        refine o_icmpN X141 at_192 (teq (hz141.trans ((own_lex (own_takel _ _ _ _) (own_takel _ _ _ _)).symm.trans hz138.symm))).2 (q := 195) rfl ?_
        refine o_iconst X141 at_195 (w := 1) rfl (q := 196) rfl ?_
        refine o_goto X141 at_196 (by decide) (q := 200) (by decide) ?_
        exact o_retN X141 at_200 (by simp) (fun Sf hSf => rfl) (by decide) (by decide)
    · refine o_ifN X99 at_67 (feq hc67).1 (q := 70) rfl ?_
      refine o_aload X99 at_70 rfl rfl (q := 72) rfl ?_
      refine o_iconst X99 at_72 (w := 1) rfl (q := 73) rfl ?_
      have f142 := (V11.other W99 (Nat.ne_of_lt (Nat.lt_of_lt_of_le V1.lt (Nat.le_of_eq gb2.symm))))
      refine o_caload X99 f142 (by decide) (v := (.int x6)) rfl at_73 (q := 74) rfl ?_
      refine o_goto X99 at_74 (by decide) (q := 82) (by decide) ?_
      refine o_castore X99 1 V99 g0_b2 (Safe.arv X99.alike V99 (by decide)) (by decide) rfl (Nat.le_of_ble_eq_true rfl) (v := (.int x6)) (by rw [own_narc rg6]) at_82 (q := 83) rfl ?_
      intro T143 h143 l143 X143 W143 R143 V143
      have V143 : Arv Z h143 b2 k2 .char (3 : Int32) [(.int x3), (.int x6), (.int (0 : Int32))] (.int (0 : Int32)) := V143
      refine o_aload X143 at_83 rfl rfl (q := 85) rfl ?_
      refine o_iconst X143 at_85 (w := 2) rfl (q := 86) rfl ?_
      refine o_iload X143 at_86 rfl (q := 88) rfl ?_
      refine o_iconst X143 at_88 (w := 4) rfl (q := 89) rfl ?_
      refine o_iand X143 at_89 (w := (p2 &&& (4 : Int32))) rfl (q := 90) rfl ?_
      by_cases hc90 : (p2 &&& (4 : Int32)) = (0 : Int32)
      · refine o_ifY X143 at_90 (teq hc90).1 (by decide) (q := 100) (by decide) ?_
        refine o_lloadN X143 at_100 rfl (q := 101) rfl ?_
        refine o_iconst X143 at_101 (w := 2) rfl (q := 102) rfl ?_
        refine o_stat X143 [(.long p1), (.int (2 : Int32))] (y' := (⟨"com/example/refinement/refinement/io/CodePointOrderComparePinLaw", "draw", "(JI)C"⟩ : MethodName)) (c_draw hw p1 (2 : Int32) _) all0 (w1 hw) (w2 hw) (w3 hw) (w4 hw) (by decide) at_102 (rest := [(.int (2 : Int32)), (.ref b2)]) rfl rfl (lenOf pd18 rfl) rfl (by decide) (Nat.le_of_ble_eq_true rfl) (by decide) (by decide) (q := 105) rfl ?_
        intro v144 vm144 T144 h144 l144 X144 R144 q144
        obtain ⟨x144, rfl, e144, rg144⟩ := q144
        have e144 := e144.symm
        subst e144
        show Goes p e below _ T144 (mkF m 105 #[.val (.long p0), .second, .val (.long p1), .second, .val (.int p2), .val (.ref b1), .val (.ref b2), .unset, .unset, .unset, .unset, .unset, .unset, .unset] [(.int x144), (.int (2 : Int32)), (.ref b2)])
        have f145 := V143
        refine o_castore X144 2 f145 g0_b2 (Safe.arv X144.alike f145 (by decide)) (by decide) rfl (Nat.le_of_ble_eq_true rfl) (v := (.int x144)) (by rw [own_narc rg144]) at_105 (q := 106) rfl ?_
        intro T146 h146 l146 X146 W146 R146 V146
        have V146 : Arv Z h146 b2 k2 .char (3 : Int32) [(.int x3), (.int x6), (.int x144)] (.int (0 : Int32)) := V146
        refine o_lloadN X146 at_106 rfl (q := 107) rfl ?_
        refine o_bipush X146 at_107 (w := 48) rfl (q := 109) rfl ?_
        refine o_lushr X146 at_109 (w := ((p0.toUInt64 >>> ((48 : Int32) &&& 0x3f).toInt64.toUInt64).toInt64)) rfl (q := 110) rfl ?_
        refine o_ldcJ X146 (w6 hw) at_110 (q := 113) rfl ?_
        refine o_land X146 at_113 (w := (((p0.toUInt64 >>> ((48 : Int32) &&& 0x3f).toInt64.toUInt64).toInt64) &&& (3 : Int64))) rfl (q := 114) rfl ?_
        refine o_l2i X146 at_114 (w := ((((p0.toUInt64 >>> ((48 : Int32) &&& 0x3f).toInt64.toUInt64).toInt64) &&& (3 : Int64)).toInt32)) rfl (q := 115) rfl ?_
        obtain ⟨ln, h_ln⟩ : ∃ z : Int32, ((((p0.toUInt64 >>> ((48 : Int32) &&& 0x3f).toInt64.toUInt64).toInt64) &&& (3 : Int64)).toInt32) = z := ⟨_, rfl⟩
        refine o_istore X146 at_115 h_ln (L' := #[.val (.long p0), .second, .val (.long p1), .second, .val (.int p2), .val (.ref b1), .val (.ref b2), .val (.int ln), .unset, .unset, .unset, .unset, .unset, .unset]) rfl (q := 117) rfl ?_
        refine o_lloadN X146 at_117 rfl (q := 118) rfl ?_
        refine o_bipush X146 at_118 (w := 48) rfl (q := 120) rfl ?_
        refine o_lushr X146 at_120 (w := ((p1.toUInt64 >>> ((48 : Int32) &&& 0x3f).toInt64.toUInt64).toInt64)) rfl (q := 121) rfl ?_
        refine o_ldcJ X146 (w6 hw) at_121 (q := 124) rfl ?_
        refine o_land X146 at_124 (w := (((p1.toUInt64 >>> ((48 : Int32) &&& 0x3f).toInt64.toUInt64).toInt64) &&& (3 : Int64))) rfl (q := 125) rfl ?_
        refine o_l2i X146 at_125 (w := ((((p1.toUInt64 >>> ((48 : Int32) &&& 0x3f).toInt64.toUInt64).toInt64) &&& (3 : Int64)).toInt32)) rfl (q := 126) rfl ?_
        obtain ⟨rn, h_rn⟩ : ∃ z : Int32, ((((p1.toUInt64 >>> ((48 : Int32) &&& 0x3f).toInt64.toUInt64).toInt64) &&& (3 : Int64)).toInt32) = z := ⟨_, rfl⟩
        refine o_istore X146 at_126 h_rn (L' := #[.val (.long p0), .second, .val (.long p1), .second, .val (.int p2), .val (.ref b1), .val (.ref b2), .val (.int ln), .val (.int rn), .unset, .unset, .unset, .unset, .unset]) rfl (q := 128) rfl ?_
        refine o_aload X146 at_128 rfl rfl (q := 130) rfl ?_
        refine o_iload X146 at_130 rfl (q := 132) rfl ?_
        have f147 := ((f142.other W143 (Nat.ne_of_lt (Nat.lt_of_lt_of_le V1.lt (Nat.le_of_eq gb2.symm)))).other W146 (Nat.ne_of_lt (Nat.lt_of_lt_of_le V1.lt (Nat.le_of_eq gb2.symm))))
        refine o_stat X146 [(.ref b1), (.int ln)] (y' := (⟨"com/example/refinement/refinement/io/CodePointOrderComparePinLaw", "make", "([CI)Ljava/lang/String;"⟩ : MethodName)) (c_mk hw b1 x3 x6 x9 ln _ O2 P5 SA SH SL f147 rg3 rg6 rg9 (own_ln h_ln)) all0 (w7 hw) (w8 hw) (w3 hw) (w9 hw) (by decide) at_132 (rest := []) rfl rfl (lenOf pd19 rfl) rfl (by decide) (Nat.le_of_ble_eq_true rfl) (by decide) (by decide) (q := 135) rfl ?_
        intro v148 vm148 T148 h148 l148 X148 R148 q148
        obtain ⟨t148, b148, kb148, rfl, K148, U148⟩ := q148
        show Goes p e below _ T148 (mkF m 135 #[.val (.long p0), .second, .val (.long p1), .second, .val (.int p2), .val (.ref b1), .val (.ref b2), .val (.int ln), .val (.int rn), .unset, .unset, .unset, .unset, .unset] [(.ref t148)])
        refine o_astore X148 at_135 rfl (L' := #[.val (.long p0), .second, .val (.long p1), .second, .val (.int p2), .val (.ref b1), .val (.ref b2), .val (.int ln), .val (.int rn), .val (.ref t148), .unset, .unset, .unset, .unset]) rfl (q := 137) rfl ?_
        refine o_aload X148 at_137 rfl rfl (q := 139) rfl ?_
        refine o_iload X148 at_139 rfl (q := 141) rfl ?_
        have f149 := (V146.keep K148 nin0)
        refine o_stat X148 [(.ref b2), (.int rn)] (y' := (⟨"com/example/refinement/refinement/io/CodePointOrderComparePinLaw", "make", "([CI)Ljava/lang/String;"⟩ : MethodName)) (c_mk hw b2 x3 x6 x144 rn _ O2 P5 SA SH SL f149 rg3 rg6 rg144 (own_ln h_rn)) all0 (w7 hw) (w8 hw) (w3 hw) (w9 hw) (by decide) at_141 (rest := []) rfl rfl (lenOf pd19 rfl) rfl (by decide) (Nat.le_of_ble_eq_true rfl) (by decide) (by decide) (q := 144) rfl ?_
        intro v150 vm150 T150 h150 l150 X150 R150 q150
        obtain ⟨t150, b150, kb150, rfl, K150, U150⟩ := q150
        show Goes p e below _ T150 (mkF m 144 #[.val (.long p0), .second, .val (.long p1), .second, .val (.int p2), .val (.ref b1), .val (.ref b2), .val (.int ln), .val (.int rn), .val (.ref t148), .unset, .unset, .unset, .unset] [(.ref t150)])
        refine o_astore X150 at_144 rfl (L' := #[.val (.long p0), .second, .val (.long p1), .second, .val (.int p2), .val (.ref b1), .val (.ref b2), .val (.int ln), .val (.int rn), .val (.ref t148), .val (.ref t150), .unset, .unset, .unset]) rfl (q := 146) rfl ?_
        refine o_iconst X150 at_146 (w := 4) rfl (q := 147) rfl ?_
        refine o_newarr X150 (aty := .int) (cap := 4) 4 (w31 hw) at_147 (by decide) (by decide) (by decide) (by decide) (by decide) (q := 149) rfl ?_
        intro T151 h151 b151 k151 gb151 X151 E151 R151 S151 V151 g0_b151
        have V151 : Arv Z h151 b151 k151 .int (4 : Int32) [(.int (0 : Int32)), (.int (0 : Int32)), (.int (0 : Int32)), (.int (0 : Int32))] (.int (0 : Int32)) := V151
        refine o_astore X151 at_149 rfl (L' := #[.val (.long p0), .second, .val (.long p1), .second, .val (.int p2), .val (.ref b1), .val (.ref b2), .val (.int ln), .val (.int rn), .val (.ref t148), .val (.ref t150), .val (.ref b151), .unset, .unset]) rfl (q := 151) rfl ?_
        refine o_iconst X151 at_151 (w := 4) rfl (q := 152) rfl ?_
        refine o_newarr X151 (aty := .int) (cap := 4) 4 (w31 hw) at_152 (by decide) (by decide) (by decide) (by decide) (by decide) (q := 154) rfl ?_
        intro T152 h152 b152 k152 gb152 X152 E152 R152 S152 V152 g0_b152
        have V152 : Arv Z h152 b152 k152 .int (4 : Int32) [(.int (0 : Int32)), (.int (0 : Int32)), (.int (0 : Int32)), (.int (0 : Int32))] (.int (0 : Int32)) := V152
        refine o_astore X152 at_154 rfl (L' := #[.val (.long p0), .second, .val (.long p1), .second, .val (.int p2), .val (.ref b1), .val (.ref b2), .val (.int ln), .val (.int rn), .val (.ref t148), .val (.ref t150), .val (.ref b151), .val (.ref b152), .unset]) rfl (q := 156) rfl ?_
        refine o_aload X152 at_156 rfl rfl (q := 158) rfl ?_
        refine o_iload X152 at_158 rfl (q := 160) rfl ?_
        refine o_aload X152 at_160 rfl rfl (q := 162) rfl ?_
        have f153 := ((((f147.keep K148 nin0).keep K150 nin0).ext E151).ext E152)
        have f154 := (V151.ext E152)
        refine o_stat X152 [(.ref b1), (.int ln), (.ref b151)] (y' := (⟨"com/example/refinement/refinement/io/CodePointOrderComparePinLaw", "decode", "([CI[I)V"⟩ : MethodName)) (c_dec hw b1 b151 x3 x6 x9 ln _ f153 f154 g0_b151 (Nat.ne_of_lt (Nat.lt_of_lt_of_le (Nat.lt_of_lt_of_le (Nat.lt_of_lt_of_le f147.lt K148.1) K150.1) (Nat.le_of_eq gb151.symm))) (own_ln h_ln)) all0 (w32 hw) (w33 hw) (w3 hw) (w34 hw) (by decide) at_162 (rest := []) rfl rfl (lenOf pd20 rfl) rfl (by decide) (Nat.le_of_ble_eq_true rfl) (by decide) (by decide) (q := 165) rfl ?_
        intro v155 vm155 T155 h155 l155 X155 R155 q155
        obtain ⟨rfl, K155, V155⟩ := q155
        show Goes p e below _ T155 (mkF m 165 #[.val (.long p0), .second, .val (.long p1), .second, .val (.int p2), .val (.ref b1), .val (.ref b2), .val (.int ln), .val (.int rn), .val (.ref t148), .val (.ref t150), .val (.ref b151), .val (.ref b152), .unset] [])
        refine o_aload X155 at_165 rfl rfl (q := 167) rfl ?_
        refine o_iload X155 at_167 rfl (q := 169) rfl ?_
        refine o_aload X155 at_169 rfl rfl (q := 171) rfl ?_
        have f156 := ((((f149.keep K150 nin0).ext E151).ext E152).keep K155 (ninS (Nat.ne_of_lt (Nat.lt_of_lt_of_le (Nat.lt_of_lt_of_le f149.lt K150.1) (Nat.le_of_eq gb151.symm))) nin0))
        have f157 := (V152.keep K155 (ninS (Ne.symm (Nat.ne_of_lt (Nat.lt_of_lt_of_le V151.lt (Nat.le_of_eq gb152.symm)))) nin0))
        refine o_stat X155 [(.ref b2), (.int rn), (.ref b152)] (y' := (⟨"com/example/refinement/refinement/io/CodePointOrderComparePinLaw", "decode", "([CI[I)V"⟩ : MethodName)) (c_dec hw b2 b152 x3 x6 x144 rn _ f156 f157 g0_b152 (Nat.ne_of_lt (Nat.lt_of_lt_of_le (Nat.lt_of_lt_of_le (Nat.lt_of_lt_of_le f149.lt K150.1) E151.1) (Nat.le_of_eq gb152.symm))) (own_ln h_rn)) all0 (w32 hw) (w33 hw) (w3 hw) (w34 hw) (by decide) at_171 (rest := []) rfl rfl (lenOf pd20 rfl) rfl (by decide) (Nat.le_of_ble_eq_true rfl) (by decide) (by decide) (q := 174) rfl ?_
        intro v158 vm158 T158 h158 l158 X158 R158 q158
        obtain ⟨rfl, K158, V158⟩ := q158
        show Goes p e below _ T158 (mkF m 174 #[.val (.long p0), .second, .val (.long p1), .second, .val (.int p2), .val (.ref b1), .val (.ref b2), .val (.int ln), .val (.int rn), .val (.ref t148), .val (.ref t150), .val (.ref b151), .val (.ref b152), .unset] [])
        refine o_aload X158 at_174 rfl rfl (q := 176) rfl ?_
        refine o_aload X158 at_176 rfl rfl (q := 178) rfl ?_
        have f159 := (V155.keep K158 (ninS (Nat.ne_of_lt (Nat.lt_of_lt_of_le V151.lt (Nat.le_of_eq gb152.symm))) nin0))
        refine o_stat X158 [(.ref b151), (.ref b152)] (y' := (⟨"com/example/refinement/refinement/io/CodePointOrderComparePinLaw", "lex", "([I[I)I"⟩ : MethodName)) (c_lex hw b151 b152 ((cps (takeC ln x3 x6 x9)).getD 0 0) ((cps (takeC ln x3 x6 x9)).getD 1 0) ((cps (takeC ln x3 x6 x9)).getD 2 0) (Int32.ofNat (cps (takeC ln x3 x6 x9)).length) ((cps (takeC rn x3 x6 x144)).getD 0 0) ((cps (takeC rn x3 x6 x144)).getD 1 0) ((cps (takeC rn x3 x6 x144)).getD 2 0) (Int32.ofNat (cps (takeC rn x3 x6 x144)).length) _ f159 V158) all0 (w41 hw) (w42 hw) (w3 hw) (w43 hw) (by decide) at_178 (rest := []) rfl rfl (lenOf pd21 rfl) rfl (by decide) (Nat.le_of_ble_eq_true rfl) (by decide) (by decide) (q := 181) rfl ?_
        intro v160 vm160 T160 h160 l160 X160 R160 q160
        obtain ⟨z160, rfl, e160, hz160⟩ := q160
        have e160 := e160.symm
        subst e160
        show Goes p e below _ T160 (mkF m 181 #[.val (.long p0), .second, .val (.long p1), .second, .val (.int p2), .val (.ref b1), .val (.ref b2), .val (.int ln), .val (.int rn), .val (.ref t148), .val (.ref t150), .val (.ref b151), .val (.ref b152), .unset] [(.int z160)])
        refine o_istore X160 at_181 rfl (L' := #[.val (.long p0), .second, .val (.long p1), .second, .val (.int p2), .val (.ref b1), .val (.ref b2), .val (.int ln), .val (.int rn), .val (.ref t148), .val (.ref t150), .val (.ref b151), .val (.ref b152), .val (.int z160)]) rfl (q := 183) rfl ?_
        refine o_aload X160 at_183 rfl rfl (q := 185) rfl ?_
        refine o_aload X160 at_185 rfl rfl (q := 187) rfl ?_
        have f161 := (((((U148.keep K150 nin0 nin0).ext E151).ext E152).keep K155 (ninS (Nat.ne_of_lt (Nat.lt_of_lt_of_le (Nat.lt_of_lt_of_le U148.lt K150.1) (Nat.le_of_eq gb151.symm))) nin0) (ninS (Nat.ne_of_lt (Nat.lt_of_lt_of_le (Nat.lt_of_lt_of_le U148.blt K150.1) (Nat.le_of_eq gb151.symm))) nin0)).keep K158 (ninS (Nat.ne_of_lt (Nat.lt_of_lt_of_le (Nat.lt_of_lt_of_le (Nat.lt_of_lt_of_le U148.lt K150.1) E151.1) (Nat.le_of_eq gb152.symm))) nin0) (ninS (Nat.ne_of_lt (Nat.lt_of_lt_of_le (Nat.lt_of_lt_of_le (Nat.lt_of_lt_of_le U148.blt K150.1) E151.1) (Nat.le_of_eq gb152.symm))) nin0))
        have f162 := ((((U150.ext E151).ext E152).keep K155 (ninS (Nat.ne_of_lt (Nat.lt_of_lt_of_le U150.lt (Nat.le_of_eq gb151.symm))) nin0) (ninS (Nat.ne_of_lt (Nat.lt_of_lt_of_le U150.blt (Nat.le_of_eq gb151.symm))) nin0)).keep K158 (ninS (Nat.ne_of_lt (Nat.lt_of_lt_of_le (U150.ext E151).lt (Nat.le_of_eq gb152.symm))) nin0) (ninS (Nat.ne_of_lt (Nat.lt_of_lt_of_le (Nat.lt_of_lt_of_le U150.blt E151.1) (Nat.le_of_eq gb152.symm))) nin0))
        refine o_stat X160 [(.ref t148), (.ref t150)] (y' := (⟨"com/example/refinement/refinement/io/CodePointOrder", "compare", "(Ljava/lang/String;Ljava/lang/String;)I"⟩ : MethodName)) (c_cmp hw t148 b148 kb148 (takeC ln x3 x6 x9) t150 b150 kb150 (takeC rn x3 x6 x144) _ O2 P5 O4 rfm SA SH SL f161 f162) all0 (w44 hw) (w45 hw) (w46 hw) (w47 hw) (by decide) at_187 (rest := []) rfl rfl (lenOf pd22 rfl) rfl (by decide) (Nat.le_of_ble_eq_true rfl) (by decide) (by decide) (q := 190) rfl ?_
        intro v163 vm163 T163 h163 l163 X163 R163 q163
        obtain ⟨z163, rfl, e163, hz163⟩ := q163
        have e163 := e163.symm
        subst e163
        show Goes p e below _ T163 (mkF m 190 #[.val (.long p0), .second, .val (.long p1), .second, .val (.int p2), .val (.ref b1), .val (.ref b2), .val (.int ln), .val (.int rn), .val (.ref t148), .val (.ref t150), .val (.ref b151), .val (.ref b152), .val (.int z160)] [(.int z163)])
        refine o_iload X163 at_190 rfl (q := 192) rfl ?_
        refine o_icmpN X163 at_192 (teq (hz163.trans ((own_lex (own_takel _ _ _ _) (own_takel _ _ _ _)).symm.trans hz160.symm))).2 (q := 195) rfl ?_
        refine o_iconst X163 at_195 (w := 1) rfl (q := 196) rfl ?_
        refine o_goto X163 at_196 (by decide) (q := 200) (by decide) ?_
        exact o_retN X163 at_200 (by simp) (fun Sf hSf => rfl) (by decide) (by decide)
      · refine o_ifN X143 at_90 (feq hc90).1 (q := 93) rfl ?_
        refine o_aload X143 at_93 rfl rfl (q := 95) rfl ?_
        refine o_iconst X143 at_95 (w := 2) rfl (q := 96) rfl ?_
        have f164 := (f142.other W143 (Nat.ne_of_lt (Nat.lt_of_lt_of_le V1.lt (Nat.le_of_eq gb2.symm))))
        refine o_caload X143 f164 (by decide) (v := (.int x9)) rfl at_96 (q := 97) rfl ?_
        refine o_goto X143 at_97 (by decide) (q := 105) (by decide) ?_
        refine o_castore X143 2 V143 g0_b2 (Safe.arv X143.alike V143 (by decide)) (by decide) rfl (Nat.le_of_ble_eq_true rfl) (v := (.int x9)) (by rw [own_narc rg9]) at_105 (q := 106) rfl ?_
        intro T165 h165 l165 X165 W165 R165 V165
        have V165 : Arv Z h165 b2 k2 .char (3 : Int32) [(.int x3), (.int x6), (.int x9)] (.int (0 : Int32)) := V165
        refine o_lloadN X165 at_106 rfl (q := 107) rfl ?_
        refine o_bipush X165 at_107 (w := 48) rfl (q := 109) rfl ?_
        refine o_lushr X165 at_109 (w := ((p0.toUInt64 >>> ((48 : Int32) &&& 0x3f).toInt64.toUInt64).toInt64)) rfl (q := 110) rfl ?_
        refine o_ldcJ X165 (w6 hw) at_110 (q := 113) rfl ?_
        refine o_land X165 at_113 (w := (((p0.toUInt64 >>> ((48 : Int32) &&& 0x3f).toInt64.toUInt64).toInt64) &&& (3 : Int64))) rfl (q := 114) rfl ?_
        refine o_l2i X165 at_114 (w := ((((p0.toUInt64 >>> ((48 : Int32) &&& 0x3f).toInt64.toUInt64).toInt64) &&& (3 : Int64)).toInt32)) rfl (q := 115) rfl ?_
        obtain ⟨ln, h_ln⟩ : ∃ z : Int32, ((((p0.toUInt64 >>> ((48 : Int32) &&& 0x3f).toInt64.toUInt64).toInt64) &&& (3 : Int64)).toInt32) = z := ⟨_, rfl⟩
        refine o_istore X165 at_115 h_ln (L' := #[.val (.long p0), .second, .val (.long p1), .second, .val (.int p2), .val (.ref b1), .val (.ref b2), .val (.int ln), .unset, .unset, .unset, .unset, .unset, .unset]) rfl (q := 117) rfl ?_
        refine o_lloadN X165 at_117 rfl (q := 118) rfl ?_
        refine o_bipush X165 at_118 (w := 48) rfl (q := 120) rfl ?_
        refine o_lushr X165 at_120 (w := ((p1.toUInt64 >>> ((48 : Int32) &&& 0x3f).toInt64.toUInt64).toInt64)) rfl (q := 121) rfl ?_
        refine o_ldcJ X165 (w6 hw) at_121 (q := 124) rfl ?_
        refine o_land X165 at_124 (w := (((p1.toUInt64 >>> ((48 : Int32) &&& 0x3f).toInt64.toUInt64).toInt64) &&& (3 : Int64))) rfl (q := 125) rfl ?_
        refine o_l2i X165 at_125 (w := ((((p1.toUInt64 >>> ((48 : Int32) &&& 0x3f).toInt64.toUInt64).toInt64) &&& (3 : Int64)).toInt32)) rfl (q := 126) rfl ?_
        obtain ⟨rn, h_rn⟩ : ∃ z : Int32, ((((p1.toUInt64 >>> ((48 : Int32) &&& 0x3f).toInt64.toUInt64).toInt64) &&& (3 : Int64)).toInt32) = z := ⟨_, rfl⟩
        refine o_istore X165 at_126 h_rn (L' := #[.val (.long p0), .second, .val (.long p1), .second, .val (.int p2), .val (.ref b1), .val (.ref b2), .val (.int ln), .val (.int rn), .unset, .unset, .unset, .unset, .unset]) rfl (q := 128) rfl ?_
        refine o_aload X165 at_128 rfl rfl (q := 130) rfl ?_
        refine o_iload X165 at_130 rfl (q := 132) rfl ?_
        have f166 := (f164.other W165 (Nat.ne_of_lt (Nat.lt_of_lt_of_le V1.lt (Nat.le_of_eq gb2.symm))))
        refine o_stat X165 [(.ref b1), (.int ln)] (y' := (⟨"com/example/refinement/refinement/io/CodePointOrderComparePinLaw", "make", "([CI)Ljava/lang/String;"⟩ : MethodName)) (c_mk hw b1 x3 x6 x9 ln _ O2 P5 SA SH SL f166 rg3 rg6 rg9 (own_ln h_ln)) all0 (w7 hw) (w8 hw) (w3 hw) (w9 hw) (by decide) at_132 (rest := []) rfl rfl (lenOf pd19 rfl) rfl (by decide) (Nat.le_of_ble_eq_true rfl) (by decide) (by decide) (q := 135) rfl ?_
        intro v167 vm167 T167 h167 l167 X167 R167 q167
        obtain ⟨t167, b167, kb167, rfl, K167, U167⟩ := q167
        show Goes p e below _ T167 (mkF m 135 #[.val (.long p0), .second, .val (.long p1), .second, .val (.int p2), .val (.ref b1), .val (.ref b2), .val (.int ln), .val (.int rn), .unset, .unset, .unset, .unset, .unset] [(.ref t167)])
        refine o_astore X167 at_135 rfl (L' := #[.val (.long p0), .second, .val (.long p1), .second, .val (.int p2), .val (.ref b1), .val (.ref b2), .val (.int ln), .val (.int rn), .val (.ref t167), .unset, .unset, .unset, .unset]) rfl (q := 137) rfl ?_
        refine o_aload X167 at_137 rfl rfl (q := 139) rfl ?_
        refine o_iload X167 at_139 rfl (q := 141) rfl ?_
        have f168 := (V165.keep K167 nin0)
        refine o_stat X167 [(.ref b2), (.int rn)] (y' := (⟨"com/example/refinement/refinement/io/CodePointOrderComparePinLaw", "make", "([CI)Ljava/lang/String;"⟩ : MethodName)) (c_mk hw b2 x3 x6 x9 rn _ O2 P5 SA SH SL f168 rg3 rg6 rg9 (own_ln h_rn)) all0 (w7 hw) (w8 hw) (w3 hw) (w9 hw) (by decide) at_141 (rest := []) rfl rfl (lenOf pd19 rfl) rfl (by decide) (Nat.le_of_ble_eq_true rfl) (by decide) (by decide) (q := 144) rfl ?_
        intro v169 vm169 T169 h169 l169 X169 R169 q169
        obtain ⟨t169, b169, kb169, rfl, K169, U169⟩ := q169
        show Goes p e below _ T169 (mkF m 144 #[.val (.long p0), .second, .val (.long p1), .second, .val (.int p2), .val (.ref b1), .val (.ref b2), .val (.int ln), .val (.int rn), .val (.ref t167), .unset, .unset, .unset, .unset] [(.ref t169)])
        refine o_astore X169 at_144 rfl (L' := #[.val (.long p0), .second, .val (.long p1), .second, .val (.int p2), .val (.ref b1), .val (.ref b2), .val (.int ln), .val (.int rn), .val (.ref t167), .val (.ref t169), .unset, .unset, .unset]) rfl (q := 146) rfl ?_
        refine o_iconst X169 at_146 (w := 4) rfl (q := 147) rfl ?_
        refine o_newarr X169 (aty := .int) (cap := 4) 4 (w31 hw) at_147 (by decide) (by decide) (by decide) (by decide) (by decide) (q := 149) rfl ?_
        intro T170 h170 b170 k170 gb170 X170 E170 R170 S170 V170 g0_b170
        have V170 : Arv Z h170 b170 k170 .int (4 : Int32) [(.int (0 : Int32)), (.int (0 : Int32)), (.int (0 : Int32)), (.int (0 : Int32))] (.int (0 : Int32)) := V170
        refine o_astore X170 at_149 rfl (L' := #[.val (.long p0), .second, .val (.long p1), .second, .val (.int p2), .val (.ref b1), .val (.ref b2), .val (.int ln), .val (.int rn), .val (.ref t167), .val (.ref t169), .val (.ref b170), .unset, .unset]) rfl (q := 151) rfl ?_
        refine o_iconst X170 at_151 (w := 4) rfl (q := 152) rfl ?_
        refine o_newarr X170 (aty := .int) (cap := 4) 4 (w31 hw) at_152 (by decide) (by decide) (by decide) (by decide) (by decide) (q := 154) rfl ?_
        intro T171 h171 b171 k171 gb171 X171 E171 R171 S171 V171 g0_b171
        have V171 : Arv Z h171 b171 k171 .int (4 : Int32) [(.int (0 : Int32)), (.int (0 : Int32)), (.int (0 : Int32)), (.int (0 : Int32))] (.int (0 : Int32)) := V171
        refine o_astore X171 at_154 rfl (L' := #[.val (.long p0), .second, .val (.long p1), .second, .val (.int p2), .val (.ref b1), .val (.ref b2), .val (.int ln), .val (.int rn), .val (.ref t167), .val (.ref t169), .val (.ref b170), .val (.ref b171), .unset]) rfl (q := 156) rfl ?_
        refine o_aload X171 at_156 rfl rfl (q := 158) rfl ?_
        refine o_iload X171 at_158 rfl (q := 160) rfl ?_
        refine o_aload X171 at_160 rfl rfl (q := 162) rfl ?_
        have f172 := ((((f166.keep K167 nin0).keep K169 nin0).ext E170).ext E171)
        have f173 := (V170.ext E171)
        refine o_stat X171 [(.ref b1), (.int ln), (.ref b170)] (y' := (⟨"com/example/refinement/refinement/io/CodePointOrderComparePinLaw", "decode", "([CI[I)V"⟩ : MethodName)) (c_dec hw b1 b170 x3 x6 x9 ln _ f172 f173 g0_b170 (Nat.ne_of_lt (Nat.lt_of_lt_of_le (Nat.lt_of_lt_of_le (Nat.lt_of_lt_of_le f166.lt K167.1) K169.1) (Nat.le_of_eq gb170.symm))) (own_ln h_ln)) all0 (w32 hw) (w33 hw) (w3 hw) (w34 hw) (by decide) at_162 (rest := []) rfl rfl (lenOf pd20 rfl) rfl (by decide) (Nat.le_of_ble_eq_true rfl) (by decide) (by decide) (q := 165) rfl ?_
        intro v174 vm174 T174 h174 l174 X174 R174 q174
        obtain ⟨rfl, K174, V174⟩ := q174
        show Goes p e below _ T174 (mkF m 165 #[.val (.long p0), .second, .val (.long p1), .second, .val (.int p2), .val (.ref b1), .val (.ref b2), .val (.int ln), .val (.int rn), .val (.ref t167), .val (.ref t169), .val (.ref b170), .val (.ref b171), .unset] [])
        refine o_aload X174 at_165 rfl rfl (q := 167) rfl ?_
        refine o_iload X174 at_167 rfl (q := 169) rfl ?_
        refine o_aload X174 at_169 rfl rfl (q := 171) rfl ?_
        have f175 := ((((f168.keep K169 nin0).ext E170).ext E171).keep K174 (ninS (Nat.ne_of_lt (Nat.lt_of_lt_of_le (Nat.lt_of_lt_of_le f168.lt K169.1) (Nat.le_of_eq gb170.symm))) nin0))
        have f176 := (V171.keep K174 (ninS (Ne.symm (Nat.ne_of_lt (Nat.lt_of_lt_of_le V170.lt (Nat.le_of_eq gb171.symm)))) nin0))
        refine o_stat X174 [(.ref b2), (.int rn), (.ref b171)] (y' := (⟨"com/example/refinement/refinement/io/CodePointOrderComparePinLaw", "decode", "([CI[I)V"⟩ : MethodName)) (c_dec hw b2 b171 x3 x6 x9 rn _ f175 f176 g0_b171 (Nat.ne_of_lt (Nat.lt_of_lt_of_le (Nat.lt_of_lt_of_le (Nat.lt_of_lt_of_le f168.lt K169.1) E170.1) (Nat.le_of_eq gb171.symm))) (own_ln h_rn)) all0 (w32 hw) (w33 hw) (w3 hw) (w34 hw) (by decide) at_171 (rest := []) rfl rfl (lenOf pd20 rfl) rfl (by decide) (Nat.le_of_ble_eq_true rfl) (by decide) (by decide) (q := 174) rfl ?_
        intro v177 vm177 T177 h177 l177 X177 R177 q177
        obtain ⟨rfl, K177, V177⟩ := q177
        show Goes p e below _ T177 (mkF m 174 #[.val (.long p0), .second, .val (.long p1), .second, .val (.int p2), .val (.ref b1), .val (.ref b2), .val (.int ln), .val (.int rn), .val (.ref t167), .val (.ref t169), .val (.ref b170), .val (.ref b171), .unset] [])
        refine o_aload X177 at_174 rfl rfl (q := 176) rfl ?_
        refine o_aload X177 at_176 rfl rfl (q := 178) rfl ?_
        have f178 := (V174.keep K177 (ninS (Nat.ne_of_lt (Nat.lt_of_lt_of_le V170.lt (Nat.le_of_eq gb171.symm))) nin0))
        refine o_stat X177 [(.ref b170), (.ref b171)] (y' := (⟨"com/example/refinement/refinement/io/CodePointOrderComparePinLaw", "lex", "([I[I)I"⟩ : MethodName)) (c_lex hw b170 b171 ((cps (takeC ln x3 x6 x9)).getD 0 0) ((cps (takeC ln x3 x6 x9)).getD 1 0) ((cps (takeC ln x3 x6 x9)).getD 2 0) (Int32.ofNat (cps (takeC ln x3 x6 x9)).length) ((cps (takeC rn x3 x6 x9)).getD 0 0) ((cps (takeC rn x3 x6 x9)).getD 1 0) ((cps (takeC rn x3 x6 x9)).getD 2 0) (Int32.ofNat (cps (takeC rn x3 x6 x9)).length) _ f178 V177) all0 (w41 hw) (w42 hw) (w3 hw) (w43 hw) (by decide) at_178 (rest := []) rfl rfl (lenOf pd21 rfl) rfl (by decide) (Nat.le_of_ble_eq_true rfl) (by decide) (by decide) (q := 181) rfl ?_
        intro v179 vm179 T179 h179 l179 X179 R179 q179
        obtain ⟨z179, rfl, e179, hz179⟩ := q179
        have e179 := e179.symm
        subst e179
        show Goes p e below _ T179 (mkF m 181 #[.val (.long p0), .second, .val (.long p1), .second, .val (.int p2), .val (.ref b1), .val (.ref b2), .val (.int ln), .val (.int rn), .val (.ref t167), .val (.ref t169), .val (.ref b170), .val (.ref b171), .unset] [(.int z179)])
        refine o_istore X179 at_181 rfl (L' := #[.val (.long p0), .second, .val (.long p1), .second, .val (.int p2), .val (.ref b1), .val (.ref b2), .val (.int ln), .val (.int rn), .val (.ref t167), .val (.ref t169), .val (.ref b170), .val (.ref b171), .val (.int z179)]) rfl (q := 183) rfl ?_
        refine o_aload X179 at_183 rfl rfl (q := 185) rfl ?_
        refine o_aload X179 at_185 rfl rfl (q := 187) rfl ?_
        have f180 := (((((U167.keep K169 nin0 nin0).ext E170).ext E171).keep K174 (ninS (Nat.ne_of_lt (Nat.lt_of_lt_of_le (Nat.lt_of_lt_of_le U167.lt K169.1) (Nat.le_of_eq gb170.symm))) nin0) (ninS (Nat.ne_of_lt (Nat.lt_of_lt_of_le (Nat.lt_of_lt_of_le U167.blt K169.1) (Nat.le_of_eq gb170.symm))) nin0)).keep K177 (ninS (Nat.ne_of_lt (Nat.lt_of_lt_of_le (Nat.lt_of_lt_of_le (Nat.lt_of_lt_of_le U167.lt K169.1) E170.1) (Nat.le_of_eq gb171.symm))) nin0) (ninS (Nat.ne_of_lt (Nat.lt_of_lt_of_le (Nat.lt_of_lt_of_le (Nat.lt_of_lt_of_le U167.blt K169.1) E170.1) (Nat.le_of_eq gb171.symm))) nin0))
        have f181 := ((((U169.ext E170).ext E171).keep K174 (ninS (Nat.ne_of_lt (Nat.lt_of_lt_of_le U169.lt (Nat.le_of_eq gb170.symm))) nin0) (ninS (Nat.ne_of_lt (Nat.lt_of_lt_of_le U169.blt (Nat.le_of_eq gb170.symm))) nin0)).keep K177 (ninS (Nat.ne_of_lt (Nat.lt_of_lt_of_le (U169.ext E170).lt (Nat.le_of_eq gb171.symm))) nin0) (ninS (Nat.ne_of_lt (Nat.lt_of_lt_of_le (Nat.lt_of_lt_of_le U169.blt E170.1) (Nat.le_of_eq gb171.symm))) nin0))
        refine o_stat X179 [(.ref t167), (.ref t169)] (y' := (⟨"com/example/refinement/refinement/io/CodePointOrder", "compare", "(Ljava/lang/String;Ljava/lang/String;)I"⟩ : MethodName)) (c_cmp hw t167 b167 kb167 (takeC ln x3 x6 x9) t169 b169 kb169 (takeC rn x3 x6 x9) _ O2 P5 O4 rfm SA SH SL f180 f181) all0 (w44 hw) (w45 hw) (w46 hw) (w47 hw) (by decide) at_187 (rest := []) rfl rfl (lenOf pd22 rfl) rfl (by decide) (Nat.le_of_ble_eq_true rfl) (by decide) (by decide) (q := 190) rfl ?_
        intro v182 vm182 T182 h182 l182 X182 R182 q182
        obtain ⟨z182, rfl, e182, hz182⟩ := q182
        have e182 := e182.symm
        subst e182
        show Goes p e below _ T182 (mkF m 190 #[.val (.long p0), .second, .val (.long p1), .second, .val (.int p2), .val (.ref b1), .val (.ref b2), .val (.int ln), .val (.int rn), .val (.ref t167), .val (.ref t169), .val (.ref b170), .val (.ref b171), .val (.int z179)] [(.int z182)])
        refine o_iload X182 at_190 rfl (q := 192) rfl ?_
        refine o_icmpN X182 at_192 (teq (hz182.trans ((own_lex (own_takel _ _ _ _) (own_takel _ _ _ _)).symm.trans hz179.symm))).2 (q := 195) rfl ?_
        refine o_iconst X182 at_195 (w := 1) rfl (q := 196) rfl ?_
        refine o_goto X182 at_196 (by decide) (q := 200) (by decide) ?_
        exact o_retN X182 at_200 (by simp) (fun Sf hSf => rfl) (by decide) (by decide)
set_option maxRecDepth 65536 in
set_option maxHeartbeats 40000000 in
theorem comes_1 {Post : Tables → Env → Array Value → State → Outcome → State → Prop} (hpost : ∀ tb e args s v u, (limb_1_1.after args s (.returned v) u = true ∧ limb_1_2.after args s (.returned v) u = true ∧ True) → ReturnedEndW s (.returned v) u (Jvm.fieldLocs frame_1_writes args s ++ Jvm.arrayLocs frame_1_arrays args s ++ Jvm.staticLocs frame_1_statics s) 40 1216 → Post tb e args s (.returned v) u) :
    ArmFor flags0 classFile x code maxLocals ret World_1 tables_1 room_1 Calls_1 rest_1 Pre_1 Post := by
  intro l hfl _ _ p e ha hc hk s m args below hf hA hF happ hP
  obtain ⟨hcalls, hrest, hpre⟩ := hP
  obtain ⟨-, -, -, hnamed, -, -, -, hat⟩ := (Spec.applies_iff hf).mp happ
  obtain ⟨hg, hn⟩ := and_e (Cond.before_iff.mp (show (Jvm.Cond.and given_1 narrow_1).before args s = true from hpre))
  obtain ⟨hcount, hg0⟩ := and_e hg
  obtain ⟨ga0, hg1⟩ := and_e hg0
  obtain ⟨ga1, hg2⟩ := and_e hg1
  obtain ⟨w0, w1, w2, rfl⟩ : ∃ w0 w1 w2 : Value, args = #[w0, w1, w2] := by
    have hs : args.size = 3 := by simpa [Cond.value, given_1] using hcount
    obtain ⟨L⟩ := args
    match L, hs with
    | [w0, w1, w2], _ => exact ⟨w0, w1, w2, rfl⟩
  have hw : W _ s := fun d (hd : d ∈ tables_1) => atoms_spec (ws := Jvm.Cond.code x code maxLocals ret :: tables_1) hat d (List.mem_cons_of_mem _ hd)
  obtain ⟨hsets, hown0⟩ := atoms_of _ (rest_1_c_eq ▸ (show rest_1_c.before _ s = true from hrest))
  obtain ⟨i0, ei0⟩ := isL_v ga0
  obtain rfl : w0 = (.long i0) := Option.some.inj ei0
  obtain ⟨i1, ei1⟩ := isL_v ga1
  obtain rfl : w1 = (.long i1) := Option.some.inj ei1
  obtain ⟨i2, ei2⟩ := is_v hg2
  obtain rfl : w2 = (.int i2) := Option.some.inj ei2
  obtain ⟨zc, ezc⟩ := is_v (Cond.before_iff.mp (hsets _ (List.mem_of_getElem? (i := 1) rfl)))
  have O2 : Sta s s.heap "java/lang/String" "COMPACT_STRINGS" "Z" (.int zc) := Sta.start ezc (Or.inl (hsets _ (List.mem_of_getElem? (i := 0) rfl)))
  have P5 : ¬ (zc = (0 : Int32)) := gotF (Cond.eq_ints ezc (Term.int_eval (0))) (not_v (Cond.before_iff.mp (hsets _ (List.mem_of_getElem? (i := 2) rfl))))
  obtain ⟨fm, efm, rfm⟩ := isR_v (Cond.before_iff.mp (hsets _ (List.mem_of_getElem? (i := 8) rfl)))
  have O4 : Sta s s.heap "jdk/internal/util/Preconditions" "SIOOBE_FORMATTER" "Ljava/util/function/BiFunction;" fm := Sta.start efm (Or.inl (hsets _ (List.mem_of_getElem? (i := 7) rfl)))
  have SA : Sta s s.heap "java/lang/StringUTF16" "$assertionsDisabled" "Z" (.int (1 : Int32)) := Sta.start (own_evI (Cond.before_iff.mp (hsets _ (List.mem_of_getElem? (i := 12) rfl)))) (Or.inl (hsets _ (List.mem_of_getElem? (i := 11) rfl)))
  have SH : Sta s s.heap "java/lang/StringUTF16" "HI_BYTE_SHIFT" "I" (.int (0 : Int32)) := Sta.start (own_evI (Cond.before_iff.mp (hsets _ (List.mem_of_getElem? (i := 15) rfl)))) (Or.inl (hsets _ (List.mem_of_getElem? (i := 14) rfl)))
  have SL : Sta s s.heap "java/lang/StringUTF16" "LO_BYTE_SHIFT" "I" (.int (8 : Int32)) := Sta.start (own_evI (Cond.before_iff.mp (hsets _ (List.mem_of_getElem? (i := 18) rfl)))) (Or.inl (hsets _ (List.mem_of_getElem? (i := 17) rfl)))
  have hEW : EW s _ EL0 := (EW.cons (w23 hw) (by decide) EW.nil)
  have hhe : ∀ p ∈ EL0, Jvm.Lit.constHeld s p.1 p.2 := fun p hp => hcalls.1 p hp
  have hcw : Jvm.Lit.compactW.before _ s = true := (hsets _ (List.mem_of_getElem? (i := 2) rfl))
  have hCH : CHv s EL0 s.vm s.heap := CHv.start hEW hhe hcw (w24 hw) (w11 hw)
  obtain ⟨n, o, h1, h2, h3, v, L, rfl, ⟨hQ, hN, -⟩, -, hq⟩ := c_law (l := l) hw i0 i1 i2 O2 P5 O4 rfm SA SH SL ⟨_, hEW⟩ ⟨Nat.le_refl _, fun _ _ q => q⟩ tables_1 p e ha hc hk s m _ below hf ((Spec.applies_iff_loose hf).mp happ).1 ⟨rfl, State.Warmed39.refl s, rfl, hCH, all0⟩ trivial
  subst hQ
  refine ⟨n, _, h1, h2, h3, hpost _ _ _ _ _ _ ⟨Cond.after_iff.mpr rfl, Cond.after_iff.mpr (eq_i res_at (Term.int_eval (1)) rfl), trivial⟩ ⟨hq.1, hq.2.1, hq.2.2.1, (hq.2.2.2.sift fun y hy => Or.inr (hN y hy)).mono (by decide) (by decide)⟩⟩
theorem main_1_1 : Claimed_1_1 := comes_1 fun _ _ _ _ _ _ h hF => ⟨h.1, hF⟩
theorem main_1_2 : Claimed_1_2 := comes_1 fun _ _ _ _ _ _ h hF => ⟨h.2.1, hF⟩
end Jvm.Pilot.@@N@@
namespace Jvm.Pilot.@@N@@
open Jvm Jvm.ClassFile Sem Op Lib Jvm.Free Jvm.Stand Jvm.Pilot.@@N@@.Jvm.D
/-! MADE BY PROGRAM (witnessworld.py) out of the Statement's table words and the real class files: 23 classes; the members and pool entries that the words name. The judged class is class 1, her method 1. -/
namespace start1
open Jvm.ClassFile
def u (s : String) : CpInfo := .utf8 (stringToUtf16 s)
/-- a pool by its gaps: so many unusable entries, then the entry; so many at the end -/
def gap : Nat → List CpInfo → List CpInfo
  | 0, r => r
  | n + 1, r => .unusable :: gap n r
def poolList (es : List (Nat × CpInfo)) (last : Nat) : List CpInfo := es.foldr (fun e r => gap e.1 (e.2 :: r)) (gap last [])
def pool (es : List (Nat × CpInfo)) (last : Nat) : Array CpInfo := ⟨poolList es last⟩
def fileOf (pool : Array CpInfo) (this : Nat) (attrs : Array Attribute := #[]) (ms : Array MethodInfo := #[]) (fl : Nat := 33) (sup : Nat := 0) (ifs : Array Nat := #[]) (fds : Array FieldInfo := #[]) : ClassFile where
  minorVersion := 0
  majorVersion := 65
  constantPool := pool
  accessFlags := fl
  thisClass := this
  superClass := sup
  interfaces := ifs
  fields := fds
  methods := ms
  attributes := attrs
def plain (name : String) (sup : Option ClassId) : Class where
  name := name
  kind := .ordinary
  loader := none
  accessFlags := 33
  super := sup
  interfaces := #[]
  cf := none
  fields := #[]
  methods := #[]
  instanceTypes := #[]
  staticTypes := #[]
  resolved := #[]
  callSites := []
  init := .initialized
  statics := none
  mirror := none

def pool0 : Array CpInfo := pool [(5, u "<init>"), (0, u "()V"), (1, .class_ 10), (1, u "java/lang/Object")] 113

def k0c0 : Code := { maxStack := 0, maxLocals := 1, code := object_method_1_code, exceptionTable := #[], attributes := #[] }
def k0m0 : Method := { name := "<init>", desc := "()V", sig := { parameters := [], returnType := none }, accessFlags := 1, code := some k0c0 }
/-- java/lang/Object -/
def k0 : Class := { plain "java/lang/Object" none with
  accessFlags := 33
  interfaces := #[]
  cf := some (fileOf pool0 8 #[] #[{ accessFlags := 1, nameIndex := 5, descriptorIndex := 6, attributes := #[] }] 33 0 #[] #[])
  fields := #[]
  methods := #[k0m0]
  instanceTypes := #[]
  staticTypes := #[]
  resolved := Array.replicate 124 none
  statics := none }

def pool1 : Array CpInfo := pool [(2, .class_ 4), (1, u "java/lang/Object"), (0, u "<init>"), (0, u "()V"), (0, .methodref 8 9), (0, .class_ 10), (0, .nameAndType 11 12), (0, u "com/example/refinement/refinement/io/CodePointOrderComparePinLaw"), (0, u "draw"), (0, u "(JI)C"), (0, .long 3), (1, .methodref 8 16), (0, .nameAndType 17 18), (0, u "make"), (0, u "([CI)Ljava/lang/String;"), (0, .methodref 8 20), (0, .nameAndType 21 22), (0, u "decode"), (0, u "([CI[I)V"), (0, .methodref 8 24), (0, .nameAndType 25 26), (0, u "lex"), (0, u "([I[I)I"), (0, .methodref 28 29), (0, .class_ 30), (0, .nameAndType 31 32), (0, u "com/example/refinement/refinement/io/CodePointOrder"), (0, u "compare"), (0, u "(Ljava/lang/String;Ljava/lang/String;)I"), (0, .long 65535), (1, .integer 55296), (0, .class_ 37), (0, u "java/lang/String"), (0, .methodref 36 39), (0, .nameAndType 5 40), (0, u "([C)V"), (0, .integer 56319), (0, .integer 56320), (0, .integer 57343), (0, .methodref 8 45), (0, .nameAndType 46 47), (0, u "isHigh"), (0, u "(C)Z"), (0, .methodref 8 49), (0, .nameAndType 50 47), (0, u "isLow"), (0, .integer 65536), (0, .methodref 8 53), (0, .nameAndType 54 55), (0, u "width"), (0, u "([CII)I"), (0, .methodref 8 57), (0, .nameAndType 58 55), (0, u "value"), (2, u "law"), (0, u "(JJI)Z")] 7

def k1m0 : Method := { name := "<init>", desc := "()V", sig := { parameters := [], returnType := none }, accessFlags := 2, code := none }
def k1c1 : Code := { maxStack := 5, maxLocals := 14, code := code, exceptionTable := #[], attributes := #[] }
def k1m1 : Method := { name := "law", desc := "(JJI)Z", sig := { parameters := [.long, .long, .int], returnType := some .boolean }, accessFlags := 9, code := some k1c1 }
def k1c2 : Code := { maxStack := 4, maxLocals := 4, code := method_3_code, exceptionTable := #[], attributes := #[] }
def k1m2 : Method := { name := "draw", desc := "(JI)C", sig := { parameters := [.long, .int], returnType := some .char }, accessFlags := 10, code := some k1c2 }
def k1c3 : Code := { maxStack := 7, maxLocals := 2, code := method_4_code, exceptionTable := #[], attributes := #[] }
def k1m3 : Method := { name := "make", desc := "([CI)Ljava/lang/String;", sig := { parameters := [(.array .char), .int], returnType := some (.object "java/lang/String") }, accessFlags := 10, code := some k1c3 }
def k1c4 : Code := { maxStack := 2, maxLocals := 1, code := method_5_code, exceptionTable := #[], attributes := #[] }
def k1m4 : Method := { name := "isHigh", desc := "(C)Z", sig := { parameters := [.char], returnType := some .boolean }, accessFlags := 10, code := some k1c4 }
def k1c5 : Code := { maxStack := 2, maxLocals := 1, code := method_6_code, exceptionTable := #[], attributes := #[] }
def k1m5 : Method := { name := "isLow", desc := "(C)Z", sig := { parameters := [.char], returnType := some .boolean }, accessFlags := 10, code := some k1c5 }
def k1c6 : Code := { maxStack := 3, maxLocals := 3, code := method_7_code, exceptionTable := #[], attributes := #[] }
def k1m6 : Method := { name := "width", desc := "([CII)I", sig := { parameters := [(.array .char), .int, .int], returnType := some .int }, accessFlags := 10, code := some k1c6 }
def k1c7 : Code := { maxStack := 4, maxLocals := 3, code := method_8_code, exceptionTable := #[], attributes := #[] }
def k1m7 : Method := { name := "value", desc := "([CII)I", sig := { parameters := [(.array .char), .int, .int], returnType := some .int }, accessFlags := 10, code := some k1c7 }
def k1c8 : Code := { maxStack := 5, maxLocals := 8, code := method_9_code, exceptionTable := #[], attributes := #[] }
def k1m8 : Method := { name := "decode", desc := "([CI[I)V", sig := { parameters := [(.array .char), .int, (.array .int)], returnType := none }, accessFlags := 10, code := some k1c8 }
def k1c9 : Code := { maxStack := 3, maxLocals := 4, code := method_10_code, exceptionTable := #[], attributes := #[] }
def k1m9 : Method := { name := "lex", desc := "([I[I)I", sig := { parameters := [(.array .int), (.array .int)], returnType := some .int }, accessFlags := 10, code := some k1c9 }
/-- com/example/refinement/refinement/io/CodePointOrderComparePinLaw -/
def k1 : Class := { plain "com/example/refinement/refinement/io/CodePointOrderComparePinLaw" (some 0) with
  accessFlags := 49
  interfaces := #[]
  cf := some (fileOf pool1 8 #[] #[{ accessFlags := 2, nameIndex := 5, descriptorIndex := 6, attributes := #[] }, { accessFlags := 9, nameIndex := 61, descriptorIndex := 62, attributes := #[] }, { accessFlags := 10, nameIndex := 11, descriptorIndex := 12, attributes := #[] }, { accessFlags := 10, nameIndex := 17, descriptorIndex := 18, attributes := #[] }, { accessFlags := 10, nameIndex := 46, descriptorIndex := 47, attributes := #[] }, { accessFlags := 10, nameIndex := 50, descriptorIndex := 47, attributes := #[] }, { accessFlags := 10, nameIndex := 54, descriptorIndex := 55, attributes := #[] }, { accessFlags := 10, nameIndex := 58, descriptorIndex := 55, attributes := #[] }, { accessFlags := 10, nameIndex := 21, descriptorIndex := 22, attributes := #[] }, { accessFlags := 10, nameIndex := 25, descriptorIndex := 26, attributes := #[] }] 49 2 #[] #[])
  fields := #[]
  methods := #[k1m0, k1m1, k1m2, k1m3, k1m4, k1m5, k1m6, k1m7, k1m8, k1m9]
  instanceTypes := #[]
  staticTypes := #[]
  resolved := Array.replicate 70 none
  statics := none }

def pool2 : Array CpInfo := pool [(1, .class_ 2), (0, u "java/io/Serializable"), (0, .class_ 4), (0, u "java/lang/Object")] 2

/-- java/io/Serializable -/
def k2 : Class := { plain "java/io/Serializable" (some 0) with
  accessFlags := 1537
  interfaces := #[]
  cf := some (fileOf pool2 1 #[] #[] 1537 3 #[] #[])
  fields := #[]
  methods := #[]
  instanceTypes := #[]
  staticTypes := #[]
  resolved := Array.replicate 7 none
  statics := none }

def pool3 : Array CpInfo := pool [(1, .class_ 2), (0, u "java/lang/Comparable"), (0, .class_ 4), (0, u "java/lang/Object")] 7

/-- java/lang/Comparable -/
def k3 : Class := { plain "java/lang/Comparable" (some 0) with
  accessFlags := 1537
  interfaces := #[]
  cf := some (fileOf pool3 1 #[] #[] 1537 3 #[] #[])
  fields := #[]
  methods := #[]
  instanceTypes := #[]
  staticTypes := #[]
  resolved := Array.replicate 12 none
  statics := none }

def pool4 : Array CpInfo := pool [(2, .class_ 4), (1, u "java/lang/CharSequence"), (42, .class_ 48), (0, u "java/lang/CharSequence$1CodePointIterator"), (10, .class_ 60), (0, u "java/lang/CharSequence$1CharIterator"), (5, .class_ 67), (0, u "java/lang/Object")] 63

/-- java/lang/CharSequence -/
def k4 : Class := { plain "java/lang/CharSequence" (some 0) with
  accessFlags := 1537
  interfaces := #[]
  cf := some (fileOf pool4 2 #[.nestMembers #[47, 59]] #[] 1537 66 #[] #[])
  fields := #[]
  methods := #[]
  instanceTypes := #[]
  staticTypes := #[]
  resolved := Array.replicate 131 none
  statics := none }

def pool5 : Array CpInfo := pool [(1, .class_ 2), (0, u "java/lang/constant/Constable"), (0, .class_ 4), (0, u "java/lang/Object")] 6

/-- java/lang/constant/Constable -/
def k5 : Class := { plain "java/lang/constant/Constable" (some 0) with
  accessFlags := 1537
  interfaces := #[]
  cf := some (fileOf pool5 1 #[] #[] 1537 3 #[] #[])
  fields := #[]
  methods := #[]
  instanceTypes := #[]
  staticTypes := #[]
  resolved := Array.replicate 11 none
  statics := none }

def pool6 : Array CpInfo := pool [(1, .class_ 2), (0, u "java/lang/constant/ConstantDesc"), (0, .class_ 4), (0, u "java/lang/Object")] 32

/-- java/lang/constant/ConstantDesc -/
def k6 : Class := { plain "java/lang/constant/ConstantDesc" (some 0) with
  accessFlags := 1537
  interfaces := #[]
  cf := some (fileOf pool6 1 #[] #[] 1537 3 #[] #[])
  fields := #[]
  methods := #[]
  instanceTypes := #[]
  staticTypes := #[]
  resolved := Array.replicate 37 none
  statics := none }

def pool7 : Array CpInfo := pool [(1, .methodref 2 3), (0, .class_ 4), (0, .nameAndType 5 6), (0, u "java/lang/Object"), (0, u "<init>"), (0, u "()V"), (0, .string 8), (0, u ""), (0, .fieldref 10 11), (0, .class_ 12), (0, .nameAndType 13 14), (0, u "java/lang/String"), (0, u "value"), (0, u "[B"), (0, .fieldref 10 16), (0, .nameAndType 17 18), (0, u "coder"), (0, u "B"), (2, u "hash"), (0, u "I"), (2, u "hashIsZero"), (0, u "Z"), (0, .methodref 10 28), (0, .nameAndType 5 29), (0, u "([CIILjava/lang/Void;)V"), (8, .fieldref 10 39), (0, .nameAndType 40 26), (0, u "COMPACT_STRINGS"), (1, .class_ 44), (1, u "java/lang/StringUTF16"), (0, u "compress"), (1, .methodref 42 48), (0, .nameAndType 49 50), (0, u "coderFromArrayLen"), (0, u "([BI)B"), (46, u "([BII)I"), (44, u "()Z"), (34, .methodref 42 178), (0, .nameAndType 45 179), (0, u "([CII)[B"), (154, u "()I"), (0, .methodref 10 336), (0, .nameAndType 17 337), (0, u "()B"), (53, u "(II)V"), (100, .methodref 10 493), (0, .nameAndType 494 142), (0, u "isLatin1"), (4, .methodref 10 500), (0, .nameAndType 501 391), (0, u "checkIndex"), (0, .methodref 42 503), (0, .nameAndType 504 97), (0, u "codePointAt"), (2, u "length"), (67, .class_ 576), (0, u "java/lang/CharSequence"), (22, u "CASE_INSENSITIVE_ORDER"), (0, u "Ljava/util/Comparator;"), (164, u "(I)I"), (244, u "([C)V"), (42, .fieldref 1054 1055), (0, .class_ 1056), (0, .nameAndType 1057 1058), (0, u "jdk/internal/util/Preconditions"), (0, u "SIOOBE_FORMATTER"), (0, u "Ljava/util/function/BiFunction;"), (0, .methodref 1054 1060), (0, .nameAndType 501 1061), (0, u "(IILjava/util/function/BiFunction;)I"), (39, u "serialPersistentFields"), (0, u "[Ljava/io/ObjectStreamField;"), (0, .class_ 1104), (0, u "java/lang/String$CaseInsensitiveComparator"), (1, .class_ 1107), (0, u "java/io/Serializable"), (0, .class_ 1109), (0, u "java/lang/Comparable"), (0, .class_ 1111), (0, u "java/lang/constant/Constable"), (0, .class_ 1113), (0, u "java/lang/constant/ConstantDesc"), (2, u "serialVersionUID"), (0, u "J"), (3, u "REPL"), (0, u "C"), (2, u "LATIN1"), (1, u "UTF16")] 323

def k7m0 : Method := { name := "<init>", desc := "()V", sig := { parameters := [], returnType := none }, accessFlags := 1, code := none }
def k7c1 : Code := { maxStack := 5, maxLocals := 2, code := jdk_42_method_3_code, exceptionTable := #[], attributes := #[] }
def k7m1 : Method := { name := "<init>", desc := "([C)V", sig := { parameters := [(.array .char)], returnType := none }, accessFlags := 1, code := some k7c1 }
def k7c2 : Code := { maxStack := 2, maxLocals := 1, code := jdk_42_method_54_code, exceptionTable := #[], attributes := #[] }
def k7m2 : Method := { name := "length", desc := "()I", sig := { parameters := [], returnType := some .int }, accessFlags := 1, code := some k7c2 }
def k7c3 : Code := { maxStack := 3, maxLocals := 3, code := jdk_42_method_57_code, exceptionTable := #[], attributes := #[] }
def k7m3 : Method := { name := "codePointAt", desc := "(I)I", sig := { parameters := [.int], returnType := some .int }, accessFlags := 1, code := some k7c3 }
def k7c4 : Code := { maxStack := 4, maxLocals := 6, code := jdk_42_method_149_code, exceptionTable := #[], attributes := #[] }
def k7m4 : Method := { name := "<init>", desc := "([CIILjava/lang/Void;)V", sig := { parameters := [(.array .char), .int, .int, (.object "java/lang/Void")], returnType := none }, accessFlags := 2, code := some k7c4 }
def k7c5 : Code := { maxStack := 1, maxLocals := 1, code := jdk_42_method_152_code, exceptionTable := #[], attributes := #[] }
def k7m5 : Method := { name := "coder", desc := "()B", sig := { parameters := [], returnType := some .byte }, accessFlags := 0, code := some k7c5 }
def k7c6 : Code := { maxStack := 1, maxLocals := 1, code := jdk_42_method_154_code, exceptionTable := #[], attributes := #[] }
def k7m6 : Method := { name := "isLatin1", desc := "()Z", sig := { parameters := [], returnType := some .boolean }, accessFlags := 0, code := some k7c6 }
def k7c7 : Code := { maxStack := 3, maxLocals := 2, code := jdk_42_method_155_code, exceptionTable := #[], attributes := #[] }
def k7m7 : Method := { name := "checkIndex", desc := "(II)V", sig := { parameters := [.int, .int], returnType := none }, accessFlags := 8, code := some k7c7 }
/-- java/lang/String -/
def k7 : Class := { plain "java/lang/String" (some 0) with
  accessFlags := 49
  interfaces := #[2, 3, 4, 5, 6]
  cf := some (fileOf pool7 10 #[.nestMembers #[1103]] #[{ accessFlags := 1, nameIndex := 5, descriptorIndex := 6, attributes := #[] }, { accessFlags := 1, nameIndex := 5, descriptorIndex := 1010, attributes := #[] }, { accessFlags := 1, nameIndex := 507, descriptorIndex := 334, attributes := #[] }, { accessFlags := 1, nameIndex := 504, descriptorIndex := 765, attributes := #[] }, { accessFlags := 2, nameIndex := 5, descriptorIndex := 29, attributes := #[] }, { accessFlags := 0, nameIndex := 17, descriptorIndex := 337, attributes := #[] }, { accessFlags := 0, nameIndex := 494, descriptorIndex := 142, attributes := #[] }, { accessFlags := 8, nameIndex := 501, descriptorIndex := 391, attributes := #[] }] 49 2 #[1106, 1108, 575, 1110, 1112] #[{ accessFlags := 18, nameIndex := 13, descriptorIndex := 14, attributes := #[] }, { accessFlags := 18, nameIndex := 17, descriptorIndex := 18, attributes := #[] }, { accessFlags := 2, nameIndex := 21, descriptorIndex := 22, attributes := #[] }, { accessFlags := 2, nameIndex := 25, descriptorIndex := 26, attributes := #[] }, { accessFlags := 26, nameIndex := 1116, descriptorIndex := 1117, attributes := #[] }, { accessFlags := 24, nameIndex := 40, descriptorIndex := 26, attributes := #[] }, { accessFlags := 26, nameIndex := 1101, descriptorIndex := 1102, attributes := #[] }, { accessFlags := 26, nameIndex := 1121, descriptorIndex := 1122, attributes := #[] }, { accessFlags := 25, nameIndex := 599, descriptorIndex := 600, attributes := #[] }, { accessFlags := 24, nameIndex := 1125, descriptorIndex := 18, attributes := #[] }, { accessFlags := 24, nameIndex := 1127, descriptorIndex := 18, attributes := #[] }])
  fields := #[{ name := "value", type := (.array .byte), accessFlags := 18, slot := 0, constantValue := 0 }, { name := "coder", type := .byte, accessFlags := 18, slot := 1, constantValue := 0 }, { name := "hash", type := .int, accessFlags := 2, slot := 2, constantValue := 0 }, { name := "hashIsZero", type := .boolean, accessFlags := 2, slot := 3, constantValue := 0 }, { name := "serialVersionUID", type := .long, accessFlags := 26, slot := 0, constantValue := 0 }, { name := "COMPACT_STRINGS", type := .boolean, accessFlags := 24, slot := 1, constantValue := 0 }, { name := "serialPersistentFields", type := (.array (.object "java/io/ObjectStreamField")), accessFlags := 26, slot := 2, constantValue := 0 }, { name := "REPL", type := .char, accessFlags := 26, slot := 3, constantValue := 0 }, { name := "CASE_INSENSITIVE_ORDER", type := (.object "java/util/Comparator"), accessFlags := 25, slot := 4, constantValue := 0 }, { name := "LATIN1", type := .byte, accessFlags := 24, slot := 5, constantValue := 0 }, { name := "UTF16", type := .byte, accessFlags := 24, slot := 6, constantValue := 0 }]
  methods := #[k7m0, k7m1, k7m2, k7m3, k7m4, k7m5, k7m6, k7m7]
  instanceTypes := #[(.array .byte), .byte, .int, .boolean]
  staticTypes := #[.long, .boolean, (.array (.object "java/io/ObjectStreamField")), .char, (.object "java/util/Comparator"), .byte, .byte]
  resolved := Array.replicate 1451 none
  statics := some 0 }

def pool8 : Array CpInfo := pool [(2, .class_ 4), (1, u "java/lang/Object"), (0, u "<init>"), (0, u "()V"), (0, .methodref 8 9), (0, .class_ 10), (0, .nameAndType 11 12), (0, u "java/lang/String"), (0, u "length"), (0, u "()I"), (0, .methodref 8 14), (0, .nameAndType 15 16), (0, u "codePointAt"), (0, u "(I)I"), (0, .methodref 18 19), (0, .class_ 20), (0, .nameAndType 21 22), (0, u "java/lang/Integer"), (0, u "compare"), (0, u "(II)I"), (0, .methodref 24 25), (0, .class_ 26), (0, .nameAndType 27 16), (0, u "java/lang/Character"), (0, u "charCount"), (0, .class_ 29), (0, u "com/example/refinement/refinement/io/CodePointOrder"), (2, u "(Ljava/lang/String;Ljava/lang/String;)I")] 3

def k8m0 : Method := { name := "<init>", desc := "()V", sig := { parameters := [], returnType := none }, accessFlags := 2, code := none }
def k8c1 : Code := { maxStack := 2, maxLocals := 5, code := prog_1_method_2_code, exceptionTable := #[], attributes := #[] }
def k8m1 : Method := { name := "compare", desc := "(Ljava/lang/String;Ljava/lang/String;)I", sig := { parameters := [(.object "java/lang/String"), (.object "java/lang/String")], returnType := some .int }, accessFlags := 9, code := some k8c1 }
/-- com/example/refinement/refinement/io/CodePointOrder -/
def k8 : Class := { plain "com/example/refinement/refinement/io/CodePointOrder" (some 0) with
  accessFlags := 49
  interfaces := #[]
  cf := some (fileOf pool8 28 #[] #[{ accessFlags := 2, nameIndex := 5, descriptorIndex := 6, attributes := #[] }, { accessFlags := 9, nameIndex := 21, descriptorIndex := 32, attributes := #[] }] 49 2 #[] #[])
  fields := #[]
  methods := #[k8m0, k8m1]
  instanceTypes := #[]
  staticTypes := #[]
  resolved := Array.replicate 36 none
  statics := none }

def pool9 : Array CpInfo := pool [(2, .class_ 4), (1, u "java/lang/Object"), (0, u "<init>"), (0, u "()V"), (1, .class_ 10), (1, u "java/lang/Number"), (2, .class_ 14), (0, u "java/io/Serializable"), (0, u "serialVersionUID"), (0, u "J")] 20

def k9m0 : Method := { name := "<init>", desc := "()V", sig := { parameters := [], returnType := none }, accessFlags := 1, code := none }
/-- java/lang/Number -/
def k9 : Class := { plain "java/lang/Number" (some 0) with
  accessFlags := 1057
  interfaces := #[2]
  cf := some (fileOf pool9 8 #[] #[{ accessFlags := 1, nameIndex := 5, descriptorIndex := 6, attributes := #[] }] 1057 2 #[13] #[{ accessFlags := 26, nameIndex := 15, descriptorIndex := 16, attributes := #[] }])
  fields := #[{ name := "serialVersionUID", type := .long, accessFlags := 26, slot := 0, constantValue := 0 }]
  methods := #[k9m0]
  instanceTypes := #[]
  staticTypes := #[.long]
  resolved := Array.replicate 37 none
  statics := none }

def pool10 : Array CpInfo := pool [(1, .class_ 2), (0, u "java/lang/Integer"), (16, u "digits"), (0, u "[C"), (39, u "(II)I"), (24, u "DigitOnes"), (0, u "[B"), (2, u "DigitTens"), (99, .class_ 190), (0, u "java/lang/Integer$IntegerCache"), (3, u "I"), (8, .class_ 204), (0, u "java/lang/Number"), (2, u "value"), (53, u "compare"), (40, u "TYPE"), (0, u "Ljava/lang/Class;"), (0, .class_ 305), (0, u "java/lang/Comparable"), (0, .class_ 307), (0, u "java/lang/constant/Constable"), (0, .class_ 309), (0, u "java/lang/constant/ConstantDesc"), (0, u "MIN_VALUE"), (1, u "MAX_VALUE"), (3, u "SIZE"), (1, u "BYTES"), (1, u "serialVersionUID"), (0, u "J")] 131

def k10c0 : Code := { maxStack := 2, maxLocals := 2, code := jdk_33_method_40_code, exceptionTable := #[], attributes := #[] }
def k10m0 : Method := { name := "compare", desc := "(II)I", sig := { parameters := [.int, .int], returnType := some .int }, accessFlags := 9, code := some k10c0 }
/-- java/lang/Integer -/
def k10 : Class := { plain "java/lang/Integer" (some 9) with
  accessFlags := 49
  interfaces := #[3, 5, 6]
  cf := some (fileOf pool10 1 #[.nestMembers #[189]] #[{ accessFlags := 9, nameIndex := 261, descriptorIndex := 60, attributes := #[] }] 49 203 #[304, 306, 308] #[{ accessFlags := 25, nameIndex := 310, descriptorIndex := 194, attributes := #[] }, { accessFlags := 25, nameIndex := 312, descriptorIndex := 194, attributes := #[] }, { accessFlags := 25, nameIndex := 302, descriptorIndex := 303, attributes := #[] }, { accessFlags := 24, nameIndex := 19, descriptorIndex := 20, attributes := #[] }, { accessFlags := 24, nameIndex := 89, descriptorIndex := 86, attributes := #[] }, { accessFlags := 24, nameIndex := 85, descriptorIndex := 86, attributes := #[] }, { accessFlags := 18, nameIndex := 207, descriptorIndex := 194, attributes := #[] }, { accessFlags := 25, nameIndex := 316, descriptorIndex := 194, attributes := #[] }, { accessFlags := 25, nameIndex := 318, descriptorIndex := 194, attributes := #[] }, { accessFlags := 26, nameIndex := 320, descriptorIndex := 321, attributes := #[] }])
  fields := #[{ name := "MIN_VALUE", type := .int, accessFlags := 25, slot := 0, constantValue := 0 }, { name := "MAX_VALUE", type := .int, accessFlags := 25, slot := 1, constantValue := 0 }, { name := "TYPE", type := (.object "java/lang/Class"), accessFlags := 25, slot := 2, constantValue := 0 }, { name := "digits", type := (.array .char), accessFlags := 24, slot := 3, constantValue := 0 }, { name := "DigitTens", type := (.array .byte), accessFlags := 24, slot := 4, constantValue := 0 }, { name := "DigitOnes", type := (.array .byte), accessFlags := 24, slot := 5, constantValue := 0 }, { name := "value", type := .int, accessFlags := 18, slot := 0, constantValue := 0 }, { name := "SIZE", type := .int, accessFlags := 25, slot := 6, constantValue := 0 }, { name := "BYTES", type := .int, accessFlags := 25, slot := 7, constantValue := 0 }, { name := "serialVersionUID", type := .long, accessFlags := 26, slot := 8, constantValue := 0 }]
  methods := #[k10m0]
  instanceTypes := #[.int]
  staticTypes := #[.int, .int, (.object "java/lang/Class"), (.array .char), (.array .byte), (.array .byte), .int, .int, .long]
  resolved := Array.replicate 453 none
  statics := none }

def pool11 : Array CpInfo := pool [(6, .class_ 8), (1, u "java/lang/Object"), (0, u "<init>"), (0, u "()V"), (0, .methodref 12 13), (0, .class_ 14), (0, .nameAndType 15 16), (0, u "java/lang/StringUTF16"), (0, u "newBytesLength"), (0, u "(I)I"), (3, .integer 1073741823), (23, .fieldref 12 45), (0, .nameAndType 46 47), (0, u "$assertionsDisabled"), (0, u "Z"), (11, .fieldref 12 60), (0, .nameAndType 61 62), (0, u "HI_BYTE_SHIFT"), (0, u "I"), (0, .fieldref 12 64), (0, .nameAndType 65 62), (0, u "LO_BYTE_SHIFT"), (5, .methodref 12 72), (0, .nameAndType 73 74), (0, u "getChar"), (0, u "([BI)C"), (0, .methodref 76 77), (0, .class_ 78), (0, .nameAndType 79 80), (0, u "java/lang/Character"), (0, u "isHighSurrogate"), (0, u "(C)Z"), (0, .methodref 76 82), (0, .nameAndType 83 80), (0, u "isLowSurrogate"), (0, .methodref 76 85), (0, .nameAndType 86 87), (0, u "toCodePoint"), (0, u "(CC)I"), (0, .methodref 12 89), (0, .nameAndType 90 91), (0, u "codePointAt"), (0, u "([BIIZ)I"), (15, .methodref 12 108), (0, .nameAndType 109 110), (0, u "newBytesFor"), (0, u "(I)[B"), (0, .methodref 12 112), (0, .nameAndType 113 114), (0, u "putChar"), (0, u "([BII)V"), (0, .methodref 12 116), (0, .nameAndType 117 118), (0, u "compress"), (0, u "([CI[BII)I"), (0, .methodref 12 120), (0, .nameAndType 121 122), (0, u "toBytes"), (0, u "([CII)[B"), (127, u "([BII)I"), (10, u "coderFromArrayLen"), (0, u "([BI)B"), (106, .class_ 371), (1, u "java/lang/StringUTF16$LinesSpliterator"), (58, u "MAX_LENGTH"), (196, .class_ 628), (0, u "java/lang/StringUTF16$CodePointsSpliterator"), (0, .class_ 630), (0, u "java/lang/StringUTF16$CharsSpliterator")] 4

def k11m0 : Method := { name := "<init>", desc := "()V", sig := { parameters := [], returnType := none }, accessFlags := 0, code := none }
def k11c1 : Code := { maxStack := 1, maxLocals := 1, code := jdk_52_method_2_code, exceptionTable := #[], attributes := #[] }
def k11m1 : Method := { name := "newBytesFor", desc := "(I)[B", sig := { parameters := [.int], returnType := some (.array .byte) }, accessFlags := 9, code := some k11c1 }
def k11c2 : Code := { maxStack := 4, maxLocals := 1, code := jdk_52_method_3_code, exceptionTable := #[], attributes := #[] }
def k11m2 : Method := { name := "newBytesLength", desc := "(I)I", sig := { parameters := [.int], returnType := some .int }, accessFlags := 9, code := some k11c2 }
def k11c3 : Code := { maxStack := 4, maxLocals := 3, code := jdk_52_method_4_code, exceptionTable := #[], attributes := #[] }
def k11m3 : Method := { name := "putChar", desc := "([BII)V", sig := { parameters := [(.array .byte), .int, .int], returnType := none }, accessFlags := 8, code := some k11c3 }
def k11c4 : Code := { maxStack := 3, maxLocals := 2, code := jdk_52_method_5_code, exceptionTable := #[], attributes := #[] }
def k11m4 : Method := { name := "getChar", desc := "([BI)C", sig := { parameters := [(.array .byte), .int], returnType := some .char }, accessFlags := 8, code := some k11c4 }
def k11c5 : Code := { maxStack := 2, maxLocals := 6, code := jdk_52_method_7_code, exceptionTable := #[], attributes := #[] }
def k11m5 : Method := { name := "codePointAt", desc := "([BIIZ)I", sig := { parameters := [(.array .byte), .int, .int, .boolean], returnType := some .int }, accessFlags := 10, code := some k11c5 }
def k11c6 : Code := { maxStack := 4, maxLocals := 3, code := jdk_52_method_8_code, exceptionTable := #[], attributes := #[] }
def k11m6 : Method := { name := "codePointAt", desc := "([BII)I", sig := { parameters := [(.array .byte), .int, .int], returnType := some .int }, accessFlags := 9, code := some k11c6 }
def k11c7 : Code := { maxStack := 4, maxLocals := 5, code := jdk_52_method_14_code, exceptionTable := #[], attributes := #[] }
def k11m7 : Method := { name := "toBytes", desc := "([CII)[B", sig := { parameters := [(.array .char), .int, .int], returnType := some (.array .byte) }, accessFlags := 9, code := some k11c7 }
def k11c8 : Code := { maxStack := 2, maxLocals := 2, code := jdk_52_method_15_code, exceptionTable := #[], attributes := #[] }
def k11m8 : Method := { name := "coderFromArrayLen", desc := "([BI)B", sig := { parameters := [(.array .byte), .int], returnType := some .byte }, accessFlags := 8, code := some k11c8 }
def k11c9 : Code := { maxStack := 5, maxLocals := 6, code := jdk_52_method_16_code, exceptionTable := #[], attributes := #[] }
def k11m9 : Method := { name := "compress", desc := "([CII)[B", sig := { parameters := [(.array .char), .int, .int], returnType := some (.array .byte) }, accessFlags := 9, code := some k11c9 }
def k11c10 : Code := { maxStack := 3, maxLocals := 7, code := jdk_52_method_21_code, exceptionTable := #[], attributes := #[] }
def k11m10 : Method := { name := "compress", desc := "([CI[BII)I", sig := { parameters := [(.array .char), .int, (.array .byte), .int, .int], returnType := some .int }, accessFlags := 9, code := some k11c10 }
/-- java/lang/StringUTF16 -/
def k11 : Class := { plain "java/lang/StringUTF16" (some 0) with
  accessFlags := 48
  interfaces := #[]
  cf := some (fileOf pool11 12 #[.nestMembers #[627, 629, 369]] #[{ accessFlags := 0, nameIndex := 9, descriptorIndex := 10, attributes := #[] }, { accessFlags := 9, nameIndex := 109, descriptorIndex := 110, attributes := #[] }, { accessFlags := 9, nameIndex := 15, descriptorIndex := 16, attributes := #[] }, { accessFlags := 8, nameIndex := 113, descriptorIndex := 114, attributes := #[] }, { accessFlags := 8, nameIndex := 73, descriptorIndex := 74, attributes := #[] }, { accessFlags := 10, nameIndex := 90, descriptorIndex := 91, attributes := #[] }, { accessFlags := 9, nameIndex := 90, descriptorIndex := 250, attributes := #[] }, { accessFlags := 9, nameIndex := 121, descriptorIndex := 122, attributes := #[] }, { accessFlags := 8, nameIndex := 261, descriptorIndex := 262, attributes := #[] }, { accessFlags := 9, nameIndex := 117, descriptorIndex := 122, attributes := #[] }, { accessFlags := 9, nameIndex := 117, descriptorIndex := 118, attributes := #[] }] 48 6 #[] #[{ accessFlags := 26, nameIndex := 61, descriptorIndex := 62, attributes := #[] }, { accessFlags := 26, nameIndex := 65, descriptorIndex := 62, attributes := #[] }, { accessFlags := 24, nameIndex := 430, descriptorIndex := 62, attributes := #[] }, { accessFlags := 4120, nameIndex := 46, descriptorIndex := 47, attributes := #[] }])
  fields := #[{ name := "HI_BYTE_SHIFT", type := .int, accessFlags := 26, slot := 0, constantValue := 0 }, { name := "LO_BYTE_SHIFT", type := .int, accessFlags := 26, slot := 1, constantValue := 0 }, { name := "MAX_LENGTH", type := .int, accessFlags := 24, slot := 2, constantValue := 0 }, { name := "$assertionsDisabled", type := .boolean, accessFlags := 4120, slot := 3, constantValue := 0 }]
  methods := #[k11m0, k11m1, k11m2, k11m3, k11m4, k11m5, k11m6, k11m7, k11m8, k11m9, k11m10]
  instanceTypes := #[]
  staticTypes := #[.int, .int, .int, .boolean]
  resolved := Array.replicate 635 none
  statics := some 1 }

def pool12 : Array CpInfo := pool [(2, .class_ 4), (1, u "java/lang/Object"), (0, u "<init>"), (0, u "()V"), (17, .class_ 26), (1, u "jdk/internal/util/Preconditions"), (6, u "checkIndex"), (21, .class_ 56), (0, u "jdk/internal/util/Preconditions$4"), (57, .class_ 115), (0, u "jdk/internal/util/Preconditions$1"), (7, u "SIOOBE_FORMATTER"), (0, u "Ljava/util/function/BiFunction;"), (0, .class_ 126), (0, u "jdk/internal/util/Preconditions$2"), (3, u "AIOOBE_FORMATTER"), (0, .class_ 132), (0, u "jdk/internal/util/Preconditions$3"), (3, u "IOOBE_FORMATTER"), (41, u "(IILjava/util/function/BiFunction;)I")] 15

def k12m0 : Method := { name := "<init>", desc := "()V", sig := { parameters := [], returnType := none }, accessFlags := 1, code := none }
def k12c1 : Code := { maxStack := 3, maxLocals := 3, code := jdk_41_method_11_code, exceptionTable := #[], attributes := #[] }
def k12m1 : Method := { name := "checkIndex", desc := "(IILjava/util/function/BiFunction;)I", sig := { parameters := [.int, .int, (.object "java/util/function/BiFunction")], returnType := some .int }, accessFlags := 9, code := some k12c1 }
/-- jdk/internal/util/Preconditions -/
def k12 : Class := { plain "jdk/internal/util/Preconditions" (some 0) with
  accessFlags := 33
  interfaces := #[]
  cf := some (fileOf pool12 24 #[.nestMembers #[55, 131, 125, 114]] #[{ accessFlags := 1, nameIndex := 5, descriptorIndex := 6, attributes := #[] }, { accessFlags := 9, nameIndex := 33, descriptorIndex := 178, attributes := #[] }] 33 2 #[] #[{ accessFlags := 25, nameIndex := 123, descriptorIndex := 124, attributes := #[] }, { accessFlags := 25, nameIndex := 130, descriptorIndex := 124, attributes := #[] }, { accessFlags := 25, nameIndex := 136, descriptorIndex := 124, attributes := #[] }])
  fields := #[{ name := "SIOOBE_FORMATTER", type := (.object "java/util/function/BiFunction"), accessFlags := 25, slot := 0, constantValue := 0 }, { name := "AIOOBE_FORMATTER", type := (.object "java/util/function/BiFunction"), accessFlags := 25, slot := 1, constantValue := 0 }, { name := "IOOBE_FORMATTER", type := (.object "java/util/function/BiFunction"), accessFlags := 25, slot := 2, constantValue := 0 }]
  methods := #[k12m0, k12m1]
  instanceTypes := #[]
  staticTypes := #[(.object "java/util/function/BiFunction"), (.object "java/util/function/BiFunction"), (.object "java/util/function/BiFunction")]
  resolved := Array.replicate 194 none
  statics := some 2 }

def pool13 : Array CpInfo := pool [(1, .class_ 2), (0, u "java/lang/Character"), (18, u "value"), (0, u "C"), (19, .class_ 44), (1, u "java/lang/Object"), (3, .class_ 50), (1, u "java/lang/Character$CharacterCache"), (22, .integer 65536), (1, .integer 55296), (0, .integer 56320), (0, .integer 57344), (2, u "isHighSurrogate"), (0, u "(C)Z"), (2, u "isLowSurrogate"), (0, .integer 4238353408), (12, u "toCodePoint"), (0, u "(CC)I"), (74, u "(I)I"), (109, u "$assertionsDisabled"), (0, u "Z"), (21, .class_ 309), (1, u "java/lang/Character$UnicodeBlock"), (73, u "TYPE"), (0, u "Ljava/lang/Class;"), (0, .class_ 386), (0, u "java/io/Serializable"), (0, .class_ 388), (0, u "java/lang/Comparable"), (0, .class_ 390), (0, u "java/lang/constant/Constable"), (0, u "MIN_RADIX"), (0, u "I"), (2, u "MAX_RADIX"), (1, u "MIN_VALUE"), (1, u "MAX_VALUE"), (3, u "UNASSIGNED"), (0, u "B"), (0, u "UPPERCASE_LETTER"), (1, u "LOWERCASE_LETTER"), (0, u "TITLECASE_LETTER"), (1, u "MODIFIER_LETTER"), (1, u "OTHER_LETTER"), (1, u "NON_SPACING_MARK"), (1, u "ENCLOSING_MARK"), (1, u "COMBINING_SPACING_MARK"), (1, u "DECIMAL_DIGIT_NUMBER"), (1, u "LETTER_NUMBER"), (1, u "OTHER_NUMBER"), (1, u "SPACE_SEPARATOR"), (1, u "LINE_SEPARATOR"), (1, u "PARAGRAPH_SEPARATOR"), (1, u "CONTROL"), (1, u "FORMAT"), (1, u "PRIVATE_USE"), (1, u "SURROGATE"), (1, u "DASH_PUNCTUATION"), (1, u "START_PUNCTUATION"), (1, u "END_PUNCTUATION"), (1, u "CONNECTOR_PUNCTUATION"), (1, u "OTHER_PUNCTUATION"), (1, u "MATH_SYMBOL"), (1, u "CURRENCY_SYMBOL"), (1, u "MODIFIER_SYMBOL"), (1, u "OTHER_SYMBOL"), (1, u "INITIAL_QUOTE_PUNCTUATION"), (1, u "FINAL_QUOTE_PUNCTUATION"), (1, u "ERROR"), (1, u "DIRECTIONALITY_UNDEFINED"), (0, u "DIRECTIONALITY_LEFT_TO_RIGHT"), (0, u "DIRECTIONALITY_RIGHT_TO_LEFT"), (0, u "DIRECTIONALITY_RIGHT_TO_LEFT_ARABIC"), (0, u "DIRECTIONALITY_EUROPEAN_NUMBER"), (0, u "DIRECTIONALITY_EUROPEAN_NUMBER_SEPARATOR"), (0, u "DIRECTIONALITY_EUROPEAN_NUMBER_TERMINATOR"), (0, u "DIRECTIONALITY_ARABIC_NUMBER"), (0, u "DIRECTIONALITY_COMMON_NUMBER_SEPARATOR"), (0, u "DIRECTIONALITY_NONSPACING_MARK"), (0, u "DIRECTIONALITY_BOUNDARY_NEUTRAL"), (0, u "DIRECTIONALITY_PARAGRAPH_SEPARATOR"), (0, u "DIRECTIONALITY_SEGMENT_SEPARATOR"), (0, u "DIRECTIONALITY_WHITESPACE"), (0, u "DIRECTIONALITY_OTHER_NEUTRALS"), (0, u "DIRECTIONALITY_LEFT_TO_RIGHT_EMBEDDING"), (0, u "DIRECTIONALITY_LEFT_TO_RIGHT_OVERRIDE"), (0, u "DIRECTIONALITY_RIGHT_TO_LEFT_EMBEDDING"), (0, u "DIRECTIONALITY_RIGHT_TO_LEFT_OVERRIDE"), (1, u "DIRECTIONALITY_POP_DIRECTIONAL_FORMAT"), (0, u "DIRECTIONALITY_LEFT_TO_RIGHT_ISOLATE"), (0, u "DIRECTIONALITY_RIGHT_TO_LEFT_ISOLATE"), (0, u "DIRECTIONALITY_FIRST_STRONG_ISOLATE"), (0, u "DIRECTIONALITY_POP_DIRECTIONAL_ISOLATE"), (0, u "MIN_HIGH_SURROGATE"), (0, u "MAX_HIGH_SURROGATE"), (1, u "MIN_LOW_SURROGATE"), (0, u "MAX_LOW_SURROGATE"), (1, u "MIN_SURROGATE"), (0, u "MAX_SURROGATE"), (0, u "MIN_SUPPLEMENTARY_CODE_POINT"), (0, u "MIN_CODE_POINT"), (0, u "MAX_CODE_POINT"), (1, u "serialVersionUID"), (0, u "J"), (2, u "SIZE"), (0, u "BYTES"), (29, u "charCount"), (58, .class_ 596), (0, u "java/lang/Character$UnicodeScript"), (0, .class_ 598), (0, u "java/lang/Character$Subset")] 5

def k13c0 : Code := { maxStack := 2, maxLocals := 1, code := jdk_89_method_14_code, exceptionTable := #[], attributes := #[] }
def k13m0 : Method := { name := "isHighSurrogate", desc := "(C)Z", sig := { parameters := [.char], returnType := some .boolean }, accessFlags := 9, code := some k13c0 }
def k13c1 : Code := { maxStack := 2, maxLocals := 1, code := jdk_89_method_15_code, exceptionTable := #[], attributes := #[] }
def k13m1 : Method := { name := "isLowSurrogate", desc := "(C)Z", sig := { parameters := [.char], returnType := some .boolean }, accessFlags := 9, code := some k13c1 }
def k13c2 : Code := { maxStack := 2, maxLocals := 1, code := jdk_89_method_18_code, exceptionTable := #[], attributes := #[] }
def k13m2 : Method := { name := "charCount", desc := "(I)I", sig := { parameters := [.int], returnType := some .int }, accessFlags := 9, code := some k13c2 }
def k13c3 : Code := { maxStack := 2, maxLocals := 2, code := jdk_89_method_19_code, exceptionTable := #[], attributes := #[] }
def k13m3 : Method := { name := "toCodePoint", desc := "(CC)I", sig := { parameters := [.char, .char], returnType := some .int }, accessFlags := 9, code := some k13c3 }
/-- java/lang/Character -/
def k13 : Class := { plain "java/lang/Character" (some 0) with
  accessFlags := 49
  interfaces := #[2, 3, 5]
  cf := some (fileOf pool13 1 #[.nestMembers #[48, 595, 307, 597]] #[{ accessFlags := 9, nameIndex := 80, descriptorIndex := 81, attributes := #[] }, { accessFlags := 9, nameIndex := 84, descriptorIndex := 81, attributes := #[] }, { accessFlags := 9, nameIndex := 536, descriptorIndex := 174, attributes := #[] }, { accessFlags := 9, nameIndex := 98, descriptorIndex := 99, attributes := #[] }] 49 42 #[385, 387, 389] #[{ accessFlags := 25, nameIndex := 391, descriptorIndex := 392, attributes := #[] }, { accessFlags := 25, nameIndex := 395, descriptorIndex := 392, attributes := #[] }, { accessFlags := 25, nameIndex := 397, descriptorIndex := 22, attributes := #[] }, { accessFlags := 25, nameIndex := 399, descriptorIndex := 22, attributes := #[] }, { accessFlags := 25, nameIndex := 383, descriptorIndex := 384, attributes := #[] }, { accessFlags := 25, nameIndex := 403, descriptorIndex := 404, attributes := #[] }, { accessFlags := 25, nameIndex := 405, descriptorIndex := 404, attributes := #[] }, { accessFlags := 25, nameIndex := 407, descriptorIndex := 404, attributes := #[] }, { accessFlags := 25, nameIndex := 408, descriptorIndex := 404, attributes := #[] }, { accessFlags := 25, nameIndex := 410, descriptorIndex := 404, attributes := #[] }, { accessFlags := 25, nameIndex := 412, descriptorIndex := 404, attributes := #[] }, { accessFlags := 25, nameIndex := 414, descriptorIndex := 404, attributes := #[] }, { accessFlags := 25, nameIndex := 416, descriptorIndex := 404, attributes := #[] }, { accessFlags := 25, nameIndex := 418, descriptorIndex := 404, attributes := #[] }, { accessFlags := 25, nameIndex := 420, descriptorIndex := 404, attributes := #[] }, { accessFlags := 25, nameIndex := 422, descriptorIndex := 404, attributes := #[] }, { accessFlags := 25, nameIndex := 424, descriptorIndex := 404, attributes := #[] }, { accessFlags := 25, nameIndex := 426, descriptorIndex := 404, attributes := #[] }, { accessFlags := 25, nameIndex := 428, descriptorIndex := 404, attributes := #[] }, { accessFlags := 25, nameIndex := 430, descriptorIndex := 404, attributes := #[] }, { accessFlags := 25, nameIndex := 432, descriptorIndex := 404, attributes := #[] }, { accessFlags := 25, nameIndex := 434, descriptorIndex := 404, attributes := #[] }, { accessFlags := 25, nameIndex := 436, descriptorIndex := 404, attributes := #[] }, { accessFlags := 25, nameIndex := 438, descriptorIndex := 404, attributes := #[] }, { accessFlags := 25, nameIndex := 440, descriptorIndex := 404, attributes := #[] }, { accessFlags := 25, nameIndex := 442, descriptorIndex := 404, attributes := #[] }, { accessFlags := 25, nameIndex := 444, descriptorIndex := 404, attributes := #[] }, { accessFlags := 25, nameIndex := 446, descriptorIndex := 404, attributes := #[] }, { accessFlags := 25, nameIndex := 448, descriptorIndex := 404, attributes := #[] }, { accessFlags := 25, nameIndex := 450, descriptorIndex := 404, attributes := #[] }, { accessFlags := 25, nameIndex := 452, descriptorIndex := 404, attributes := #[] }, { accessFlags := 25, nameIndex := 454, descriptorIndex := 404, attributes := #[] }, { accessFlags := 25, nameIndex := 456, descriptorIndex := 404, attributes := #[] }, { accessFlags := 25, nameIndex := 458, descriptorIndex := 404, attributes := #[] }, { accessFlags := 25, nameIndex := 460, descriptorIndex := 404, attributes := #[] }, { accessFlags := 24, nameIndex := 462, descriptorIndex := 392, attributes := #[] }, { accessFlags := 25, nameIndex := 464, descriptorIndex := 404, attributes := #[] }, { accessFlags := 25, nameIndex := 465, descriptorIndex := 404, attributes := #[] }, { accessFlags := 25, nameIndex := 466, descriptorIndex := 404, attributes := #[] }, { accessFlags := 25, nameIndex := 467, descriptorIndex := 404, attributes := #[] }, { accessFlags := 25, nameIndex := 468, descriptorIndex := 404, attributes := #[] }, { accessFlags := 25, nameIndex := 469, descriptorIndex := 404, attributes := #[] }, { accessFlags := 25, nameIndex := 470, descriptorIndex := 404, attributes := #[] }, { accessFlags := 25, nameIndex := 471, descriptorIndex := 404, attributes := #[] }, { accessFlags := 25, nameIndex := 472, descriptorIndex := 404, attributes := #[] }, { accessFlags := 25, nameIndex := 473, descriptorIndex := 404, attributes := #[] }, { accessFlags := 25, nameIndex := 474, descriptorIndex := 404, attributes := #[] }, { accessFlags := 25, nameIndex := 475, descriptorIndex := 404, attributes := #[] }, { accessFlags := 25, nameIndex := 476, descriptorIndex := 404, attributes := #[] }, { accessFlags := 25, nameIndex := 477, descriptorIndex := 404, attributes := #[] }, { accessFlags := 25, nameIndex := 478, descriptorIndex := 404, attributes := #[] }, { accessFlags := 25, nameIndex := 479, descriptorIndex := 404, attributes := #[] }, { accessFlags := 25, nameIndex := 480, descriptorIndex := 404, attributes := #[] }, { accessFlags := 25, nameIndex := 481, descriptorIndex := 404, attributes := #[] }, { accessFlags := 25, nameIndex := 482, descriptorIndex := 404, attributes := #[] }, { accessFlags := 25, nameIndex := 484, descriptorIndex := 404, attributes := #[] }, { accessFlags := 25, nameIndex := 485, descriptorIndex := 404, attributes := #[] }, { accessFlags := 25, nameIndex := 486, descriptorIndex := 404, attributes := #[] }, { accessFlags := 25, nameIndex := 487, descriptorIndex := 404, attributes := #[] }, { accessFlags := 25, nameIndex := 488, descriptorIndex := 404, attributes := #[] }, { accessFlags := 25, nameIndex := 489, descriptorIndex := 22, attributes := #[] }, { accessFlags := 25, nameIndex := 490, descriptorIndex := 22, attributes := #[] }, { accessFlags := 25, nameIndex := 492, descriptorIndex := 22, attributes := #[] }, { accessFlags := 25, nameIndex := 493, descriptorIndex := 22, attributes := #[] }, { accessFlags := 25, nameIndex := 495, descriptorIndex := 22, attributes := #[] }, { accessFlags := 25, nameIndex := 496, descriptorIndex := 22, attributes := #[] }, { accessFlags := 25, nameIndex := 497, descriptorIndex := 392, attributes := #[] }, { accessFlags := 25, nameIndex := 498, descriptorIndex := 392, attributes := #[] }, { accessFlags := 25, nameIndex := 499, descriptorIndex := 392, attributes := #[] }, { accessFlags := 18, nameIndex := 21, descriptorIndex := 22, attributes := #[] }, { accessFlags := 26, nameIndex := 501, descriptorIndex := 502, attributes := #[] }, { accessFlags := 25, nameIndex := 505, descriptorIndex := 392, attributes := #[] }, { accessFlags := 25, nameIndex := 506, descriptorIndex := 392, attributes := #[] }, { accessFlags := 4120, nameIndex := 284, descriptorIndex := 285, attributes := #[] }])
  fields := #[{ name := "MIN_RADIX", type := .int, accessFlags := 25, slot := 0, constantValue := 0 }, { name := "MAX_RADIX", type := .int, accessFlags := 25, slot := 1, constantValue := 0 }, { name := "MIN_VALUE", type := .char, accessFlags := 25, slot := 2, constantValue := 0 }, { name := "MAX_VALUE", type := .char, accessFlags := 25, slot := 3, constantValue := 0 }, { name := "TYPE", type := (.object "java/lang/Class"), accessFlags := 25, slot := 4, constantValue := 0 }, { name := "UNASSIGNED", type := .byte, accessFlags := 25, slot := 5, constantValue := 0 }, { name := "UPPERCASE_LETTER", type := .byte, accessFlags := 25, slot := 6, constantValue := 0 }, { name := "LOWERCASE_LETTER", type := .byte, accessFlags := 25, slot := 7, constantValue := 0 }, { name := "TITLECASE_LETTER", type := .byte, accessFlags := 25, slot := 8, constantValue := 0 }, { name := "MODIFIER_LETTER", type := .byte, accessFlags := 25, slot := 9, constantValue := 0 }, { name := "OTHER_LETTER", type := .byte, accessFlags := 25, slot := 10, constantValue := 0 }, { name := "NON_SPACING_MARK", type := .byte, accessFlags := 25, slot := 11, constantValue := 0 }, { name := "ENCLOSING_MARK", type := .byte, accessFlags := 25, slot := 12, constantValue := 0 }, { name := "COMBINING_SPACING_MARK", type := .byte, accessFlags := 25, slot := 13, constantValue := 0 }, { name := "DECIMAL_DIGIT_NUMBER", type := .byte, accessFlags := 25, slot := 14, constantValue := 0 }, { name := "LETTER_NUMBER", type := .byte, accessFlags := 25, slot := 15, constantValue := 0 }, { name := "OTHER_NUMBER", type := .byte, accessFlags := 25, slot := 16, constantValue := 0 }, { name := "SPACE_SEPARATOR", type := .byte, accessFlags := 25, slot := 17, constantValue := 0 }, { name := "LINE_SEPARATOR", type := .byte, accessFlags := 25, slot := 18, constantValue := 0 }, { name := "PARAGRAPH_SEPARATOR", type := .byte, accessFlags := 25, slot := 19, constantValue := 0 }, { name := "CONTROL", type := .byte, accessFlags := 25, slot := 20, constantValue := 0 }, { name := "FORMAT", type := .byte, accessFlags := 25, slot := 21, constantValue := 0 }, { name := "PRIVATE_USE", type := .byte, accessFlags := 25, slot := 22, constantValue := 0 }, { name := "SURROGATE", type := .byte, accessFlags := 25, slot := 23, constantValue := 0 }, { name := "DASH_PUNCTUATION", type := .byte, accessFlags := 25, slot := 24, constantValue := 0 }, { name := "START_PUNCTUATION", type := .byte, accessFlags := 25, slot := 25, constantValue := 0 }, { name := "END_PUNCTUATION", type := .byte, accessFlags := 25, slot := 26, constantValue := 0 }, { name := "CONNECTOR_PUNCTUATION", type := .byte, accessFlags := 25, slot := 27, constantValue := 0 }, { name := "OTHER_PUNCTUATION", type := .byte, accessFlags := 25, slot := 28, constantValue := 0 }, { name := "MATH_SYMBOL", type := .byte, accessFlags := 25, slot := 29, constantValue := 0 }, { name := "CURRENCY_SYMBOL", type := .byte, accessFlags := 25, slot := 30, constantValue := 0 }, { name := "MODIFIER_SYMBOL", type := .byte, accessFlags := 25, slot := 31, constantValue := 0 }, { name := "OTHER_SYMBOL", type := .byte, accessFlags := 25, slot := 32, constantValue := 0 }, { name := "INITIAL_QUOTE_PUNCTUATION", type := .byte, accessFlags := 25, slot := 33, constantValue := 0 }, { name := "FINAL_QUOTE_PUNCTUATION", type := .byte, accessFlags := 25, slot := 34, constantValue := 0 }, { name := "ERROR", type := .int, accessFlags := 24, slot := 35, constantValue := 0 }, { name := "DIRECTIONALITY_UNDEFINED", type := .byte, accessFlags := 25, slot := 36, constantValue := 0 }, { name := "DIRECTIONALITY_LEFT_TO_RIGHT", type := .byte, accessFlags := 25, slot := 37, constantValue := 0 }, { name := "DIRECTIONALITY_RIGHT_TO_LEFT", type := .byte, accessFlags := 25, slot := 38, constantValue := 0 }, { name := "DIRECTIONALITY_RIGHT_TO_LEFT_ARABIC", type := .byte, accessFlags := 25, slot := 39, constantValue := 0 }, { name := "DIRECTIONALITY_EUROPEAN_NUMBER", type := .byte, accessFlags := 25, slot := 40, constantValue := 0 }, { name := "DIRECTIONALITY_EUROPEAN_NUMBER_SEPARATOR", type := .byte, accessFlags := 25, slot := 41, constantValue := 0 }, { name := "DIRECTIONALITY_EUROPEAN_NUMBER_TERMINATOR", type := .byte, accessFlags := 25, slot := 42, constantValue := 0 }, { name := "DIRECTIONALITY_ARABIC_NUMBER", type := .byte, accessFlags := 25, slot := 43, constantValue := 0 }, { name := "DIRECTIONALITY_COMMON_NUMBER_SEPARATOR", type := .byte, accessFlags := 25, slot := 44, constantValue := 0 }, { name := "DIRECTIONALITY_NONSPACING_MARK", type := .byte, accessFlags := 25, slot := 45, constantValue := 0 }, { name := "DIRECTIONALITY_BOUNDARY_NEUTRAL", type := .byte, accessFlags := 25, slot := 46, constantValue := 0 }, { name := "DIRECTIONALITY_PARAGRAPH_SEPARATOR", type := .byte, accessFlags := 25, slot := 47, constantValue := 0 }, { name := "DIRECTIONALITY_SEGMENT_SEPARATOR", type := .byte, accessFlags := 25, slot := 48, constantValue := 0 }, { name := "DIRECTIONALITY_WHITESPACE", type := .byte, accessFlags := 25, slot := 49, constantValue := 0 }, { name := "DIRECTIONALITY_OTHER_NEUTRALS", type := .byte, accessFlags := 25, slot := 50, constantValue := 0 }, { name := "DIRECTIONALITY_LEFT_TO_RIGHT_EMBEDDING", type := .byte, accessFlags := 25, slot := 51, constantValue := 0 }, { name := "DIRECTIONALITY_LEFT_TO_RIGHT_OVERRIDE", type := .byte, accessFlags := 25, slot := 52, constantValue := 0 }, { name := "DIRECTIONALITY_RIGHT_TO_LEFT_EMBEDDING", type := .byte, accessFlags := 25, slot := 53, constantValue := 0 }, { name := "DIRECTIONALITY_RIGHT_TO_LEFT_OVERRIDE", type := .byte, accessFlags := 25, slot := 54, constantValue := 0 }, { name := "DIRECTIONALITY_POP_DIRECTIONAL_FORMAT", type := .byte, accessFlags := 25, slot := 55, constantValue := 0 }, { name := "DIRECTIONALITY_LEFT_TO_RIGHT_ISOLATE", type := .byte, accessFlags := 25, slot := 56, constantValue := 0 }, { name := "DIRECTIONALITY_RIGHT_TO_LEFT_ISOLATE", type := .byte, accessFlags := 25, slot := 57, constantValue := 0 }, { name := "DIRECTIONALITY_FIRST_STRONG_ISOLATE", type := .byte, accessFlags := 25, slot := 58, constantValue := 0 }, { name := "DIRECTIONALITY_POP_DIRECTIONAL_ISOLATE", type := .byte, accessFlags := 25, slot := 59, constantValue := 0 }, { name := "MIN_HIGH_SURROGATE", type := .char, accessFlags := 25, slot := 60, constantValue := 0 }, { name := "MAX_HIGH_SURROGATE", type := .char, accessFlags := 25, slot := 61, constantValue := 0 }, { name := "MIN_LOW_SURROGATE", type := .char, accessFlags := 25, slot := 62, constantValue := 0 }, { name := "MAX_LOW_SURROGATE", type := .char, accessFlags := 25, slot := 63, constantValue := 0 }, { name := "MIN_SURROGATE", type := .char, accessFlags := 25, slot := 64, constantValue := 0 }, { name := "MAX_SURROGATE", type := .char, accessFlags := 25, slot := 65, constantValue := 0 }, { name := "MIN_SUPPLEMENTARY_CODE_POINT", type := .int, accessFlags := 25, slot := 66, constantValue := 0 }, { name := "MIN_CODE_POINT", type := .int, accessFlags := 25, slot := 67, constantValue := 0 }, { name := "MAX_CODE_POINT", type := .int, accessFlags := 25, slot := 68, constantValue := 0 }, { name := "value", type := .char, accessFlags := 18, slot := 0, constantValue := 0 }, { name := "serialVersionUID", type := .long, accessFlags := 26, slot := 69, constantValue := 0 }, { name := "SIZE", type := .int, accessFlags := 25, slot := 70, constantValue := 0 }, { name := "BYTES", type := .int, accessFlags := 25, slot := 71, constantValue := 0 }, { name := "$assertionsDisabled", type := .boolean, accessFlags := 4120, slot := 72, constantValue := 0 }]
  methods := #[k13m0, k13m1, k13m2, k13m3]
  instanceTypes := #[.char]
  staticTypes := #[.int, .int, .char, .char, (.object "java/lang/Class"), .byte, .byte, .byte, .byte, .byte, .byte, .byte, .byte, .byte, .byte, .byte, .byte, .byte, .byte, .byte, .byte, .byte, .byte, .byte, .byte, .byte, .byte, .byte, .byte, .byte, .byte, .byte, .byte, .byte, .byte, .int, .byte, .byte, .byte, .byte, .byte, .byte, .byte, .byte, .byte, .byte, .byte, .byte, .byte, .byte, .byte, .byte, .byte, .byte, .byte, .byte, .byte, .byte, .byte, .byte, .char, .char, .char, .char, .char, .char, .int, .int, .int, .long, .int, .int, .boolean]
  resolved := Array.replicate 604 none
  statics := none }

def pool14 : Array CpInfo := pool [(4, .class_ 6), (1, u "java/lang/Object"), (0, u "<init>"), (0, u "()V"), (5, .class_ 16), (1, u "java/lang/StringLatin1"), (104, u "$assertionsDisabled"), (0, u "Z"), (98, .class_ 223), (1, u "java/lang/StringLatin1$LinesSpliterator"), (166, .class_ 391), (0, u "java/lang/StringLatin1$CharsSpliterator")] 3

def k14m0 : Method := { name := "<init>", desc := "()V", sig := { parameters := [], returnType := none }, accessFlags := 0, code := none }
/-- java/lang/StringLatin1 -/
def k14 : Class := { plain "java/lang/StringLatin1" (some 0) with
  accessFlags := 48
  interfaces := #[]
  cf := some (fileOf pool14 14 #[.nestMembers #[390, 221]] #[{ accessFlags := 0, nameIndex := 7, descriptorIndex := 8, attributes := #[] }] 48 4 #[] #[{ accessFlags := 4120, nameIndex := 121, descriptorIndex := 122, attributes := #[] }])
  fields := #[{ name := "$assertionsDisabled", type := .boolean, accessFlags := 4120, slot := 0, constantValue := 0 }]
  methods := #[k14m0]
  instanceTypes := #[]
  staticTypes := #[.boolean]
  resolved := Array.replicate 395 none
  statics := none }

def pool15 : Array CpInfo := pool [(9, u "<init>"), (6, .class_ 18), (1, u "java/lang/Object"), (0, u "()V"), (1, .class_ 23), (1, u "jdk/internal/util/ArraysSupport"), (0, u "LOG2_ARRAY_LONG_INDEX_SCALE"), (0, u "I"), (2, u "U"), (0, u "Ljdk/internal/misc/Unsafe;"), (8, u "BIG_ENDIAN"), (0, u "Z"), (8, u "LOG2_BYTE_BIT_SIZE"), (4, u "LOG2_ARRAY_INT_INDEX_SCALE"), (54, u "JLA"), (0, u "Ljdk/internal/access/JavaLangAccess;"), (11, u "LOG2_ARRAY_BOOLEAN_INDEX_SCALE"), (9, u "LOG2_ARRAY_BYTE_INDEX_SCALE"), (5, u "LOG2_ARRAY_CHAR_INDEX_SCALE"), (5, u "LOG2_ARRAY_SHORT_INDEX_SCALE"), (18, u "LOG2_ARRAY_FLOAT_INDEX_SCALE"), (24, u "LOG2_ARRAY_DOUBLE_INDEX_SCALE"), (89, u "T_BOOLEAN"), (2, u "T_CHAR"), (1, u "T_FLOAT"), (1, u "T_DOUBLE"), (1, u "T_BYTE"), (1, u "T_SHORT"), (1, u "T_INT"), (1, u "T_LONG"), (1, u "SOFT_MAX_ARRAY_LENGTH")] 83

def k15m0 : Method := { name := "<init>", desc := "()V", sig := { parameters := [], returnType := none }, accessFlags := 2, code := none }
/-- jdk/internal/util/ArraysSupport -/
def k15 : Class := { plain "jdk/internal/util/ArraysSupport" (some 0) with
  accessFlags := 33
  interfaces := #[]
  cf := some (fileOf pool15 21 #[] #[{ accessFlags := 2, nameIndex := 9, descriptorIndex := 19, attributes := #[] }] 33 16 #[] #[{ accessFlags := 24, nameIndex := 28, descriptorIndex := 29, attributes := #[] }, { accessFlags := 26, nameIndex := 38, descriptorIndex := 39, attributes := #[] }, { accessFlags := 25, nameIndex := 121, descriptorIndex := 25, attributes := #[] }, { accessFlags := 25, nameIndex := 131, descriptorIndex := 25, attributes := #[] }, { accessFlags := 25, nameIndex := 137, descriptorIndex := 25, attributes := #[] }, { accessFlags := 25, nameIndex := 143, descriptorIndex := 25, attributes := #[] }, { accessFlags := 25, nameIndex := 53, descriptorIndex := 25, attributes := #[] }, { accessFlags := 25, nameIndex := 24, descriptorIndex := 25, attributes := #[] }, { accessFlags := 25, nameIndex := 162, descriptorIndex := 25, attributes := #[] }, { accessFlags := 25, nameIndex := 187, descriptorIndex := 25, attributes := #[] }, { accessFlags := 26, nameIndex := 48, descriptorIndex := 25, attributes := #[] }, { accessFlags := 25, nameIndex := 277, descriptorIndex := 25, attributes := #[] }, { accessFlags := 25, nameIndex := 280, descriptorIndex := 25, attributes := #[] }, { accessFlags := 25, nameIndex := 282, descriptorIndex := 25, attributes := #[] }, { accessFlags := 25, nameIndex := 284, descriptorIndex := 25, attributes := #[] }, { accessFlags := 25, nameIndex := 286, descriptorIndex := 25, attributes := #[] }, { accessFlags := 25, nameIndex := 288, descriptorIndex := 25, attributes := #[] }, { accessFlags := 25, nameIndex := 290, descriptorIndex := 25, attributes := #[] }, { accessFlags := 25, nameIndex := 292, descriptorIndex := 25, attributes := #[] }, { accessFlags := 26, nameIndex := 108, descriptorIndex := 109, attributes := #[] }, { accessFlags := 25, nameIndex := 294, descriptorIndex := 25, attributes := #[] }])
  fields := #[{ name := "U", type := (.object "jdk/internal/misc/Unsafe"), accessFlags := 24, slot := 0, constantValue := 0 }, { name := "BIG_ENDIAN", type := .boolean, accessFlags := 26, slot := 1, constantValue := 0 }, { name := "LOG2_ARRAY_BOOLEAN_INDEX_SCALE", type := .int, accessFlags := 25, slot := 2, constantValue := 0 }, { name := "LOG2_ARRAY_BYTE_INDEX_SCALE", type := .int, accessFlags := 25, slot := 3, constantValue := 0 }, { name := "LOG2_ARRAY_CHAR_INDEX_SCALE", type := .int, accessFlags := 25, slot := 4, constantValue := 0 }, { name := "LOG2_ARRAY_SHORT_INDEX_SCALE", type := .int, accessFlags := 25, slot := 5, constantValue := 0 }, { name := "LOG2_ARRAY_INT_INDEX_SCALE", type := .int, accessFlags := 25, slot := 6, constantValue := 0 }, { name := "LOG2_ARRAY_LONG_INDEX_SCALE", type := .int, accessFlags := 25, slot := 7, constantValue := 0 }, { name := "LOG2_ARRAY_FLOAT_INDEX_SCALE", type := .int, accessFlags := 25, slot := 8, constantValue := 0 }, { name := "LOG2_ARRAY_DOUBLE_INDEX_SCALE", type := .int, accessFlags := 25, slot := 9, constantValue := 0 }, { name := "LOG2_BYTE_BIT_SIZE", type := .int, accessFlags := 26, slot := 10, constantValue := 0 }, { name := "T_BOOLEAN", type := .int, accessFlags := 25, slot := 11, constantValue := 0 }, { name := "T_CHAR", type := .int, accessFlags := 25, slot := 12, constantValue := 0 }, { name := "T_FLOAT", type := .int, accessFlags := 25, slot := 13, constantValue := 0 }, { name := "T_DOUBLE", type := .int, accessFlags := 25, slot := 14, constantValue := 0 }, { name := "T_BYTE", type := .int, accessFlags := 25, slot := 15, constantValue := 0 }, { name := "T_SHORT", type := .int, accessFlags := 25, slot := 16, constantValue := 0 }, { name := "T_INT", type := .int, accessFlags := 25, slot := 17, constantValue := 0 }, { name := "T_LONG", type := .int, accessFlags := 25, slot := 18, constantValue := 0 }, { name := "JLA", type := (.object "jdk/internal/access/JavaLangAccess"), accessFlags := 26, slot := 19, constantValue := 0 }, { name := "SOFT_MAX_ARRAY_LENGTH", type := .int, accessFlags := 25, slot := 20, constantValue := 0 }]
  methods := #[k15m0]
  instanceTypes := #[]
  staticTypes := #[(.object "jdk/internal/misc/Unsafe"), .boolean, .int, .int, .int, .int, .int, .int, .int, .int, .int, .int, .int, .int, .int, .int, .int, .int, .int, (.object "jdk/internal/access/JavaLangAccess"), .int]
  resolved := Array.replicate 378 none
  statics := none }

def pool16 : Array CpInfo := pool [(1, u "java/lang/Cloneable"), (0, .class_ 1), (0, u "java/lang/Object"), (0, .class_ 3)] 3

/-- java/lang/Cloneable -/
def k16 : Class := { plain "java/lang/Cloneable" (some 0) with
  accessFlags := 1537
  interfaces := #[]
  cf := some (fileOf pool16 2 #[] #[] 1537 4 #[] #[])
  fields := #[]
  methods := #[]
  instanceTypes := #[]
  staticTypes := #[]
  resolved := Array.replicate 8 none
  statics := none }

/-- the primitive byte -/
def k17 : Class := { plain "byte" none with kind := .primitive 'B', accessFlags := 0x411 }
/-- [B -/
def k18 : Class := { plain "[B" (some 0) with kind := .array 17 .byte, interfaces := #[16, 2], accessFlags := 1041 }

/-- the primitive char -/
def k19 : Class := { plain "char" none with kind := .primitive 'C', accessFlags := 0x411 }
/-- [C -/
def k20 : Class := { plain "[C" (some 0) with kind := .array 19 .char, interfaces := #[16, 2], accessFlags := 1041 }

/-- the primitive int -/
def k21 : Class := { plain "int" none with kind := .primitive 'I', accessFlags := 0x411 }
/-- [I -/
def k22 : Class := { plain "[I" (some 0) with kind := .array 21 .int, interfaces := #[16, 2], accessFlags := 1041 }

def heap : Heap := #[{ cls := 7, slots := #[.long 0, .int 1, .null, .int 0, .null, .int 0, .int 0], vm := .statics 7 },
  { cls := 11, slots := #[.int 0, .int 8, .int 0, .int 1], vm := .statics 11 },
  { cls := 12, slots := #[.null, .null, .null], vm := .statics 12 }]
def classes : Array Class := #[k0, k1, k2, k3, k4, k5, k6, k7, k8, k9, k10, k11, k12, k13, k14, k15, k16, k17, k18, k19, k20, k21, k22]
def interned : List (Array UInt16 × Addr) := []
def slotsUsed : Nat := 14
def theMethod : MethodId := ⟨1, 1⟩
def args0 : Array Value := #[.long 5, .long 3, .int 65]
def aboutOver (below : List Frame) : State where
  vm := { classes := classes, interned := interned.toArray }
  heap := heap
  slotsUsed := slotsUsed
  threads := #[{ frames := .invoking theMethod args0 :: below }]
def below0 : List Frame := [.native { method := ⟨0, 0⟩, args := #[] }]
def about1 : State := aboutOver below0
def p0 : Program := .bare "" "" ""
def e0 : Env := launch0.env 0 0 0
theorem w_frames : about1.frames = Frame.invoking theMethod args0 :: below0 := rfl
set_option maxRecDepth 65536 in
theorem w_args : argsFit about1.vm theMethod args0 = true := by decide +kernel
set_option maxRecDepth 65536 in
theorem w_heap : heapFits about1 = true := by decide +kernel
set_option maxRecDepth 65536 in
theorem w_runnable : about1.curStatus? = some .runnable := by decide +kernel
set_option maxRecDepth 65536 in
theorem w_alone : about1.alone = true := by decide +kernel
set_option maxRecDepth 65536 in
theorem w_named : about1.methodNamed? x = some theMethod := by decide +kernel
set_option maxRecDepth 65536 in
theorem w_hears : about1.hears theMethod below0 = true := by decide +kernel
set_option maxRecDepth 65536 in
theorem w_ripe : about1.ripe theMethod args0 below0 = true := by decide +kernel
theorem w_running : about1.status = .running := rfl
set_option maxRecDepth 65536 in
theorem w_room : about1.hasRoom e0.platform room_1 = true :=
  launch0.hasRoom_least _ room_1 (by decide +kernel) (by decide +kernel) (by decide +kernel) (by decide +kernel) (by decide +kernel) (by decide +kernel)
theorem allAtoms_all (ts : List Jvm.Cond) (a : Array Jvm.Value) (st : Jvm.State) : (allAtoms ts).before a st = ts.all (fun c => c.before a st) := by
  induction ts with
  | nil => rfl
  | cons c t ih =>
    show (Jvm.Cond.and c (allAtoms t)).before a st = _
    rw [Jvm.Cond.before_and, ih, List.all_cons]
def words1 : List Jvm.Cond := Jvm.Cond.code x code maxLocals ret :: tables_1
/-- a 'code' word, met by the world's own term for the bytes: nothing is compared byte by byte -/
theorem code_word {y : MethodName} {bytes : ByteArray} {mx : Nat} {rt : Option FieldType} {a : Array Value} {s : State} {m : MethodId} {meth : Method} {c : Code} (h1 : s.methodNamed? y = some m) (h2 : s.vm.method? m = some meth) (h3 : meth.code = some c) (h4 : c.code = bytes)
    (h5 : (c.maxLocals == mx && c.exceptionTable.isEmpty && decide (c.maxStack ≤ mostOperands) && decide (meth.sig.returnType = rt) && !meth.locks && decide (parseMethodDescriptor y.desc = some meth.sig)) = true) : (Jvm.Cond.code y bytes mx rt).before a s = true := by
  simp only [Bool.and_eq_true, beq_iff_eq, Bool.not_eq_true', decide_eq_true_eq] at h5
  obtain ⟨⟨⟨⟨⟨g1, g2⟩, g3⟩, g4⟩, g5⟩, g6⟩ := h5
  simp [Cond.before, Cond.holds, Cond.value, h1, h2, h3, h4, g1, g2, g3, g4, g5, g6]
def isCode : Jvm.Cond → Bool
  | .code _ _ _ _ => true
  | _ => false
theorem all_split {L : List Jvm.Cond} {P : Jvm.Cond → Bool} (h1 : L.all (fun c => isCode c || P c) = true) (h2 : ∀ c ∈ L.filter isCode, P c = true) : L.all P = true := by
  refine List.all_eq_true.mpr fun c hc => ?_
  have h := List.all_eq_true.mp h1 c hc
  rcases Bool.eq_false_or_eq_true (isCode c) with hi | hi
  · exact h2 c (List.mem_filter.mpr ⟨hc, hi⟩)
  · simpa [hi] using h
set_option maxRecDepth 65536 in
theorem w_c0 : (Jvm.Cond.code x code maxLocals ret).before args0 about1 = true := code_word (m := ⟨1, 1⟩) (meth := k1m1) (c := k1c1) (by decide +kernel) rfl rfl rfl (by decide +kernel)
set_option maxRecDepth 65536 in
theorem w_c1 : (Jvm.Cond.code ({ cls := "com/example/refinement/refinement/io/CodePointOrderComparePinLaw", name := "draw", desc := "(JI)C" } : Jvm.MethodName) method_3_code (4 : Nat) (Option.some Jvm.ClassFile.FieldType.char)).before args0 about1 = true := code_word (m := ⟨1, 2⟩) (meth := k1m2) (c := k1c2) (by decide +kernel) rfl rfl rfl (by decide +kernel)
set_option maxRecDepth 65536 in
theorem w_c2 : (Jvm.Cond.code ({ cls := "com/example/refinement/refinement/io/CodePointOrderComparePinLaw", name := "make", desc := "([CI)Ljava/lang/String;" } : Jvm.MethodName) method_4_code (2 : Nat) (Option.some (Jvm.ClassFile.FieldType.object "java/lang/String"))).before args0 about1 = true := code_word (m := ⟨1, 3⟩) (meth := k1m3) (c := k1c3) (by decide +kernel) rfl rfl rfl (by decide +kernel)
set_option maxRecDepth 65536 in
theorem w_c3 : (Jvm.Cond.code ({ cls := "java/lang/String", name := "<init>", desc := "([C)V" } : Jvm.MethodName) jdk_42_method_3_code (2 : Nat) (Option.none : Option Jvm.ClassFile.FieldType)).before args0 about1 = true := code_word (m := ⟨7, 1⟩) (meth := k7m1) (c := k7c1) (by decide +kernel) rfl rfl rfl (by decide +kernel)
set_option maxRecDepth 65536 in
theorem w_c4 : (Jvm.Cond.code ({ cls := "java/lang/String", name := "<init>", desc := "([CIILjava/lang/Void;)V" } : Jvm.MethodName) jdk_42_method_149_code (6 : Nat) (Option.none : Option Jvm.ClassFile.FieldType)).before args0 about1 = true := code_word (m := ⟨7, 4⟩) (meth := k7m4) (c := k7c4) (by decide +kernel) rfl rfl rfl (by decide +kernel)
set_option maxRecDepth 65536 in
theorem w_c5 : (Jvm.Cond.code ({ cls := "java/lang/Object", name := "<init>", desc := "()V" } : Jvm.MethodName) object_method_1_code (1 : Nat) (Option.none : Option Jvm.ClassFile.FieldType)).before args0 about1 = true := code_word (m := ⟨0, 0⟩) (meth := k0m0) (c := k0c0) (by decide +kernel) rfl rfl rfl (by decide +kernel)
set_option maxRecDepth 65536 in
theorem w_c6 : (Jvm.Cond.code ({ cls := "com/example/refinement/refinement/io/CodePointOrderComparePinLaw", name := "decode", desc := "([CI[I)V" } : Jvm.MethodName) method_9_code (8 : Nat) (Option.none : Option Jvm.ClassFile.FieldType)).before args0 about1 = true := code_word (m := ⟨1, 8⟩) (meth := k1m8) (c := k1c8) (by decide +kernel) rfl rfl rfl (by decide +kernel)
set_option maxRecDepth 65536 in
theorem w_c7 : (Jvm.Cond.code ({ cls := "com/example/refinement/refinement/io/CodePointOrderComparePinLaw", name := "width", desc := "([CII)I" } : Jvm.MethodName) method_7_code (3 : Nat) (Option.some Jvm.ClassFile.FieldType.int)).before args0 about1 = true := code_word (m := ⟨1, 6⟩) (meth := k1m6) (c := k1c6) (by decide +kernel) rfl rfl rfl (by decide +kernel)
set_option maxRecDepth 65536 in
theorem w_c8 : (Jvm.Cond.code ({ cls := "com/example/refinement/refinement/io/CodePointOrderComparePinLaw", name := "value", desc := "([CII)I" } : Jvm.MethodName) method_8_code (3 : Nat) (Option.some Jvm.ClassFile.FieldType.int)).before args0 about1 = true := code_word (m := ⟨1, 7⟩) (meth := k1m7) (c := k1c7) (by decide +kernel) rfl rfl rfl (by decide +kernel)
set_option maxRecDepth 65536 in
theorem w_c9 : (Jvm.Cond.code ({ cls := "com/example/refinement/refinement/io/CodePointOrderComparePinLaw", name := "lex", desc := "([I[I)I" } : Jvm.MethodName) method_10_code (4 : Nat) (Option.some Jvm.ClassFile.FieldType.int)).before args0 about1 = true := code_word (m := ⟨1, 9⟩) (meth := k1m9) (c := k1c9) (by decide +kernel) rfl rfl rfl (by decide +kernel)
set_option maxRecDepth 65536 in
theorem w_c10 : (Jvm.Cond.code ({ cls := "com/example/refinement/refinement/io/CodePointOrder", name := "compare", desc := "(Ljava/lang/String;Ljava/lang/String;)I" } : Jvm.MethodName) prog_1_method_2_code (5 : Nat) (Option.some Jvm.ClassFile.FieldType.int)).before args0 about1 = true := code_word (m := ⟨8, 1⟩) (meth := k8m1) (c := k8c1) (by decide +kernel) rfl rfl rfl (by decide +kernel)
set_option maxRecDepth 65536 in
theorem w_c11 : (Jvm.Cond.code ({ cls := "java/lang/String", name := "length", desc := "()I" } : Jvm.MethodName) jdk_42_method_54_code (1 : Nat) (Option.some Jvm.ClassFile.FieldType.int)).before args0 about1 = true := code_word (m := ⟨7, 2⟩) (meth := k7m2) (c := k7c2) (by decide +kernel) rfl rfl rfl (by decide +kernel)
set_option maxRecDepth 65536 in
theorem w_c12 : (Jvm.Cond.code ({ cls := "java/lang/String", name := "coder", desc := "()B" } : Jvm.MethodName) jdk_42_method_152_code (1 : Nat) (Option.some Jvm.ClassFile.FieldType.byte)).before args0 about1 = true := code_word (m := ⟨7, 5⟩) (meth := k7m5) (c := k7c5) (by decide +kernel) rfl rfl rfl (by decide +kernel)
set_option maxRecDepth 65536 in
theorem w_c13 : (Jvm.Cond.code ({ cls := "java/lang/Integer", name := "compare", desc := "(II)I" } : Jvm.MethodName) jdk_33_method_40_code (2 : Nat) (Option.some Jvm.ClassFile.FieldType.int)).before args0 about1 = true := code_word (m := ⟨10, 0⟩) (meth := k10m0) (c := k10c0) (by decide +kernel) rfl rfl rfl (by decide +kernel)
set_option maxRecDepth 65536 in
theorem w_c14 : (Jvm.Cond.code ({ cls := "java/lang/StringUTF16", name := "compress", desc := "([CII)[B" } : Jvm.MethodName) jdk_52_method_16_code (6 : Nat) (Option.some (Jvm.ClassFile.FieldType.array Jvm.ClassFile.FieldType.byte))).before args0 about1 = true := code_word (m := ⟨11, 9⟩) (meth := k11m9) (c := k11c9) (by decide +kernel) rfl rfl rfl (by decide +kernel)
set_option maxRecDepth 65536 in
theorem w_c15 : (Jvm.Cond.code ({ cls := "java/lang/StringUTF16", name := "compress", desc := "([CI[BII)I" } : Jvm.MethodName) jdk_52_method_21_code (7 : Nat) (Option.some Jvm.ClassFile.FieldType.int)).before args0 about1 = true := code_word (m := ⟨11, 10⟩) (meth := k11m10) (c := k11c10) (by decide +kernel) rfl rfl rfl (by decide +kernel)
set_option maxRecDepth 65536 in
theorem w_c16 : (Jvm.Cond.code ({ cls := "java/lang/StringUTF16", name := "toBytes", desc := "([CII)[B" } : Jvm.MethodName) jdk_52_method_14_code (5 : Nat) (Option.some (Jvm.ClassFile.FieldType.array Jvm.ClassFile.FieldType.byte))).before args0 about1 = true := code_word (m := ⟨11, 7⟩) (meth := k11m7) (c := k11c7) (by decide +kernel) rfl rfl rfl (by decide +kernel)
set_option maxRecDepth 65536 in
theorem w_c17 : (Jvm.Cond.code ({ cls := "java/lang/StringUTF16", name := "newBytesFor", desc := "(I)[B" } : Jvm.MethodName) jdk_52_method_2_code (1 : Nat) (Option.some (Jvm.ClassFile.FieldType.array Jvm.ClassFile.FieldType.byte))).before args0 about1 = true := code_word (m := ⟨11, 1⟩) (meth := k11m1) (c := k11c1) (by decide +kernel) rfl rfl rfl (by decide +kernel)
set_option maxRecDepth 65536 in
theorem w_c18 : (Jvm.Cond.code ({ cls := "java/lang/StringUTF16", name := "newBytesLength", desc := "(I)I" } : Jvm.MethodName) jdk_52_method_3_code (1 : Nat) (Option.some Jvm.ClassFile.FieldType.int)).before args0 about1 = true := code_word (m := ⟨11, 2⟩) (meth := k11m2) (c := k11c2) (by decide +kernel) rfl rfl rfl (by decide +kernel)
set_option maxRecDepth 65536 in
theorem w_c19 : (Jvm.Cond.code ({ cls := "java/lang/StringUTF16", name := "putChar", desc := "([BII)V" } : Jvm.MethodName) jdk_52_method_4_code (3 : Nat) (Option.none : Option Jvm.ClassFile.FieldType)).before args0 about1 = true := code_word (m := ⟨11, 3⟩) (meth := k11m3) (c := k11c3) (by decide +kernel) rfl rfl rfl (by decide +kernel)
set_option maxRecDepth 65536 in
theorem w_c20 : (Jvm.Cond.code ({ cls := "java/lang/StringUTF16", name := "getChar", desc := "([BI)C" } : Jvm.MethodName) jdk_52_method_5_code (2 : Nat) (Option.some Jvm.ClassFile.FieldType.char)).before args0 about1 = true := code_word (m := ⟨11, 4⟩) (meth := k11m4) (c := k11c4) (by decide +kernel) rfl rfl rfl (by decide +kernel)
set_option maxRecDepth 65536 in
theorem w_c21 : (Jvm.Cond.code ({ cls := "java/lang/StringUTF16", name := "coderFromArrayLen", desc := "([BI)B" } : Jvm.MethodName) jdk_52_method_15_code (2 : Nat) (Option.some Jvm.ClassFile.FieldType.byte)).before args0 about1 = true := code_word (m := ⟨11, 8⟩) (meth := k11m8) (c := k11c8) (by decide +kernel) rfl rfl rfl (by decide +kernel)
set_option maxRecDepth 65536 in
theorem w_c22 : (Jvm.Cond.code ({ cls := "com/example/refinement/refinement/io/CodePointOrderComparePinLaw", name := "isHigh", desc := "(C)Z" } : Jvm.MethodName) method_5_code (1 : Nat) (Option.some Jvm.ClassFile.FieldType.boolean)).before args0 about1 = true := code_word (m := ⟨1, 4⟩) (meth := k1m4) (c := k1c4) (by decide +kernel) rfl rfl rfl (by decide +kernel)
set_option maxRecDepth 65536 in
theorem w_c23 : (Jvm.Cond.code ({ cls := "com/example/refinement/refinement/io/CodePointOrderComparePinLaw", name := "isLow", desc := "(C)Z" } : Jvm.MethodName) method_6_code (1 : Nat) (Option.some Jvm.ClassFile.FieldType.boolean)).before args0 about1 = true := code_word (m := ⟨1, 5⟩) (meth := k1m5) (c := k1c5) (by decide +kernel) rfl rfl rfl (by decide +kernel)
set_option maxRecDepth 65536 in
theorem w_c24 : (Jvm.Cond.code ({ cls := "java/lang/String", name := "codePointAt", desc := "(I)I" } : Jvm.MethodName) jdk_42_method_57_code (3 : Nat) (Option.some Jvm.ClassFile.FieldType.int)).before args0 about1 = true := code_word (m := ⟨7, 3⟩) (meth := k7m3) (c := k7c3) (by decide +kernel) rfl rfl rfl (by decide +kernel)
set_option maxRecDepth 65536 in
theorem w_c25 : (Jvm.Cond.code ({ cls := "java/lang/String", name := "isLatin1", desc := "()Z" } : Jvm.MethodName) jdk_42_method_154_code (1 : Nat) (Option.some Jvm.ClassFile.FieldType.boolean)).before args0 about1 = true := code_word (m := ⟨7, 6⟩) (meth := k7m6) (c := k7c6) (by decide +kernel) rfl rfl rfl (by decide +kernel)
set_option maxRecDepth 65536 in
theorem w_c26 : (Jvm.Cond.code ({ cls := "java/lang/String", name := "checkIndex", desc := "(II)V" } : Jvm.MethodName) jdk_42_method_155_code (2 : Nat) (Option.none : Option Jvm.ClassFile.FieldType)).before args0 about1 = true := code_word (m := ⟨7, 7⟩) (meth := k7m7) (c := k7c7) (by decide +kernel) rfl rfl rfl (by decide +kernel)
set_option maxRecDepth 65536 in
theorem w_c27 : (Jvm.Cond.code ({ cls := "jdk/internal/util/Preconditions", name := "checkIndex", desc := "(IILjava/util/function/BiFunction;)I" } : Jvm.MethodName) jdk_41_method_11_code (3 : Nat) (Option.some Jvm.ClassFile.FieldType.int)).before args0 about1 = true := code_word (m := ⟨12, 1⟩) (meth := k12m1) (c := k12c1) (by decide +kernel) rfl rfl rfl (by decide +kernel)
set_option maxRecDepth 65536 in
theorem w_c28 : (Jvm.Cond.code ({ cls := "java/lang/StringUTF16", name := "codePointAt", desc := "([BII)I" } : Jvm.MethodName) jdk_52_method_8_code (3 : Nat) (Option.some Jvm.ClassFile.FieldType.int)).before args0 about1 = true := code_word (m := ⟨11, 6⟩) (meth := k11m6) (c := k11c6) (by decide +kernel) rfl rfl rfl (by decide +kernel)
set_option maxRecDepth 65536 in
theorem w_c29 : (Jvm.Cond.code ({ cls := "java/lang/StringUTF16", name := "codePointAt", desc := "([BIIZ)I" } : Jvm.MethodName) jdk_52_method_7_code (6 : Nat) (Option.some Jvm.ClassFile.FieldType.int)).before args0 about1 = true := code_word (m := ⟨11, 5⟩) (meth := k11m5) (c := k11c5) (by decide +kernel) rfl rfl rfl (by decide +kernel)
set_option maxRecDepth 65536 in
theorem w_c30 : (Jvm.Cond.code ({ cls := "java/lang/Character", name := "isHighSurrogate", desc := "(C)Z" } : Jvm.MethodName) jdk_89_method_14_code (1 : Nat) (Option.some Jvm.ClassFile.FieldType.boolean)).before args0 about1 = true := code_word (m := ⟨13, 0⟩) (meth := k13m0) (c := k13c0) (by decide +kernel) rfl rfl rfl (by decide +kernel)
set_option maxRecDepth 65536 in
theorem w_c31 : (Jvm.Cond.code ({ cls := "java/lang/Character", name := "isLowSurrogate", desc := "(C)Z" } : Jvm.MethodName) jdk_89_method_15_code (1 : Nat) (Option.some Jvm.ClassFile.FieldType.boolean)).before args0 about1 = true := code_word (m := ⟨13, 1⟩) (meth := k13m1) (c := k13c1) (by decide +kernel) rfl rfl rfl (by decide +kernel)
set_option maxRecDepth 65536 in
theorem w_c32 : (Jvm.Cond.code ({ cls := "java/lang/Character", name := "charCount", desc := "(I)I" } : Jvm.MethodName) jdk_89_method_18_code (1 : Nat) (Option.some Jvm.ClassFile.FieldType.int)).before args0 about1 = true := code_word (m := ⟨13, 2⟩) (meth := k13m2) (c := k13c2) (by decide +kernel) rfl rfl rfl (by decide +kernel)
set_option maxRecDepth 65536 in
theorem w_c33 : (Jvm.Cond.code ({ cls := "java/lang/Character", name := "toCodePoint", desc := "(CC)I" } : Jvm.MethodName) jdk_89_method_19_code (2 : Nat) (Option.some Jvm.ClassFile.FieldType.int)).before args0 about1 = true := code_word (m := ⟨13, 3⟩) (meth := k13m3) (c := k13c3) (by decide +kernel) rfl rfl rfl (by decide +kernel)
def codes1 : List Jvm.Cond := [Jvm.Cond.code x code maxLocals ret, Jvm.Cond.code ({ cls := "com/example/refinement/refinement/io/CodePointOrderComparePinLaw", name := "draw", desc := "(JI)C" } : Jvm.MethodName) method_3_code (4 : Nat) (Option.some Jvm.ClassFile.FieldType.char), Jvm.Cond.code ({ cls := "com/example/refinement/refinement/io/CodePointOrderComparePinLaw", name := "make", desc := "([CI)Ljava/lang/String;" } : Jvm.MethodName) method_4_code (2 : Nat) (Option.some (Jvm.ClassFile.FieldType.object "java/lang/String")), Jvm.Cond.code ({ cls := "java/lang/String", name := "<init>", desc := "([C)V" } : Jvm.MethodName) jdk_42_method_3_code (2 : Nat) (Option.none : Option Jvm.ClassFile.FieldType), Jvm.Cond.code ({ cls := "java/lang/String", name := "<init>", desc := "([CIILjava/lang/Void;)V" } : Jvm.MethodName) jdk_42_method_149_code (6 : Nat) (Option.none : Option Jvm.ClassFile.FieldType), Jvm.Cond.code ({ cls := "java/lang/Object", name := "<init>", desc := "()V" } : Jvm.MethodName) object_method_1_code (1 : Nat) (Option.none : Option Jvm.ClassFile.FieldType), Jvm.Cond.code ({ cls := "com/example/refinement/refinement/io/CodePointOrderComparePinLaw", name := "decode", desc := "([CI[I)V" } : Jvm.MethodName) method_9_code (8 : Nat) (Option.none : Option Jvm.ClassFile.FieldType), Jvm.Cond.code ({ cls := "com/example/refinement/refinement/io/CodePointOrderComparePinLaw", name := "width", desc := "([CII)I" } : Jvm.MethodName) method_7_code (3 : Nat) (Option.some Jvm.ClassFile.FieldType.int), Jvm.Cond.code ({ cls := "com/example/refinement/refinement/io/CodePointOrderComparePinLaw", name := "value", desc := "([CII)I" } : Jvm.MethodName) method_8_code (3 : Nat) (Option.some Jvm.ClassFile.FieldType.int), Jvm.Cond.code ({ cls := "com/example/refinement/refinement/io/CodePointOrderComparePinLaw", name := "lex", desc := "([I[I)I" } : Jvm.MethodName) method_10_code (4 : Nat) (Option.some Jvm.ClassFile.FieldType.int), Jvm.Cond.code ({ cls := "com/example/refinement/refinement/io/CodePointOrder", name := "compare", desc := "(Ljava/lang/String;Ljava/lang/String;)I" } : Jvm.MethodName) prog_1_method_2_code (5 : Nat) (Option.some Jvm.ClassFile.FieldType.int), Jvm.Cond.code ({ cls := "java/lang/String", name := "length", desc := "()I" } : Jvm.MethodName) jdk_42_method_54_code (1 : Nat) (Option.some Jvm.ClassFile.FieldType.int), Jvm.Cond.code ({ cls := "java/lang/String", name := "coder", desc := "()B" } : Jvm.MethodName) jdk_42_method_152_code (1 : Nat) (Option.some Jvm.ClassFile.FieldType.byte), Jvm.Cond.code ({ cls := "java/lang/Integer", name := "compare", desc := "(II)I" } : Jvm.MethodName) jdk_33_method_40_code (2 : Nat) (Option.some Jvm.ClassFile.FieldType.int), Jvm.Cond.code ({ cls := "java/lang/StringUTF16", name := "compress", desc := "([CII)[B" } : Jvm.MethodName) jdk_52_method_16_code (6 : Nat) (Option.some (Jvm.ClassFile.FieldType.array Jvm.ClassFile.FieldType.byte)), Jvm.Cond.code ({ cls := "java/lang/StringUTF16", name := "compress", desc := "([CI[BII)I" } : Jvm.MethodName) jdk_52_method_21_code (7 : Nat) (Option.some Jvm.ClassFile.FieldType.int), Jvm.Cond.code ({ cls := "java/lang/StringUTF16", name := "toBytes", desc := "([CII)[B" } : Jvm.MethodName) jdk_52_method_14_code (5 : Nat) (Option.some (Jvm.ClassFile.FieldType.array Jvm.ClassFile.FieldType.byte)), Jvm.Cond.code ({ cls := "java/lang/StringUTF16", name := "newBytesFor", desc := "(I)[B" } : Jvm.MethodName) jdk_52_method_2_code (1 : Nat) (Option.some (Jvm.ClassFile.FieldType.array Jvm.ClassFile.FieldType.byte)), Jvm.Cond.code ({ cls := "java/lang/StringUTF16", name := "newBytesLength", desc := "(I)I" } : Jvm.MethodName) jdk_52_method_3_code (1 : Nat) (Option.some Jvm.ClassFile.FieldType.int), Jvm.Cond.code ({ cls := "java/lang/StringUTF16", name := "putChar", desc := "([BII)V" } : Jvm.MethodName) jdk_52_method_4_code (3 : Nat) (Option.none : Option Jvm.ClassFile.FieldType), Jvm.Cond.code ({ cls := "java/lang/StringUTF16", name := "getChar", desc := "([BI)C" } : Jvm.MethodName) jdk_52_method_5_code (2 : Nat) (Option.some Jvm.ClassFile.FieldType.char), Jvm.Cond.code ({ cls := "java/lang/StringUTF16", name := "coderFromArrayLen", desc := "([BI)B" } : Jvm.MethodName) jdk_52_method_15_code (2 : Nat) (Option.some Jvm.ClassFile.FieldType.byte), Jvm.Cond.code ({ cls := "com/example/refinement/refinement/io/CodePointOrderComparePinLaw", name := "isHigh", desc := "(C)Z" } : Jvm.MethodName) method_5_code (1 : Nat) (Option.some Jvm.ClassFile.FieldType.boolean), Jvm.Cond.code ({ cls := "com/example/refinement/refinement/io/CodePointOrderComparePinLaw", name := "isLow", desc := "(C)Z" } : Jvm.MethodName) method_6_code (1 : Nat) (Option.some Jvm.ClassFile.FieldType.boolean), Jvm.Cond.code ({ cls := "java/lang/String", name := "codePointAt", desc := "(I)I" } : Jvm.MethodName) jdk_42_method_57_code (3 : Nat) (Option.some Jvm.ClassFile.FieldType.int), Jvm.Cond.code ({ cls := "java/lang/String", name := "isLatin1", desc := "()Z" } : Jvm.MethodName) jdk_42_method_154_code (1 : Nat) (Option.some Jvm.ClassFile.FieldType.boolean), Jvm.Cond.code ({ cls := "java/lang/String", name := "checkIndex", desc := "(II)V" } : Jvm.MethodName) jdk_42_method_155_code (2 : Nat) (Option.none : Option Jvm.ClassFile.FieldType), Jvm.Cond.code ({ cls := "jdk/internal/util/Preconditions", name := "checkIndex", desc := "(IILjava/util/function/BiFunction;)I" } : Jvm.MethodName) jdk_41_method_11_code (3 : Nat) (Option.some Jvm.ClassFile.FieldType.int), Jvm.Cond.code ({ cls := "java/lang/StringUTF16", name := "codePointAt", desc := "([BII)I" } : Jvm.MethodName) jdk_52_method_8_code (3 : Nat) (Option.some Jvm.ClassFile.FieldType.int), Jvm.Cond.code ({ cls := "java/lang/StringUTF16", name := "codePointAt", desc := "([BIIZ)I" } : Jvm.MethodName) jdk_52_method_7_code (6 : Nat) (Option.some Jvm.ClassFile.FieldType.int), Jvm.Cond.code ({ cls := "java/lang/Character", name := "isHighSurrogate", desc := "(C)Z" } : Jvm.MethodName) jdk_89_method_14_code (1 : Nat) (Option.some Jvm.ClassFile.FieldType.boolean), Jvm.Cond.code ({ cls := "java/lang/Character", name := "isLowSurrogate", desc := "(C)Z" } : Jvm.MethodName) jdk_89_method_15_code (1 : Nat) (Option.some Jvm.ClassFile.FieldType.boolean), Jvm.Cond.code ({ cls := "java/lang/Character", name := "charCount", desc := "(I)I" } : Jvm.MethodName) jdk_89_method_18_code (1 : Nat) (Option.some Jvm.ClassFile.FieldType.int), Jvm.Cond.code ({ cls := "java/lang/Character", name := "toCodePoint", desc := "(CC)I" } : Jvm.MethodName) jdk_89_method_19_code (2 : Nat) (Option.some Jvm.ClassFile.FieldType.int)]
set_option maxRecDepth 65536 in
theorem codes_eq : words1.filter isCode = codes1 := rfl
theorem w_codes : ∀ c ∈ words1.filter isCode, c.before args0 about1 = true := by
  rw [codes_eq]
  intro c hc
  simp only [codes1, List.mem_cons, List.not_mem_nil, or_false] at hc
  rcases hc with rfl | rfl | rfl | rfl | rfl | rfl | rfl | rfl | rfl | rfl | rfl | rfl | rfl | rfl | rfl | rfl | rfl | rfl | rfl | rfl | rfl | rfl | rfl | rfl | rfl | rfl | rfl | rfl | rfl | rfl | rfl | rfl | rfl | rfl
  · exact w_c0
  · exact w_c1
  · exact w_c2
  · exact w_c3
  · exact w_c4
  · exact w_c5
  · exact w_c6
  · exact w_c7
  · exact w_c8
  · exact w_c9
  · exact w_c10
  · exact w_c11
  · exact w_c12
  · exact w_c13
  · exact w_c14
  · exact w_c15
  · exact w_c16
  · exact w_c17
  · exact w_c18
  · exact w_c19
  · exact w_c20
  · exact w_c21
  · exact w_c22
  · exact w_c23
  · exact w_c24
  · exact w_c25
  · exact w_c26
  · exact w_c27
  · exact w_c28
  · exact w_c29
  · exact w_c30
  · exact w_c31
  · exact w_c32
  · exact w_c33
set_option maxRecDepth 65536 in
theorem w_t1 : (words1.take 24).all (fun c => isCode c || c.before args0 about1) = true := by decide +kernel
set_option maxRecDepth 65536 in
theorem w_t2 : ((words1.drop 24).take 24).all (fun c => isCode c || c.before args0 about1) = true := by decide +kernel
set_option maxRecDepth 65536 in
theorem w_t3 : (((words1.drop 24).drop 24).take 24).all (fun c => isCode c || c.before args0 about1) = true := by decide +kernel
set_option maxRecDepth 65536 in
theorem w_t4 : ((((words1.drop 24).drop 24).drop 24).take 24).all (fun c => isCode c || c.before args0 about1) = true := by decide +kernel
set_option maxRecDepth 65536 in
theorem w_t5 : (((((words1.drop 24).drop 24).drop 24).drop 24).take 24).all (fun c => isCode c || c.before args0 about1) = true := by decide +kernel
set_option maxRecDepth 65536 in
theorem w_t6 : ((((((words1.drop 24).drop 24).drop 24).drop 24).drop 24).take 24).all (fun c => isCode c || c.before args0 about1) = true := by decide +kernel
set_option maxRecDepth 65536 in
theorem w_t7 : ((((((words1.drop 24).drop 24).drop 24).drop 24).drop 24).drop 24).all (fun c => isCode c || c.before args0 about1) = true := by decide +kernel
theorem w_tables : (allAtoms (Jvm.Cond.code x code maxLocals ret :: tables_1)).before args0 about1 = true := by
  rw [allAtoms_all]
  show words1.all (fun c => c.before args0 about1) = true
  refine all_split ?_ w_codes
  rw [← List.take_append_drop 24 words1, List.all_append, w_t1, ← List.take_append_drop 24 (words1.drop 24), List.all_append, w_t2, ← List.take_append_drop 24 ((words1.drop 24).drop 24), List.all_append, w_t3, ← List.take_append_drop 24 (((words1.drop 24).drop 24).drop 24), List.all_append, w_t4, ← List.take_append_drop 24 ((((words1.drop 24).drop 24).drop 24).drop 24), List.all_append, w_t5, ← List.take_append_drop 24 (((((words1.drop 24).drop 24).drop 24).drop 24).drop 24), List.all_append, w_t6, w_t7]
  rfl
set_option maxRecDepth 65536 in
theorem w_rest : rest_1_c.before args0 about1 = true := by decide +kernel
set_option maxRecDepth 65536 in
theorem w_case : (Jvm.Cond.and given_1 narrow_1).before args0 about1 = true := by decide +kernel
set_option maxRecDepth 65536 in
theorem w_consts : constsHeld consts_1 about1 := Jvm.Lit.constsHeldB_iff.mp (by decide +kernel)
theorem w_applies : (headSpec (Jvm.Cond.code x code maxLocals ret :: tables_1) room_1).applies x e0.platform about1 = true :=
  (Spec.applies_iff w_frames).mpr ⟨w_running, w_runnable, w_alone, w_named, w_hears, w_ripe, w_room, w_tables⟩
theorem atStart : AtStart classFile x code maxLocals ret World_1 tables_1 room_1 Calls_1 rest_1 Pre_1 launch0 p0 e0 about1 theMethod args0 below0 :=
  ⟨lists_1, trivial, launch0.admits_env _ _ _, launch0.least_env, fairChoices_fair.cas, fairChoices_fair.clock, w_frames, w_args, w_heap, w_applies, ⟨w_consts, trivial⟩, w_rest, w_case⟩
end start1
theorem witness_1 : WitnessClaimed_1 := ⟨start1.p0, start1.e0, start1.about1, start1.theMethod, start1.args0, start1.below0, start1.atStart⟩
end Jvm.Pilot.@@N@@
